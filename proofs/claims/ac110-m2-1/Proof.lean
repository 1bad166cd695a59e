import JvmDerived
import JvmDerived.Pilot.@@N@@Statement
import JvmDerived.Pilot.@@N@@Code
set_option linter.unusedVariables false
set_option linter.unusedSimpArgs false
namespace Jvm.RoadKit
open Sem ClassFile Op Lib Jvm.Stand Jvm.Free Jvm.LawKit
section New
variable {p : Program} {l : Launch} {e : Env} {R : Room} {s : State} {m : MethodId} {args : Array Value} {below : List Frame} {meth : Method} {c : Code} {T : State} {locs : List Loc} {cells slots : Nat}
theorem retI (X : Stand p l e R s m args below meth c T locs cells slots) (hx : p.tables.exec = Jvm.exec) {pc : Nat} {Ls : Array Slot} {z : Int32} {rest : List Value} (hret : meth.sig.returnType = some .int) (hd : decode c.code pc = .ok (.ireturn, 1)) {fs : List Frame}
    (hl : ∀ (f : JFrame) (acts : List Action), f.method = m → f.locked = none → f.entered = [] → (doReturn e (T.setTop f) acts (some (.int z))).1 = T.setFrames fs) : Steps p.tables e below (T.setTop (mkF m pc Ls (.int z :: rest))) (T.setFrames fs) := by
  have hm' : T.vm.method? m = some meth := X.method'
  have hn : narrow .int (.int z) = .int z := rfl
  show Steps p.tables e below (T.setTop { method := m, pc := pc, locals := Ls, stack := _ :: rest, locked := none }) _
  jvm_step X.here [X.here.top, hx, hd, hm', hret, hn]
  first | (intro acts; rw [hl _ acts rfl rfl rfl]) | rw [hl _ _ rfl rfl rfl]
  exact Steps.refl _
end New
/-- from W the run comes to a state and an outcome of which K holds -/
def OwnEnds (tb : Tables) (e : Env) (below : List Frame) (K : State → Outcome → Prop) (W : State) : Prop := ∃ t o, Steps tb e below W t ∧ K t o
theorem OwnEnds.via {tb : Tables} {e : Env} {below : List Frame} {K : State → Outcome → Prop} {W W' : State} (f : ∀ t, Steps tb e below W' t → Steps tb e below W t) (h : OwnEnds tb e below K W') : OwnEnds tb e below K W := by
  obtain ⟨t, o, h1, h2⟩ := h
  exact ⟨t, o, f t h1, h2⟩
theorem OwnEnds.cut {tb : Tables} {e : Env} {below : List Frame} {K : State → Outcome → Prop} {W : State} (A : (State → Prop) → Prop) (h1 : A (OwnEnds tb e below K)) (h2 : A (OwnEnds tb e below K) → OwnEnds tb e below K W) : OwnEnds tb e below K W := h2 h1
end Jvm.RoadKit
namespace Jvm.Pilot.@@N@@
open Jvm Jvm.ClassFile Sem Op Lib Jvm.Free Jvm.Stand Jvm.LawKit Jvm.RoadKit Bundle Jvm.Pilot.@@N@@.Jvm.D
theorem d1_0 : decode prog_53_method_1_code 0 = .ok (.aload_n 0, 1) := by decide +kernel
theorem d1_1 : decode prog_53_method_1_code 1 = .ok (.invokespecial 1, 3) := by decide +kernel
theorem d1_4 : decode prog_53_method_1_code 4 = .ok (.aload_n 0, 1) := by decide +kernel
theorem d1_5 : decode prog_53_method_1_code 5 = .ok (.iload_n 1, 1) := by decide +kernel
theorem d1_6 : decode prog_53_method_1_code 6 = .ok (.putfield 7, 3) := by decide +kernel
theorem d1_9 : decode prog_53_method_1_code 9 = .ok (.aload_n 0, 1) := by decide +kernel
theorem d1_10 : decode prog_53_method_1_code 10 = .ok (.iload_n 2, 1) := by decide +kernel
theorem d1_11 : decode prog_53_method_1_code 11 = .ok (.putfield 13, 3) := by decide +kernel
theorem d1_14 : decode prog_53_method_1_code 14 = .ok (.aload_n 0, 1) := by decide +kernel
theorem d1_15 : decode prog_53_method_1_code 15 = .ok (.iload_n 3, 1) := by decide +kernel
theorem d1_16 : decode prog_53_method_1_code 16 = .ok (.putfield 16, 3) := by decide +kernel
theorem d1_19 : decode prog_53_method_1_code 19 = .ok (.aload_n 0, 1) := by decide +kernel
theorem d1_20 : decode prog_53_method_1_code 20 = .ok (.iload 4, 2) := by decide +kernel
theorem d1_22 : decode prog_53_method_1_code 22 = .ok (.putfield 19, 3) := by decide +kernel
theorem d1_25 : decode prog_53_method_1_code 25 = .ok (.return_, 1) := by decide +kernel
theorem pn_rm1 : plainName "com/example/usher_panes/usherpanes/model/Frame" = true := by first | (simp [plainName, overriddenIn]; done) | decide +kernel
theorem ef_rm1 (m : MethodId) (a : Addr) (fx : Int32) (fy : Int32) (wd : Int32) (ht : Int32) : entryFrame m #[(.ref a), (.int fx), (.int fy), (.int wd), (.int ht)] 5 = mkF m 0 #[.val (.ref a), .val (.int fx), .val (.int fy), .val (.int wd), .val (.int ht)] [] := by first | (simp [entryFrame, mkF, argsToLocals, Value.category]; done) | rfl
def Q1 (Z : State) (a : Addr) (fx : Int32) (fy : Int32) (wd : Int32) (ht : Int32) (h0 : Heap) (n0 : Nat) (v : Option Value) (h : Heap) (L : List Loc) : Prop := v = none ∧ Fr n0 L ∧ Keep h0 h [a] ∧ Exa Z h a "com/example/usher_panes/usherpanes/model/Frame" ∧ Fld Z h a "com/example/usher_panes/usherpanes/model/Frame" "x" "I" (.int fx) ∧ Fld Z h a "com/example/usher_panes/usherpanes/model/Frame" "y" "I" (.int fy) ∧ Fld Z h a "com/example/usher_panes/usherpanes/model/Frame" "width" "I" (.int wd) ∧ Fld Z h a "com/example/usher_panes/usherpanes/model/Frame" "height" "I" (.int ht)
set_option maxRecDepth 65536 in
set_option maxHeartbeats 40000000 in
theorem rm1 (l : Launch) (Z : State) (a0 : Array Value) (hw : ∀ d ∈ tables_1, d.before a0 Z = true) (ws : List Jvm.Cond) (a : Addr) (fx : Int32) (fy : Int32) (wd : Int32) (ht : Int32) (h0 : Heap) (n0 : Nat) (Z0 : n0 ≤ h0.size) (P0 : Exa Z h0 a "com/example/usher_panes/usherpanes/model/Frame") (P1 : Fld Z h0 a "com/example/usher_panes/usherpanes/model/Frame" "x" "I" (.int (0 : Int32))) (P2 : Fld Z h0 a "com/example/usher_panes/usherpanes/model/Frame" "y" "I" (.int (0 : Int32))) (P3 : Fld Z h0 a "com/example/usher_panes/usherpanes/model/Frame" "width" "I" (.int (0 : Int32))) (P4 : Fld Z h0 a "com/example/usher_panes/usherpanes/model/Frame" "height" "I" (.int (0 : Int32))) (P5 : n0 ≤ a) :
    MetFree l (⟨"com/example/usher_panes/usherpanes/model/Frame", "<init>", "(IIII)V"⟩ : MethodName) (head1 (Jvm.Cond.code (⟨"com/example/usher_panes/usherpanes/model/Frame", "<init>", "(IIII)V"⟩ : MethodName) prog_53_method_1_code 5 none :: ws) ({ frames := 1, cells := 0, slots := 0, locals := 12 } : Room)) (fun aa U => aa = #[(.ref a), (.int fx), (.int fy), (.int wd), (.int ht)] ∧ Z.Warmed39 U.vm ∧ U.heap = h0) (fun _ _ _ _ _ => True) (fun _ U o U' => ∃ v L, o = .returned v ∧ Q1 Z a fx fy wd ht h0 n0 v U'.heap L ∧ FrameEnd U o U' L ({ frames := 1, cells := 0, slots := 0, locals := 12 } : Room).cells ({ frames := 1, cells := 0, slots := 0, locals := 12 } : Room).slots) := by
  refine MetFree.of_bodySF (plainFor_of_name pn_rm1) hisR ?_
  intro p e s m args below meth c s₁ Bd hml0 hP hK
  obtain ⟨rfl, hZ, hh⟩ := hP
  have hx := Bd.exec
  have hby := Bd.bytes
  have hml : c.maxLocals = 5 := hml0
  have hown : s.vm.findClass "com/example/usher_panes/usherpanes/model/Frame" = some m.cls := findClass_of_methodNamed Bd.named
  have hnm := (name_of_methodNamed Bd.named Bd.method).1
  have X0 : Stand p l e ({ frames := 1, cells := 0, slots := 0, locals := 12 } : Room) s m #[(.ref a), (.int fx), (.int fy), (.int wd), (.int ht)] below meth c s₁ [] 0 0 := Stand.of_body Bd
  have e0 : s₁.heap = h0 := by rw [← hh, Bd.state]; rfl
  have N0 := Fr.nil n0
  change OwnEnds p.tables e below _ _
  refine OwnEnds.via (fun t k => castTop (ef_rm1 m a fx fy wd ht) k) ?_
  show OwnEnds _ _ _ _ (s₁.setTop (mkF m 0 #[.val (.ref a), .val (.int fx), .val (.int fy), .val (.int wd), .val (.int ht)] []))
  refine OwnEnds.via (fun t k => XS.aloadN X0.here hx rfl (hb hby d1_0) rfl rfl k) ?_
  show OwnEnds _ _ _ _ (s₁.setTop (mkF m 1 #[.val (.ref a), .val (.int fx), .val (.int fy), .val (.int wd), .val (.int ht)] [(.ref a)]))
  obtain ⟨T1, X1, e1, st1⟩ := initO X0 hx hZ hown (hw _ (List.mem_of_getElem? (i := 6) rfl)) (hw _ (List.mem_of_getElem? (i := 7) rfl)) (hw _ (List.mem_of_getElem? (i := 8) rfl)) e0 (g := (mkF m 1 #[.val (.ref a), .val (.int fx), .val (.int fy), .val (.int wd), .val (.int ht)] [(.ref a)])) rfl (by rw [hml]; rfl) rfl (hb hby d1_1) (by decide) (W := 0) (by show 2 * 0 + _ ≤ _; exact Nat.le_of_eq rfl) (by decide)
  refine OwnEnds.via st1 ?_
  show OwnEnds _ _ _ _ (T1.setTop (mkF m 4 #[.val (.ref a), .val (.int fx), .val (.int fy), .val (.int wd), .val (.int ht)] []))
  refine OwnEnds.via (fun t k => XS.aloadN X1.here hx rfl (hb hby d1_4) rfl rfl k) ?_
  show OwnEnds _ _ _ _ (T1.setTop (mkF m 5 #[.val (.ref a), .val (.int fx), .val (.int fy), .val (.int wd), .val (.int ht)] [(.ref a)]))
  refine OwnEnds.via (fun t k => XS.iloadN X1.here hx rfl (hb hby d1_5) rfl k) ?_
  show OwnEnds _ _ _ _ (T1.setTop (mkF m 6 #[.val (.ref a), .val (.int fx), .val (.int fy), .val (.int wd), .val (.int ht)] [(.int fx), (.ref a)]))
  obtain ⟨T2, h2, X2, e2, W2, st2⟩ := putF X1 hx hZ hown (host := "") (Or.inl (hw _ (List.mem_of_getElem? (i := 9) rfl))) Via.refl e1 P1 P0 (Or.inr ⟨(hw _ (List.mem_of_getElem? (i := 10) rfl)), rfl, hnm⟩) (hw _ (List.mem_of_getElem? (i := 1) rfl)) (ty := .int) (by decide) rfl rfl (g := (mkF m 6 #[.val (.ref a), .val (.int fx), .val (.int fy), .val (.int wd), .val (.int ht)] [(.int fx), (.ref a)])) rfl rfl (hb hby d1_6)
  have Fw2 : Fld Z h2 a "com/example/usher_panes/usherpanes/model/Frame" "x" "I" (.int fx) := P1.same W2
  have N2 := Fr.snoc X2 N0 P5
  have Z2 : n0 ≤ h2.size := Nat.le_trans Z0 (Nat.le_of_eq W2.size.symm)
  have K2 : Keep h0 h2 [a] := (Keep.refl h0 [a]).wr W2 (Or.inl (by simp))
  refine OwnEnds.via st2 ?_
  show OwnEnds _ _ _ _ (T2.setTop (mkF m 9 #[.val (.ref a), .val (.int fx), .val (.int fy), .val (.int wd), .val (.int ht)] []))
  refine OwnEnds.via (fun t k => XS.aloadN X2.here hx rfl (hb hby d1_9) rfl rfl k) ?_
  show OwnEnds _ _ _ _ (T2.setTop (mkF m 10 #[.val (.ref a), .val (.int fx), .val (.int fy), .val (.int wd), .val (.int ht)] [(.ref a)]))
  refine OwnEnds.via (fun t k => XS.iloadN X2.here hx rfl (hb hby d1_10) rfl k) ?_
  show OwnEnds _ _ _ _ (T2.setTop (mkF m 11 #[.val (.ref a), .val (.int fx), .val (.int fy), .val (.int wd), .val (.int ht)] [(.int fy), (.ref a)]))
  obtain ⟨T3, h3, X3, e3, W3, st3⟩ := putF X2 hx hZ hown (host := "") (Or.inl (hw _ (List.mem_of_getElem? (i := 11) rfl))) Via.refl e2 (P2.other W2 (Or.inr (slot_ne (Or.inr (hw _ (List.mem_of_getElem? (i := 12) rfl))) (Or.inr (hw _ (List.mem_of_getElem? (i := 10) rfl))) (by decide) (t := .int) (t' := .int) (by decide) (by decide)))) (P0.wr W2) (Or.inr ⟨(hw _ (List.mem_of_getElem? (i := 12) rfl)), rfl, hnm⟩) (hw _ (List.mem_of_getElem? (i := 1) rfl)) (ty := .int) (by decide) rfl rfl (g := (mkF m 11 #[.val (.ref a), .val (.int fx), .val (.int fy), .val (.int wd), .val (.int ht)] [(.int fy), (.ref a)])) rfl rfl (hb hby d1_11)
  have Fw3 : Fld Z h3 a "com/example/usher_panes/usherpanes/model/Frame" "y" "I" (.int fy) := (P2.other W2 (Or.inr (slot_ne (Or.inr (hw _ (List.mem_of_getElem? (i := 12) rfl))) (Or.inr (hw _ (List.mem_of_getElem? (i := 10) rfl))) (by decide) (t := .int) (t' := .int) (by decide) (by decide)))).same W3
  have N3 := Fr.snoc X3 N2 P5
  have Z3 : n0 ≤ h3.size := Nat.le_trans Z2 (Nat.le_of_eq W3.size.symm)
  have K3 : Keep h0 h3 [a] := K2.wr W3 (Or.inl (by simp))
  refine OwnEnds.via st3 ?_
  show OwnEnds _ _ _ _ (T3.setTop (mkF m 14 #[.val (.ref a), .val (.int fx), .val (.int fy), .val (.int wd), .val (.int ht)] []))
  refine OwnEnds.via (fun t k => XS.aloadN X3.here hx rfl (hb hby d1_14) rfl rfl k) ?_
  show OwnEnds _ _ _ _ (T3.setTop (mkF m 15 #[.val (.ref a), .val (.int fx), .val (.int fy), .val (.int wd), .val (.int ht)] [(.ref a)]))
  refine OwnEnds.via (fun t k => XS.iloadN X3.here hx rfl (hb hby d1_15) rfl k) ?_
  show OwnEnds _ _ _ _ (T3.setTop (mkF m 16 #[.val (.ref a), .val (.int fx), .val (.int fy), .val (.int wd), .val (.int ht)] [(.int wd), (.ref a)]))
  obtain ⟨T4, h4, X4, e4, W4, st4⟩ := putF X3 hx hZ hown (host := "") (Or.inl (hw _ (List.mem_of_getElem? (i := 13) rfl))) Via.refl e3 ((P3.other W2 (Or.inr (slot_ne (Or.inr (hw _ (List.mem_of_getElem? (i := 14) rfl))) (Or.inr (hw _ (List.mem_of_getElem? (i := 10) rfl))) (by decide) (t := .int) (t' := .int) (by decide) (by decide)))).other W3 (Or.inr (slot_ne (Or.inr (hw _ (List.mem_of_getElem? (i := 14) rfl))) (Or.inr (hw _ (List.mem_of_getElem? (i := 12) rfl))) (by decide) (t := .int) (t' := .int) (by decide) (by decide)))) ((P0.wr W2).wr W3) (Or.inr ⟨(hw _ (List.mem_of_getElem? (i := 14) rfl)), rfl, hnm⟩) (hw _ (List.mem_of_getElem? (i := 1) rfl)) (ty := .int) (by decide) rfl rfl (g := (mkF m 16 #[.val (.ref a), .val (.int fx), .val (.int fy), .val (.int wd), .val (.int ht)] [(.int wd), (.ref a)])) rfl rfl (hb hby d1_16)
  have Fw4 : Fld Z h4 a "com/example/usher_panes/usherpanes/model/Frame" "width" "I" (.int wd) := ((P3.other W2 (Or.inr (slot_ne (Or.inr (hw _ (List.mem_of_getElem? (i := 14) rfl))) (Or.inr (hw _ (List.mem_of_getElem? (i := 10) rfl))) (by decide) (t := .int) (t' := .int) (by decide) (by decide)))).other W3 (Or.inr (slot_ne (Or.inr (hw _ (List.mem_of_getElem? (i := 14) rfl))) (Or.inr (hw _ (List.mem_of_getElem? (i := 12) rfl))) (by decide) (t := .int) (t' := .int) (by decide) (by decide)))).same W4
  have N4 := Fr.snoc X4 N3 P5
  have Z4 : n0 ≤ h4.size := Nat.le_trans Z3 (Nat.le_of_eq W4.size.symm)
  have K4 : Keep h0 h4 [a] := K3.wr W4 (Or.inl (by simp))
  refine OwnEnds.via st4 ?_
  show OwnEnds _ _ _ _ (T4.setTop (mkF m 19 #[.val (.ref a), .val (.int fx), .val (.int fy), .val (.int wd), .val (.int ht)] []))
  refine OwnEnds.via (fun t k => XS.aloadN X4.here hx rfl (hb hby d1_19) rfl rfl k) ?_
  show OwnEnds _ _ _ _ (T4.setTop (mkF m 20 #[.val (.ref a), .val (.int fx), .val (.int fy), .val (.int wd), .val (.int ht)] [(.ref a)]))
  refine OwnEnds.via (fun t k => XS.iload X4.here hx rfl (hb hby d1_20) rfl k) ?_
  show OwnEnds _ _ _ _ (T4.setTop (mkF m 22 #[.val (.ref a), .val (.int fx), .val (.int fy), .val (.int wd), .val (.int ht)] [(.int ht), (.ref a)]))
  obtain ⟨T5, h5, X5, e5, W5, st5⟩ := putF X4 hx hZ hown (host := "") (Or.inl (hw _ (List.mem_of_getElem? (i := 15) rfl))) Via.refl e4 (((P4.other W2 (Or.inr (slot_ne (Or.inr (hw _ (List.mem_of_getElem? (i := 16) rfl))) (Or.inr (hw _ (List.mem_of_getElem? (i := 10) rfl))) (by decide) (t := .int) (t' := .int) (by decide) (by decide)))).other W3 (Or.inr (slot_ne (Or.inr (hw _ (List.mem_of_getElem? (i := 16) rfl))) (Or.inr (hw _ (List.mem_of_getElem? (i := 12) rfl))) (by decide) (t := .int) (t' := .int) (by decide) (by decide)))).other W4 (Or.inr (slot_ne (Or.inr (hw _ (List.mem_of_getElem? (i := 16) rfl))) (Or.inr (hw _ (List.mem_of_getElem? (i := 14) rfl))) (by decide) (t := .int) (t' := .int) (by decide) (by decide)))) (((P0.wr W2).wr W3).wr W4) (Or.inr ⟨(hw _ (List.mem_of_getElem? (i := 16) rfl)), rfl, hnm⟩) (hw _ (List.mem_of_getElem? (i := 1) rfl)) (ty := .int) (by decide) rfl rfl (g := (mkF m 22 #[.val (.ref a), .val (.int fx), .val (.int fy), .val (.int wd), .val (.int ht)] [(.int ht), (.ref a)])) rfl rfl (hb hby d1_22)
  have Fw5 : Fld Z h5 a "com/example/usher_panes/usherpanes/model/Frame" "height" "I" (.int ht) := (((P4.other W2 (Or.inr (slot_ne (Or.inr (hw _ (List.mem_of_getElem? (i := 16) rfl))) (Or.inr (hw _ (List.mem_of_getElem? (i := 10) rfl))) (by decide) (t := .int) (t' := .int) (by decide) (by decide)))).other W3 (Or.inr (slot_ne (Or.inr (hw _ (List.mem_of_getElem? (i := 16) rfl))) (Or.inr (hw _ (List.mem_of_getElem? (i := 12) rfl))) (by decide) (t := .int) (t' := .int) (by decide) (by decide)))).other W4 (Or.inr (slot_ne (Or.inr (hw _ (List.mem_of_getElem? (i := 16) rfl))) (Or.inr (hw _ (List.mem_of_getElem? (i := 14) rfl))) (by decide) (t := .int) (t' := .int) (by decide) (by decide)))).same W5
  have N5 := Fr.snoc X5 N4 P5
  have Z5 : n0 ≤ h5.size := Nat.le_trans Z4 (Nat.le_of_eq W5.size.symm)
  have K5 : Keep h0 h5 [a] := K4.wr W5 (Or.inl (by simp))
  refine OwnEnds.via st5 ?_
  show OwnEnds _ _ _ _ (T5.setTop (mkF m 25 #[.val (.ref a), .val (.int fx), .val (.int fy), .val (.int wd), .val (.int ht)] []))
  obtain ⟨fs, hr, hrun, hended, hW, hsame⟩ := X5.leave (v := none) (fun _ => rfl)
  refine ⟨_, _, ?_, hrun, hended, _, _, rfl, ?_, ⟨_, rfl⟩, hW, hsame.mono (by decide) (by decide)⟩
  · exact X5.returnOut hx Bd.returns (hb hby d1_25) hr
  · show Q1 Z a fx fy wd ht h0 n0 _ T5.heap _
    rw [e5]
    exact ⟨rfl, N5, K5, ((((P0.wr W2).wr W3).wr W4).wr W5), (((Fw2.other W3 (Or.inr (slot_ne (Or.inr (hw _ (List.mem_of_getElem? (i := 10) rfl))) (Or.inr (hw _ (List.mem_of_getElem? (i := 12) rfl))) (by decide) (t := .int) (t' := .int) (by decide) (by decide)))).other W4 (Or.inr (slot_ne (Or.inr (hw _ (List.mem_of_getElem? (i := 10) rfl))) (Or.inr (hw _ (List.mem_of_getElem? (i := 14) rfl))) (by decide) (t := .int) (t' := .int) (by decide) (by decide)))).other W5 (Or.inr (slot_ne (Or.inr (hw _ (List.mem_of_getElem? (i := 10) rfl))) (Or.inr (hw _ (List.mem_of_getElem? (i := 16) rfl))) (by decide) (t := .int) (t' := .int) (by decide) (by decide)))), ((Fw3.other W4 (Or.inr (slot_ne (Or.inr (hw _ (List.mem_of_getElem? (i := 12) rfl))) (Or.inr (hw _ (List.mem_of_getElem? (i := 14) rfl))) (by decide) (t := .int) (t' := .int) (by decide) (by decide)))).other W5 (Or.inr (slot_ne (Or.inr (hw _ (List.mem_of_getElem? (i := 12) rfl))) (Or.inr (hw _ (List.mem_of_getElem? (i := 16) rfl))) (by decide) (t := .int) (t' := .int) (by decide) (by decide)))), (Fw4.other W5 (Or.inr (slot_ne (Or.inr (hw _ (List.mem_of_getElem? (i := 14) rfl))) (Or.inr (hw _ (List.mem_of_getElem? (i := 16) rfl))) (by decide) (t := .int) (t' := .int) (by decide) (by decide)))), Fw5⟩

def own_A (x w p : Int32) : Prop := x.toInt ≤ p.toInt ∧ p.toInt < x.toInt + w.toInt
instance (x w p : Int32) : Decidable (own_A x w p) := inferInstanceAs (Decidable (_ ∧ _))
theorem own_c (p x w : Int32) : lcmpW ((p.toInt64) - (x.toInt64)) (w.toInt64) < (0 : Int32) ↔ p.toInt - x.toInt < w.toInt := by
  rw [lw_lt, Int64.lt_iff_toInt_lt]
  have h2 := c_lsub p.toInt64 x.toInt64
  rw [c_i2l, c_i2l] at h2
  rw [c_i2l]
  have r1 := rng32 p
  have r2 := rng32 x
  have r3 := rng64 (p.toInt64 - x.toInt64)
  omega
theorem own_d (p x : Int32) : (0 : Int32) < lcmpW (x.toInt64) (p.toInt64) ↔ p.toInt < x.toInt := by
  rw [lw_gt, Int64.lt_iff_toInt_lt, c_i2l, c_i2l]
theorem own_e (p x w : Int32) : lcmpW (p.toInt64) ((x.toInt64) + (w.toInt64)) < (0 : Int32) ↔ p.toInt < x.toInt + w.toInt := by
  rw [lw_lt, Int64.lt_iff_toInt_lt]
  have h2 := c_ladd x.toInt64 w.toInt64
  rw [c_i2l, c_i2l] at h2
  rw [c_i2l]
  have r1 := rng32 w
  have r2 := rng32 x
  have r3 := rng64 (x.toInt64 + w.toInt64)
  omega
theorem own_11 {A B : Prop} [Decidable A] [Decidable B] {u v : Int32} (hu : u = if A then (1 : Int32) else (0 : Int32)) (hv : v = if B then (1 : Int32) else (0 : Int32)) (nu : ¬ u = (0 : Int32)) (nv : ¬ v = (0 : Int32)) : (if A ∧ B then (1 : Int32) else (0 : Int32)) = (1 : Int32) := by
  by_cases a : A <;> by_cases b : B <;> simp_all
theorem own_0a {A B : Prop} [Decidable A] [Decidable B] {u : Int32} (hu : u = if A then (1 : Int32) else (0 : Int32)) (nu : u = (0 : Int32)) : (if A ∧ B then (1 : Int32) else (0 : Int32)) = (0 : Int32) := by
  by_cases a : A <;> by_cases b : B <;> simp_all
theorem own_0b {A B : Prop} [Decidable A] [Decidable B] {v : Int32} (hv : v = if B then (1 : Int32) else (0 : Int32)) (nv : v = (0 : Int32)) : (if A ∧ B then (1 : Int32) else (0 : Int32)) = (0 : Int32) := by
  by_cases a : A <;> by_cases b : B <;> simp_all

theorem d3_0 : decode prog_53_method_6_code 0 = .ok (.iload_n 1, 1) := by decide +kernel
theorem d3_1 : decode prog_53_method_6_code 1 = .ok (.aload_n 0, 1) := by decide +kernel
theorem d3_2 : decode prog_53_method_6_code 2 = .ok (.getfield 7, 3) := by decide +kernel
theorem d3_5 : decode prog_53_method_6_code 5 = .ok (.if_icmp .lt 49, 3) := by decide +kernel
theorem d3_8 : decode prog_53_method_6_code 8 = .ok (.iload_n 2, 1) := by decide +kernel
theorem d3_9 : decode prog_53_method_6_code 9 = .ok (.aload_n 0, 1) := by decide +kernel
theorem d3_10 : decode prog_53_method_6_code 10 = .ok (.getfield 13, 3) := by decide +kernel
theorem d3_13 : decode prog_53_method_6_code 13 = .ok (.if_icmp .lt 41, 3) := by decide +kernel
theorem d3_16 : decode prog_53_method_6_code 16 = .ok (.iload_n 1, 1) := by decide +kernel
theorem d3_17 : decode prog_53_method_6_code 17 = .ok (.i2l, 1) := by decide +kernel
theorem d3_18 : decode prog_53_method_6_code 18 = .ok (.aload_n 0, 1) := by decide +kernel
theorem d3_19 : decode prog_53_method_6_code 19 = .ok (.getfield 7, 3) := by decide +kernel
theorem d3_22 : decode prog_53_method_6_code 22 = .ok (.i2l, 1) := by decide +kernel
theorem d3_23 : decode prog_53_method_6_code 23 = .ok (.lsub, 1) := by decide +kernel
theorem d3_24 : decode prog_53_method_6_code 24 = .ok (.aload_n 0, 1) := by decide +kernel
theorem d3_25 : decode prog_53_method_6_code 25 = .ok (.getfield 16, 3) := by decide +kernel
theorem d3_28 : decode prog_53_method_6_code 28 = .ok (.i2l, 1) := by decide +kernel
theorem d3_29 : decode prog_53_method_6_code 29 = .ok (.lcmp, 1) := by decide +kernel
theorem d3_30 : decode prog_53_method_6_code 30 = .ok (.ifCond .ge 24, 3) := by decide +kernel
theorem d3_33 : decode prog_53_method_6_code 33 = .ok (.iload_n 2, 1) := by decide +kernel
theorem d3_34 : decode prog_53_method_6_code 34 = .ok (.i2l, 1) := by decide +kernel
theorem d3_35 : decode prog_53_method_6_code 35 = .ok (.aload_n 0, 1) := by decide +kernel
theorem d3_36 : decode prog_53_method_6_code 36 = .ok (.getfield 13, 3) := by decide +kernel
theorem d3_39 : decode prog_53_method_6_code 39 = .ok (.i2l, 1) := by decide +kernel
theorem d3_40 : decode prog_53_method_6_code 40 = .ok (.lsub, 1) := by decide +kernel
theorem d3_41 : decode prog_53_method_6_code 41 = .ok (.aload_n 0, 1) := by decide +kernel
theorem d3_42 : decode prog_53_method_6_code 42 = .ok (.getfield 19, 3) := by decide +kernel
theorem d3_45 : decode prog_53_method_6_code 45 = .ok (.i2l, 1) := by decide +kernel
theorem d3_46 : decode prog_53_method_6_code 46 = .ok (.lcmp, 1) := by decide +kernel
theorem d3_47 : decode prog_53_method_6_code 47 = .ok (.ifCond .ge 7, 3) := by decide +kernel
theorem d3_50 : decode prog_53_method_6_code 50 = .ok (.iconst 1, 1) := by decide +kernel
theorem d3_51 : decode prog_53_method_6_code 51 = .ok (.goto 4, 3) := by decide +kernel
theorem d3_54 : decode prog_53_method_6_code 54 = .ok (.iconst 0, 1) := by decide +kernel
theorem d3_55 : decode prog_53_method_6_code 55 = .ok (.ireturn, 1) := by decide +kernel
theorem pn_rm3 : plainName "com/example/usher_panes/usherpanes/model/Frame" = true := by first | (simp [plainName, overriddenIn]; done) | decide +kernel
theorem ef_rm3 (m : MethodId) (a : Addr) (px : Int32) (py : Int32) : entryFrame m #[(.ref a), (.int px), (.int py)] 3 = mkF m 0 #[.val (.ref a), .val (.int px), .val (.int py)] [] := by first | (simp [entryFrame, mkF, argsToLocals, Value.category]; done) | rfl
def Q3 (Z : State) (a : Addr) (px : Int32) (py : Int32) (fx : Int32) (fy : Int32) (wd : Int32) (ht : Int32) (h0 : Heap) (n0 : Nat) (v : Option Value) (h : Heap) (L : List Loc) : Prop := v = some (.int (if own_A fx wd px ∧ own_A fy ht py then (1 : Int32) else (0 : Int32))) ∧ Fr n0 L ∧ h = h0
set_option maxRecDepth 65536 in
set_option maxHeartbeats 40000000 in
theorem rm3 (l : Launch) (Z : State) (a0 : Array Value) (hw : ∀ d ∈ tables_1, d.before a0 Z = true) (ws : List Jvm.Cond) (a : Addr) (px : Int32) (py : Int32) (fx : Int32) (fy : Int32) (wd : Int32) (ht : Int32) (h0 : Heap) (n0 : Nat) (Z0 : n0 ≤ h0.size) (P0 : Fld Z h0 a "com/example/usher_panes/usherpanes/model/Frame" "x" "I" (.int fx)) (P1 : Fld Z h0 a "com/example/usher_panes/usherpanes/model/Frame" "y" "I" (.int fy)) (P2 : Fld Z h0 a "com/example/usher_panes/usherpanes/model/Frame" "width" "I" (.int wd)) (P3 : Fld Z h0 a "com/example/usher_panes/usherpanes/model/Frame" "height" "I" (.int ht)) :
    MetFree l (⟨"com/example/usher_panes/usherpanes/model/Frame", "contains", "(II)Z"⟩ : MethodName) (head1 (Jvm.Cond.code (⟨"com/example/usher_panes/usherpanes/model/Frame", "contains", "(II)Z"⟩ : MethodName) prog_53_method_6_code 3 (some .boolean) :: ws) ({ frames := 0, cells := 0, slots := 0, locals := 0 } : Room)) (fun aa U => aa = #[(.ref a), (.int px), (.int py)] ∧ Z.Warmed39 U.vm ∧ U.heap = h0) (fun _ _ _ _ _ => True) (fun _ U o U' => ∃ v L, o = .returned v ∧ Q3 Z a px py fx fy wd ht h0 n0 v U'.heap L ∧ FrameEnd U o U' L ({ frames := 0, cells := 0, slots := 0, locals := 0 } : Room).cells ({ frames := 0, cells := 0, slots := 0, locals := 0 } : Room).slots) := by
  refine MetFree.of_bodySF (plainFor_of_name pn_rm3) hisR ?_
  intro p e s m args below meth c s₁ Bd hml0 hP hK
  obtain ⟨rfl, hZ, hh⟩ := hP
  have hx := Bd.exec
  have hby := Bd.bytes
  have hml : c.maxLocals = 3 := hml0
  have hown : s.vm.findClass "com/example/usher_panes/usherpanes/model/Frame" = some m.cls := findClass_of_methodNamed Bd.named
  have hnm := (name_of_methodNamed Bd.named Bd.method).1
  have X0 : Stand p l e ({ frames := 0, cells := 0, slots := 0, locals := 0 } : Room) s m #[(.ref a), (.int px), (.int py)] below meth c s₁ [] 0 0 := Stand.of_body Bd
  have e0 : s₁.heap = h0 := by rw [← hh, Bd.state]; rfl
  have N0 := Fr.nil n0
  change OwnEnds p.tables e below _ _
  refine OwnEnds.via (fun t k => castTop (ef_rm3 m a px py) k) ?_
  show OwnEnds _ _ _ _ (s₁.setTop (mkF m 0 #[.val (.ref a), .val (.int px), .val (.int py)] []))
  refine OwnEnds.via (fun t k => XS.iloadN X0.here hx rfl (hb hby d3_0) rfl k) ?_
  show OwnEnds _ _ _ _ (s₁.setTop (mkF m 1 #[.val (.ref a), .val (.int px), .val (.int py)] [(.int px)]))
  refine OwnEnds.via (fun t k => XS.aloadN X0.here hx rfl (hb hby d3_1) rfl rfl k) ?_
  show OwnEnds _ _ _ _ (s₁.setTop (mkF m 2 #[.val (.ref a), .val (.int px), .val (.int py)] [(.ref a), (.int px)]))
  obtain ⟨T1, X1, e1, st1⟩ := getF X0 hx hZ hown (host := "") (Or.inl (hw _ (List.mem_of_getElem? (i := 9) rfl))) Via.refl e0 P0 (g := (mkF m 2 #[.val (.ref a), .val (.int px), .val (.int py)] [(.ref a), (.int px)])) rfl rfl (hb hby d3_2)
  refine OwnEnds.via st1 ?_
  show OwnEnds _ _ _ _ (T1.setTop (mkF m 5 #[.val (.ref a), .val (.int px), .val (.int py)] [(.int fx), (.int px)]))
  by_cases hc5_2 : px < fx
  ·
    refine OwnEnds.via (fun t k => XS.icmpYes X1.here hx rfl (pc0 := 5) (pc' := 54) rfl (hb hby d3_5) rfl (tlt hc5_2).1 (by decide) (by decide) k) ?_
    show OwnEnds _ _ _ _ (T1.setTop (mkF m 54 #[.val (.ref a), .val (.int px), .val (.int py)] []))
    refine OwnEnds.via (fun t k => XS.iconst X1.here hx rfl (hb hby d3_54) k) ?_
    show OwnEnds _ _ _ _ (T1.setTop (mkF m 55 #[.val (.ref a), .val (.int px), .val (.int py)] [(.int (0 : Int32))]))
    obtain ⟨fs, hr, hrun, hended, hW, hsame⟩ := X1.leave (v := some (.int (0 : Int32))) (fun h => by rw [Bd.returns] at h; cases h)
    refine ⟨_, _, ?_, hrun, hended, _, _, rfl, ?_, ⟨_, rfl⟩, hW, hsame.mono (by decide) (by decide)⟩
    · exact retN X1 hx (t := .boolean) Bd.returns (by simp) (hb hby d3_55) hr
    · show Q3 Z a px py fx fy wd ht h0 n0 _ T1.heap _
      rw [e1]
      exact ⟨(by rw [if_neg (by (try simp only [own_c] at hc5_2); (try simp only [Int32.lt_iff_toInt_lt] at hc5_2); unfold own_A; omega)]), N0, rfl⟩
  ·
    refine OwnEnds.via (fun t k => XS.icmpNo X1.here hx rfl (hb hby d3_5) rfl (flt hc5_2).1 k) ?_
    show OwnEnds _ _ _ _ (T1.setTop (mkF m 8 #[.val (.ref a), .val (.int px), .val (.int py)] []))
    refine OwnEnds.via (fun t k => XS.iloadN X1.here hx rfl (hb hby d3_8) rfl k) ?_
    show OwnEnds _ _ _ _ (T1.setTop (mkF m 9 #[.val (.ref a), .val (.int px), .val (.int py)] [(.int py)]))
    refine OwnEnds.via (fun t k => XS.aloadN X1.here hx rfl (hb hby d3_9) rfl rfl k) ?_
    show OwnEnds _ _ _ _ (T1.setTop (mkF m 10 #[.val (.ref a), .val (.int px), .val (.int py)] [(.ref a), (.int py)]))
    obtain ⟨T3, X3, e3, st3⟩ := getF X1 hx hZ hown (host := "") (Or.inl (hw _ (List.mem_of_getElem? (i := 11) rfl))) Via.refl e1 P1 (g := (mkF m 10 #[.val (.ref a), .val (.int px), .val (.int py)] [(.ref a), (.int py)])) rfl rfl (hb hby d3_10)
    refine OwnEnds.via st3 ?_
    show OwnEnds _ _ _ _ (T3.setTop (mkF m 13 #[.val (.ref a), .val (.int px), .val (.int py)] [(.int fy), (.int py)]))
    by_cases hc13_4 : py < fy
    ·
      refine OwnEnds.via (fun t k => XS.icmpYes X3.here hx rfl (pc0 := 13) (pc' := 54) rfl (hb hby d3_13) rfl (tlt hc13_4).1 (by decide) (by decide) k) ?_
      show OwnEnds _ _ _ _ (T3.setTop (mkF m 54 #[.val (.ref a), .val (.int px), .val (.int py)] []))
      refine OwnEnds.via (fun t k => XS.iconst X3.here hx rfl (hb hby d3_54) k) ?_
      show OwnEnds _ _ _ _ (T3.setTop (mkF m 55 #[.val (.ref a), .val (.int px), .val (.int py)] [(.int (0 : Int32))]))
      obtain ⟨fs, hr, hrun, hended, hW, hsame⟩ := X3.leave (v := some (.int (0 : Int32))) (fun h => by rw [Bd.returns] at h; cases h)
      refine ⟨_, _, ?_, hrun, hended, _, _, rfl, ?_, ⟨_, rfl⟩, hW, hsame.mono (by decide) (by decide)⟩
      · exact retN X3 hx (t := .boolean) Bd.returns (by simp) (hb hby d3_55) hr
      · show Q3 Z a px py fx fy wd ht h0 n0 _ T3.heap _
        rw [e3]
        exact ⟨(by rw [if_neg (by (try simp only [own_c] at hc5_2 hc13_4); (try simp only [Int32.lt_iff_toInt_lt] at hc5_2 hc13_4); unfold own_A; omega)]), N0, rfl⟩
    ·
      refine OwnEnds.via (fun t k => XS.icmpNo X3.here hx rfl (hb hby d3_13) rfl (flt hc13_4).1 k) ?_
      show OwnEnds _ _ _ _ (T3.setTop (mkF m 16 #[.val (.ref a), .val (.int px), .val (.int py)] []))
      refine OwnEnds.via (fun t k => XS.iloadN X3.here hx rfl (hb hby d3_16) rfl k) ?_
      show OwnEnds _ _ _ _ (T3.setTop (mkF m 17 #[.val (.ref a), .val (.int px), .val (.int py)] [(.int px)]))
      refine OwnEnds.via (fun t k => XS.i2l X3.here hx rfl (hb hby d3_17) rfl k) ?_
      show OwnEnds _ _ _ _ (T3.setTop (mkF m 18 #[.val (.ref a), .val (.int px), .val (.int py)] [(.long (px.toInt64))]))
      refine OwnEnds.via (fun t k => XS.aloadN X3.here hx rfl (hb hby d3_18) rfl rfl k) ?_
      show OwnEnds _ _ _ _ (T3.setTop (mkF m 19 #[.val (.ref a), .val (.int px), .val (.int py)] [(.ref a), (.long (px.toInt64))]))
      obtain ⟨T5, X5, e5, st5⟩ := getF X3 hx hZ hown (host := "") (Or.inl (hw _ (List.mem_of_getElem? (i := 9) rfl))) Via.refl e3 P0 (g := (mkF m 19 #[.val (.ref a), .val (.int px), .val (.int py)] [(.ref a), (.long (px.toInt64))])) rfl rfl (hb hby d3_19)
      refine OwnEnds.via st5 ?_
      show OwnEnds _ _ _ _ (T5.setTop (mkF m 22 #[.val (.ref a), .val (.int px), .val (.int py)] [(.int fx), (.long (px.toInt64))]))
      refine OwnEnds.via (fun t k => XS.i2l X5.here hx rfl (hb hby d3_22) rfl k) ?_
      show OwnEnds _ _ _ _ (T5.setTop (mkF m 23 #[.val (.ref a), .val (.int px), .val (.int py)] [(.long (fx.toInt64)), (.long (px.toInt64))]))
      refine OwnEnds.via (fun t k => XS.lsub X5.here hx rfl (hb hby d3_23) rfl k) ?_
      show OwnEnds _ _ _ _ (T5.setTop (mkF m 24 #[.val (.ref a), .val (.int px), .val (.int py)] [(.long ((px.toInt64) - (fx.toInt64)))]))
      refine OwnEnds.via (fun t k => XS.aloadN X5.here hx rfl (hb hby d3_24) rfl rfl k) ?_
      show OwnEnds _ _ _ _ (T5.setTop (mkF m 25 #[.val (.ref a), .val (.int px), .val (.int py)] [(.ref a), (.long ((px.toInt64) - (fx.toInt64)))]))
      obtain ⟨T6, X6, e6, st6⟩ := getF X5 hx hZ hown (host := "") (Or.inl (hw _ (List.mem_of_getElem? (i := 13) rfl))) Via.refl e5 P2 (g := (mkF m 25 #[.val (.ref a), .val (.int px), .val (.int py)] [(.ref a), (.long ((px.toInt64) - (fx.toInt64)))])) rfl rfl (hb hby d3_25)
      refine OwnEnds.via st6 ?_
      show OwnEnds _ _ _ _ (T6.setTop (mkF m 28 #[.val (.ref a), .val (.int px), .val (.int py)] [(.int wd), (.long ((px.toInt64) - (fx.toInt64)))]))
      refine OwnEnds.via (fun t k => XS.i2l X6.here hx rfl (hb hby d3_28) rfl k) ?_
      show OwnEnds _ _ _ _ (T6.setTop (mkF m 29 #[.val (.ref a), .val (.int px), .val (.int py)] [(.long (wd.toInt64)), (.long ((px.toInt64) - (fx.toInt64)))]))
      refine OwnEnds.via (fun t k => XS.lcmp X6.here hx rfl (hb hby d3_29) rfl k) ?_
      show OwnEnds _ _ _ _ (T6.setTop (mkF m 30 #[.val (.ref a), .val (.int px), .val (.int py)] [(.int (lcmpW ((px.toInt64) - (fx.toInt64)) (wd.toInt64)))]))
      by_cases hc30_7 : (lcmpW ((px.toInt64) - (fx.toInt64)) (wd.toInt64)) < (0 : Int32)
      ·
        refine OwnEnds.via (fun t k => XS.ifNo X6.here hx rfl (hb hby d3_30) rfl ((if0 _ _).trans (tlt hc30_7).2.1) k) ?_
        show OwnEnds _ _ _ _ (T6.setTop (mkF m 33 #[.val (.ref a), .val (.int px), .val (.int py)] []))
        refine OwnEnds.via (fun t k => XS.iloadN X6.here hx rfl (hb hby d3_33) rfl k) ?_
        show OwnEnds _ _ _ _ (T6.setTop (mkF m 34 #[.val (.ref a), .val (.int px), .val (.int py)] [(.int py)]))
        refine OwnEnds.via (fun t k => XS.i2l X6.here hx rfl (hb hby d3_34) rfl k) ?_
        show OwnEnds _ _ _ _ (T6.setTop (mkF m 35 #[.val (.ref a), .val (.int px), .val (.int py)] [(.long (py.toInt64))]))
        refine OwnEnds.via (fun t k => XS.aloadN X6.here hx rfl (hb hby d3_35) rfl rfl k) ?_
        show OwnEnds _ _ _ _ (T6.setTop (mkF m 36 #[.val (.ref a), .val (.int px), .val (.int py)] [(.ref a), (.long (py.toInt64))]))
        obtain ⟨T8, X8, e8, st8⟩ := getF X6 hx hZ hown (host := "") (Or.inl (hw _ (List.mem_of_getElem? (i := 11) rfl))) Via.refl e6 P1 (g := (mkF m 36 #[.val (.ref a), .val (.int px), .val (.int py)] [(.ref a), (.long (py.toInt64))])) rfl rfl (hb hby d3_36)
        refine OwnEnds.via st8 ?_
        show OwnEnds _ _ _ _ (T8.setTop (mkF m 39 #[.val (.ref a), .val (.int px), .val (.int py)] [(.int fy), (.long (py.toInt64))]))
        refine OwnEnds.via (fun t k => XS.i2l X8.here hx rfl (hb hby d3_39) rfl k) ?_
        show OwnEnds _ _ _ _ (T8.setTop (mkF m 40 #[.val (.ref a), .val (.int px), .val (.int py)] [(.long (fy.toInt64)), (.long (py.toInt64))]))
        refine OwnEnds.via (fun t k => XS.lsub X8.here hx rfl (hb hby d3_40) rfl k) ?_
        show OwnEnds _ _ _ _ (T8.setTop (mkF m 41 #[.val (.ref a), .val (.int px), .val (.int py)] [(.long ((py.toInt64) - (fy.toInt64)))]))
        refine OwnEnds.via (fun t k => XS.aloadN X8.here hx rfl (hb hby d3_41) rfl rfl k) ?_
        show OwnEnds _ _ _ _ (T8.setTop (mkF m 42 #[.val (.ref a), .val (.int px), .val (.int py)] [(.ref a), (.long ((py.toInt64) - (fy.toInt64)))]))
        obtain ⟨T9, X9, e9, st9⟩ := getF X8 hx hZ hown (host := "") (Or.inl (hw _ (List.mem_of_getElem? (i := 15) rfl))) Via.refl e8 P3 (g := (mkF m 42 #[.val (.ref a), .val (.int px), .val (.int py)] [(.ref a), (.long ((py.toInt64) - (fy.toInt64)))])) rfl rfl (hb hby d3_42)
        refine OwnEnds.via st9 ?_
        show OwnEnds _ _ _ _ (T9.setTop (mkF m 45 #[.val (.ref a), .val (.int px), .val (.int py)] [(.int ht), (.long ((py.toInt64) - (fy.toInt64)))]))
        refine OwnEnds.via (fun t k => XS.i2l X9.here hx rfl (hb hby d3_45) rfl k) ?_
        show OwnEnds _ _ _ _ (T9.setTop (mkF m 46 #[.val (.ref a), .val (.int px), .val (.int py)] [(.long (ht.toInt64)), (.long ((py.toInt64) - (fy.toInt64)))]))
        refine OwnEnds.via (fun t k => XS.lcmp X9.here hx rfl (hb hby d3_46) rfl k) ?_
        show OwnEnds _ _ _ _ (T9.setTop (mkF m 47 #[.val (.ref a), .val (.int px), .val (.int py)] [(.int (lcmpW ((py.toInt64) - (fy.toInt64)) (ht.toInt64)))]))
        by_cases hc47_10 : (lcmpW ((py.toInt64) - (fy.toInt64)) (ht.toInt64)) < (0 : Int32)
        ·
          refine OwnEnds.via (fun t k => XS.ifNo X9.here hx rfl (hb hby d3_47) rfl ((if0 _ _).trans (tlt hc47_10).2.1) k) ?_
          show OwnEnds _ _ _ _ (T9.setTop (mkF m 50 #[.val (.ref a), .val (.int px), .val (.int py)] []))
          refine OwnEnds.via (fun t k => XS.iconst X9.here hx rfl (hb hby d3_50) k) ?_
          show OwnEnds _ _ _ _ (T9.setTop (mkF m 51 #[.val (.ref a), .val (.int px), .val (.int py)] [(.int (1 : Int32))]))
          refine OwnEnds.via (fun t k => XS.goto X9.here hx rfl (pc0 := 51) (pc' := 55) rfl (hb hby d3_51) (by decide) (by decide) k) ?_
          show OwnEnds _ _ _ _ (T9.setTop (mkF m 55 #[.val (.ref a), .val (.int px), .val (.int py)] [(.int (1 : Int32))]))
          obtain ⟨fs, hr, hrun, hended, hW, hsame⟩ := X9.leave (v := some (.int (1 : Int32))) (fun h => by rw [Bd.returns] at h; cases h)
          refine ⟨_, _, ?_, hrun, hended, _, _, rfl, ?_, ⟨_, rfl⟩, hW, hsame.mono (by decide) (by decide)⟩
          · exact retN X9 hx (t := .boolean) Bd.returns (by simp) (hb hby d3_55) hr
          · show Q3 Z a px py fx fy wd ht h0 n0 _ T9.heap _
            rw [e9]
            exact ⟨(by rw [if_pos (by (try simp only [own_c] at hc5_2 hc13_4 hc30_7 hc47_10); (try simp only [Int32.lt_iff_toInt_lt] at hc5_2 hc13_4 hc30_7 hc47_10); unfold own_A; omega)]), N0, rfl⟩
        ·
          refine OwnEnds.via (fun t k => XS.ifYes X9.here hx rfl (pc0 := 47) (pc' := 54) rfl (hb hby d3_47) rfl ((if0 _ _).trans (flt hc47_10).2.1) (by decide) (by decide) k) ?_
          show OwnEnds _ _ _ _ (T9.setTop (mkF m 54 #[.val (.ref a), .val (.int px), .val (.int py)] []))
          refine OwnEnds.via (fun t k => XS.iconst X9.here hx rfl (hb hby d3_54) k) ?_
          show OwnEnds _ _ _ _ (T9.setTop (mkF m 55 #[.val (.ref a), .val (.int px), .val (.int py)] [(.int (0 : Int32))]))
          obtain ⟨fs, hr, hrun, hended, hW, hsame⟩ := X9.leave (v := some (.int (0 : Int32))) (fun h => by rw [Bd.returns] at h; cases h)
          refine ⟨_, _, ?_, hrun, hended, _, _, rfl, ?_, ⟨_, rfl⟩, hW, hsame.mono (by decide) (by decide)⟩
          · exact retN X9 hx (t := .boolean) Bd.returns (by simp) (hb hby d3_55) hr
          · show Q3 Z a px py fx fy wd ht h0 n0 _ T9.heap _
            rw [e9]
            exact ⟨(by rw [if_neg (by (try simp only [own_c] at hc5_2 hc13_4 hc30_7 hc47_10); (try simp only [Int32.lt_iff_toInt_lt] at hc5_2 hc13_4 hc30_7 hc47_10); unfold own_A; omega)]), N0, rfl⟩
      ·
        refine OwnEnds.via (fun t k => XS.ifYes X6.here hx rfl (pc0 := 30) (pc' := 54) rfl (hb hby d3_30) rfl ((if0 _ _).trans (flt hc30_7).2.1) (by decide) (by decide) k) ?_
        show OwnEnds _ _ _ _ (T6.setTop (mkF m 54 #[.val (.ref a), .val (.int px), .val (.int py)] []))
        refine OwnEnds.via (fun t k => XS.iconst X6.here hx rfl (hb hby d3_54) k) ?_
        show OwnEnds _ _ _ _ (T6.setTop (mkF m 55 #[.val (.ref a), .val (.int px), .val (.int py)] [(.int (0 : Int32))]))
        obtain ⟨fs, hr, hrun, hended, hW, hsame⟩ := X6.leave (v := some (.int (0 : Int32))) (fun h => by rw [Bd.returns] at h; cases h)
        refine ⟨_, _, ?_, hrun, hended, _, _, rfl, ?_, ⟨_, rfl⟩, hW, hsame.mono (by decide) (by decide)⟩
        · exact retN X6 hx (t := .boolean) Bd.returns (by simp) (hb hby d3_55) hr
        · show Q3 Z a px py fx fy wd ht h0 n0 _ T6.heap _
          rw [e6]
          exact ⟨(by rw [if_neg (by (try simp only [own_c] at hc5_2 hc13_4 hc30_7); (try simp only [Int32.lt_iff_toInt_lt] at hc5_2 hc13_4 hc30_7); unfold own_A; omega)]), N0, rfl⟩

theorem pn_rm0 : plainName "com/example/usher_panes/usherpanes/model/FrameContainsPinLaw" = true := by first | (simp [plainName, overriddenIn]; done) | decide +kernel
theorem pd_0 : parseMethodDescriptor "(IIII)V" = some ⟨[.int, .int, .int, .int], none⟩ := by decide +kernel
theorem pd_1 : parseMethodDescriptor "(II)Z" = some ⟨[.int, .int], some .boolean⟩ := by decide +kernel
theorem ef_rm0 (m : MethodId) (fx : Int32) (fy : Int32) (wd : Int32) (ht : Int32) (dx : Int64) (dy : Int64) : entryFrame m #[(.int fx), (.int fy), (.int wd), (.int ht), (.long dx), (.long dy)] maxLocals = mkF m 0 #[.val (.int fx), .val (.int fy), .val (.int wd), .val (.int ht), .val (.long dx), .second, .val (.long dy), .second, .unset, .unset, .unset, .unset, .unset, .unset] [] := by first | (simp [entryFrame, mkF, argsToLocals, Value.category, maxLocals]; done) | rfl
def Q0 (Z : State) (fx : Int32) (fy : Int32) (wd : Int32) (ht : Int32) (dx : Int64) (dy : Int64) (h0 : Heap) (n0 : Nat) (v : Option Value) (h : Heap) (L : List Loc) : Prop := v = some (.int (1 : Int32)) ∧ Fr n0 L
set_option maxRecDepth 65536 in
set_option maxHeartbeats 40000000 in
theorem rm0 (l : Launch) (Z : State) (a0 : Array Value) (hw : ∀ d ∈ tables_1, d.before a0 Z = true) (ws : List Jvm.Cond) (fx : Int32) (fy : Int32) (wd : Int32) (ht : Int32) (dx : Int64) (dy : Int64) (h0 : Heap) (n0 : Nat) (Z0 : n0 ≤ h0.size)  :
    MetFree l x (head1 (Jvm.Cond.code x code maxLocals ret :: ws) room_1) (fun aa U => aa = #[(.int fx), (.int fy), (.int wd), (.int ht), (.long dx), (.long dy)] ∧ Z.Warmed39 U.vm ∧ U.heap = h0) (fun _ _ _ _ _ => True) (fun _ U o U' => ∃ v L, o = .returned v ∧ Q0 Z fx fy wd ht dx dy h0 n0 v U'.heap L ∧ FrameEnd U o U' L room_1.cells room_1.slots) := by
  refine MetFree.of_bodySF (plainFor_of_name pn_rm0) hisR ?_
  intro p e s m args below meth c s₁ Bd hml0 hP hK
  obtain ⟨rfl, hZ, hh⟩ := hP
  have hx := Bd.exec
  have hby := Bd.bytes
  have hml : c.maxLocals = 14 := hml0
  have hown : s.vm.findClass "com/example/usher_panes/usherpanes/model/FrameContainsPinLaw" = some m.cls := findClass_of_methodNamed Bd.named
  have hnm := (name_of_methodNamed Bd.named Bd.method).1
  have X0 : Stand p l e room_1 s m #[(.int fx), (.int fy), (.int wd), (.int ht), (.long dx), (.long dy)] below meth c s₁ [] 0 0 := Stand.of_body Bd
  have e0 : s₁.heap = h0 := by rw [← hh, Bd.state]; rfl
  have N0 := Fr.nil n0
  change OwnEnds p.tables e below _ _
  refine OwnEnds.via (fun t k => castTop (ef_rm0 m fx fy wd ht dx dy) k) ?_
  show OwnEnds _ _ _ _ (s₁.setTop (mkF m 0 #[.val (.int fx), .val (.int fy), .val (.int wd), .val (.int ht), .val (.long dx), .second, .val (.long dy), .second, .unset, .unset, .unset, .unset, .unset, .unset] []))
  refine OwnEnds.via (fun t k => XS.iloadN X0.here hx rfl (hb hby at_0) rfl k) ?_
  show OwnEnds _ _ _ _ (s₁.setTop (mkF m 1 #[.val (.int fx), .val (.int fy), .val (.int wd), .val (.int ht), .val (.long dx), .second, .val (.long dy), .second, .unset, .unset, .unset, .unset, .unset, .unset] [(.int fx)]))
  refine OwnEnds.via (fun t k => XS.i2l X0.here hx rfl (hb hby at_1) rfl k) ?_
  show OwnEnds _ _ _ _ (s₁.setTop (mkF m 2 #[.val (.int fx), .val (.int fy), .val (.int wd), .val (.int ht), .val (.long dx), .second, .val (.long dy), .second, .unset, .unset, .unset, .unset, .unset, .unset] [(.long (fx.toInt64))]))
  refine OwnEnds.via (fun t k => XS.lload X0.here hx rfl (hb hby at_2) rfl k) ?_
  show OwnEnds _ _ _ _ (s₁.setTop (mkF m 4 #[.val (.int fx), .val (.int fy), .val (.int wd), .val (.int ht), .val (.long dx), .second, .val (.long dy), .second, .unset, .unset, .unset, .unset, .unset, .unset] [(.long dx), (.long (fx.toInt64))]))
  refine OwnEnds.via (fun t k => XS.ladd X0.here hx rfl (hb hby at_4) rfl k) ?_
  show OwnEnds _ _ _ _ (s₁.setTop (mkF m 5 #[.val (.int fx), .val (.int fy), .val (.int wd), .val (.int ht), .val (.long dx), .second, .val (.long dy), .second, .unset, .unset, .unset, .unset, .unset, .unset] [(.long ((fx.toInt64) + dx))]))
  refine OwnEnds.via (fun t k => XS.l2i X0.here hx rfl (hb hby at_5) rfl k) ?_
  show OwnEnds _ _ _ _ (s₁.setTop (mkF m 6 #[.val (.int fx), .val (.int fy), .val (.int wd), .val (.int ht), .val (.long dx), .second, .val (.long dy), .second, .unset, .unset, .unset, .unset, .unset, .unset] [(.int (((fx.toInt64) + dx).toInt32))]))
  refine OwnEnds.via (fun t k => XS.istore X0.here hx rfl (hb hby at_6) rfl (l' := #[.val (.int fx), .val (.int fy), .val (.int wd), .val (.int ht), .val (.long dx), .second, .val (.long dy), .second, .val (.int (((fx.toInt64) + dx).toInt32)), .unset, .unset, .unset, .unset, .unset]) rfl k) ?_
  show OwnEnds _ _ _ _ (s₁.setTop (mkF m 8 #[.val (.int fx), .val (.int fy), .val (.int wd), .val (.int ht), .val (.long dx), .second, .val (.long dy), .second, .val (.int (((fx.toInt64) + dx).toInt32)), .unset, .unset, .unset, .unset, .unset] []))
  refine OwnEnds.via (fun t k => XS.iloadN X0.here hx rfl (hb hby at_8) rfl k) ?_
  show OwnEnds _ _ _ _ (s₁.setTop (mkF m 9 #[.val (.int fx), .val (.int fy), .val (.int wd), .val (.int ht), .val (.long dx), .second, .val (.long dy), .second, .val (.int (((fx.toInt64) + dx).toInt32)), .unset, .unset, .unset, .unset, .unset] [(.int fy)]))
  refine OwnEnds.via (fun t k => XS.i2l X0.here hx rfl (hb hby at_9) rfl k) ?_
  show OwnEnds _ _ _ _ (s₁.setTop (mkF m 10 #[.val (.int fx), .val (.int fy), .val (.int wd), .val (.int ht), .val (.long dx), .second, .val (.long dy), .second, .val (.int (((fx.toInt64) + dx).toInt32)), .unset, .unset, .unset, .unset, .unset] [(.long (fy.toInt64))]))
  refine OwnEnds.via (fun t k => XS.lload X0.here hx rfl (hb hby at_10) rfl k) ?_
  show OwnEnds _ _ _ _ (s₁.setTop (mkF m 12 #[.val (.int fx), .val (.int fy), .val (.int wd), .val (.int ht), .val (.long dx), .second, .val (.long dy), .second, .val (.int (((fx.toInt64) + dx).toInt32)), .unset, .unset, .unset, .unset, .unset] [(.long dy), (.long (fy.toInt64))]))
  refine OwnEnds.via (fun t k => XS.ladd X0.here hx rfl (hb hby at_12) rfl k) ?_
  show OwnEnds _ _ _ _ (s₁.setTop (mkF m 13 #[.val (.int fx), .val (.int fy), .val (.int wd), .val (.int ht), .val (.long dx), .second, .val (.long dy), .second, .val (.int (((fx.toInt64) + dx).toInt32)), .unset, .unset, .unset, .unset, .unset] [(.long ((fy.toInt64) + dy))]))
  refine OwnEnds.via (fun t k => XS.l2i X0.here hx rfl (hb hby at_13) rfl k) ?_
  show OwnEnds _ _ _ _ (s₁.setTop (mkF m 14 #[.val (.int fx), .val (.int fy), .val (.int wd), .val (.int ht), .val (.long dx), .second, .val (.long dy), .second, .val (.int (((fx.toInt64) + dx).toInt32)), .unset, .unset, .unset, .unset, .unset] [(.int (((fy.toInt64) + dy).toInt32))]))
  refine OwnEnds.via (fun t k => XS.istore X0.here hx rfl (hb hby at_14) rfl (l' := #[.val (.int fx), .val (.int fy), .val (.int wd), .val (.int ht), .val (.long dx), .second, .val (.long dy), .second, .val (.int (((fx.toInt64) + dx).toInt32)), .val (.int (((fy.toInt64) + dy).toInt32)), .unset, .unset, .unset, .unset]) rfl k) ?_
  show OwnEnds _ _ _ _ (s₁.setTop (mkF m 16 #[.val (.int fx), .val (.int fy), .val (.int wd), .val (.int ht), .val (.long dx), .second, .val (.long dy), .second, .val (.int (((fx.toInt64) + dx).toInt32)), .val (.int (((fy.toInt64) + dy).toInt32)), .unset, .unset, .unset, .unset] []))
  obtain ⟨T1, h1, X1, e1, E1, A1, D1, -, st1⟩ := newO X0 hx hZ hown (hw _ (List.mem_of_getElem? (i := 0) rfl)) (hw _ (List.mem_of_getElem? (i := 1) rfl)) (hw _ (List.mem_of_getElem? (i := 2) rfl)) e0 (g := (mkF m 16 #[.val (.int fx), .val (.int fy), .val (.int wd), .val (.int ht), .val (.long dx), .second, .val (.long dy), .second, .val (.int (((fx.toInt64) + dx).toInt32)), .val (.int (((fy.toInt64) + dy).toInt32)), .unset, .unset, .unset, .unset] [])) rfl (hb hby at_16) (by decide) (by decide)
  obtain ⟨b1, g1⟩ : ∃ z, z = h0.size := ⟨_, rfl⟩
  have ge_b1 : n0 ≤ b1 := Nat.le_trans Z0 (Nat.le_of_eq g1.symm)
  have Z1 : n0 ≤ h1.size := Nat.le_trans Z0 E1.1
  rw [← g1] at A1 D1 st1
  have F1_x : Fld Z h1 b1 "com/example/usher_panes/usherpanes/model/Frame" "x" "I" (.int (0 : Int32)) := D1 (Or.inr (hw _ (List.mem_of_getElem? (i := 10) rfl))) (ty := .int) (by decide)
  have F1_y : Fld Z h1 b1 "com/example/usher_panes/usherpanes/model/Frame" "y" "I" (.int (0 : Int32)) := D1 (Or.inr (hw _ (List.mem_of_getElem? (i := 12) rfl))) (ty := .int) (by decide)
  have F1_width : Fld Z h1 b1 "com/example/usher_panes/usherpanes/model/Frame" "width" "I" (.int (0 : Int32)) := D1 (Or.inr (hw _ (List.mem_of_getElem? (i := 14) rfl))) (ty := .int) (by decide)
  have F1_height : Fld Z h1 b1 "com/example/usher_panes/usherpanes/model/Frame" "height" "I" (.int (0 : Int32)) := D1 (Or.inr (hw _ (List.mem_of_getElem? (i := 16) rfl))) (ty := .int) (by decide)
  refine OwnEnds.via st1 ?_
  show OwnEnds _ _ _ _ (T1.setTop (mkF m 19 #[.val (.int fx), .val (.int fy), .val (.int wd), .val (.int ht), .val (.long dx), .second, .val (.long dy), .second, .val (.int (((fx.toInt64) + dx).toInt32)), .val (.int (((fy.toInt64) + dy).toInt32)), .unset, .unset, .unset, .unset] [(.ref b1)]))
  refine OwnEnds.via (fun t k => XS.dup X1.here hx rfl (hb hby at_19) rfl rfl k) ?_
  show OwnEnds _ _ _ _ (T1.setTop (mkF m 20 #[.val (.int fx), .val (.int fy), .val (.int wd), .val (.int ht), .val (.long dx), .second, .val (.long dy), .second, .val (.int (((fx.toInt64) + dx).toInt32)), .val (.int (((fy.toInt64) + dy).toInt32)), .unset, .unset, .unset, .unset] [(.ref b1), (.ref b1)]))
  refine OwnEnds.via (fun t k => XS.iloadN X1.here hx rfl (hb hby at_20) rfl k) ?_
  show OwnEnds _ _ _ _ (T1.setTop (mkF m 21 #[.val (.int fx), .val (.int fy), .val (.int wd), .val (.int ht), .val (.long dx), .second, .val (.long dy), .second, .val (.int (((fx.toInt64) + dx).toInt32)), .val (.int (((fy.toInt64) + dy).toInt32)), .unset, .unset, .unset, .unset] [(.int fx), (.ref b1), (.ref b1)]))
  refine OwnEnds.via (fun t k => XS.iloadN X1.here hx rfl (hb hby at_21) rfl k) ?_
  show OwnEnds _ _ _ _ (T1.setTop (mkF m 22 #[.val (.int fx), .val (.int fy), .val (.int wd), .val (.int ht), .val (.long dx), .second, .val (.long dy), .second, .val (.int (((fx.toInt64) + dx).toInt32)), .val (.int (((fy.toInt64) + dy).toInt32)), .unset, .unset, .unset, .unset] [(.int fy), (.int fx), (.ref b1), (.ref b1)]))
  refine OwnEnds.via (fun t k => XS.iloadN X1.here hx rfl (hb hby at_22) rfl k) ?_
  show OwnEnds _ _ _ _ (T1.setTop (mkF m 23 #[.val (.int fx), .val (.int fy), .val (.int wd), .val (.int ht), .val (.long dx), .second, .val (.long dy), .second, .val (.int (((fx.toInt64) + dx).toInt32)), .val (.int (((fy.toInt64) + dy).toInt32)), .unset, .unset, .unset, .unset] [(.int wd), (.int fy), (.int fx), (.ref b1), (.ref b1)]))
  refine OwnEnds.via (fun t k => XS.iloadN X1.here hx rfl (hb hby at_23) rfl k) ?_
  show OwnEnds _ _ _ _ (T1.setTop (mkF m 24 #[.val (.int fx), .val (.int fy), .val (.int wd), .val (.int ht), .val (.long dx), .second, .val (.long dy), .second, .val (.int (((fx.toInt64) + dx).toInt32)), .val (.int (((fy.toInt64) + dy).toInt32)), .unset, .unset, .unset, .unset] [(.int ht), (.int wd), (.int fy), (.int fx), (.ref b1), (.ref b1)]))
  obtain ⟨_, _, ⟨T2, L2, k2, n2⟩, -, X2, ⟨Lc2, hQ2, l2, y2, z2⟩, st2⟩ := X1.specialBack hx (y := (⟨"com/example/usher_panes/usherpanes/model/Frame", "<init>", "(IIII)V"⟩ : MethodName)) rfl hown (mvT hZ (hw _ (List.mem_of_getElem? (i := 3) rfl))) (mvT hZ (hw _ (List.mem_of_getElem? (i := 4) rfl))) (mvT hZ (hw _ (List.mem_of_getElem? (i := 5) rfl))) (by decide) (backOf (W := 1) (rm1 l Z a0 hw [] b1 fx fy wd ht h1 n0 Z1 A1 F1_x F1_y F1_width F1_height ge_b1) hZ (hw _ (List.mem_of_getElem? (i := 5) rfl)) (hw _ (List.mem_of_getElem? (i := 2) rfl)) (by decide) (by decide)) (g := (mkF m 24 #[.val (.int fx), .val (.int fy), .val (.int wd), .val (.int ht), .val (.long dx), .second, .val (.long dy), .second, .val (.int (((fx.toInt64) + dx).toInt32)), .val (.int (((fy.toInt64) + dy).toInt32)), .unset, .unset, .unset, .unset] [(.int ht), (.int wd), (.int fy), (.int fx), (.ref b1), (.ref b1)])) rfl (by rw [hml]; rfl) (Steps.refl _) (a := b1) (argsL := [(.int fx), (.int fy), (.int wd), (.int ht)]) (rest := [(.ref b1)]) (lenOf pd_0 rfl) rfl (by show 2 * 0 + _ ≤ _; exact Nat.le_of_eq rfl) (hb hby at_24) (fun _ _ => ⟨rfl, e1, (by decide : 1 + 0 ≤ _), (by decide : 4 + 0 ≤ _)⟩)
  dsimp only [Pt.U, Pt.locs, Pt.cells, Pt.slots] at X2 l2 y2 z2 st2 hQ2
  subst l2 y2 z2
  obtain ⟨h2, e2⟩ : ∃ z, T2.heap = z := ⟨_, rfl⟩
  rw [e2] at hQ2
  obtain ⟨rfl, Nq2, Kq2, q2_0, q2_1, q2_2, q2_3, q2_4⟩ := hQ2
  have Z2 : n0 ≤ h2.size := Nat.le_trans Z1 Kq2.1
  have N2 := Fr.app N0 Nq2
  refine OwnEnds.via (fun t k => st2.trans k) ?_
  show OwnEnds _ _ _ _ (T2.setTop (mkF m 27 #[.val (.int fx), .val (.int fy), .val (.int wd), .val (.int ht), .val (.long dx), .second, .val (.long dy), .second, .val (.int (((fx.toInt64) + dx).toInt32)), .val (.int (((fy.toInt64) + dy).toInt32)), .unset, .unset, .unset, .unset] [(.ref b1)]))
  refine OwnEnds.via (fun t k => XS.astore X2.here hx rfl (hb hby at_27) rfl rfl (l' := #[.val (.int fx), .val (.int fy), .val (.int wd), .val (.int ht), .val (.long dx), .second, .val (.long dy), .second, .val (.int (((fx.toInt64) + dx).toInt32)), .val (.int (((fy.toInt64) + dy).toInt32)), .val (.ref b1), .unset, .unset, .unset]) rfl k) ?_
  show OwnEnds _ _ _ _ (T2.setTop (mkF m 29 #[.val (.int fx), .val (.int fy), .val (.int wd), .val (.int ht), .val (.long dx), .second, .val (.long dy), .second, .val (.int (((fx.toInt64) + dx).toInt32)), .val (.int (((fy.toInt64) + dy).toInt32)), .val (.ref b1), .unset, .unset, .unset] []))
  refine OwnEnds.via (fun t k => XS.aload X2.here hx rfl (hb hby at_29) rfl rfl k) ?_
  show OwnEnds _ _ _ _ (T2.setTop (mkF m 31 #[.val (.int fx), .val (.int fy), .val (.int wd), .val (.int ht), .val (.long dx), .second, .val (.long dy), .second, .val (.int (((fx.toInt64) + dx).toInt32)), .val (.int (((fy.toInt64) + dy).toInt32)), .val (.ref b1), .unset, .unset, .unset] [(.ref b1)]))
  refine OwnEnds.via (fun t k => XS.iload X2.here hx rfl (hb hby at_31) rfl k) ?_
  show OwnEnds _ _ _ _ (T2.setTop (mkF m 33 #[.val (.int fx), .val (.int fy), .val (.int wd), .val (.int ht), .val (.long dx), .second, .val (.long dy), .second, .val (.int (((fx.toInt64) + dx).toInt32)), .val (.int (((fy.toInt64) + dy).toInt32)), .val (.ref b1), .unset, .unset, .unset] [(.int (((fx.toInt64) + dx).toInt32)), (.ref b1)]))
  refine OwnEnds.via (fun t k => XS.iload X2.here hx rfl (hb hby at_33) rfl k) ?_
  show OwnEnds _ _ _ _ (T2.setTop (mkF m 35 #[.val (.int fx), .val (.int fy), .val (.int wd), .val (.int ht), .val (.long dx), .second, .val (.long dy), .second, .val (.int (((fx.toInt64) + dx).toInt32)), .val (.int (((fy.toInt64) + dy).toInt32)), .val (.ref b1), .unset, .unset, .unset] [(.int (((fy.toInt64) + dy).toInt32)), (.int (((fx.toInt64) + dx).toInt32)), (.ref b1)]))
  obtain ⟨cq3, kq3, q3a, q3b, q3c⟩ := isOf hZ e2 q2_0
  obtain ⟨_, _, ⟨T3, L3, k3, n3⟩, -, X3, ⟨Lc3, hQ3, l3, y3, z3⟩, st3⟩ := X2.virtualBack hx (y := (⟨"com/example/usher_panes/usherpanes/model/Frame", "contains", "(II)Z"⟩ : MethodName)) (z := (⟨"com/example/usher_panes/usherpanes/model/Frame", "contains", "(II)Z"⟩ : MethodName)) hown (mvT hZ (hw _ (List.mem_of_getElem? (i := 17) rfl))) (mvT hZ (hw _ (List.mem_of_getElem? (i := 18) rfl))) (notFace_of_selects (args := #[]) (mvT hZ (hw _ (List.mem_of_getElem? (i := 20) rfl)))) (mvT hZ (hw _ (List.mem_of_getElem? (i := 20) rfl))) (mvT hZ (hw _ (List.mem_of_getElem? (i := 19) rfl))) (by decide) (backOf (W := 0) (rm3 l Z a0 hw [] b1 (((fx.toInt64) + dx).toInt32) (((fy.toInt64) + dy).toInt32) fx fy wd ht h2 n0 Z2 q2_1 q2_2 q2_3 q2_4) hZ (hw _ (List.mem_of_getElem? (i := 21) rfl)) (hw _ (List.mem_of_getElem? (i := 2) rfl)) (by decide) (by decide)) q3a q3c (g := (mkF m 35 #[.val (.int fx), .val (.int fy), .val (.int wd), .val (.int ht), .val (.long dx), .second, .val (.long dy), .second, .val (.int (((fx.toInt64) + dx).toInt32)), .val (.int (((fy.toInt64) + dy).toInt32)), .val (.ref b1), .unset, .unset, .unset] [(.int (((fy.toInt64) + dy).toInt32)), (.int (((fx.toInt64) + dx).toInt32)), (.ref b1)])) rfl (by rw [hml]; rfl) (Steps.refl _) (argsL := [(.int (((fx.toInt64) + dx).toInt32)), (.int (((fy.toInt64) + dy).toInt32))]) (rest := []) (lenOf pd_1 rfl) rfl (by show 2 * 0 + _ ≤ _; exact Nat.le_of_eq rfl) (hb hby at_35) (fun _ _ => ⟨rfl, e2, (by decide : 1 + 0 ≤ _), (by decide : 4 + 0 ≤ _)⟩)
  dsimp only [Pt.U, Pt.locs, Pt.cells, Pt.slots] at X3 l3 y3 z3 st3 hQ3
  subst l3 y3 z3
  obtain ⟨rfl, Nq3, e3⟩ := hQ3
  have N3 := Fr.app N2 Nq3
  refine OwnEnds.via (fun t k => st3.trans k) ?_
  show OwnEnds _ _ _ _ (T3.setTop (mkF m 38 #[.val (.int fx), .val (.int fy), .val (.int wd), .val (.int ht), .val (.long dx), .second, .val (.long dy), .second, .val (.int (((fx.toInt64) + dx).toInt32)), .val (.int (((fy.toInt64) + dy).toInt32)), .val (.ref b1), .unset, .unset, .unset] [(.int (if own_A fx wd (((fx.toInt64) + dx).toInt32) ∧ own_A fy ht (((fy.toInt64) + dy).toInt32) then (1 : Int32) else (0 : Int32)))]))
  refine OwnEnds.via (fun t k => XS.istore X3.here hx rfl (hb hby at_38) rfl (l' := #[.val (.int fx), .val (.int fy), .val (.int wd), .val (.int ht), .val (.long dx), .second, .val (.long dy), .second, .val (.int (((fx.toInt64) + dx).toInt32)), .val (.int (((fy.toInt64) + dy).toInt32)), .val (.ref b1), .val (.int (if own_A fx wd (((fx.toInt64) + dx).toInt32) ∧ own_A fy ht (((fy.toInt64) + dy).toInt32) then (1 : Int32) else (0 : Int32))), .unset, .unset]) rfl k) ?_
  show OwnEnds _ _ _ _ (T3.setTop (mkF m 40 #[.val (.int fx), .val (.int fy), .val (.int wd), .val (.int ht), .val (.long dx), .second, .val (.long dy), .second, .val (.int (((fx.toInt64) + dx).toInt32)), .val (.int (((fy.toInt64) + dy).toInt32)), .val (.ref b1), .val (.int (if own_A fx wd (((fx.toInt64) + dx).toInt32) ∧ own_A fy ht (((fy.toInt64) + dy).toInt32) then (1 : Int32) else (0 : Int32))), .unset, .unset] []))
  refine OwnEnds.via (fun t k => XS.iloadN X3.here hx rfl (hb hby at_40) rfl k) ?_
  show OwnEnds _ _ _ _ (T3.setTop (mkF m 41 #[.val (.int fx), .val (.int fy), .val (.int wd), .val (.int ht), .val (.long dx), .second, .val (.long dy), .second, .val (.int (((fx.toInt64) + dx).toInt32)), .val (.int (((fy.toInt64) + dy).toInt32)), .val (.ref b1), .val (.int (if own_A fx wd (((fx.toInt64) + dx).toInt32) ∧ own_A fy ht (((fy.toInt64) + dy).toInt32) then (1 : Int32) else (0 : Int32))), .unset, .unset] [(.int fx)]))
  refine OwnEnds.via (fun t k => XS.i2l X3.here hx rfl (hb hby at_41) rfl k) ?_
  show OwnEnds _ _ _ _ (T3.setTop (mkF m 42 #[.val (.int fx), .val (.int fy), .val (.int wd), .val (.int ht), .val (.long dx), .second, .val (.long dy), .second, .val (.int (((fx.toInt64) + dx).toInt32)), .val (.int (((fy.toInt64) + dy).toInt32)), .val (.ref b1), .val (.int (if own_A fx wd (((fx.toInt64) + dx).toInt32) ∧ own_A fy ht (((fy.toInt64) + dy).toInt32) then (1 : Int32) else (0 : Int32))), .unset, .unset] [(.long (fx.toInt64))]))
  refine OwnEnds.via (fun t k => XS.iload X3.here hx rfl (hb hby at_42) rfl k) ?_
  show OwnEnds _ _ _ _ (T3.setTop (mkF m 44 #[.val (.int fx), .val (.int fy), .val (.int wd), .val (.int ht), .val (.long dx), .second, .val (.long dy), .second, .val (.int (((fx.toInt64) + dx).toInt32)), .val (.int (((fy.toInt64) + dy).toInt32)), .val (.ref b1), .val (.int (if own_A fx wd (((fx.toInt64) + dx).toInt32) ∧ own_A fy ht (((fy.toInt64) + dy).toInt32) then (1 : Int32) else (0 : Int32))), .unset, .unset] [(.int (((fx.toInt64) + dx).toInt32)), (.long (fx.toInt64))]))
  refine OwnEnds.via (fun t k => XS.i2l X3.here hx rfl (hb hby at_44) rfl k) ?_
  show OwnEnds _ _ _ _ (T3.setTop (mkF m 45 #[.val (.int fx), .val (.int fy), .val (.int wd), .val (.int ht), .val (.long dx), .second, .val (.long dy), .second, .val (.int (((fx.toInt64) + dx).toInt32)), .val (.int (((fy.toInt64) + dy).toInt32)), .val (.ref b1), .val (.int (if own_A fx wd (((fx.toInt64) + dx).toInt32) ∧ own_A fy ht (((fy.toInt64) + dy).toInt32) then (1 : Int32) else (0 : Int32))), .unset, .unset] [(.long ((((fx.toInt64) + dx).toInt32).toInt64)), (.long (fx.toInt64))]))
  refine OwnEnds.via (fun t k => XS.lcmp X3.here hx rfl (hb hby at_45) rfl k) ?_
  show OwnEnds _ _ _ _ (T3.setTop (mkF m 46 #[.val (.int fx), .val (.int fy), .val (.int wd), .val (.int ht), .val (.long dx), .second, .val (.long dy), .second, .val (.int (((fx.toInt64) + dx).toInt32)), .val (.int (((fy.toInt64) + dy).toInt32)), .val (.ref b1), .val (.int (if own_A fx wd (((fx.toInt64) + dx).toInt32) ∧ own_A fy ht (((fy.toInt64) + dy).toInt32) then (1 : Int32) else (0 : Int32))), .unset, .unset] [(.int (lcmpW (fx.toInt64) ((((fx.toInt64) + dx).toInt32).toInt64)))]))
  refine OwnEnds.cut (fun G => ∀ (T4 : State) (lc4 : List Loc) (X4 : Stand p l e room_1 s m #[(.int fx), (.int fy), (.int wd), (.int ht), (.long dx), (.long dy)] below meth c T4 lc4 1 4) (e4 : T4.heap = h2) (N4 : Fr n0 lc4) (inX : Int32) (hj4_0 : inX = if own_A fx wd (((fx.toInt64) + dx).toInt32) then (1 : Int32) else (0 : Int32)), G (T4.setTop (mkF m 66 #[.val (.int fx), .val (.int fy), .val (.int wd), .val (.int ht), .val (.long dx), .second, .val (.long dy), .second, .val (.int (((fx.toInt64) + dx).toInt32)), .val (.int (((fy.toInt64) + dy).toInt32)), .val (.ref b1), .val (.int (if own_A fx wd (((fx.toInt64) + dx).toInt32) ∧ own_A fy ht (((fy.toInt64) + dy).toInt32) then (1 : Int32) else (0 : Int32))), .unset, .unset] [(.int inX)]))) ?_ ?_
  · intro T4 lc4 X4 e4 N4 inX hj4_0
    show OwnEnds _ _ _ _ (T4.setTop (mkF m 66 #[.val (.int fx), .val (.int fy), .val (.int wd), .val (.int ht), .val (.long dx), .second, .val (.long dy), .second, .val (.int (((fx.toInt64) + dx).toInt32)), .val (.int (((fy.toInt64) + dy).toInt32)), .val (.ref b1), .val (.int (if own_A fx wd (((fx.toInt64) + dx).toInt32) ∧ own_A fy ht (((fy.toInt64) + dy).toInt32) then (1 : Int32) else (0 : Int32))), .unset, .unset] [(.int inX)]))
    refine OwnEnds.via (fun t k => XS.istore X4.here hx rfl (hb hby at_66) rfl (l' := #[.val (.int fx), .val (.int fy), .val (.int wd), .val (.int ht), .val (.long dx), .second, .val (.long dy), .second, .val (.int (((fx.toInt64) + dx).toInt32)), .val (.int (((fy.toInt64) + dy).toInt32)), .val (.ref b1), .val (.int (if own_A fx wd (((fx.toInt64) + dx).toInt32) ∧ own_A fy ht (((fy.toInt64) + dy).toInt32) then (1 : Int32) else (0 : Int32))), .val (.int inX), .unset]) rfl k) ?_
    show OwnEnds _ _ _ _ (T4.setTop (mkF m 68 #[.val (.int fx), .val (.int fy), .val (.int wd), .val (.int ht), .val (.long dx), .second, .val (.long dy), .second, .val (.int (((fx.toInt64) + dx).toInt32)), .val (.int (((fy.toInt64) + dy).toInt32)), .val (.ref b1), .val (.int (if own_A fx wd (((fx.toInt64) + dx).toInt32) ∧ own_A fy ht (((fy.toInt64) + dy).toInt32) then (1 : Int32) else (0 : Int32))), .val (.int inX), .unset] []))
    refine OwnEnds.via (fun t k => XS.iloadN X4.here hx rfl (hb hby at_68) rfl k) ?_
    show OwnEnds _ _ _ _ (T4.setTop (mkF m 69 #[.val (.int fx), .val (.int fy), .val (.int wd), .val (.int ht), .val (.long dx), .second, .val (.long dy), .second, .val (.int (((fx.toInt64) + dx).toInt32)), .val (.int (((fy.toInt64) + dy).toInt32)), .val (.ref b1), .val (.int (if own_A fx wd (((fx.toInt64) + dx).toInt32) ∧ own_A fy ht (((fy.toInt64) + dy).toInt32) then (1 : Int32) else (0 : Int32))), .val (.int inX), .unset] [(.int fy)]))
    refine OwnEnds.via (fun t k => XS.i2l X4.here hx rfl (hb hby at_69) rfl k) ?_
    show OwnEnds _ _ _ _ (T4.setTop (mkF m 70 #[.val (.int fx), .val (.int fy), .val (.int wd), .val (.int ht), .val (.long dx), .second, .val (.long dy), .second, .val (.int (((fx.toInt64) + dx).toInt32)), .val (.int (((fy.toInt64) + dy).toInt32)), .val (.ref b1), .val (.int (if own_A fx wd (((fx.toInt64) + dx).toInt32) ∧ own_A fy ht (((fy.toInt64) + dy).toInt32) then (1 : Int32) else (0 : Int32))), .val (.int inX), .unset] [(.long (fy.toInt64))]))
    refine OwnEnds.via (fun t k => XS.iload X4.here hx rfl (hb hby at_70) rfl k) ?_
    show OwnEnds _ _ _ _ (T4.setTop (mkF m 72 #[.val (.int fx), .val (.int fy), .val (.int wd), .val (.int ht), .val (.long dx), .second, .val (.long dy), .second, .val (.int (((fx.toInt64) + dx).toInt32)), .val (.int (((fy.toInt64) + dy).toInt32)), .val (.ref b1), .val (.int (if own_A fx wd (((fx.toInt64) + dx).toInt32) ∧ own_A fy ht (((fy.toInt64) + dy).toInt32) then (1 : Int32) else (0 : Int32))), .val (.int inX), .unset] [(.int (((fy.toInt64) + dy).toInt32)), (.long (fy.toInt64))]))
    refine OwnEnds.via (fun t k => XS.i2l X4.here hx rfl (hb hby at_72) rfl k) ?_
    show OwnEnds _ _ _ _ (T4.setTop (mkF m 73 #[.val (.int fx), .val (.int fy), .val (.int wd), .val (.int ht), .val (.long dx), .second, .val (.long dy), .second, .val (.int (((fx.toInt64) + dx).toInt32)), .val (.int (((fy.toInt64) + dy).toInt32)), .val (.ref b1), .val (.int (if own_A fx wd (((fx.toInt64) + dx).toInt32) ∧ own_A fy ht (((fy.toInt64) + dy).toInt32) then (1 : Int32) else (0 : Int32))), .val (.int inX), .unset] [(.long ((((fy.toInt64) + dy).toInt32).toInt64)), (.long (fy.toInt64))]))
    refine OwnEnds.via (fun t k => XS.lcmp X4.here hx rfl (hb hby at_73) rfl k) ?_
    show OwnEnds _ _ _ _ (T4.setTop (mkF m 74 #[.val (.int fx), .val (.int fy), .val (.int wd), .val (.int ht), .val (.long dx), .second, .val (.long dy), .second, .val (.int (((fx.toInt64) + dx).toInt32)), .val (.int (((fy.toInt64) + dy).toInt32)), .val (.ref b1), .val (.int (if own_A fx wd (((fx.toInt64) + dx).toInt32) ∧ own_A fy ht (((fy.toInt64) + dy).toInt32) then (1 : Int32) else (0 : Int32))), .val (.int inX), .unset] [(.int (lcmpW (fy.toInt64) ((((fy.toInt64) + dy).toInt32).toInt64)))]))
    refine OwnEnds.cut (fun G => ∀ (T5 : State) (lc5 : List Loc) (X5 : Stand p l e room_1 s m #[(.int fx), (.int fy), (.int wd), (.int ht), (.long dx), (.long dy)] below meth c T5 lc5 1 4) (e5 : T5.heap = h2) (N5 : Fr n0 lc5) (inY : Int32) (hj5_0 : inY = if own_A fy ht (((fy.toInt64) + dy).toInt32) then (1 : Int32) else (0 : Int32)), G (T5.setTop (mkF m 94 #[.val (.int fx), .val (.int fy), .val (.int wd), .val (.int ht), .val (.long dx), .second, .val (.long dy), .second, .val (.int (((fx.toInt64) + dx).toInt32)), .val (.int (((fy.toInt64) + dy).toInt32)), .val (.ref b1), .val (.int (if own_A fx wd (((fx.toInt64) + dx).toInt32) ∧ own_A fy ht (((fy.toInt64) + dy).toInt32) then (1 : Int32) else (0 : Int32))), .val (.int inX), .unset] [(.int inY)]))) ?_ ?_
    · intro T5 lc5 X5 e5 N5 inY hj5_0
      show OwnEnds _ _ _ _ (T5.setTop (mkF m 94 #[.val (.int fx), .val (.int fy), .val (.int wd), .val (.int ht), .val (.long dx), .second, .val (.long dy), .second, .val (.int (((fx.toInt64) + dx).toInt32)), .val (.int (((fy.toInt64) + dy).toInt32)), .val (.ref b1), .val (.int (if own_A fx wd (((fx.toInt64) + dx).toInt32) ∧ own_A fy ht (((fy.toInt64) + dy).toInt32) then (1 : Int32) else (0 : Int32))), .val (.int inX), .unset] [(.int inY)]))
      refine OwnEnds.via (fun t k => XS.istore X5.here hx rfl (hb hby at_94) rfl (l' := #[.val (.int fx), .val (.int fy), .val (.int wd), .val (.int ht), .val (.long dx), .second, .val (.long dy), .second, .val (.int (((fx.toInt64) + dx).toInt32)), .val (.int (((fy.toInt64) + dy).toInt32)), .val (.ref b1), .val (.int (if own_A fx wd (((fx.toInt64) + dx).toInt32) ∧ own_A fy ht (((fy.toInt64) + dy).toInt32) then (1 : Int32) else (0 : Int32))), .val (.int inX), .val (.int inY)]) rfl k) ?_
      show OwnEnds _ _ _ _ (T5.setTop (mkF m 96 #[.val (.int fx), .val (.int fy), .val (.int wd), .val (.int ht), .val (.long dx), .second, .val (.long dy), .second, .val (.int (((fx.toInt64) + dx).toInt32)), .val (.int (((fy.toInt64) + dy).toInt32)), .val (.ref b1), .val (.int (if own_A fx wd (((fx.toInt64) + dx).toInt32) ∧ own_A fy ht (((fy.toInt64) + dy).toInt32) then (1 : Int32) else (0 : Int32))), .val (.int inX), .val (.int inY)] []))
      refine OwnEnds.via (fun t k => XS.iload X5.here hx rfl (hb hby at_96) rfl k) ?_
      show OwnEnds _ _ _ _ (T5.setTop (mkF m 98 #[.val (.int fx), .val (.int fy), .val (.int wd), .val (.int ht), .val (.long dx), .second, .val (.long dy), .second, .val (.int (((fx.toInt64) + dx).toInt32)), .val (.int (((fy.toInt64) + dy).toInt32)), .val (.ref b1), .val (.int (if own_A fx wd (((fx.toInt64) + dx).toInt32) ∧ own_A fy ht (((fy.toInt64) + dy).toInt32) then (1 : Int32) else (0 : Int32))), .val (.int inX), .val (.int inY)] [(.int (if own_A fx wd (((fx.toInt64) + dx).toInt32) ∧ own_A fy ht (((fy.toInt64) + dy).toInt32) then (1 : Int32) else (0 : Int32)))]))
      refine OwnEnds.via (fun t k => XS.iload X5.here hx rfl (hb hby at_98) rfl k) ?_
      show OwnEnds _ _ _ _ (T5.setTop (mkF m 100 #[.val (.int fx), .val (.int fy), .val (.int wd), .val (.int ht), .val (.long dx), .second, .val (.long dy), .second, .val (.int (((fx.toInt64) + dx).toInt32)), .val (.int (((fy.toInt64) + dy).toInt32)), .val (.ref b1), .val (.int (if own_A fx wd (((fx.toInt64) + dx).toInt32) ∧ own_A fy ht (((fy.toInt64) + dy).toInt32) then (1 : Int32) else (0 : Int32))), .val (.int inX), .val (.int inY)] [(.int inX), (.int (if own_A fx wd (((fx.toInt64) + dx).toInt32) ∧ own_A fy ht (((fy.toInt64) + dy).toInt32) then (1 : Int32) else (0 : Int32)))]))
      by_cases hc100_6 : inX = (0 : Int32)
      ·
        refine OwnEnds.via (fun t k => XS.ifYes X5.here hx rfl (pc0 := 100) (pc' := 112) rfl (hb hby at_100) rfl ((if0 _ _).trans (teq hc100_6).1) (by decide) (by decide) k) ?_
        show OwnEnds _ _ _ _ (T5.setTop (mkF m 112 #[.val (.int fx), .val (.int fy), .val (.int wd), .val (.int ht), .val (.long dx), .second, .val (.long dy), .second, .val (.int (((fx.toInt64) + dx).toInt32)), .val (.int (((fy.toInt64) + dy).toInt32)), .val (.ref b1), .val (.int (if own_A fx wd (((fx.toInt64) + dx).toInt32) ∧ own_A fy ht (((fy.toInt64) + dy).toInt32) then (1 : Int32) else (0 : Int32))), .val (.int inX), .val (.int inY)] [(.int (if own_A fx wd (((fx.toInt64) + dx).toInt32) ∧ own_A fy ht (((fy.toInt64) + dy).toInt32) then (1 : Int32) else (0 : Int32)))]))
        refine OwnEnds.via (fun t k => XS.iconst X5.here hx rfl (hb hby at_112) k) ?_
        show OwnEnds _ _ _ _ (T5.setTop (mkF m 113 #[.val (.int fx), .val (.int fy), .val (.int wd), .val (.int ht), .val (.long dx), .second, .val (.long dy), .second, .val (.int (((fx.toInt64) + dx).toInt32)), .val (.int (((fy.toInt64) + dy).toInt32)), .val (.ref b1), .val (.int (if own_A fx wd (((fx.toInt64) + dx).toInt32) ∧ own_A fy ht (((fy.toInt64) + dy).toInt32) then (1 : Int32) else (0 : Int32))), .val (.int inX), .val (.int inY)] [(.int (0 : Int32)), (.int (if own_A fx wd (((fx.toInt64) + dx).toInt32) ∧ own_A fy ht (((fy.toInt64) + dy).toInt32) then (1 : Int32) else (0 : Int32)))]))
        refine OwnEnds.via (fun t k => XS.icmpNo X5.here hx rfl (hb hby at_113) rfl (teq (own_0a hj4_0 hc100_6)).2 k) ?_
        show OwnEnds _ _ _ _ (T5.setTop (mkF m 116 #[.val (.int fx), .val (.int fy), .val (.int wd), .val (.int ht), .val (.long dx), .second, .val (.long dy), .second, .val (.int (((fx.toInt64) + dx).toInt32)), .val (.int (((fy.toInt64) + dy).toInt32)), .val (.ref b1), .val (.int (if own_A fx wd (((fx.toInt64) + dx).toInt32) ∧ own_A fy ht (((fy.toInt64) + dy).toInt32) then (1 : Int32) else (0 : Int32))), .val (.int inX), .val (.int inY)] []))
        refine OwnEnds.via (fun t k => XS.iconst X5.here hx rfl (hb hby at_116) k) ?_
        show OwnEnds _ _ _ _ (T5.setTop (mkF m 117 #[.val (.int fx), .val (.int fy), .val (.int wd), .val (.int ht), .val (.long dx), .second, .val (.long dy), .second, .val (.int (((fx.toInt64) + dx).toInt32)), .val (.int (((fy.toInt64) + dy).toInt32)), .val (.ref b1), .val (.int (if own_A fx wd (((fx.toInt64) + dx).toInt32) ∧ own_A fy ht (((fy.toInt64) + dy).toInt32) then (1 : Int32) else (0 : Int32))), .val (.int inX), .val (.int inY)] [(.int (1 : Int32))]))
        refine OwnEnds.via (fun t k => XS.goto X5.here hx rfl (pc0 := 117) (pc' := 121) rfl (hb hby at_117) (by decide) (by decide) k) ?_
        show OwnEnds _ _ _ _ (T5.setTop (mkF m 121 #[.val (.int fx), .val (.int fy), .val (.int wd), .val (.int ht), .val (.long dx), .second, .val (.long dy), .second, .val (.int (((fx.toInt64) + dx).toInt32)), .val (.int (((fy.toInt64) + dy).toInt32)), .val (.ref b1), .val (.int (if own_A fx wd (((fx.toInt64) + dx).toInt32) ∧ own_A fy ht (((fy.toInt64) + dy).toInt32) then (1 : Int32) else (0 : Int32))), .val (.int inX), .val (.int inY)] [(.int (1 : Int32))]))
        obtain ⟨fs, hr, hrun, hended, hW, hsame⟩ := X5.leave (v := some (.int (1 : Int32))) (fun h => by rw [Bd.returns] at h; cases h)
        refine ⟨_, _, ?_, hrun, hended, _, _, rfl, ?_, ⟨_, rfl⟩, hW, hsame.mono (by decide) (by decide)⟩
        · exact retN X5 hx (t := .boolean) Bd.returns (by simp) (hb hby at_121) hr
        · show Q0 Z fx fy wd ht dx dy h0 n0 _ T5.heap _
          rw [e5]
          exact ⟨rfl, N5⟩
      ·
        refine OwnEnds.via (fun t k => XS.ifNo X5.here hx rfl (hb hby at_100) rfl ((if0 _ _).trans (feq hc100_6).1) k) ?_
        show OwnEnds _ _ _ _ (T5.setTop (mkF m 103 #[.val (.int fx), .val (.int fy), .val (.int wd), .val (.int ht), .val (.long dx), .second, .val (.long dy), .second, .val (.int (((fx.toInt64) + dx).toInt32)), .val (.int (((fy.toInt64) + dy).toInt32)), .val (.ref b1), .val (.int (if own_A fx wd (((fx.toInt64) + dx).toInt32) ∧ own_A fy ht (((fy.toInt64) + dy).toInt32) then (1 : Int32) else (0 : Int32))), .val (.int inX), .val (.int inY)] [(.int (if own_A fx wd (((fx.toInt64) + dx).toInt32) ∧ own_A fy ht (((fy.toInt64) + dy).toInt32) then (1 : Int32) else (0 : Int32)))]))
        refine OwnEnds.via (fun t k => XS.iload X5.here hx rfl (hb hby at_103) rfl k) ?_
        show OwnEnds _ _ _ _ (T5.setTop (mkF m 105 #[.val (.int fx), .val (.int fy), .val (.int wd), .val (.int ht), .val (.long dx), .second, .val (.long dy), .second, .val (.int (((fx.toInt64) + dx).toInt32)), .val (.int (((fy.toInt64) + dy).toInt32)), .val (.ref b1), .val (.int (if own_A fx wd (((fx.toInt64) + dx).toInt32) ∧ own_A fy ht (((fy.toInt64) + dy).toInt32) then (1 : Int32) else (0 : Int32))), .val (.int inX), .val (.int inY)] [(.int inY), (.int (if own_A fx wd (((fx.toInt64) + dx).toInt32) ∧ own_A fy ht (((fy.toInt64) + dy).toInt32) then (1 : Int32) else (0 : Int32)))]))
        by_cases hc105_7 : inY = (0 : Int32)
        ·
          refine OwnEnds.via (fun t k => XS.ifYes X5.here hx rfl (pc0 := 105) (pc' := 112) rfl (hb hby at_105) rfl ((if0 _ _).trans (teq hc105_7).1) (by decide) (by decide) k) ?_
          show OwnEnds _ _ _ _ (T5.setTop (mkF m 112 #[.val (.int fx), .val (.int fy), .val (.int wd), .val (.int ht), .val (.long dx), .second, .val (.long dy), .second, .val (.int (((fx.toInt64) + dx).toInt32)), .val (.int (((fy.toInt64) + dy).toInt32)), .val (.ref b1), .val (.int (if own_A fx wd (((fx.toInt64) + dx).toInt32) ∧ own_A fy ht (((fy.toInt64) + dy).toInt32) then (1 : Int32) else (0 : Int32))), .val (.int inX), .val (.int inY)] [(.int (if own_A fx wd (((fx.toInt64) + dx).toInt32) ∧ own_A fy ht (((fy.toInt64) + dy).toInt32) then (1 : Int32) else (0 : Int32)))]))
          refine OwnEnds.via (fun t k => XS.iconst X5.here hx rfl (hb hby at_112) k) ?_
          show OwnEnds _ _ _ _ (T5.setTop (mkF m 113 #[.val (.int fx), .val (.int fy), .val (.int wd), .val (.int ht), .val (.long dx), .second, .val (.long dy), .second, .val (.int (((fx.toInt64) + dx).toInt32)), .val (.int (((fy.toInt64) + dy).toInt32)), .val (.ref b1), .val (.int (if own_A fx wd (((fx.toInt64) + dx).toInt32) ∧ own_A fy ht (((fy.toInt64) + dy).toInt32) then (1 : Int32) else (0 : Int32))), .val (.int inX), .val (.int inY)] [(.int (0 : Int32)), (.int (if own_A fx wd (((fx.toInt64) + dx).toInt32) ∧ own_A fy ht (((fy.toInt64) + dy).toInt32) then (1 : Int32) else (0 : Int32)))]))
          refine OwnEnds.via (fun t k => XS.icmpNo X5.here hx rfl (hb hby at_113) rfl (teq (own_0b hj5_0 hc105_7)).2 k) ?_
          show OwnEnds _ _ _ _ (T5.setTop (mkF m 116 #[.val (.int fx), .val (.int fy), .val (.int wd), .val (.int ht), .val (.long dx), .second, .val (.long dy), .second, .val (.int (((fx.toInt64) + dx).toInt32)), .val (.int (((fy.toInt64) + dy).toInt32)), .val (.ref b1), .val (.int (if own_A fx wd (((fx.toInt64) + dx).toInt32) ∧ own_A fy ht (((fy.toInt64) + dy).toInt32) then (1 : Int32) else (0 : Int32))), .val (.int inX), .val (.int inY)] []))
          refine OwnEnds.via (fun t k => XS.iconst X5.here hx rfl (hb hby at_116) k) ?_
          show OwnEnds _ _ _ _ (T5.setTop (mkF m 117 #[.val (.int fx), .val (.int fy), .val (.int wd), .val (.int ht), .val (.long dx), .second, .val (.long dy), .second, .val (.int (((fx.toInt64) + dx).toInt32)), .val (.int (((fy.toInt64) + dy).toInt32)), .val (.ref b1), .val (.int (if own_A fx wd (((fx.toInt64) + dx).toInt32) ∧ own_A fy ht (((fy.toInt64) + dy).toInt32) then (1 : Int32) else (0 : Int32))), .val (.int inX), .val (.int inY)] [(.int (1 : Int32))]))
          refine OwnEnds.via (fun t k => XS.goto X5.here hx rfl (pc0 := 117) (pc' := 121) rfl (hb hby at_117) (by decide) (by decide) k) ?_
          show OwnEnds _ _ _ _ (T5.setTop (mkF m 121 #[.val (.int fx), .val (.int fy), .val (.int wd), .val (.int ht), .val (.long dx), .second, .val (.long dy), .second, .val (.int (((fx.toInt64) + dx).toInt32)), .val (.int (((fy.toInt64) + dy).toInt32)), .val (.ref b1), .val (.int (if own_A fx wd (((fx.toInt64) + dx).toInt32) ∧ own_A fy ht (((fy.toInt64) + dy).toInt32) then (1 : Int32) else (0 : Int32))), .val (.int inX), .val (.int inY)] [(.int (1 : Int32))]))
          obtain ⟨fs, hr, hrun, hended, hW, hsame⟩ := X5.leave (v := some (.int (1 : Int32))) (fun h => by rw [Bd.returns] at h; cases h)
          refine ⟨_, _, ?_, hrun, hended, _, _, rfl, ?_, ⟨_, rfl⟩, hW, hsame.mono (by decide) (by decide)⟩
          · exact retN X5 hx (t := .boolean) Bd.returns (by simp) (hb hby at_121) hr
          · show Q0 Z fx fy wd ht dx dy h0 n0 _ T5.heap _
            rw [e5]
            exact ⟨rfl, N5⟩
        ·
          refine OwnEnds.via (fun t k => XS.ifNo X5.here hx rfl (hb hby at_105) rfl ((if0 _ _).trans (feq hc105_7).1) k) ?_
          show OwnEnds _ _ _ _ (T5.setTop (mkF m 108 #[.val (.int fx), .val (.int fy), .val (.int wd), .val (.int ht), .val (.long dx), .second, .val (.long dy), .second, .val (.int (((fx.toInt64) + dx).toInt32)), .val (.int (((fy.toInt64) + dy).toInt32)), .val (.ref b1), .val (.int (if own_A fx wd (((fx.toInt64) + dx).toInt32) ∧ own_A fy ht (((fy.toInt64) + dy).toInt32) then (1 : Int32) else (0 : Int32))), .val (.int inX), .val (.int inY)] [(.int (if own_A fx wd (((fx.toInt64) + dx).toInt32) ∧ own_A fy ht (((fy.toInt64) + dy).toInt32) then (1 : Int32) else (0 : Int32)))]))
          refine OwnEnds.via (fun t k => XS.iconst X5.here hx rfl (hb hby at_108) k) ?_
          show OwnEnds _ _ _ _ (T5.setTop (mkF m 109 #[.val (.int fx), .val (.int fy), .val (.int wd), .val (.int ht), .val (.long dx), .second, .val (.long dy), .second, .val (.int (((fx.toInt64) + dx).toInt32)), .val (.int (((fy.toInt64) + dy).toInt32)), .val (.ref b1), .val (.int (if own_A fx wd (((fx.toInt64) + dx).toInt32) ∧ own_A fy ht (((fy.toInt64) + dy).toInt32) then (1 : Int32) else (0 : Int32))), .val (.int inX), .val (.int inY)] [(.int (1 : Int32)), (.int (if own_A fx wd (((fx.toInt64) + dx).toInt32) ∧ own_A fy ht (((fy.toInt64) + dy).toInt32) then (1 : Int32) else (0 : Int32)))]))
          refine OwnEnds.via (fun t k => XS.goto X5.here hx rfl (pc0 := 109) (pc' := 113) rfl (hb hby at_109) (by decide) (by decide) k) ?_
          show OwnEnds _ _ _ _ (T5.setTop (mkF m 113 #[.val (.int fx), .val (.int fy), .val (.int wd), .val (.int ht), .val (.long dx), .second, .val (.long dy), .second, .val (.int (((fx.toInt64) + dx).toInt32)), .val (.int (((fy.toInt64) + dy).toInt32)), .val (.ref b1), .val (.int (if own_A fx wd (((fx.toInt64) + dx).toInt32) ∧ own_A fy ht (((fy.toInt64) + dy).toInt32) then (1 : Int32) else (0 : Int32))), .val (.int inX), .val (.int inY)] [(.int (1 : Int32)), (.int (if own_A fx wd (((fx.toInt64) + dx).toInt32) ∧ own_A fy ht (((fy.toInt64) + dy).toInt32) then (1 : Int32) else (0 : Int32)))]))
          refine OwnEnds.via (fun t k => XS.icmpNo X5.here hx rfl (hb hby at_113) rfl (teq (own_11 hj4_0 hj5_0 hc100_6 hc105_7)).2 k) ?_
          show OwnEnds _ _ _ _ (T5.setTop (mkF m 116 #[.val (.int fx), .val (.int fy), .val (.int wd), .val (.int ht), .val (.long dx), .second, .val (.long dy), .second, .val (.int (((fx.toInt64) + dx).toInt32)), .val (.int (((fy.toInt64) + dy).toInt32)), .val (.ref b1), .val (.int (if own_A fx wd (((fx.toInt64) + dx).toInt32) ∧ own_A fy ht (((fy.toInt64) + dy).toInt32) then (1 : Int32) else (0 : Int32))), .val (.int inX), .val (.int inY)] []))
          refine OwnEnds.via (fun t k => XS.iconst X5.here hx rfl (hb hby at_116) k) ?_
          show OwnEnds _ _ _ _ (T5.setTop (mkF m 117 #[.val (.int fx), .val (.int fy), .val (.int wd), .val (.int ht), .val (.long dx), .second, .val (.long dy), .second, .val (.int (((fx.toInt64) + dx).toInt32)), .val (.int (((fy.toInt64) + dy).toInt32)), .val (.ref b1), .val (.int (if own_A fx wd (((fx.toInt64) + dx).toInt32) ∧ own_A fy ht (((fy.toInt64) + dy).toInt32) then (1 : Int32) else (0 : Int32))), .val (.int inX), .val (.int inY)] [(.int (1 : Int32))]))
          refine OwnEnds.via (fun t k => XS.goto X5.here hx rfl (pc0 := 117) (pc' := 121) rfl (hb hby at_117) (by decide) (by decide) k) ?_
          show OwnEnds _ _ _ _ (T5.setTop (mkF m 121 #[.val (.int fx), .val (.int fy), .val (.int wd), .val (.int ht), .val (.long dx), .second, .val (.long dy), .second, .val (.int (((fx.toInt64) + dx).toInt32)), .val (.int (((fy.toInt64) + dy).toInt32)), .val (.ref b1), .val (.int (if own_A fx wd (((fx.toInt64) + dx).toInt32) ∧ own_A fy ht (((fy.toInt64) + dy).toInt32) then (1 : Int32) else (0 : Int32))), .val (.int inX), .val (.int inY)] [(.int (1 : Int32))]))
          obtain ⟨fs, hr, hrun, hended, hW, hsame⟩ := X5.leave (v := some (.int (1 : Int32))) (fun h => by rw [Bd.returns] at h; cases h)
          refine ⟨_, _, ?_, hrun, hended, _, _, rfl, ?_, ⟨_, rfl⟩, hW, hsame.mono (by decide) (by decide)⟩
          · exact retN X5 hx (t := .boolean) Bd.returns (by simp) (hb hby at_121) hr
          · show Q0 Z fx fy wd ht dx dy h0 n0 _ T5.heap _
            rw [e5]
            exact ⟨rfl, N5⟩
    intro J5
    by_cases hc74_8 : (0 : Int32) < (lcmpW (fy.toInt64) ((((fy.toInt64) + dy).toInt32).toInt64))
    ·
      refine OwnEnds.via (fun t k => XS.ifYes X4.here hx rfl (pc0 := 74) (pc' := 93) rfl (hb hby at_74) rfl ((if0 _ _).trans (tlt hc74_8).2.2.1) (by decide) (by decide) k) ?_
      show OwnEnds _ _ _ _ (T4.setTop (mkF m 93 #[.val (.int fx), .val (.int fy), .val (.int wd), .val (.int ht), .val (.long dx), .second, .val (.long dy), .second, .val (.int (((fx.toInt64) + dx).toInt32)), .val (.int (((fy.toInt64) + dy).toInt32)), .val (.ref b1), .val (.int (if own_A fx wd (((fx.toInt64) + dx).toInt32) ∧ own_A fy ht (((fy.toInt64) + dy).toInt32) then (1 : Int32) else (0 : Int32))), .val (.int inX), .unset] []))
      refine OwnEnds.via (fun t k => XS.iconst X4.here hx rfl (hb hby at_93) k) ?_
      exact J5 _ _ X4 e4 N4 (0 : Int32) (by rw [if_neg (by simp only [own_d, own_e] at hc74_8; unfold own_A; omega)])
    ·
      refine OwnEnds.via (fun t k => XS.ifNo X4.here hx rfl (hb hby at_74) rfl ((if0 _ _).trans (flt hc74_8).2.2.1) k) ?_
      show OwnEnds _ _ _ _ (T4.setTop (mkF m 77 #[.val (.int fx), .val (.int fy), .val (.int wd), .val (.int ht), .val (.long dx), .second, .val (.long dy), .second, .val (.int (((fx.toInt64) + dx).toInt32)), .val (.int (((fy.toInt64) + dy).toInt32)), .val (.ref b1), .val (.int (if own_A fx wd (((fx.toInt64) + dx).toInt32) ∧ own_A fy ht (((fy.toInt64) + dy).toInt32) then (1 : Int32) else (0 : Int32))), .val (.int inX), .unset] []))
      refine OwnEnds.via (fun t k => XS.iload X4.here hx rfl (hb hby at_77) rfl k) ?_
      show OwnEnds _ _ _ _ (T4.setTop (mkF m 79 #[.val (.int fx), .val (.int fy), .val (.int wd), .val (.int ht), .val (.long dx), .second, .val (.long dy), .second, .val (.int (((fx.toInt64) + dx).toInt32)), .val (.int (((fy.toInt64) + dy).toInt32)), .val (.ref b1), .val (.int (if own_A fx wd (((fx.toInt64) + dx).toInt32) ∧ own_A fy ht (((fy.toInt64) + dy).toInt32) then (1 : Int32) else (0 : Int32))), .val (.int inX), .unset] [(.int (((fy.toInt64) + dy).toInt32))]))
      refine OwnEnds.via (fun t k => XS.i2l X4.here hx rfl (hb hby at_79) rfl k) ?_
      show OwnEnds _ _ _ _ (T4.setTop (mkF m 80 #[.val (.int fx), .val (.int fy), .val (.int wd), .val (.int ht), .val (.long dx), .second, .val (.long dy), .second, .val (.int (((fx.toInt64) + dx).toInt32)), .val (.int (((fy.toInt64) + dy).toInt32)), .val (.ref b1), .val (.int (if own_A fx wd (((fx.toInt64) + dx).toInt32) ∧ own_A fy ht (((fy.toInt64) + dy).toInt32) then (1 : Int32) else (0 : Int32))), .val (.int inX), .unset] [(.long ((((fy.toInt64) + dy).toInt32).toInt64))]))
      refine OwnEnds.via (fun t k => XS.iloadN X4.here hx rfl (hb hby at_80) rfl k) ?_
      show OwnEnds _ _ _ _ (T4.setTop (mkF m 81 #[.val (.int fx), .val (.int fy), .val (.int wd), .val (.int ht), .val (.long dx), .second, .val (.long dy), .second, .val (.int (((fx.toInt64) + dx).toInt32)), .val (.int (((fy.toInt64) + dy).toInt32)), .val (.ref b1), .val (.int (if own_A fx wd (((fx.toInt64) + dx).toInt32) ∧ own_A fy ht (((fy.toInt64) + dy).toInt32) then (1 : Int32) else (0 : Int32))), .val (.int inX), .unset] [(.int fy), (.long ((((fy.toInt64) + dy).toInt32).toInt64))]))
      refine OwnEnds.via (fun t k => XS.i2l X4.here hx rfl (hb hby at_81) rfl k) ?_
      show OwnEnds _ _ _ _ (T4.setTop (mkF m 82 #[.val (.int fx), .val (.int fy), .val (.int wd), .val (.int ht), .val (.long dx), .second, .val (.long dy), .second, .val (.int (((fx.toInt64) + dx).toInt32)), .val (.int (((fy.toInt64) + dy).toInt32)), .val (.ref b1), .val (.int (if own_A fx wd (((fx.toInt64) + dx).toInt32) ∧ own_A fy ht (((fy.toInt64) + dy).toInt32) then (1 : Int32) else (0 : Int32))), .val (.int inX), .unset] [(.long (fy.toInt64)), (.long ((((fy.toInt64) + dy).toInt32).toInt64))]))
      refine OwnEnds.via (fun t k => XS.iloadN X4.here hx rfl (hb hby at_82) rfl k) ?_
      show OwnEnds _ _ _ _ (T4.setTop (mkF m 83 #[.val (.int fx), .val (.int fy), .val (.int wd), .val (.int ht), .val (.long dx), .second, .val (.long dy), .second, .val (.int (((fx.toInt64) + dx).toInt32)), .val (.int (((fy.toInt64) + dy).toInt32)), .val (.ref b1), .val (.int (if own_A fx wd (((fx.toInt64) + dx).toInt32) ∧ own_A fy ht (((fy.toInt64) + dy).toInt32) then (1 : Int32) else (0 : Int32))), .val (.int inX), .unset] [(.int ht), (.long (fy.toInt64)), (.long ((((fy.toInt64) + dy).toInt32).toInt64))]))
      refine OwnEnds.via (fun t k => XS.i2l X4.here hx rfl (hb hby at_83) rfl k) ?_
      show OwnEnds _ _ _ _ (T4.setTop (mkF m 84 #[.val (.int fx), .val (.int fy), .val (.int wd), .val (.int ht), .val (.long dx), .second, .val (.long dy), .second, .val (.int (((fx.toInt64) + dx).toInt32)), .val (.int (((fy.toInt64) + dy).toInt32)), .val (.ref b1), .val (.int (if own_A fx wd (((fx.toInt64) + dx).toInt32) ∧ own_A fy ht (((fy.toInt64) + dy).toInt32) then (1 : Int32) else (0 : Int32))), .val (.int inX), .unset] [(.long (ht.toInt64)), (.long (fy.toInt64)), (.long ((((fy.toInt64) + dy).toInt32).toInt64))]))
      refine OwnEnds.via (fun t k => XS.ladd X4.here hx rfl (hb hby at_84) rfl k) ?_
      show OwnEnds _ _ _ _ (T4.setTop (mkF m 85 #[.val (.int fx), .val (.int fy), .val (.int wd), .val (.int ht), .val (.long dx), .second, .val (.long dy), .second, .val (.int (((fx.toInt64) + dx).toInt32)), .val (.int (((fy.toInt64) + dy).toInt32)), .val (.ref b1), .val (.int (if own_A fx wd (((fx.toInt64) + dx).toInt32) ∧ own_A fy ht (((fy.toInt64) + dy).toInt32) then (1 : Int32) else (0 : Int32))), .val (.int inX), .unset] [(.long ((fy.toInt64) + (ht.toInt64))), (.long ((((fy.toInt64) + dy).toInt32).toInt64))]))
      refine OwnEnds.via (fun t k => XS.lcmp X4.here hx rfl (hb hby at_85) rfl k) ?_
      show OwnEnds _ _ _ _ (T4.setTop (mkF m 86 #[.val (.int fx), .val (.int fy), .val (.int wd), .val (.int ht), .val (.long dx), .second, .val (.long dy), .second, .val (.int (((fx.toInt64) + dx).toInt32)), .val (.int (((fy.toInt64) + dy).toInt32)), .val (.ref b1), .val (.int (if own_A fx wd (((fx.toInt64) + dx).toInt32) ∧ own_A fy ht (((fy.toInt64) + dy).toInt32) then (1 : Int32) else (0 : Int32))), .val (.int inX), .unset] [(.int (lcmpW ((((fy.toInt64) + dy).toInt32).toInt64) ((fy.toInt64) + (ht.toInt64))))]))
      by_cases hc86_9 : (lcmpW ((((fy.toInt64) + dy).toInt32).toInt64) ((fy.toInt64) + (ht.toInt64))) < (0 : Int32)
      ·
        refine OwnEnds.via (fun t k => XS.ifNo X4.here hx rfl (hb hby at_86) rfl ((if0 _ _).trans (tlt hc86_9).2.1) k) ?_
        show OwnEnds _ _ _ _ (T4.setTop (mkF m 89 #[.val (.int fx), .val (.int fy), .val (.int wd), .val (.int ht), .val (.long dx), .second, .val (.long dy), .second, .val (.int (((fx.toInt64) + dx).toInt32)), .val (.int (((fy.toInt64) + dy).toInt32)), .val (.ref b1), .val (.int (if own_A fx wd (((fx.toInt64) + dx).toInt32) ∧ own_A fy ht (((fy.toInt64) + dy).toInt32) then (1 : Int32) else (0 : Int32))), .val (.int inX), .unset] []))
        refine OwnEnds.via (fun t k => XS.iconst X4.here hx rfl (hb hby at_89) k) ?_
        show OwnEnds _ _ _ _ (T4.setTop (mkF m 90 #[.val (.int fx), .val (.int fy), .val (.int wd), .val (.int ht), .val (.long dx), .second, .val (.long dy), .second, .val (.int (((fx.toInt64) + dx).toInt32)), .val (.int (((fy.toInt64) + dy).toInt32)), .val (.ref b1), .val (.int (if own_A fx wd (((fx.toInt64) + dx).toInt32) ∧ own_A fy ht (((fy.toInt64) + dy).toInt32) then (1 : Int32) else (0 : Int32))), .val (.int inX), .unset] [(.int (1 : Int32))]))
        refine OwnEnds.via (fun t k => XS.goto X4.here hx rfl (pc0 := 90) (pc' := 94) rfl (hb hby at_90) (by decide) (by decide) k) ?_
        exact J5 _ _ X4 e4 N4 (1 : Int32) (by rw [if_pos (by simp only [own_d, own_e] at hc74_8 hc86_9; unfold own_A; omega)])
      ·
        refine OwnEnds.via (fun t k => XS.ifYes X4.here hx rfl (pc0 := 86) (pc' := 93) rfl (hb hby at_86) rfl ((if0 _ _).trans (flt hc86_9).2.1) (by decide) (by decide) k) ?_
        show OwnEnds _ _ _ _ (T4.setTop (mkF m 93 #[.val (.int fx), .val (.int fy), .val (.int wd), .val (.int ht), .val (.long dx), .second, .val (.long dy), .second, .val (.int (((fx.toInt64) + dx).toInt32)), .val (.int (((fy.toInt64) + dy).toInt32)), .val (.ref b1), .val (.int (if own_A fx wd (((fx.toInt64) + dx).toInt32) ∧ own_A fy ht (((fy.toInt64) + dy).toInt32) then (1 : Int32) else (0 : Int32))), .val (.int inX), .unset] []))
        refine OwnEnds.via (fun t k => XS.iconst X4.here hx rfl (hb hby at_93) k) ?_
        exact J5 _ _ X4 e4 N4 (0 : Int32) (by rw [if_neg (by simp only [own_d, own_e] at hc74_8 hc86_9; unfold own_A; omega)])
  intro J4
  by_cases hc46_10 : (0 : Int32) < (lcmpW (fx.toInt64) ((((fx.toInt64) + dx).toInt32).toInt64))
  ·
    refine OwnEnds.via (fun t k => XS.ifYes X3.here hx rfl (pc0 := 46) (pc' := 65) rfl (hb hby at_46) rfl ((if0 _ _).trans (tlt hc46_10).2.2.1) (by decide) (by decide) k) ?_
    show OwnEnds _ _ _ _ (T3.setTop (mkF m 65 #[.val (.int fx), .val (.int fy), .val (.int wd), .val (.int ht), .val (.long dx), .second, .val (.long dy), .second, .val (.int (((fx.toInt64) + dx).toInt32)), .val (.int (((fy.toInt64) + dy).toInt32)), .val (.ref b1), .val (.int (if own_A fx wd (((fx.toInt64) + dx).toInt32) ∧ own_A fy ht (((fy.toInt64) + dy).toInt32) then (1 : Int32) else (0 : Int32))), .unset, .unset] []))
    refine OwnEnds.via (fun t k => XS.iconst X3.here hx rfl (hb hby at_65) k) ?_
    exact J4 _ _ X3 e3 N3 (0 : Int32) (by rw [if_neg (by simp only [own_d, own_e] at hc46_10; unfold own_A; omega)])
  ·
    refine OwnEnds.via (fun t k => XS.ifNo X3.here hx rfl (hb hby at_46) rfl ((if0 _ _).trans (flt hc46_10).2.2.1) k) ?_
    show OwnEnds _ _ _ _ (T3.setTop (mkF m 49 #[.val (.int fx), .val (.int fy), .val (.int wd), .val (.int ht), .val (.long dx), .second, .val (.long dy), .second, .val (.int (((fx.toInt64) + dx).toInt32)), .val (.int (((fy.toInt64) + dy).toInt32)), .val (.ref b1), .val (.int (if own_A fx wd (((fx.toInt64) + dx).toInt32) ∧ own_A fy ht (((fy.toInt64) + dy).toInt32) then (1 : Int32) else (0 : Int32))), .unset, .unset] []))
    refine OwnEnds.via (fun t k => XS.iload X3.here hx rfl (hb hby at_49) rfl k) ?_
    show OwnEnds _ _ _ _ (T3.setTop (mkF m 51 #[.val (.int fx), .val (.int fy), .val (.int wd), .val (.int ht), .val (.long dx), .second, .val (.long dy), .second, .val (.int (((fx.toInt64) + dx).toInt32)), .val (.int (((fy.toInt64) + dy).toInt32)), .val (.ref b1), .val (.int (if own_A fx wd (((fx.toInt64) + dx).toInt32) ∧ own_A fy ht (((fy.toInt64) + dy).toInt32) then (1 : Int32) else (0 : Int32))), .unset, .unset] [(.int (((fx.toInt64) + dx).toInt32))]))
    refine OwnEnds.via (fun t k => XS.i2l X3.here hx rfl (hb hby at_51) rfl k) ?_
    show OwnEnds _ _ _ _ (T3.setTop (mkF m 52 #[.val (.int fx), .val (.int fy), .val (.int wd), .val (.int ht), .val (.long dx), .second, .val (.long dy), .second, .val (.int (((fx.toInt64) + dx).toInt32)), .val (.int (((fy.toInt64) + dy).toInt32)), .val (.ref b1), .val (.int (if own_A fx wd (((fx.toInt64) + dx).toInt32) ∧ own_A fy ht (((fy.toInt64) + dy).toInt32) then (1 : Int32) else (0 : Int32))), .unset, .unset] [(.long ((((fx.toInt64) + dx).toInt32).toInt64))]))
    refine OwnEnds.via (fun t k => XS.iloadN X3.here hx rfl (hb hby at_52) rfl k) ?_
    show OwnEnds _ _ _ _ (T3.setTop (mkF m 53 #[.val (.int fx), .val (.int fy), .val (.int wd), .val (.int ht), .val (.long dx), .second, .val (.long dy), .second, .val (.int (((fx.toInt64) + dx).toInt32)), .val (.int (((fy.toInt64) + dy).toInt32)), .val (.ref b1), .val (.int (if own_A fx wd (((fx.toInt64) + dx).toInt32) ∧ own_A fy ht (((fy.toInt64) + dy).toInt32) then (1 : Int32) else (0 : Int32))), .unset, .unset] [(.int fx), (.long ((((fx.toInt64) + dx).toInt32).toInt64))]))
    refine OwnEnds.via (fun t k => XS.i2l X3.here hx rfl (hb hby at_53) rfl k) ?_
    show OwnEnds _ _ _ _ (T3.setTop (mkF m 54 #[.val (.int fx), .val (.int fy), .val (.int wd), .val (.int ht), .val (.long dx), .second, .val (.long dy), .second, .val (.int (((fx.toInt64) + dx).toInt32)), .val (.int (((fy.toInt64) + dy).toInt32)), .val (.ref b1), .val (.int (if own_A fx wd (((fx.toInt64) + dx).toInt32) ∧ own_A fy ht (((fy.toInt64) + dy).toInt32) then (1 : Int32) else (0 : Int32))), .unset, .unset] [(.long (fx.toInt64)), (.long ((((fx.toInt64) + dx).toInt32).toInt64))]))
    refine OwnEnds.via (fun t k => XS.iloadN X3.here hx rfl (hb hby at_54) rfl k) ?_
    show OwnEnds _ _ _ _ (T3.setTop (mkF m 55 #[.val (.int fx), .val (.int fy), .val (.int wd), .val (.int ht), .val (.long dx), .second, .val (.long dy), .second, .val (.int (((fx.toInt64) + dx).toInt32)), .val (.int (((fy.toInt64) + dy).toInt32)), .val (.ref b1), .val (.int (if own_A fx wd (((fx.toInt64) + dx).toInt32) ∧ own_A fy ht (((fy.toInt64) + dy).toInt32) then (1 : Int32) else (0 : Int32))), .unset, .unset] [(.int wd), (.long (fx.toInt64)), (.long ((((fx.toInt64) + dx).toInt32).toInt64))]))
    refine OwnEnds.via (fun t k => XS.i2l X3.here hx rfl (hb hby at_55) rfl k) ?_
    show OwnEnds _ _ _ _ (T3.setTop (mkF m 56 #[.val (.int fx), .val (.int fy), .val (.int wd), .val (.int ht), .val (.long dx), .second, .val (.long dy), .second, .val (.int (((fx.toInt64) + dx).toInt32)), .val (.int (((fy.toInt64) + dy).toInt32)), .val (.ref b1), .val (.int (if own_A fx wd (((fx.toInt64) + dx).toInt32) ∧ own_A fy ht (((fy.toInt64) + dy).toInt32) then (1 : Int32) else (0 : Int32))), .unset, .unset] [(.long (wd.toInt64)), (.long (fx.toInt64)), (.long ((((fx.toInt64) + dx).toInt32).toInt64))]))
    refine OwnEnds.via (fun t k => XS.ladd X3.here hx rfl (hb hby at_56) rfl k) ?_
    show OwnEnds _ _ _ _ (T3.setTop (mkF m 57 #[.val (.int fx), .val (.int fy), .val (.int wd), .val (.int ht), .val (.long dx), .second, .val (.long dy), .second, .val (.int (((fx.toInt64) + dx).toInt32)), .val (.int (((fy.toInt64) + dy).toInt32)), .val (.ref b1), .val (.int (if own_A fx wd (((fx.toInt64) + dx).toInt32) ∧ own_A fy ht (((fy.toInt64) + dy).toInt32) then (1 : Int32) else (0 : Int32))), .unset, .unset] [(.long ((fx.toInt64) + (wd.toInt64))), (.long ((((fx.toInt64) + dx).toInt32).toInt64))]))
    refine OwnEnds.via (fun t k => XS.lcmp X3.here hx rfl (hb hby at_57) rfl k) ?_
    show OwnEnds _ _ _ _ (T3.setTop (mkF m 58 #[.val (.int fx), .val (.int fy), .val (.int wd), .val (.int ht), .val (.long dx), .second, .val (.long dy), .second, .val (.int (((fx.toInt64) + dx).toInt32)), .val (.int (((fy.toInt64) + dy).toInt32)), .val (.ref b1), .val (.int (if own_A fx wd (((fx.toInt64) + dx).toInt32) ∧ own_A fy ht (((fy.toInt64) + dy).toInt32) then (1 : Int32) else (0 : Int32))), .unset, .unset] [(.int (lcmpW ((((fx.toInt64) + dx).toInt32).toInt64) ((fx.toInt64) + (wd.toInt64))))]))
    by_cases hc58_11 : (lcmpW ((((fx.toInt64) + dx).toInt32).toInt64) ((fx.toInt64) + (wd.toInt64))) < (0 : Int32)
    ·
      refine OwnEnds.via (fun t k => XS.ifNo X3.here hx rfl (hb hby at_58) rfl ((if0 _ _).trans (tlt hc58_11).2.1) k) ?_
      show OwnEnds _ _ _ _ (T3.setTop (mkF m 61 #[.val (.int fx), .val (.int fy), .val (.int wd), .val (.int ht), .val (.long dx), .second, .val (.long dy), .second, .val (.int (((fx.toInt64) + dx).toInt32)), .val (.int (((fy.toInt64) + dy).toInt32)), .val (.ref b1), .val (.int (if own_A fx wd (((fx.toInt64) + dx).toInt32) ∧ own_A fy ht (((fy.toInt64) + dy).toInt32) then (1 : Int32) else (0 : Int32))), .unset, .unset] []))
      refine OwnEnds.via (fun t k => XS.iconst X3.here hx rfl (hb hby at_61) k) ?_
      show OwnEnds _ _ _ _ (T3.setTop (mkF m 62 #[.val (.int fx), .val (.int fy), .val (.int wd), .val (.int ht), .val (.long dx), .second, .val (.long dy), .second, .val (.int (((fx.toInt64) + dx).toInt32)), .val (.int (((fy.toInt64) + dy).toInt32)), .val (.ref b1), .val (.int (if own_A fx wd (((fx.toInt64) + dx).toInt32) ∧ own_A fy ht (((fy.toInt64) + dy).toInt32) then (1 : Int32) else (0 : Int32))), .unset, .unset] [(.int (1 : Int32))]))
      refine OwnEnds.via (fun t k => XS.goto X3.here hx rfl (pc0 := 62) (pc' := 66) rfl (hb hby at_62) (by decide) (by decide) k) ?_
      exact J4 _ _ X3 e3 N3 (1 : Int32) (by rw [if_pos (by simp only [own_d, own_e] at hc46_10 hc58_11; unfold own_A; omega)])
    ·
      refine OwnEnds.via (fun t k => XS.ifYes X3.here hx rfl (pc0 := 58) (pc' := 65) rfl (hb hby at_58) rfl ((if0 _ _).trans (flt hc58_11).2.1) (by decide) (by decide) k) ?_
      show OwnEnds _ _ _ _ (T3.setTop (mkF m 65 #[.val (.int fx), .val (.int fy), .val (.int wd), .val (.int ht), .val (.long dx), .second, .val (.long dy), .second, .val (.int (((fx.toInt64) + dx).toInt32)), .val (.int (((fy.toInt64) + dy).toInt32)), .val (.ref b1), .val (.int (if own_A fx wd (((fx.toInt64) + dx).toInt32) ∧ own_A fy ht (((fy.toInt64) + dy).toInt32) then (1 : Int32) else (0 : Int32))), .unset, .unset] []))
      refine OwnEnds.via (fun t k => XS.iconst X3.here hx rfl (hb hby at_65) k) ?_
      exact J4 _ _ X3 e3 N3 (0 : Int32) (by rw [if_neg (by simp only [own_d, own_e] at hc46_10 hc58_11; unfold own_A; omega)])

set_option maxRecDepth 65536 in
set_option maxHeartbeats 40000000 in
theorem comes_1 {Post : Tables → Env → Array Value → State → Outcome → State → Prop} (hpost : ∀ tb e args s v u, (limb_1_1.after args s (.returned v) u = true ∧ limb_1_2.after args s (.returned v) u = true ∧ True) → FrameEnd s (.returned v) u (Jvm.fieldLocs frame_1_writes args s ++ Jvm.arrayLocs frame_1_arrays args s ++ Jvm.staticLocs frame_1_statics s) 16 128 → Post tb e args s (.returned v) u) :
    ArmFor flags0 classFile x code maxLocals ret World_1 tables_1 room_1 Calls_1 rest_1 Pre_1 Post := by
  intro l hfl _ _ p e ha hc hk s m args below hf hA hF happ hP
  obtain ⟨hcalls, hrest, hpre⟩ := hP
  obtain ⟨-, -, -, hnamed, -, -, -, hat⟩ := (Spec.applies_iff hf).mp happ
  obtain ⟨hg, hn⟩ := and_e (Cond.before_iff.mp (show (Jvm.Cond.and given_1 narrow_1).before args s = true from hpre))
  obtain ⟨hg0, hh0⟩ := and_e hg
  obtain ⟨hg1, hh1⟩ := and_e hh0
  obtain ⟨hg2, hh2⟩ := and_e hh1
  obtain ⟨hg3, hh3⟩ := and_e hh2
  obtain ⟨hg4, hh4⟩ := and_e hh3
  obtain ⟨hg5, hh5⟩ := and_e hh4
  obtain ⟨w0, w1, w2, w3, w4, w5, rfl⟩ : ∃ w0 w1 w2 w3 w4 w5 : Value, args = #[w0, w1, w2, w3, w4, w5] := by
    have hs : args.size = 6 := by simpa [Cond.value, given_1] using hg0
    obtain ⟨L⟩ := args
    match L, hs with
    | [w0, w1, w2, w3, w4, w5], _ => exact ⟨w0, w1, w2, w3, w4, w5, rfl⟩
  have hw := fun d (hd : d ∈ tables_1) => atoms_spec (ws := Jvm.Cond.code x code maxLocals ret :: tables_1) hat d (List.mem_cons_of_mem _ hd)
  have hfit : Fit s := fun {y c} hc i hi => by
    obtain ⟨ha, rfl⟩ := Array.getElem?_eq_some_iff.mp hc
    have q := List.all_eq_true.mp ((Array.all_eq_true_iff_forall_mem.mp hF) _ (Array.getElem_mem ha)) i (List.mem_range.mpr hi)
    simpa [Array.getElem?_eq_getElem hi] using q
  obtain ⟨i0, ei0⟩ := is_v hg1
  obtain rfl : w0 = (.int i0) := Option.some.inj ei0
  obtain ⟨i1, ei1⟩ := is_v hg2
  obtain rfl : w1 = (.int i1) := Option.some.inj ei1
  obtain ⟨i2, ei2⟩ := is_v hg3
  obtain rfl : w2 = (.int i2) := Option.some.inj ei2
  obtain ⟨i3, ei3⟩ := is_v hg4
  obtain rfl : w3 = (.int i3) := Option.some.inj ei3
  obtain ⟨i4, ei4⟩ := isL_v hg5
  obtain rfl : w4 = (.long i4) := Option.some.inj ei4
  obtain ⟨i5, ei5⟩ := isL_v hh5
  obtain rfl : w5 = (.long i5) := Option.some.inj ei5
  obtain ⟨n, o, h1, h2, h3, _, L, rfl, ⟨rfl, N⟩, hq⟩ := rm0 l s _ hw tables_1 i0 i1 i2 i3 i4 i5 s.heap s.heap.size (Nat.le_refl _) p e ha hc hk s m _ below hf ((Spec.applies_iff_loose hf).mp happ).1 ⟨rfl, State.Warmed39.refl s, rfl⟩ trivial
  refine ⟨n, _, h1, h2, h3, hpost _ _ _ _ _ _ ⟨Cond.after_iff.mpr rfl, Cond.after_iff.mpr (eq_i res_at (Term.int_eval (1)) rfl), trivial⟩ ⟨hq.1, hq.2.1, (hq.2.2.sift fun y hy => Or.inr (N y hy)).mono (by decide) (by decide)⟩⟩
theorem main_1_1 : Claimed_1_1 := comes_1 fun _ _ _ _ _ _ h hF => ⟨h.1, hF⟩
theorem main_1_2 : Claimed_1_2 := comes_1 fun _ _ _ _ _ _ h hF => ⟨h.2.1, hF⟩
end Jvm.Pilot.@@N@@
namespace Jvm.Pilot.@@N@@
open Jvm Jvm.ClassFile Sem Op Lib Jvm.Free Jvm.Stand Jvm.Pilot.@@N@@.Jvm.D
/-! MADE BY PROGRAM (witnessworld.py) out of the Statement's table words and the real class files: 9 classes; the members and pool entries that the words name. The judged class is class 1, her method 1. -/
namespace start1
open Jvm.ClassFile
def u (s : String) : CpInfo := .utf8 (stringToUtf16 s)
/-- a pool by its gaps: so many unusable entries, then the entry; so many at the end -/
def gap : Nat → List CpInfo → List CpInfo
  | 0, r => r
  | n + 1, r => .unusable :: gap n r
def poolList (es : List (Nat × CpInfo)) (last : Nat) : List CpInfo := es.foldr (fun e r => gap e.1 (e.2 :: r)) (gap last [])
def pool (es : List (Nat × CpInfo)) (last : Nat) : Array CpInfo := ⟨poolList es last⟩
def fileOf (pool : Array CpInfo) (this : Nat) (attrs : Array Attribute := #[]) (ms : Array MethodInfo := #[]) (fl : Nat := 33) (sup : Nat := 0) (ifs : Array Nat := #[]) (fds : Array FieldInfo := #[]) : ClassFile where
  minorVersion := 0
  majorVersion := 65
  constantPool := pool
  accessFlags := fl
  thisClass := this
  superClass := sup
  interfaces := ifs
  fields := fds
  methods := ms
  attributes := attrs
def plain (name : String) (sup : Option ClassId) : Class where
  name := name
  kind := .ordinary
  loader := none
  accessFlags := 33
  super := sup
  interfaces := #[]
  cf := none
  fields := #[]
  methods := #[]
  instanceTypes := #[]
  staticTypes := #[]
  resolved := #[]
  callSites := []
  init := .initialized
  statics := none
  mirror := none

def pool0 : Array CpInfo := pool [(5, u "<init>"), (0, u "()V"), (1, .class_ 10), (1, u "java/lang/Object")] 113

def k0c0 : Code := { maxStack := 0, maxLocals := 1, code := object_method_1_code, exceptionTable := #[], attributes := #[] }
def k0m0 : Method := { name := "<init>", desc := "()V", sig := { parameters := [], returnType := none }, accessFlags := 1, code := some k0c0 }
/-- java/lang/Object -/
def k0 : Class := { plain "java/lang/Object" none with
  accessFlags := 33
  interfaces := #[]
  cf := some (fileOf pool0 8 #[] #[{ accessFlags := 1, nameIndex := 5, descriptorIndex := 6, attributes := #[] }] 33 0 #[] #[])
  fields := #[]
  methods := #[k0m0]
  instanceTypes := #[]
  staticTypes := #[]
  resolved := Array.replicate 124 none
  statics := none }

def pool1 : Array CpInfo := pool [(2, .class_ 4), (1, u "java/lang/Object"), (0, u "<init>"), (0, u "()V"), (0, .class_ 8), (0, u "com/example/usher_panes/usherpanes/model/Frame"), (0, .methodref 7 10), (0, .nameAndType 5 11), (0, u "(IIII)V"), (0, .methodref 7 13), (0, .nameAndType 14 15), (0, u "contains"), (0, u "(II)Z"), (0, .class_ 17), (0, u "com/example/usher_panes/usherpanes/model/FrameContainsPinLaw"), (2, u "law"), (0, u "(IIIIJJ)Z")] 3

def k1m0 : Method := { name := "<init>", desc := "()V", sig := { parameters := [], returnType := none }, accessFlags := 1, code := none }
def k1c1 : Code := { maxStack := 6, maxLocals := 14, code := code, exceptionTable := #[], attributes := #[] }
def k1m1 : Method := { name := "law", desc := "(IIIIJJ)Z", sig := { parameters := [.int, .int, .int, .int, .long, .long], returnType := some .boolean }, accessFlags := 9, code := some k1c1 }
/-- com/example/usher_panes/usherpanes/model/FrameContainsPinLaw -/
def k1 : Class := { plain "com/example/usher_panes/usherpanes/model/FrameContainsPinLaw" (some 0) with
  accessFlags := 49
  interfaces := #[]
  cf := some (fileOf pool1 16 #[] #[{ accessFlags := 1, nameIndex := 5, descriptorIndex := 6, attributes := #[] }, { accessFlags := 9, nameIndex := 20, descriptorIndex := 21, attributes := #[] }] 49 2 #[] #[])
  fields := #[]
  methods := #[k1m0, k1m1]
  instanceTypes := #[]
  staticTypes := #[]
  resolved := Array.replicate 25 none
  statics := none }

def pool2 : Array CpInfo := pool [(1, .methodref 2 3), (0, .class_ 4), (0, .nameAndType 5 6), (0, u "java/lang/Object"), (0, u "<init>"), (0, u "()V"), (0, .fieldref 8 9), (0, .class_ 10), (0, .nameAndType 11 12), (0, u "com/example/usher_panes/usherpanes/model/Frame"), (0, u "x"), (0, u "I"), (0, .fieldref 8 14), (0, .nameAndType 15 12), (0, u "y"), (0, .fieldref 8 17), (0, .nameAndType 18 12), (0, u "width"), (0, .fieldref 8 20), (0, .nameAndType 21 12), (0, u "height"), (25, u "(IIII)V"), (33, u "contains"), (0, u "(II)Z")] 29

def k2c0 : Code := { maxStack := 2, maxLocals := 5, code := prog_53_method_1_code, exceptionTable := #[], attributes := #[] }
def k2m0 : Method := { name := "<init>", desc := "(IIII)V", sig := { parameters := [.int, .int, .int, .int], returnType := none }, accessFlags := 1, code := some k2c0 }
def k2c1 : Code := { maxStack := 4, maxLocals := 3, code := prog_53_method_6_code, exceptionTable := #[], attributes := #[] }
def k2m1 : Method := { name := "contains", desc := "(II)Z", sig := { parameters := [.int, .int], returnType := some .boolean }, accessFlags := 1, code := some k2c1 }
/-- com/example/usher_panes/usherpanes/model/Frame -/
def k2 : Class := { plain "com/example/usher_panes/usherpanes/model/Frame" (some 0) with
  accessFlags := 49
  interfaces := #[]
  cf := some (fileOf pool2 8 #[] #[{ accessFlags := 1, nameIndex := 5, descriptorIndex := 47, attributes := #[] }, { accessFlags := 1, nameIndex := 81, descriptorIndex := 82, attributes := #[] }] 49 2 #[] #[{ accessFlags := 18, nameIndex := 11, descriptorIndex := 12, attributes := #[] }, { accessFlags := 18, nameIndex := 15, descriptorIndex := 12, attributes := #[] }, { accessFlags := 18, nameIndex := 18, descriptorIndex := 12, attributes := #[] }, { accessFlags := 18, nameIndex := 21, descriptorIndex := 12, attributes := #[] }])
  fields := #[{ name := "x", type := .int, accessFlags := 18, slot := 0, constantValue := 0 }, { name := "y", type := .int, accessFlags := 18, slot := 1, constantValue := 0 }, { name := "width", type := .int, accessFlags := 18, slot := 2, constantValue := 0 }, { name := "height", type := .int, accessFlags := 18, slot := 3, constantValue := 0 }]
  methods := #[k2m0, k2m1]
  instanceTypes := #[.int, .int, .int, .int]
  staticTypes := #[]
  resolved := Array.replicate 112 none
  statics := none }

def pool3 : Array CpInfo := pool [(1, u "java/lang/Cloneable"), (0, .class_ 1), (0, u "java/lang/Object"), (0, .class_ 3)] 3

/-- java/lang/Cloneable -/
def k3 : Class := { plain "java/lang/Cloneable" (some 0) with
  accessFlags := 1537
  interfaces := #[]
  cf := some (fileOf pool3 2 #[] #[] 1537 4 #[] #[])
  fields := #[]
  methods := #[]
  instanceTypes := #[]
  staticTypes := #[]
  resolved := Array.replicate 8 none
  statics := none }

def pool4 : Array CpInfo := pool [(1, u "java/io/Serializable"), (0, .class_ 1), (0, u "java/lang/Object"), (0, .class_ 3)] 3

/-- java/io/Serializable -/
def k4 : Class := { plain "java/io/Serializable" (some 0) with
  accessFlags := 1537
  interfaces := #[]
  cf := some (fileOf pool4 2 #[] #[] 1537 4 #[] #[])
  fields := #[]
  methods := #[]
  instanceTypes := #[]
  staticTypes := #[]
  resolved := Array.replicate 8 none
  statics := none }

/-- the primitive byte -/
def k5 : Class := { plain "byte" none with kind := .primitive 'B', accessFlags := 0x411 }
/-- [B -/
def k6 : Class := { plain "[B" (some 0) with kind := .array 5 .byte, interfaces := #[3, 4], accessFlags := 1041 }

/-- the primitive int -/
def k7 : Class := { plain "int" none with kind := .primitive 'I', accessFlags := 0x411 }
/-- [I -/
def k8 : Class := { plain "[I" (some 0) with kind := .array 7 .int, interfaces := #[3, 4], accessFlags := 1041 }

def heap : Heap := #[]
def classes : Array Class := #[k0, k1, k2, k3, k4, k5, k6, k7, k8]
def interned : List (Array UInt16 × Addr) := []
def slotsUsed : Nat := 0
def theMethod : MethodId := ⟨1, 1⟩
def args0 : Array Value := #[.int 3, .int 7, .int 5, .int 5, .long 1, .long 2]
def aboutOver (below : List Frame) : State where
  vm := { classes := classes, interned := interned.toArray }
  heap := heap
  slotsUsed := slotsUsed
  threads := #[{ frames := .invoking theMethod args0 :: below }]
def below0 : List Frame := [.native { method := ⟨0, 0⟩, args := #[] }]
def about1 : State := aboutOver below0
def p0 : Program := .bare "" "" ""
def e0 : Env := launch0.env 0 0 0
theorem w_frames : about1.frames = Frame.invoking theMethod args0 :: below0 := rfl
set_option maxRecDepth 65536 in
theorem w_args : argsFit about1.vm theMethod args0 = true := by decide +kernel
set_option maxRecDepth 65536 in
theorem w_heap : heapFits about1 = true := by decide +kernel
set_option maxRecDepth 65536 in
theorem w_runnable : about1.curStatus? = some .runnable := by decide +kernel
set_option maxRecDepth 65536 in
theorem w_alone : about1.alone = true := by decide +kernel
set_option maxRecDepth 65536 in
theorem w_named : about1.methodNamed? x = some theMethod := by decide +kernel
set_option maxRecDepth 65536 in
theorem w_hears : about1.hears theMethod below0 = true := by decide +kernel
set_option maxRecDepth 65536 in
theorem w_ripe : about1.ripe theMethod args0 below0 = true := by decide +kernel
theorem w_running : about1.status = .running := rfl
set_option maxRecDepth 65536 in
theorem w_room : about1.hasRoom e0.platform room_1 = true :=
  launch0.hasRoom_least _ room_1 (by decide +kernel) (by decide +kernel) (by decide +kernel) (by decide +kernel) (by decide +kernel) (by decide +kernel)
theorem allAtoms_all (ts : List Jvm.Cond) (a : Array Jvm.Value) (st : Jvm.State) : (allAtoms ts).before a st = ts.all (fun c => c.before a st) := by
  induction ts with
  | nil => rfl
  | cons c t ih =>
    show (Jvm.Cond.and c (allAtoms t)).before a st = _
    rw [Jvm.Cond.before_and, ih, List.all_cons]
def words1 : List Jvm.Cond := Jvm.Cond.code x code maxLocals ret :: tables_1
/-- a 'code' word, met by the world's own term for the bytes: nothing is compared byte by byte -/
theorem code_word {y : MethodName} {bytes : ByteArray} {mx : Nat} {rt : Option FieldType} {a : Array Value} {s : State} {m : MethodId} {meth : Method} {c : Code} (h1 : s.methodNamed? y = some m) (h2 : s.vm.method? m = some meth) (h3 : meth.code = some c) (h4 : c.code = bytes)
    (h5 : (c.maxLocals == mx && c.exceptionTable.isEmpty && decide (c.maxStack ≤ mostOperands) && decide (meth.sig.returnType = rt) && !meth.locks && decide (parseMethodDescriptor y.desc = some meth.sig)) = true) : (Jvm.Cond.code y bytes mx rt).before a s = true := by
  simp only [Bool.and_eq_true, beq_iff_eq, Bool.not_eq_true', decide_eq_true_eq] at h5
  obtain ⟨⟨⟨⟨⟨g1, g2⟩, g3⟩, g4⟩, g5⟩, g6⟩ := h5
  simp [Cond.before, Cond.holds, Cond.value, h1, h2, h3, h4, g1, g2, g3, g4, g5, g6]
def isCode : Jvm.Cond → Bool
  | .code _ _ _ _ => true
  | _ => false
theorem all_split {L : List Jvm.Cond} {P : Jvm.Cond → Bool} (h1 : L.all (fun c => isCode c || P c) = true) (h2 : ∀ c ∈ L.filter isCode, P c = true) : L.all P = true := by
  refine List.all_eq_true.mpr fun c hc => ?_
  have h := List.all_eq_true.mp h1 c hc
  rcases Bool.eq_false_or_eq_true (isCode c) with hi | hi
  · exact h2 c (List.mem_filter.mpr ⟨hc, hi⟩)
  · simpa [hi] using h
set_option maxRecDepth 65536 in
theorem w_c0 : (Jvm.Cond.code x code maxLocals ret).before args0 about1 = true := code_word (m := ⟨1, 1⟩) (meth := k1m1) (c := k1c1) (by decide +kernel) rfl rfl rfl (by decide +kernel)
set_option maxRecDepth 65536 in
theorem w_c1 : (Jvm.Cond.code ({ cls := "com/example/usher_panes/usherpanes/model/Frame", name := "<init>", desc := "(IIII)V" } : Jvm.MethodName) prog_53_method_1_code (5 : Nat) (Option.none : Option Jvm.ClassFile.FieldType)).before args0 about1 = true := code_word (m := ⟨2, 0⟩) (meth := k2m0) (c := k2c0) (by decide +kernel) rfl rfl rfl (by decide +kernel)
set_option maxRecDepth 65536 in
theorem w_c2 : (Jvm.Cond.code ({ cls := "java/lang/Object", name := "<init>", desc := "()V" } : Jvm.MethodName) object_method_1_code (1 : Nat) (Option.none : Option Jvm.ClassFile.FieldType)).before args0 about1 = true := code_word (m := ⟨0, 0⟩) (meth := k0m0) (c := k0c0) (by decide +kernel) rfl rfl rfl (by decide +kernel)
set_option maxRecDepth 65536 in
theorem w_c3 : (Jvm.Cond.code ({ cls := "com/example/usher_panes/usherpanes/model/Frame", name := "contains", desc := "(II)Z" } : Jvm.MethodName) prog_53_method_6_code (3 : Nat) (Option.some Jvm.ClassFile.FieldType.boolean)).before args0 about1 = true := code_word (m := ⟨2, 1⟩) (meth := k2m1) (c := k2c1) (by decide +kernel) rfl rfl rfl (by decide +kernel)
def codes1 : List Jvm.Cond := [Jvm.Cond.code x code maxLocals ret, Jvm.Cond.code ({ cls := "com/example/usher_panes/usherpanes/model/Frame", name := "<init>", desc := "(IIII)V" } : Jvm.MethodName) prog_53_method_1_code (5 : Nat) (Option.none : Option Jvm.ClassFile.FieldType), Jvm.Cond.code ({ cls := "java/lang/Object", name := "<init>", desc := "()V" } : Jvm.MethodName) object_method_1_code (1 : Nat) (Option.none : Option Jvm.ClassFile.FieldType), Jvm.Cond.code ({ cls := "com/example/usher_panes/usherpanes/model/Frame", name := "contains", desc := "(II)Z" } : Jvm.MethodName) prog_53_method_6_code (3 : Nat) (Option.some Jvm.ClassFile.FieldType.boolean)]
set_option maxRecDepth 65536 in
theorem codes_eq : words1.filter isCode = codes1 := rfl
theorem w_codes : ∀ c ∈ words1.filter isCode, c.before args0 about1 = true := by
  rw [codes_eq]
  intro c hc
  simp only [codes1, List.mem_cons, List.not_mem_nil, or_false] at hc
  rcases hc with rfl | rfl | rfl | rfl
  · exact w_c0
  · exact w_c1
  · exact w_c2
  · exact w_c3
set_option maxRecDepth 65536 in
theorem w_t1 : words1.all (fun c => isCode c || c.before args0 about1) = true := by decide +kernel
theorem w_tables : (allAtoms (Jvm.Cond.code x code maxLocals ret :: tables_1)).before args0 about1 = true := by
  rw [allAtoms_all]
  show words1.all (fun c => c.before args0 about1) = true
  refine all_split ?_ w_codes
  rw [w_t1]
set_option maxRecDepth 65536 in
theorem w_case : (Jvm.Cond.and given_1 narrow_1).before args0 about1 = true := by decide +kernel
theorem w_applies : (headSpec (Jvm.Cond.code x code maxLocals ret :: tables_1) room_1).applies x e0.platform about1 = true :=
  (Spec.applies_iff w_frames).mpr ⟨w_running, w_runnable, w_alone, w_named, w_hears, w_ripe, w_room, w_tables⟩
theorem atStart : AtStart classFile x code maxLocals ret World_1 tables_1 room_1 Calls_1 rest_1 Pre_1 launch0 p0 e0 about1 theMethod args0 below0 :=
  ⟨lists_1, trivial, launch0.admits_env _ _ _, launch0.least_env, fairChoices_fair.cas, fairChoices_fair.clock, w_frames, w_args, w_heap, w_applies, trivial, trivial, w_case⟩
end start1
theorem witness_1 : WitnessClaimed_1 := ⟨start1.p0, start1.e0, start1.about1, start1.theMethod, start1.args0, start1.below0, start1.atStart⟩
end Jvm.Pilot.@@N@@
