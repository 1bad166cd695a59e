import JvmDerived
import JvmDerived.Pilot.@@N@@Statement
import JvmDerived.Pilot.@@N@@Code
set_option linter.unusedVariables false
set_option linter.unusedSimpArgs false
namespace Jvm.RoadKit
open Sem ClassFile Op Lib Jvm.Stand Jvm.Free Jvm.LawKit
section New
variable {p : Program} {l : Launch} {e : Env} {R : Room} {s : State} {m : MethodId} {args : Array Value} {below : List Frame} {meth : Method} {c : Code} {T : State} {locs : List Loc} {cells slots : Nat}
theorem retI (X : Stand p l e R s m args below meth c T locs cells slots) (hx : p.tables.exec = Jvm.exec) {pc : Nat} {Ls : Array Slot} {z : Int32} {rest : List Value} (hret : meth.sig.returnType = some .int) (hd : decode c.code pc = .ok (.ireturn, 1)) {fs : List Frame}
    (hl : ∀ (f : JFrame) (acts : List Action), f.method = m → f.locked = none → f.entered = [] → (doReturn e (T.setTop f) acts (some (.int z))).1 = T.setFrames fs) : Steps p.tables e below (T.setTop (mkF m pc Ls (.int z :: rest))) (T.setFrames fs) := by
  have hm' : T.vm.method? m = some meth := X.method'
  have hn : narrow .int (.int z) = .int z := rfl
  show Steps p.tables e below (T.setTop { method := m, pc := pc, locals := Ls, stack := _ :: rest, locked := none }) _
  jvm_step X.here [X.here.top, hx, hd, hm', hret, hn]
  first | (intro acts; rw [hl _ acts rfl rfl rfl]) | rw [hl _ _ rfl rfl rfl]
  exact Steps.refl _
end New
/-- from W the run comes to a state and an outcome of which K holds -/
def OwnEnds (tb : Tables) (e : Env) (below : List Frame) (K : State → Outcome → Prop) (W : State) : Prop := ∃ t o, Steps tb e below W t ∧ K t o
theorem OwnEnds.via {tb : Tables} {e : Env} {below : List Frame} {K : State → Outcome → Prop} {W W' : State} (f : ∀ t, Steps tb e below W' t → Steps tb e below W t) (h : OwnEnds tb e below K W') : OwnEnds tb e below K W := by
  obtain ⟨t, o, h1, h2⟩ := h
  exact ⟨t, o, f t h1, h2⟩
theorem OwnEnds.cut {tb : Tables} {e : Env} {below : List Frame} {K : State → Outcome → Prop} {W : State} (A : (State → Prop) → Prop) (h1 : A (OwnEnds tb e below K)) (h2 : A (OwnEnds tb e below K) → OwnEnds tb e below K W) : OwnEnds tb e below K W := h2 h1
end Jvm.RoadKit
namespace Jvm.Pilot.@@N@@
open Jvm Jvm.ClassFile Sem Op Lib Jvm.Free Jvm.Stand Jvm.LawKit Jvm.RoadKit Bundle Jvm.Pilot.@@N@@.Jvm.D
theorem own_root {Z : State} {a0 : Array Value} {O K : String} {n : Nat} (w : (Cond.noSuperclass O).before a0 Z = true) (wk : (Cond.instantiable K n).before a0 Z = true) (hn : O ≠ K) : NS Z O K := by
  obtain ⟨c, k, h1, h2, h3, -, -⟩ := Cond.noSuperclass_spec w
  obtain ⟨t, kt, g1, -⟩ := Cond.instantiable_spec wk
  have ne := ids_ne h1 g1 hn
  refine ⟨c, t, h1, g1, fun fuel => ?_⟩
  cases fuel with
  | zero => rfl
  | succ f => simp [Vm.isSubclassAux, ne, h2, h3]
theorem own_no {Z : State} {a0 : Array Value} {C S K : String} {n : Nat} (w : (Cond.superclass C S).before a0 Z = true) (wk : (Cond.instantiable K n).before a0 Z = true) (q : NS Z C K) (hn : C ≠ K) : ∃ c t, Z.vm.findClass C = some c ∧ Z.vm.findClass K = some t ∧ Z.vm.assignable c t = false := by
  obtain ⟨c, t, h0, g0, n3⟩ := q
  obtain ⟨p, k, kp, h1, h2, h3, h4, h5, -, h7⟩ := Cond.superclass_spec h0 w
  obtain ⟨t', kt, g1, g2, g3, g4, -⟩ := Cond.instantiable_spec wk
  cases g0.symm.trans g1
  have ne := ids_ne h0 g0 hn
  have g5 : kt.isInterface = false := (Bool.or_eq_false_iff.mp g4).1
  refine ⟨c, t, h0, g0, ?_⟩
  show Z.vm.assignableAux (255 + 1) c t = false
  simp [Vm.assignableAux, ne, h2, g2, h5, g3, g5, Vm.isSubclass, n3]
theorem own_len {args : Array Value} {first s : State} {o : Option Outcome} {idx : List Nat} {t : Term} {x : Addr} {cl : Cell} {k : Int32} (ht : t.eval args first o idx s = some (.ref x)) (ha : s.arrayAt? x = some cl) (h : (Term.length t).eval args first o idx s = some (.int k)) : cl.slots.size < 2 ^ 31 ∧ cl.slots.size.toInt32 = k := by
  by_cases hl : cl.slots.size < 2 ^ 31
  · rw [len_f ht ha hl] at h
    exact ⟨hl, Value.int.inj (Option.some.inj h)⟩
  · simp [Term.eval, ht, ha, hl] at h
theorem own_idx (p : Int32) (h1 : ¬ p < (-128 : Int32)) (h2 : ¬ (127 : Int32) < p) : ¬ (p + (128 : Int32)) < 0 ∧ (p + (128 : Int32)) < (256 : Int32) := by
  rw [Int32.lt_iff_toInt_lt] at *
  rw [Int32.lt_iff_toInt_lt]
  have a := c_iadd p 128
  have r := rng32 p
  have r2 := rng32 (p + 128)
  have z1 : (-128 : Int32).toInt = -128 := by decide
  have z2 : (127 : Int32).toInt = 127 := by decide
  have z3 : (128 : Int32).toInt = 128 := by decide
  have z4 : (256 : Int32).toInt = 256 := by decide
  have z5 : (0 : Int32).toInt = 0 := by decide
  omega

theorem d1_0 : decode prog_53_method_1_code 0 = .ok (.aload_n 0, 1) := by decide +kernel
theorem d1_1 : decode prog_53_method_1_code 1 = .ok (.invokespecial 1, 3) := by decide +kernel
theorem d1_4 : decode prog_53_method_1_code 4 = .ok (.aload_n 0, 1) := by decide +kernel
theorem d1_5 : decode prog_53_method_1_code 5 = .ok (.iload_n 1, 1) := by decide +kernel
theorem d1_6 : decode prog_53_method_1_code 6 = .ok (.putfield 7, 3) := by decide +kernel
theorem d1_9 : decode prog_53_method_1_code 9 = .ok (.aload_n 0, 1) := by decide +kernel
theorem d1_10 : decode prog_53_method_1_code 10 = .ok (.iload_n 2, 1) := by decide +kernel
theorem d1_11 : decode prog_53_method_1_code 11 = .ok (.putfield 13, 3) := by decide +kernel
theorem d1_14 : decode prog_53_method_1_code 14 = .ok (.aload_n 0, 1) := by decide +kernel
theorem d1_15 : decode prog_53_method_1_code 15 = .ok (.iload_n 3, 1) := by decide +kernel
theorem d1_16 : decode prog_53_method_1_code 16 = .ok (.putfield 16, 3) := by decide +kernel
theorem d1_19 : decode prog_53_method_1_code 19 = .ok (.aload_n 0, 1) := by decide +kernel
theorem d1_20 : decode prog_53_method_1_code 20 = .ok (.iload 4, 2) := by decide +kernel
theorem d1_22 : decode prog_53_method_1_code 22 = .ok (.putfield 19, 3) := by decide +kernel
theorem d1_25 : decode prog_53_method_1_code 25 = .ok (.return_, 1) := by decide +kernel
theorem pn_rm1 : plainName "com/example/usher_panes/usherpanes/model/Frame" = true := by first | (simp [plainName, overriddenIn]; done) | decide +kernel
theorem ef_rm1 (m : MethodId) (a : Addr) (fx : Int32) (fy : Int32) (wd : Int32) (ht : Int32) : entryFrame m #[(.ref a), (.int fx), (.int fy), (.int wd), (.int ht)] 5 = mkF m 0 #[.val (.ref a), .val (.int fx), .val (.int fy), .val (.int wd), .val (.int ht)] [] := by first | (simp [entryFrame, mkF, argsToLocals, Value.category]; done) | rfl
def Q1 (Z : State) (a : Addr) (fx : Int32) (fy : Int32) (wd : Int32) (ht : Int32) (h0 : Heap) (n0 : Nat) (v : Option Value) (h : Heap) (L : List Loc) : Prop := v = none ∧ Fr n0 L ∧ Keep h0 h [a] ∧ Exa Z h a "com/example/usher_panes/usherpanes/model/Frame" ∧ Fld Z h a "com/example/usher_panes/usherpanes/model/Frame" "x" "I" (.int fx) ∧ Fld Z h a "com/example/usher_panes/usherpanes/model/Frame" "y" "I" (.int fy) ∧ Fld Z h a "com/example/usher_panes/usherpanes/model/Frame" "width" "I" (.int wd) ∧ Fld Z h a "com/example/usher_panes/usherpanes/model/Frame" "height" "I" (.int ht)
set_option maxRecDepth 65536 in
set_option maxHeartbeats 40000000 in
theorem rm1 (l : Launch) (Z : State) (a0 : Array Value) (hw : ∀ d ∈ tables_1, d.before a0 Z = true) (ws : List Jvm.Cond) (a : Addr) (fx : Int32) (fy : Int32) (wd : Int32) (ht : Int32) (h0 : Heap) (n0 : Nat) (Z0 : n0 ≤ h0.size) (P0 : Exa Z h0 a "com/example/usher_panes/usherpanes/model/Frame") (P1 : Fld Z h0 a "com/example/usher_panes/usherpanes/model/Frame" "x" "I" (.int (0 : Int32))) (P2 : Fld Z h0 a "com/example/usher_panes/usherpanes/model/Frame" "y" "I" (.int (0 : Int32))) (P3 : Fld Z h0 a "com/example/usher_panes/usherpanes/model/Frame" "width" "I" (.int (0 : Int32))) (P4 : Fld Z h0 a "com/example/usher_panes/usherpanes/model/Frame" "height" "I" (.int (0 : Int32))) (P5 : n0 ≤ a) :
    MetFree l (⟨"com/example/usher_panes/usherpanes/model/Frame", "<init>", "(IIII)V"⟩ : MethodName) (head1 (Jvm.Cond.code (⟨"com/example/usher_panes/usherpanes/model/Frame", "<init>", "(IIII)V"⟩ : MethodName) prog_53_method_1_code 5 none :: ws) ({ frames := 1, cells := 0, slots := 0, locals := 12 } : Room)) (fun aa U => aa = #[(.ref a), (.int fx), (.int fy), (.int wd), (.int ht)] ∧ Z.Warmed39 U.vm ∧ U.heap = h0) (fun _ _ _ _ _ => True) (fun _ U o U' => ∃ v L, o = .returned v ∧ Q1 Z a fx fy wd ht h0 n0 v U'.heap L ∧ FrameEnd U o U' L ({ frames := 1, cells := 0, slots := 0, locals := 12 } : Room).cells ({ frames := 1, cells := 0, slots := 0, locals := 12 } : Room).slots) := by
  refine MetFree.of_bodySF (plainFor_of_name pn_rm1) hisR ?_
  intro p e s m args below meth c s₁ Bd hml0 hP hK
  obtain ⟨rfl, hZ, hh⟩ := hP
  have hx := Bd.exec
  have hby := Bd.bytes
  have hml : c.maxLocals = 5 := hml0
  have hown : s.vm.findClass "com/example/usher_panes/usherpanes/model/Frame" = some m.cls := findClass_of_methodNamed Bd.named
  have hnm := (name_of_methodNamed Bd.named Bd.method).1
  have X0 : Stand p l e ({ frames := 1, cells := 0, slots := 0, locals := 12 } : Room) s m #[(.ref a), (.int fx), (.int fy), (.int wd), (.int ht)] below meth c s₁ [] 0 0 := Stand.of_body Bd
  have e0 : s₁.heap = h0 := by rw [← hh, Bd.state]; rfl
  have N0 := Fr.nil n0
  change OwnEnds p.tables e below _ _
  refine OwnEnds.via (fun t k => castTop (ef_rm1 m a fx fy wd ht) k) ?_
  show OwnEnds _ _ _ _ (s₁.setTop (mkF m 0 #[.val (.ref a), .val (.int fx), .val (.int fy), .val (.int wd), .val (.int ht)] []))
  refine OwnEnds.via (fun t k => XS.aloadN X0.here hx rfl (hb hby d1_0) rfl rfl k) ?_
  show OwnEnds _ _ _ _ (s₁.setTop (mkF m 1 #[.val (.ref a), .val (.int fx), .val (.int fy), .val (.int wd), .val (.int ht)] [(.ref a)]))
  obtain ⟨T1, X1, e1, st1⟩ := initO X0 hx hZ hown (hw _ (List.mem_of_getElem? (i := 6) rfl)) (hw _ (List.mem_of_getElem? (i := 7) rfl)) (hw _ (List.mem_of_getElem? (i := 8) rfl)) e0 (g := (mkF m 1 #[.val (.ref a), .val (.int fx), .val (.int fy), .val (.int wd), .val (.int ht)] [(.ref a)])) rfl (by rw [hml]; rfl) rfl (hb hby d1_1) (by decide) (W := 0) (by show 2 * 0 + _ ≤ _; exact Nat.le_of_eq rfl) (by decide)
  refine OwnEnds.via st1 ?_
  show OwnEnds _ _ _ _ (T1.setTop (mkF m 4 #[.val (.ref a), .val (.int fx), .val (.int fy), .val (.int wd), .val (.int ht)] []))
  refine OwnEnds.via (fun t k => XS.aloadN X1.here hx rfl (hb hby d1_4) rfl rfl k) ?_
  show OwnEnds _ _ _ _ (T1.setTop (mkF m 5 #[.val (.ref a), .val (.int fx), .val (.int fy), .val (.int wd), .val (.int ht)] [(.ref a)]))
  refine OwnEnds.via (fun t k => XS.iloadN X1.here hx rfl (hb hby d1_5) rfl k) ?_
  show OwnEnds _ _ _ _ (T1.setTop (mkF m 6 #[.val (.ref a), .val (.int fx), .val (.int fy), .val (.int wd), .val (.int ht)] [(.int fx), (.ref a)]))
  obtain ⟨T2, h2, X2, e2, W2, st2⟩ := putF X1 hx hZ hown (host := "") (Or.inl (hw _ (List.mem_of_getElem? (i := 9) rfl))) Via.refl e1 P1 P0 (Or.inr ⟨(hw _ (List.mem_of_getElem? (i := 10) rfl)), rfl, hnm⟩) (hw _ (List.mem_of_getElem? (i := 1) rfl)) (ty := .int) (by decide) rfl rfl (g := (mkF m 6 #[.val (.ref a), .val (.int fx), .val (.int fy), .val (.int wd), .val (.int ht)] [(.int fx), (.ref a)])) rfl rfl (hb hby d1_6)
  have Fw2 : Fld Z h2 a "com/example/usher_panes/usherpanes/model/Frame" "x" "I" (.int fx) := P1.same W2
  have N2 := Fr.snoc X2 N0 P5
  have Z2 : n0 ≤ h2.size := Nat.le_trans Z0 (Nat.le_of_eq W2.size.symm)
  have K2 : Keep h0 h2 [a] := (Keep.refl h0 [a]).wr W2 (Or.inl (by simp))
  refine OwnEnds.via st2 ?_
  show OwnEnds _ _ _ _ (T2.setTop (mkF m 9 #[.val (.ref a), .val (.int fx), .val (.int fy), .val (.int wd), .val (.int ht)] []))
  refine OwnEnds.via (fun t k => XS.aloadN X2.here hx rfl (hb hby d1_9) rfl rfl k) ?_
  show OwnEnds _ _ _ _ (T2.setTop (mkF m 10 #[.val (.ref a), .val (.int fx), .val (.int fy), .val (.int wd), .val (.int ht)] [(.ref a)]))
  refine OwnEnds.via (fun t k => XS.iloadN X2.here hx rfl (hb hby d1_10) rfl k) ?_
  show OwnEnds _ _ _ _ (T2.setTop (mkF m 11 #[.val (.ref a), .val (.int fx), .val (.int fy), .val (.int wd), .val (.int ht)] [(.int fy), (.ref a)]))
  obtain ⟨T3, h3, X3, e3, W3, st3⟩ := putF X2 hx hZ hown (host := "") (Or.inl (hw _ (List.mem_of_getElem? (i := 11) rfl))) Via.refl e2 (P2.other W2 (Or.inr (slot_ne (Or.inr (hw _ (List.mem_of_getElem? (i := 12) rfl))) (Or.inr (hw _ (List.mem_of_getElem? (i := 10) rfl))) (by decide) (t := .int) (t' := .int) (by decide) (by decide)))) (P0.wr W2) (Or.inr ⟨(hw _ (List.mem_of_getElem? (i := 12) rfl)), rfl, hnm⟩) (hw _ (List.mem_of_getElem? (i := 1) rfl)) (ty := .int) (by decide) rfl rfl (g := (mkF m 11 #[.val (.ref a), .val (.int fx), .val (.int fy), .val (.int wd), .val (.int ht)] [(.int fy), (.ref a)])) rfl rfl (hb hby d1_11)
  have Fw3 : Fld Z h3 a "com/example/usher_panes/usherpanes/model/Frame" "y" "I" (.int fy) := (P2.other W2 (Or.inr (slot_ne (Or.inr (hw _ (List.mem_of_getElem? (i := 12) rfl))) (Or.inr (hw _ (List.mem_of_getElem? (i := 10) rfl))) (by decide) (t := .int) (t' := .int) (by decide) (by decide)))).same W3
  have N3 := Fr.snoc X3 N2 P5
  have Z3 : n0 ≤ h3.size := Nat.le_trans Z2 (Nat.le_of_eq W3.size.symm)
  have K3 : Keep h0 h3 [a] := K2.wr W3 (Or.inl (by simp))
  refine OwnEnds.via st3 ?_
  show OwnEnds _ _ _ _ (T3.setTop (mkF m 14 #[.val (.ref a), .val (.int fx), .val (.int fy), .val (.int wd), .val (.int ht)] []))
  refine OwnEnds.via (fun t k => XS.aloadN X3.here hx rfl (hb hby d1_14) rfl rfl k) ?_
  show OwnEnds _ _ _ _ (T3.setTop (mkF m 15 #[.val (.ref a), .val (.int fx), .val (.int fy), .val (.int wd), .val (.int ht)] [(.ref a)]))
  refine OwnEnds.via (fun t k => XS.iloadN X3.here hx rfl (hb hby d1_15) rfl k) ?_
  show OwnEnds _ _ _ _ (T3.setTop (mkF m 16 #[.val (.ref a), .val (.int fx), .val (.int fy), .val (.int wd), .val (.int ht)] [(.int wd), (.ref a)]))
  obtain ⟨T4, h4, X4, e4, W4, st4⟩ := putF X3 hx hZ hown (host := "") (Or.inl (hw _ (List.mem_of_getElem? (i := 13) rfl))) Via.refl e3 ((P3.other W2 (Or.inr (slot_ne (Or.inr (hw _ (List.mem_of_getElem? (i := 14) rfl))) (Or.inr (hw _ (List.mem_of_getElem? (i := 10) rfl))) (by decide) (t := .int) (t' := .int) (by decide) (by decide)))).other W3 (Or.inr (slot_ne (Or.inr (hw _ (List.mem_of_getElem? (i := 14) rfl))) (Or.inr (hw _ (List.mem_of_getElem? (i := 12) rfl))) (by decide) (t := .int) (t' := .int) (by decide) (by decide)))) ((P0.wr W2).wr W3) (Or.inr ⟨(hw _ (List.mem_of_getElem? (i := 14) rfl)), rfl, hnm⟩) (hw _ (List.mem_of_getElem? (i := 1) rfl)) (ty := .int) (by decide) rfl rfl (g := (mkF m 16 #[.val (.ref a), .val (.int fx), .val (.int fy), .val (.int wd), .val (.int ht)] [(.int wd), (.ref a)])) rfl rfl (hb hby d1_16)
  have Fw4 : Fld Z h4 a "com/example/usher_panes/usherpanes/model/Frame" "width" "I" (.int wd) := ((P3.other W2 (Or.inr (slot_ne (Or.inr (hw _ (List.mem_of_getElem? (i := 14) rfl))) (Or.inr (hw _ (List.mem_of_getElem? (i := 10) rfl))) (by decide) (t := .int) (t' := .int) (by decide) (by decide)))).other W3 (Or.inr (slot_ne (Or.inr (hw _ (List.mem_of_getElem? (i := 14) rfl))) (Or.inr (hw _ (List.mem_of_getElem? (i := 12) rfl))) (by decide) (t := .int) (t' := .int) (by decide) (by decide)))).same W4
  have N4 := Fr.snoc X4 N3 P5
  have Z4 : n0 ≤ h4.size := Nat.le_trans Z3 (Nat.le_of_eq W4.size.symm)
  have K4 : Keep h0 h4 [a] := K3.wr W4 (Or.inl (by simp))
  refine OwnEnds.via st4 ?_
  show OwnEnds _ _ _ _ (T4.setTop (mkF m 19 #[.val (.ref a), .val (.int fx), .val (.int fy), .val (.int wd), .val (.int ht)] []))
  refine OwnEnds.via (fun t k => XS.aloadN X4.here hx rfl (hb hby d1_19) rfl rfl k) ?_
  show OwnEnds _ _ _ _ (T4.setTop (mkF m 20 #[.val (.ref a), .val (.int fx), .val (.int fy), .val (.int wd), .val (.int ht)] [(.ref a)]))
  refine OwnEnds.via (fun t k => XS.iload X4.here hx rfl (hb hby d1_20) rfl k) ?_
  show OwnEnds _ _ _ _ (T4.setTop (mkF m 22 #[.val (.ref a), .val (.int fx), .val (.int fy), .val (.int wd), .val (.int ht)] [(.int ht), (.ref a)]))
  obtain ⟨T5, h5, X5, e5, W5, st5⟩ := putF X4 hx hZ hown (host := "") (Or.inl (hw _ (List.mem_of_getElem? (i := 15) rfl))) Via.refl e4 (((P4.other W2 (Or.inr (slot_ne (Or.inr (hw _ (List.mem_of_getElem? (i := 16) rfl))) (Or.inr (hw _ (List.mem_of_getElem? (i := 10) rfl))) (by decide) (t := .int) (t' := .int) (by decide) (by decide)))).other W3 (Or.inr (slot_ne (Or.inr (hw _ (List.mem_of_getElem? (i := 16) rfl))) (Or.inr (hw _ (List.mem_of_getElem? (i := 12) rfl))) (by decide) (t := .int) (t' := .int) (by decide) (by decide)))).other W4 (Or.inr (slot_ne (Or.inr (hw _ (List.mem_of_getElem? (i := 16) rfl))) (Or.inr (hw _ (List.mem_of_getElem? (i := 14) rfl))) (by decide) (t := .int) (t' := .int) (by decide) (by decide)))) (((P0.wr W2).wr W3).wr W4) (Or.inr ⟨(hw _ (List.mem_of_getElem? (i := 16) rfl)), rfl, hnm⟩) (hw _ (List.mem_of_getElem? (i := 1) rfl)) (ty := .int) (by decide) rfl rfl (g := (mkF m 22 #[.val (.ref a), .val (.int fx), .val (.int fy), .val (.int wd), .val (.int ht)] [(.int ht), (.ref a)])) rfl rfl (hb hby d1_22)
  have Fw5 : Fld Z h5 a "com/example/usher_panes/usherpanes/model/Frame" "height" "I" (.int ht) := (((P4.other W2 (Or.inr (slot_ne (Or.inr (hw _ (List.mem_of_getElem? (i := 16) rfl))) (Or.inr (hw _ (List.mem_of_getElem? (i := 10) rfl))) (by decide) (t := .int) (t' := .int) (by decide) (by decide)))).other W3 (Or.inr (slot_ne (Or.inr (hw _ (List.mem_of_getElem? (i := 16) rfl))) (Or.inr (hw _ (List.mem_of_getElem? (i := 12) rfl))) (by decide) (t := .int) (t' := .int) (by decide) (by decide)))).other W4 (Or.inr (slot_ne (Or.inr (hw _ (List.mem_of_getElem? (i := 16) rfl))) (Or.inr (hw _ (List.mem_of_getElem? (i := 14) rfl))) (by decide) (t := .int) (t' := .int) (by decide) (by decide)))).same W5
  have N5 := Fr.snoc X5 N4 P5
  have Z5 : n0 ≤ h5.size := Nat.le_trans Z4 (Nat.le_of_eq W5.size.symm)
  have K5 : Keep h0 h5 [a] := K4.wr W5 (Or.inl (by simp))
  refine OwnEnds.via st5 ?_
  show OwnEnds _ _ _ _ (T5.setTop (mkF m 25 #[.val (.ref a), .val (.int fx), .val (.int fy), .val (.int wd), .val (.int ht)] []))
  obtain ⟨fs, hr, hrun, hended, hW, hsame⟩ := X5.leave (v := none) (fun _ => rfl)
  refine ⟨_, _, ?_, hrun, hended, _, _, rfl, ?_, ⟨_, rfl⟩, hW, hsame.mono (by decide) (by decide)⟩
  · exact X5.returnOut hx Bd.returns (hb hby d1_25) hr
  · show Q1 Z a fx fy wd ht h0 n0 _ T5.heap _
    rw [e5]
    exact ⟨rfl, N5, K5, ((((P0.wr W2).wr W3).wr W4).wr W5), (((Fw2.other W3 (Or.inr (slot_ne (Or.inr (hw _ (List.mem_of_getElem? (i := 10) rfl))) (Or.inr (hw _ (List.mem_of_getElem? (i := 12) rfl))) (by decide) (t := .int) (t' := .int) (by decide) (by decide)))).other W4 (Or.inr (slot_ne (Or.inr (hw _ (List.mem_of_getElem? (i := 10) rfl))) (Or.inr (hw _ (List.mem_of_getElem? (i := 14) rfl))) (by decide) (t := .int) (t' := .int) (by decide) (by decide)))).other W5 (Or.inr (slot_ne (Or.inr (hw _ (List.mem_of_getElem? (i := 10) rfl))) (Or.inr (hw _ (List.mem_of_getElem? (i := 16) rfl))) (by decide) (t := .int) (t' := .int) (by decide) (by decide)))), ((Fw3.other W4 (Or.inr (slot_ne (Or.inr (hw _ (List.mem_of_getElem? (i := 12) rfl))) (Or.inr (hw _ (List.mem_of_getElem? (i := 14) rfl))) (by decide) (t := .int) (t' := .int) (by decide) (by decide)))).other W5 (Or.inr (slot_ne (Or.inr (hw _ (List.mem_of_getElem? (i := 12) rfl))) (Or.inr (hw _ (List.mem_of_getElem? (i := 16) rfl))) (by decide) (t := .int) (t' := .int) (by decide) (by decide)))), (Fw4.other W5 (Or.inr (slot_ne (Or.inr (hw _ (List.mem_of_getElem? (i := 14) rfl))) (Or.inr (hw _ (List.mem_of_getElem? (i := 16) rfl))) (by decide) (t := .int) (t' := .int) (by decide) (by decide)))), Fw5⟩

theorem d6_0 : decode jdk_18_method_1_code 0 = .ok (.aload_n 0, 1) := by decide +kernel
theorem d6_1 : decode jdk_18_method_1_code 1 = .ok (.invokespecial 1, 3) := by decide +kernel
theorem d6_4 : decode jdk_18_method_1_code 4 = .ok (.return_, 1) := by decide +kernel
theorem pn_rm6 : plainName "java/lang/Number" = true := by first | (simp [plainName, overriddenIn]; done) | decide +kernel
theorem ef_rm6 (m : MethodId) (a : Addr) : entryFrame m #[(.ref a)] 1 = mkF m 0 #[.val (.ref a)] [] := by first | (simp [entryFrame, mkF, argsToLocals, Value.category]; done) | rfl
def Q6 (Z : State) (a : Addr) (h0 : Heap) (n0 : Nat) (v : Option Value) (h : Heap) (L : List Loc) : Prop := v = none ∧ Fr n0 L ∧ h = h0
set_option maxRecDepth 65536 in
set_option maxHeartbeats 40000000 in
theorem rm6 (l : Launch) (Z : State) (a0 : Array Value) (hw : ∀ d ∈ tables_1, d.before a0 Z = true) (ws : List Jvm.Cond) (a : Addr) (h0 : Heap) (n0 : Nat) (Z0 : n0 ≤ h0.size)  :
    MetFree l (⟨"java/lang/Number", "<init>", "()V"⟩ : MethodName) (head1 (Jvm.Cond.code (⟨"java/lang/Number", "<init>", "()V"⟩ : MethodName) jdk_18_method_1_code 1 none :: ws) ({ frames := 1, cells := 0, slots := 0, locals := 12 } : Room)) (fun aa U => aa = #[(.ref a)] ∧ Z.Warmed39 U.vm ∧ U.heap = h0) (fun _ _ _ _ _ => True) (fun _ U o U' => ∃ v L, o = .returned v ∧ Q6 Z a h0 n0 v U'.heap L ∧ FrameEnd U o U' L ({ frames := 1, cells := 0, slots := 0, locals := 12 } : Room).cells ({ frames := 1, cells := 0, slots := 0, locals := 12 } : Room).slots) := by
  refine MetFree.of_bodySF (plainFor_of_name pn_rm6) hisR ?_
  intro p e s m args below meth c s₁ Bd hml0 hP hK
  obtain ⟨rfl, hZ, hh⟩ := hP
  have hx := Bd.exec
  have hby := Bd.bytes
  have hml : c.maxLocals = 1 := hml0
  have hown : s.vm.findClass "java/lang/Number" = some m.cls := findClass_of_methodNamed Bd.named
  have hnm := (name_of_methodNamed Bd.named Bd.method).1
  have X0 : Stand p l e ({ frames := 1, cells := 0, slots := 0, locals := 12 } : Room) s m #[(.ref a)] below meth c s₁ [] 0 0 := Stand.of_body Bd
  have e0 : s₁.heap = h0 := by rw [← hh, Bd.state]; rfl
  have N0 := Fr.nil n0
  change OwnEnds p.tables e below _ _
  refine OwnEnds.via (fun t k => castTop (ef_rm6 m a) k) ?_
  show OwnEnds _ _ _ _ (s₁.setTop (mkF m 0 #[.val (.ref a)] []))
  refine OwnEnds.via (fun t k => XS.aloadN X0.here hx rfl (hb hby d6_0) rfl rfl k) ?_
  show OwnEnds _ _ _ _ (s₁.setTop (mkF m 1 #[.val (.ref a)] [(.ref a)]))
  obtain ⟨T1, X1, e1, st1⟩ := initO X0 hx hZ hown (hw _ (List.mem_of_getElem? (i := 42) rfl)) (hw _ (List.mem_of_getElem? (i := 7) rfl)) (hw _ (List.mem_of_getElem? (i := 8) rfl)) e0 (g := (mkF m 1 #[.val (.ref a)] [(.ref a)])) rfl (by rw [hml]; rfl) rfl (hb hby d6_1) (by decide) (W := 0) (by show 2 * 0 + _ ≤ _; exact Nat.le_of_eq rfl) (by decide)
  refine OwnEnds.via st1 ?_
  show OwnEnds _ _ _ _ (T1.setTop (mkF m 4 #[.val (.ref a)] []))
  obtain ⟨fs, hr, hrun, hended, hW, hsame⟩ := X1.leave (v := none) (fun _ => rfl)
  refine ⟨_, _, ?_, hrun, hended, _, _, rfl, ?_, ⟨_, rfl⟩, hW, hsame.mono (by decide) (by decide)⟩
  · exact X1.returnOut hx Bd.returns (hb hby d6_4) hr
  · show Q6 Z a h0 n0 _ T1.heap _
    rw [e1]
    exact ⟨rfl, N0, rfl⟩

theorem d5_0 : decode jdk_33_method_23_code 0 = .ok (.aload_n 0, 1) := by decide +kernel
theorem d5_1 : decode jdk_33_method_23_code 1 = .ok (.invokespecial 202, 3) := by decide +kernel
theorem d5_4 : decode jdk_33_method_23_code 4 = .ok (.aload_n 0, 1) := by decide +kernel
theorem d5_5 : decode jdk_33_method_23_code 5 = .ok (.iload_n 1, 1) := by decide +kernel
theorem d5_6 : decode jdk_33_method_23_code 6 = .ok (.putfield 205, 3) := by decide +kernel
theorem d5_9 : decode jdk_33_method_23_code 9 = .ok (.return_, 1) := by decide +kernel
theorem pn_rm5 : plainName "java/lang/Integer" = true := by first | (simp [plainName, overriddenIn]; done) | decide +kernel
theorem pd_0 : parseMethodDescriptor "()V" = some ⟨[], none⟩ := by decide +kernel
theorem ef_rm5 (m : MethodId) (a : Addr) (ip : Int32) : entryFrame m #[(.ref a), (.int ip)] 2 = mkF m 0 #[.val (.ref a), .val (.int ip)] [] := by first | (simp [entryFrame, mkF, argsToLocals, Value.category]; done) | rfl
def Q5 (Z : State) (a : Addr) (ip : Int32) (h0 : Heap) (n0 : Nat) (v : Option Value) (h : Heap) (L : List Loc) : Prop := v = none ∧ Fr n0 L ∧ Keep h0 h [a] ∧ Exa Z h a "java/lang/Integer" ∧ Fld Z h a "java/lang/Integer" "value" "I" (.int ip)
set_option maxRecDepth 65536 in
set_option maxHeartbeats 40000000 in
theorem rm5 (l : Launch) (Z : State) (a0 : Array Value) (hw : ∀ d ∈ tables_1, d.before a0 Z = true) (ws : List Jvm.Cond) (a : Addr) (ip : Int32) (h0 : Heap) (n0 : Nat) (Z0 : n0 ≤ h0.size) (P0 : Exa Z h0 a "java/lang/Integer") (P1 : Fld Z h0 a "java/lang/Integer" "value" "I" (.int (0 : Int32))) (P2 : n0 ≤ a) :
    MetFree l (⟨"java/lang/Integer", "<init>", "(I)V"⟩ : MethodName) (head1 (Jvm.Cond.code (⟨"java/lang/Integer", "<init>", "(I)V"⟩ : MethodName) jdk_33_method_23_code 2 none :: ws) ({ frames := 2, cells := 0, slots := 0, locals := 24 } : Room)) (fun aa U => aa = #[(.ref a), (.int ip)] ∧ Z.Warmed39 U.vm ∧ U.heap = h0) (fun _ _ _ _ _ => True) (fun _ U o U' => ∃ v L, o = .returned v ∧ Q5 Z a ip h0 n0 v U'.heap L ∧ FrameEnd U o U' L ({ frames := 2, cells := 0, slots := 0, locals := 24 } : Room).cells ({ frames := 2, cells := 0, slots := 0, locals := 24 } : Room).slots) := by
  refine MetFree.of_bodySF (plainFor_of_name pn_rm5) hisR ?_
  intro p e s m args below meth c s₁ Bd hml0 hP hK
  obtain ⟨rfl, hZ, hh⟩ := hP
  have hx := Bd.exec
  have hby := Bd.bytes
  have hml : c.maxLocals = 2 := hml0
  have hown : s.vm.findClass "java/lang/Integer" = some m.cls := findClass_of_methodNamed Bd.named
  have hnm := (name_of_methodNamed Bd.named Bd.method).1
  have X0 : Stand p l e ({ frames := 2, cells := 0, slots := 0, locals := 24 } : Room) s m #[(.ref a), (.int ip)] below meth c s₁ [] 0 0 := Stand.of_body Bd
  have e0 : s₁.heap = h0 := by rw [← hh, Bd.state]; rfl
  have N0 := Fr.nil n0
  change OwnEnds p.tables e below _ _
  refine OwnEnds.via (fun t k => castTop (ef_rm5 m a ip) k) ?_
  show OwnEnds _ _ _ _ (s₁.setTop (mkF m 0 #[.val (.ref a), .val (.int ip)] []))
  refine OwnEnds.via (fun t k => XS.aloadN X0.here hx rfl (hb hby d5_0) rfl rfl k) ?_
  show OwnEnds _ _ _ _ (s₁.setTop (mkF m 1 #[.val (.ref a), .val (.int ip)] [(.ref a)]))
  obtain ⟨_, _, ⟨T1, L1, k1, n1⟩, -, X1, ⟨Lc1, hQ1, l1, y1, z1⟩, st1⟩ := X0.specialBack hx (y := (⟨"java/lang/Number", "<init>", "()V"⟩ : MethodName)) rfl hown (mvT hZ (hw _ (List.mem_of_getElem? (i := 36) rfl))) (mvT hZ (hw _ (List.mem_of_getElem? (i := 37) rfl))) (mvT hZ (hw _ (List.mem_of_getElem? (i := 41) rfl))) (by decide) (backOf (W := 0) (rm6 l Z a0 hw [] a h0 n0 Z0 ) hZ (hw _ (List.mem_of_getElem? (i := 41) rfl)) (hw _ (List.mem_of_getElem? (i := 40) rfl)) (by decide) (by decide)) (g := (mkF m 1 #[.val (.ref a), .val (.int ip)] [(.ref a)])) rfl (by rw [hml]; rfl) (Steps.refl _) (a := a) (argsL := []) (rest := []) (lenOf pd_0 rfl) rfl (by show 2 * 0 + _ ≤ _; exact Nat.le_of_eq rfl) (hb hby d5_1) (fun _ _ => ⟨rfl, e0, (by decide : 0 + 0 ≤ _), (by decide : 0 + 0 ≤ _)⟩)
  dsimp only [Pt.U, Pt.locs, Pt.cells, Pt.slots] at X1 l1 y1 z1 st1 hQ1
  subst l1 y1 z1
  obtain ⟨rfl, Nq1, e1⟩ := hQ1
  have N1 := Fr.app N0 Nq1
  refine OwnEnds.via (fun t k => st1.trans k) ?_
  show OwnEnds _ _ _ _ (T1.setTop (mkF m 4 #[.val (.ref a), .val (.int ip)] []))
  refine OwnEnds.via (fun t k => XS.aloadN X1.here hx rfl (hb hby d5_4) rfl rfl k) ?_
  show OwnEnds _ _ _ _ (T1.setTop (mkF m 5 #[.val (.ref a), .val (.int ip)] [(.ref a)]))
  refine OwnEnds.via (fun t k => XS.iloadN X1.here hx rfl (hb hby d5_5) rfl k) ?_
  show OwnEnds _ _ _ _ (T1.setTop (mkF m 6 #[.val (.ref a), .val (.int ip)] [(.int ip), (.ref a)]))
  obtain ⟨T2, h2, X2, e2, W2, st2⟩ := putF X1 hx hZ hown (host := "") (Or.inl (hw _ (List.mem_of_getElem? (i := 43) rfl))) Via.refl e1 P1 P0 (Or.inr ⟨(hw _ (List.mem_of_getElem? (i := 44) rfl)), rfl, hnm⟩) (hw _ (List.mem_of_getElem? (i := 31) rfl)) (ty := .int) (by decide) rfl rfl (g := (mkF m 6 #[.val (.ref a), .val (.int ip)] [(.int ip), (.ref a)])) rfl rfl (hb hby d5_6)
  have Fw2 : Fld Z h2 a "java/lang/Integer" "value" "I" (.int ip) := P1.same W2
  have N2 := Fr.snoc X2 N1 P2
  have Z2 : n0 ≤ h2.size := Nat.le_trans Z0 (Nat.le_of_eq W2.size.symm)
  have K2 : Keep h0 h2 [a] := (Keep.refl h0 [a]).wr W2 (Or.inl (by simp))
  refine OwnEnds.via st2 ?_
  show OwnEnds _ _ _ _ (T2.setTop (mkF m 9 #[.val (.ref a), .val (.int ip)] []))
  obtain ⟨fs, hr, hrun, hended, hW, hsame⟩ := X2.leave (v := none) (fun _ => rfl)
  refine ⟨_, _, ?_, hrun, hended, _, _, rfl, ?_, ⟨_, rfl⟩, hW, hsame.mono (by decide) (by decide)⟩
  · exact X2.returnOut hx Bd.returns (hb hby d5_9) hr
  · show Q5 Z a ip h0 n0 _ T2.heap _
    rw [e2]
    exact ⟨rfl, N2, K2, (P0.wr W2), Fw2⟩

theorem d4_0 : decode jdk_33_method_22_code 0 = .ok (.iload_n 0, 1) := by decide +kernel
theorem d4_1 : decode jdk_33_method_22_code 1 = .ok (.bipush (-128), 2) := by decide +kernel
theorem d4_3 : decode jdk_33_method_22_code 3 = .ok (.if_icmp .lt 20, 3) := by decide +kernel
theorem d4_6 : decode jdk_33_method_22_code 6 = .ok (.iload_n 0, 1) := by decide +kernel
theorem d4_7 : decode jdk_33_method_22_code 7 = .ok (.getstatic 191, 3) := by decide +kernel
theorem d4_10 : decode jdk_33_method_22_code 10 = .ok (.if_icmp .gt 13, 3) := by decide +kernel
theorem d4_13 : decode jdk_33_method_22_code 13 = .ok (.getstatic 195, 3) := by decide +kernel
theorem d4_16 : decode jdk_33_method_22_code 16 = .ok (.iload_n 0, 1) := by decide +kernel
theorem d4_17 : decode jdk_33_method_22_code 17 = .ok (.sipush 128, 3) := by decide +kernel
theorem d4_20 : decode jdk_33_method_22_code 20 = .ok (.iadd, 1) := by decide +kernel
theorem d4_21 : decode jdk_33_method_22_code 21 = .ok (.aaload, 1) := by decide +kernel
theorem d4_22 : decode jdk_33_method_22_code 22 = .ok (.areturn, 1) := by decide +kernel
theorem d4_23 : decode jdk_33_method_22_code 23 = .ok (.new 1, 3) := by decide +kernel
theorem d4_26 : decode jdk_33_method_22_code 26 = .ok (.dup, 1) := by decide +kernel
theorem d4_27 : decode jdk_33_method_22_code 27 = .ok (.iload_n 0, 1) := by decide +kernel
theorem d4_28 : decode jdk_33_method_22_code 28 = .ok (.invokespecial 199, 3) := by decide +kernel
theorem d4_31 : decode jdk_33_method_22_code 31 = .ok (.areturn, 1) := by decide +kernel
theorem pn_rm4 : plainName "java/lang/Integer" = true := by first | (simp [plainName, overriddenIn]; done) | decide +kernel
theorem pd_1 : parseMethodDescriptor "(I)V" = some ⟨[.int], none⟩ := by decide +kernel
theorem ef_rm4 (m : MethodId) (ip : Int32) : entryFrame m #[(.int ip)] 1 = mkF m 0 #[.val (.int ip)] [] := by first | (simp [entryFrame, mkF, argsToLocals, Value.category]; done) | rfl
def Q4 (Z : State) (ip : Int32) (cc : Addr) (cb : Cell) (vb : Int32 → Value) (h0 : Heap) (n0 : Nat) (v : Option Value) (h : Heap) (L : List Loc) : Prop := ∃ b : Addr, v = some (.ref b) ∧ Fr n0 L ∧ Keep h0 h [] ∧ Exa Z h b "java/lang/Integer"
set_option maxRecDepth 65536 in
set_option maxHeartbeats 40000000 in
theorem rm4 (l : Launch) (Z : State) (a0 : Array Value) (hw : ∀ d ∈ tables_1, d.before a0 Z = true) (ws : List Jvm.Cond) (ip : Int32) (cc : Addr) (cb : Cell) (vb : Int32 → Value) (h0 : Heap) (n0 : Nat) (Z0 : n0 ≤ h0.size) (O0 : Old Z n0 h0) (P0 : Bxs Z cc cb "java/lang/Integer" "I" (256 : Int32) vb) (OP0 : Sta Z Z.heap "java/lang/Integer$IntegerCache" "high" "I" (.int (127 : Int32))) (OP1 : Sta Z Z.heap "java/lang/Integer$IntegerCache" "cache" "[Ljava/lang/Integer;" (.ref cc)) :
    MetFree l (⟨"java/lang/Integer", "valueOf", "(I)Ljava/lang/Integer;"⟩ : MethodName) (head1 (Jvm.Cond.code (⟨"java/lang/Integer", "valueOf", "(I)Ljava/lang/Integer;"⟩ : MethodName) jdk_33_method_22_code 1 (some (.object "java/lang/Integer")) :: ws) ({ frames := 3, cells := 1, slots := 1, locals := 38 } : Room)) (fun aa U => aa = #[(.int ip)] ∧ Z.Warmed39 U.vm ∧ U.heap = h0) (fun _ _ _ _ _ => True) (fun _ U o U' => ∃ v L, o = .returned v ∧ Q4 Z ip cc cb vb h0 n0 v U'.heap L ∧ FrameEnd U o U' L ({ frames := 3, cells := 1, slots := 1, locals := 38 } : Room).cells ({ frames := 3, cells := 1, slots := 1, locals := 38 } : Room).slots) := by
  refine MetFree.of_bodySF (plainFor_of_name pn_rm4) hisR ?_
  intro p e s m args below meth c s₁ Bd hml0 hP hK
  obtain ⟨rfl, hZ, hh⟩ := hP
  have hx := Bd.exec
  have hby := Bd.bytes
  have hml : c.maxLocals = 1 := hml0
  have hown : s.vm.findClass "java/lang/Integer" = some m.cls := findClass_of_methodNamed Bd.named
  have hnm := (name_of_methodNamed Bd.named Bd.method).1
  have X0 : Stand p l e ({ frames := 3, cells := 1, slots := 1, locals := 38 } : Room) s m #[(.int ip)] below meth c s₁ [] 0 0 := Stand.of_body Bd
  have e0 : s₁.heap = h0 := by rw [← hh, Bd.state]; rfl
  have N0 := Fr.nil n0
  change OwnEnds p.tables e below _ _
  refine OwnEnds.via (fun t k => castTop (ef_rm4 m ip) k) ?_
  show OwnEnds _ _ _ _ (s₁.setTop (mkF m 0 #[.val (.int ip)] []))
  refine OwnEnds.via (fun t k => XS.iloadN X0.here hx rfl (hb hby d4_0) rfl k) ?_
  show OwnEnds _ _ _ _ (s₁.setTop (mkF m 1 #[.val (.int ip)] [(.int ip)]))
  refine OwnEnds.via (fun t k => XS.bipush X0.here hx rfl (hb hby d4_1) k) ?_
  show OwnEnds _ _ _ _ (s₁.setTop (mkF m 3 #[.val (.int ip)] [(.int (-128 : Int32)), (.int ip)]))
  by_cases hc3_1 : ip < (-128 : Int32)
  ·
    refine OwnEnds.via (fun t k => XS.icmpYes X0.here hx rfl (pc0 := 3) (pc' := 23) rfl (hb hby d4_3) rfl (tlt hc3_1).1 (by decide) (by decide) k) ?_
    show OwnEnds _ _ _ _ (s₁.setTop (mkF m 23 #[.val (.int ip)] []))
    obtain ⟨T2, h2, X2, e2, E2, A2, D2, -, st2⟩ := newO X0 hx hZ hown (hw _ (List.mem_of_getElem? (i := 30) rfl)) (hw _ (List.mem_of_getElem? (i := 31) rfl)) (hw _ (List.mem_of_getElem? (i := 26) rfl)) e0 (g := (mkF m 23 #[.val (.int ip)] [])) rfl (hb hby d4_23) (by decide) (by decide)
    obtain ⟨b2, g2⟩ : ∃ z, z = h0.size := ⟨_, rfl⟩
    have ge_b2 : n0 ≤ b2 := Nat.le_trans Z0 (Nat.le_of_eq g2.symm)
    have sz_b2 : h0.size ≤ b2 := Nat.le_trans (Keep.refl h0 []).1 (Nat.le_of_eq g2.symm)
    have Z2 : n0 ≤ h2.size := Nat.le_trans Z0 E2.1
    have K2 : Keep h0 h2 [] := (Keep.refl h0 []).ext E2
    have O2 : Old Z n0 h2 := O0.ext E2
    rw [← g2] at A2 D2 st2
    have F2_value : Fld Z h2 b2 "java/lang/Integer" "value" "I" (.int (0 : Int32)) := D2 (Or.inr (hw _ (List.mem_of_getElem? (i := 44) rfl))) (ty := .int) (by decide)
    refine OwnEnds.via st2 ?_
    show OwnEnds _ _ _ _ (T2.setTop (mkF m 26 #[.val (.int ip)] [(.ref b2)]))
    refine OwnEnds.via (fun t k => XS.dup X2.here hx rfl (hb hby d4_26) rfl rfl k) ?_
    show OwnEnds _ _ _ _ (T2.setTop (mkF m 27 #[.val (.int ip)] [(.ref b2), (.ref b2)]))
    refine OwnEnds.via (fun t k => XS.iloadN X2.here hx rfl (hb hby d4_27) rfl k) ?_
    show OwnEnds _ _ _ _ (T2.setTop (mkF m 28 #[.val (.int ip)] [(.int ip), (.ref b2), (.ref b2)]))
    obtain ⟨_, _, ⟨T3, L3, k3, n3⟩, -, X3, ⟨Lc3, hQ3, l3, y3, z3⟩, st3⟩ := X2.specialBack hx (y := (⟨"java/lang/Integer", "<init>", "(I)V"⟩ : MethodName)) rfl hown (mvT hZ (hw _ (List.mem_of_getElem? (i := 32) rfl))) (mvT hZ (hw _ (List.mem_of_getElem? (i := 33) rfl))) (mvT hZ (hw _ (List.mem_of_getElem? (i := 35) rfl))) (by decide) (backOf (W := 1) (rm5 l Z a0 hw [] b2 ip h2 n0 Z2 A2 F2_value ge_b2) hZ (hw _ (List.mem_of_getElem? (i := 35) rfl)) (hw _ (List.mem_of_getElem? (i := 26) rfl)) (by decide) (by decide)) (g := (mkF m 28 #[.val (.int ip)] [(.int ip), (.ref b2), (.ref b2)])) rfl (by rw [hml]; rfl) (Steps.refl _) (a := b2) (argsL := [(.int ip)]) (rest := [(.ref b2)]) (lenOf pd_1 rfl) rfl (by show 2 * 0 + _ ≤ _; exact Nat.le_of_eq rfl) (hb hby d4_28) (fun _ _ => ⟨rfl, e2, (by decide : 1 + 0 ≤ _), (by decide : 1 + 0 ≤ _)⟩)
    dsimp only [Pt.U, Pt.locs, Pt.cells, Pt.slots] at X3 l3 y3 z3 st3 hQ3
    subst l3 y3 z3
    obtain ⟨h3, e3⟩ : ∃ z, T3.heap = z := ⟨_, rfl⟩
    rw [e3] at hQ3
    obtain ⟨rfl, Nq3, Kq3, q3_0, q3_1⟩ := hQ3
    have Z3 : n0 ≤ h3.size := Nat.le_trans Z2 Kq3.1
    have K3 : Keep h0 h3 [] := K2.trans Kq3 (allS (Or.inr sz_b2) all0)
    have O3 : Old Z n0 h3 := O2.keep Kq3 (allS ge_b2 all0)
    have N3 := Fr.app N0 Nq3
    refine OwnEnds.via (fun t k => st3.trans k) ?_
    show OwnEnds _ _ _ _ (T3.setTop (mkF m 31 #[.val (.int ip)] [(.ref b2)]))
    obtain ⟨fs, hr, hrun, hended, hW, hsame⟩ := X3.leave (v := some (.ref b2)) (fun h => by rw [Bd.returns] at h; cases h)
    refine ⟨_, _, ?_, hrun, hended, _, _, rfl, ?_, ⟨_, rfl⟩, hW, hsame.mono (by decide) (by decide)⟩
    · jvm_step X3.here [X3.here.top, hx, (hb hby d4_31), X3.method', Bd.returns, Value.isRef, FieldType.isReference]
      first | (intro acts; rw [hr _ acts rfl rfl rfl]) | rw [hr _ _ rfl rfl rfl]
      exact Steps.refl _
    · show Q4 Z ip cc cb vb h0 n0 _ T3.heap _
      rw [e3]
      exact ⟨b2, rfl, N3, K3, q3_0⟩
  ·
    refine OwnEnds.via (fun t k => XS.icmpNo X0.here hx rfl (hb hby d4_3) rfl (flt hc3_1).1 k) ?_
    show OwnEnds _ _ _ _ (s₁.setTop (mkF m 6 #[.val (.int ip)] []))
    refine OwnEnds.via (fun t k => XS.iloadN X0.here hx rfl (hb hby d4_6) rfl k) ?_
    show OwnEnds _ _ _ _ (s₁.setTop (mkF m 7 #[.val (.int ip)] [(.int ip)]))
    obtain ⟨T4, X4, e4, st4⟩ := getS2 X0 hx hZ hown (host := "") (Or.inl (hw _ (List.mem_of_getElem? (i := 28) rfl))) Via.refl e0 (OP0.ext O0.2) (g := (mkF m 7 #[.val (.int ip)] [(.int ip)])) rfl (hb hby d4_7)
    refine OwnEnds.via st4 ?_
    show OwnEnds _ _ _ _ (T4.setTop (mkF m 10 #[.val (.int ip)] [(.int (127 : Int32)), (.int ip)]))
    by_cases hc10_5 : (127 : Int32) < ip
    ·
      refine OwnEnds.via (fun t k => XS.icmpYes X4.here hx rfl (pc0 := 10) (pc' := 23) rfl (hb hby d4_10) rfl (tlt hc10_5).2.2.1 (by decide) (by decide) k) ?_
      show OwnEnds _ _ _ _ (T4.setTop (mkF m 23 #[.val (.int ip)] []))
      obtain ⟨T6, h6, X6, e6, E6, A6, D6, -, st6⟩ := newO X4 hx hZ hown (hw _ (List.mem_of_getElem? (i := 30) rfl)) (hw _ (List.mem_of_getElem? (i := 31) rfl)) (hw _ (List.mem_of_getElem? (i := 26) rfl)) e4 (g := (mkF m 23 #[.val (.int ip)] [])) rfl (hb hby d4_23) (by decide) (by decide)
      obtain ⟨b6, g6⟩ : ∃ z, z = h0.size := ⟨_, rfl⟩
      have ge_b6 : n0 ≤ b6 := Nat.le_trans Z0 (Nat.le_of_eq g6.symm)
      have sz_b6 : h0.size ≤ b6 := Nat.le_trans (Keep.refl h0 []).1 (Nat.le_of_eq g6.symm)
      have Z6 : n0 ≤ h6.size := Nat.le_trans Z0 E6.1
      have K6 : Keep h0 h6 [] := (Keep.refl h0 []).ext E6
      have O6 : Old Z n0 h6 := O0.ext E6
      rw [← g6] at A6 D6 st6
      have F6_value : Fld Z h6 b6 "java/lang/Integer" "value" "I" (.int (0 : Int32)) := D6 (Or.inr (hw _ (List.mem_of_getElem? (i := 44) rfl))) (ty := .int) (by decide)
      refine OwnEnds.via st6 ?_
      show OwnEnds _ _ _ _ (T6.setTop (mkF m 26 #[.val (.int ip)] [(.ref b6)]))
      refine OwnEnds.via (fun t k => XS.dup X6.here hx rfl (hb hby d4_26) rfl rfl k) ?_
      show OwnEnds _ _ _ _ (T6.setTop (mkF m 27 #[.val (.int ip)] [(.ref b6), (.ref b6)]))
      refine OwnEnds.via (fun t k => XS.iloadN X6.here hx rfl (hb hby d4_27) rfl k) ?_
      show OwnEnds _ _ _ _ (T6.setTop (mkF m 28 #[.val (.int ip)] [(.int ip), (.ref b6), (.ref b6)]))
      obtain ⟨_, _, ⟨T7, L7, k7, n7⟩, -, X7, ⟨Lc7, hQ7, l7, y7, z7⟩, st7⟩ := X6.specialBack hx (y := (⟨"java/lang/Integer", "<init>", "(I)V"⟩ : MethodName)) rfl hown (mvT hZ (hw _ (List.mem_of_getElem? (i := 32) rfl))) (mvT hZ (hw _ (List.mem_of_getElem? (i := 33) rfl))) (mvT hZ (hw _ (List.mem_of_getElem? (i := 35) rfl))) (by decide) (backOf (W := 1) (rm5 l Z a0 hw [] b6 ip h6 n0 Z6 A6 F6_value ge_b6) hZ (hw _ (List.mem_of_getElem? (i := 35) rfl)) (hw _ (List.mem_of_getElem? (i := 26) rfl)) (by decide) (by decide)) (g := (mkF m 28 #[.val (.int ip)] [(.int ip), (.ref b6), (.ref b6)])) rfl (by rw [hml]; rfl) (Steps.refl _) (a := b6) (argsL := [(.int ip)]) (rest := [(.ref b6)]) (lenOf pd_1 rfl) rfl (by show 2 * 0 + _ ≤ _; exact Nat.le_of_eq rfl) (hb hby d4_28) (fun _ _ => ⟨rfl, e6, (by decide : 1 + 0 ≤ _), (by decide : 1 + 0 ≤ _)⟩)
      dsimp only [Pt.U, Pt.locs, Pt.cells, Pt.slots] at X7 l7 y7 z7 st7 hQ7
      subst l7 y7 z7
      obtain ⟨h7, e7⟩ : ∃ z, T7.heap = z := ⟨_, rfl⟩
      rw [e7] at hQ7
      obtain ⟨rfl, Nq7, Kq7, q7_0, q7_1⟩ := hQ7
      have Z7 : n0 ≤ h7.size := Nat.le_trans Z6 Kq7.1
      have K7 : Keep h0 h7 [] := K6.trans Kq7 (allS (Or.inr sz_b6) all0)
      have O7 : Old Z n0 h7 := O6.keep Kq7 (allS ge_b6 all0)
      have N7 := Fr.app N0 Nq7
      refine OwnEnds.via (fun t k => st7.trans k) ?_
      show OwnEnds _ _ _ _ (T7.setTop (mkF m 31 #[.val (.int ip)] [(.ref b6)]))
      obtain ⟨fs, hr, hrun, hended, hW, hsame⟩ := X7.leave (v := some (.ref b6)) (fun h => by rw [Bd.returns] at h; cases h)
      refine ⟨_, _, ?_, hrun, hended, _, _, rfl, ?_, ⟨_, rfl⟩, hW, hsame.mono (by decide) (by decide)⟩
      · jvm_step X7.here [X7.here.top, hx, (hb hby d4_31), X7.method', Bd.returns, Value.isRef, FieldType.isReference]
        first | (intro acts; rw [hr _ acts rfl rfl rfl]) | rw [hr _ _ rfl rfl rfl]
        exact Steps.refl _
      · show Q4 Z ip cc cb vb h0 n0 _ T7.heap _
        rw [e7]
        exact ⟨b6, rfl, N7, K7, q7_0⟩
    ·
      refine OwnEnds.via (fun t k => XS.icmpNo X4.here hx rfl (hb hby d4_10) rfl (flt hc10_5).2.2.1 k) ?_
      show OwnEnds _ _ _ _ (T4.setTop (mkF m 13 #[.val (.int ip)] []))
      obtain ⟨T8, X8, e8, st8⟩ := getS2 X4 hx hZ hown (host := "") (Or.inl (hw _ (List.mem_of_getElem? (i := 48) rfl))) Via.refl e4 (OP1.ext O0.2) (g := (mkF m 13 #[.val (.int ip)] [])) rfl (hb hby d4_13)
      refine OwnEnds.via st8 ?_
      show OwnEnds _ _ _ _ (T8.setTop (mkF m 16 #[.val (.int ip)] [(.ref cc)]))
      refine OwnEnds.via (fun t k => XS.iloadN X8.here hx rfl (hb hby d4_16) rfl k) ?_
      show OwnEnds _ _ _ _ (T8.setTop (mkF m 17 #[.val (.int ip)] [(.int ip), (.ref cc)]))
      refine OwnEnds.via (fun t k => XS.sipush X8.here hx rfl (hb hby d4_17) k) ?_
      show OwnEnds _ _ _ _ (T8.setTop (mkF m 20 #[.val (.int ip)] [(.int (128 : Int32)), (.int ip), (.ref cc)]))
      refine OwnEnds.via (fun t k => XS.iadd X8.here hx rfl (hb hby d4_20) rfl k) ?_
      obtain ⟨bA9, bS9, bN9⟩ := P0.ext O0.2
      have hin9 := inb_of bS9 (own_idx ip hc3_1 hc10_5)
      obtain ⟨b9, hat9, Eb9, Fb9⟩ := P0.2.2.2 _ hin9
      refine OwnEnds.via (X8.aaload hx (j := (ip + (128 : Int32))) (v := .ref b9) (by rw [e8]; exact bA9.1) (State.isArrayOf_alike hZ.alike bA9.2.1) rfl bA9.2.2 hin9 hat9 (g := (mkF m 21 #[.val (.int ip)] [(.int (ip + (128 : Int32))), (.ref cc)])) rfl rfl (hb hby d4_21)) ?_
      show OwnEnds _ _ _ _ (T8.setTop (mkF m 22 #[.val (.int ip)] [(.ref b9)]))
      obtain ⟨fs, hr, hrun, hended, hW, hsame⟩ := X8.leave (v := some (.ref b9)) (fun h => by rw [Bd.returns] at h; cases h)
      refine ⟨_, _, ?_, hrun, hended, _, _, rfl, ?_, ⟨_, rfl⟩, hW, hsame.mono (by decide) (by decide)⟩
      · jvm_step X8.here [X8.here.top, hx, (hb hby d4_22), X8.method', Bd.returns, Value.isRef, FieldType.isReference]
        first | (intro acts; rw [hr _ acts rfl rfl rfl]) | rw [hr _ _ rfl rfl rfl]
        exact Steps.refl _
      · show Q4 Z ip cc cb vb h0 n0 _ T8.heap _
        rw [e8]
        exact ⟨b9, rfl, N0, (Keep.refl h0 []), (Eb9.ext O0.2)⟩

theorem d3_0 : decode prog_53_method_11_code 0 = .ok (.aload_n 1, 1) := by decide +kernel
theorem d3_1 : decode prog_53_method_11_code 1 = .ok (.instanceof 8, 3) := by decide +kernel
theorem d3_4 : decode prog_53_method_11_code 4 = .ok (.ifCond .eq 56, 3) := by decide +kernel
theorem d3_7 : decode prog_53_method_11_code 7 = .ok (.aload_n 1, 1) := by decide +kernel
theorem d3_8 : decode prog_53_method_11_code 8 = .ok (.checkcast 8, 3) := by decide +kernel
theorem d3_11 : decode prog_53_method_11_code 11 = .ok (.astore_n 2, 1) := by decide +kernel
theorem d3_12 : decode prog_53_method_11_code 12 = .ok (.aload_n 0, 1) := by decide +kernel
theorem d3_13 : decode prog_53_method_11_code 13 = .ok (.getfield 7, 3) := by decide +kernel
theorem d3_16 : decode prog_53_method_11_code 16 = .ok (.aload_n 2, 1) := by decide +kernel
theorem d3_17 : decode prog_53_method_11_code 17 = .ok (.getfield 7, 3) := by decide +kernel
theorem d3_20 : decode prog_53_method_11_code 20 = .ok (.if_icmp .ne 40, 3) := by decide +kernel
theorem d3_23 : decode prog_53_method_11_code 23 = .ok (.aload_n 0, 1) := by decide +kernel
theorem d3_24 : decode prog_53_method_11_code 24 = .ok (.getfield 13, 3) := by decide +kernel
theorem d3_27 : decode prog_53_method_11_code 27 = .ok (.aload_n 2, 1) := by decide +kernel
theorem d3_28 : decode prog_53_method_11_code 28 = .ok (.getfield 13, 3) := by decide +kernel
theorem d3_31 : decode prog_53_method_11_code 31 = .ok (.if_icmp .ne 29, 3) := by decide +kernel
theorem d3_34 : decode prog_53_method_11_code 34 = .ok (.aload_n 0, 1) := by decide +kernel
theorem d3_35 : decode prog_53_method_11_code 35 = .ok (.getfield 16, 3) := by decide +kernel
theorem d3_38 : decode prog_53_method_11_code 38 = .ok (.aload_n 2, 1) := by decide +kernel
theorem d3_39 : decode prog_53_method_11_code 39 = .ok (.getfield 16, 3) := by decide +kernel
theorem d3_42 : decode prog_53_method_11_code 42 = .ok (.if_icmp .ne 18, 3) := by decide +kernel
theorem d3_45 : decode prog_53_method_11_code 45 = .ok (.aload_n 0, 1) := by decide +kernel
theorem d3_46 : decode prog_53_method_11_code 46 = .ok (.getfield 19, 3) := by decide +kernel
theorem d3_49 : decode prog_53_method_11_code 49 = .ok (.aload_n 2, 1) := by decide +kernel
theorem d3_50 : decode prog_53_method_11_code 50 = .ok (.getfield 19, 3) := by decide +kernel
theorem d3_53 : decode prog_53_method_11_code 53 = .ok (.if_icmp .ne 7, 3) := by decide +kernel
theorem d3_56 : decode prog_53_method_11_code 56 = .ok (.iconst 1, 1) := by decide +kernel
theorem d3_57 : decode prog_53_method_11_code 57 = .ok (.goto 4, 3) := by decide +kernel
theorem d3_60 : decode prog_53_method_11_code 60 = .ok (.iconst 0, 1) := by decide +kernel
theorem d3_61 : decode prog_53_method_11_code 61 = .ok (.ireturn, 1) := by decide +kernel
theorem pn_rmF : plainName "com/example/usher_panes/usherpanes/model/Frame" = true := by first | (simp [plainName, overriddenIn]; done) | decide +kernel
theorem ef_rmF (m : MethodId) (a : Addr) (b : Addr) : entryFrame m #[(.ref a), (.ref b)] 3 = mkF m 0 #[.val (.ref a), .val (.ref b), .unset] [] := by first | (simp [entryFrame, mkF, argsToLocals, Value.category]; done) | rfl
def QF (Z : State) (a : Addr) (b : Addr) (fx : Int32) (fy : Int32) (wd : Int32) (ht : Int32) (fx2 : Int32) (fy2 : Int32) (wd2 : Int32) (ht2 : Int32) (h0 : Heap) (n0 : Nat) (v : Option Value) (h : Heap) (L : List Loc) : Prop := v = some (.int (if fx = fx2 ∧ fy = fy2 ∧ wd = wd2 ∧ ht = ht2 then (1 : Int32) else (0 : Int32))) ∧ Fr n0 L ∧ h = h0
set_option maxRecDepth 65536 in
set_option maxHeartbeats 40000000 in
theorem rmF (l : Launch) (Z : State) (a0 : Array Value) (hw : ∀ d ∈ tables_1, d.before a0 Z = true) (ws : List Jvm.Cond) (a : Addr) (b : Addr) (fx : Int32) (fy : Int32) (wd : Int32) (ht : Int32) (fx2 : Int32) (fy2 : Int32) (wd2 : Int32) (ht2 : Int32) (h0 : Heap) (n0 : Nat) (Z0 : n0 ≤ h0.size) (P0 : Exa Z h0 b "com/example/usher_panes/usherpanes/model/Frame") (P1 : Fld Z h0 a "com/example/usher_panes/usherpanes/model/Frame" "x" "I" (.int fx)) (P2 : Fld Z h0 a "com/example/usher_panes/usherpanes/model/Frame" "y" "I" (.int fy)) (P3 : Fld Z h0 a "com/example/usher_panes/usherpanes/model/Frame" "width" "I" (.int wd)) (P4 : Fld Z h0 a "com/example/usher_panes/usherpanes/model/Frame" "height" "I" (.int ht)) (P5 : Fld Z h0 b "com/example/usher_panes/usherpanes/model/Frame" "x" "I" (.int fx2)) (P6 : Fld Z h0 b "com/example/usher_panes/usherpanes/model/Frame" "y" "I" (.int fy2)) (P7 : Fld Z h0 b "com/example/usher_panes/usherpanes/model/Frame" "width" "I" (.int wd2)) (P8 : Fld Z h0 b "com/example/usher_panes/usherpanes/model/Frame" "height" "I" (.int ht2)) :
    MetFree l (⟨"com/example/usher_panes/usherpanes/model/Frame", "equals", "(Ljava/lang/Object;)Z"⟩ : MethodName) (head1 (Jvm.Cond.code (⟨"com/example/usher_panes/usherpanes/model/Frame", "equals", "(Ljava/lang/Object;)Z"⟩ : MethodName) prog_53_method_11_code 3 (some .boolean) :: ws) ({ frames := 0, cells := 0, slots := 0, locals := 0 } : Room)) (fun aa U => aa = #[(.ref a), (.ref b)] ∧ Z.Warmed39 U.vm ∧ U.heap = h0) (fun _ _ _ _ _ => True) (fun _ U o U' => ∃ v L, o = .returned v ∧ QF Z a b fx fy wd ht fx2 fy2 wd2 ht2 h0 n0 v U'.heap L ∧ FrameEnd U o U' L ({ frames := 0, cells := 0, slots := 0, locals := 0 } : Room).cells ({ frames := 0, cells := 0, slots := 0, locals := 0 } : Room).slots) := by
  refine MetFree.of_bodySF (plainFor_of_name pn_rmF) hisR ?_
  intro p e s m args below meth c s₁ Bd hml0 hP hK
  obtain ⟨rfl, hZ, hh⟩ := hP
  have hx := Bd.exec
  have hby := Bd.bytes
  have hml : c.maxLocals = 3 := hml0
  have hown : s.vm.findClass "com/example/usher_panes/usherpanes/model/Frame" = some m.cls := findClass_of_methodNamed Bd.named
  have hnm := (name_of_methodNamed Bd.named Bd.method).1
  have X0 : Stand p l e ({ frames := 0, cells := 0, slots := 0, locals := 0 } : Room) s m #[(.ref a), (.ref b)] below meth c s₁ [] 0 0 := Stand.of_body Bd
  have e0 : s₁.heap = h0 := by rw [← hh, Bd.state]; rfl
  have N0 := Fr.nil n0
  change OwnEnds p.tables e below _ _
  refine OwnEnds.via (fun t k => castTop (ef_rmF m a b) k) ?_
  show OwnEnds _ _ _ _ (s₁.setTop (mkF m 0 #[.val (.ref a), .val (.ref b), .unset] []))
  refine OwnEnds.via (fun t k => XS.aloadN X0.here hx rfl (hb hby d3_0) rfl rfl k) ?_
  show OwnEnds _ _ _ _ (s₁.setTop (mkF m 1 #[.val (.ref a), .val (.ref b), .unset] [(.ref b)]))
  obtain ⟨T1, X1, e1, st1⟩ := instY X0 hx hZ hown (hw _ (List.mem_of_getElem? (i := 22) rfl)) e0 (Ins.self P0) (g := (mkF m 1 #[.val (.ref a), .val (.ref b), .unset] [(.ref b)])) rfl rfl (hb hby d3_1)
  refine OwnEnds.via st1 ?_
  show OwnEnds _ _ _ _ (T1.setTop (mkF m 4 #[.val (.ref a), .val (.ref b), .unset] [(.int (1 : Int32))]))
  refine OwnEnds.via (fun t k => XS.ifNo X1.here hx rfl (hb hby d3_4) rfl ((if0 _ _).trans (feq (by decide)).1) k) ?_
  show OwnEnds _ _ _ _ (T1.setTop (mkF m 7 #[.val (.ref a), .val (.ref b), .unset] []))
  refine OwnEnds.via (fun t k => XS.aloadN X1.here hx rfl (hb hby d3_7) rfl rfl k) ?_
  show OwnEnds _ _ _ _ (T1.setTop (mkF m 8 #[.val (.ref a), .val (.ref b), .unset] [(.ref b)]))
  obtain ⟨T2, X2, e2, st2⟩ := castY X1 hx hZ hown (hw _ (List.mem_of_getElem? (i := 22) rfl)) e1 (Ins.self P0) (g := (mkF m 8 #[.val (.ref a), .val (.ref b), .unset] [(.ref b)])) rfl rfl (hb hby d3_8)
  refine OwnEnds.via st2 ?_
  show OwnEnds _ _ _ _ (T2.setTop (mkF m 11 #[.val (.ref a), .val (.ref b), .unset] [(.ref b)]))
  refine OwnEnds.via (fun t k => XS.astoreN X2.here hx rfl (hb hby d3_11) rfl rfl (l' := #[.val (.ref a), .val (.ref b), .val (.ref b)]) rfl k) ?_
  show OwnEnds _ _ _ _ (T2.setTop (mkF m 12 #[.val (.ref a), .val (.ref b), .val (.ref b)] []))
  refine OwnEnds.via (fun t k => XS.aloadN X2.here hx rfl (hb hby d3_12) rfl rfl k) ?_
  show OwnEnds _ _ _ _ (T2.setTop (mkF m 13 #[.val (.ref a), .val (.ref b), .val (.ref b)] [(.ref a)]))
  obtain ⟨T3, X3, e3, st3⟩ := getF X2 hx hZ hown (host := "") (Or.inl (hw _ (List.mem_of_getElem? (i := 9) rfl))) Via.refl e2 P1 (g := (mkF m 13 #[.val (.ref a), .val (.ref b), .val (.ref b)] [(.ref a)])) rfl rfl (hb hby d3_13)
  refine OwnEnds.via st3 ?_
  show OwnEnds _ _ _ _ (T3.setTop (mkF m 16 #[.val (.ref a), .val (.ref b), .val (.ref b)] [(.int fx)]))
  refine OwnEnds.via (fun t k => XS.aloadN X3.here hx rfl (hb hby d3_16) rfl rfl k) ?_
  show OwnEnds _ _ _ _ (T3.setTop (mkF m 17 #[.val (.ref a), .val (.ref b), .val (.ref b)] [(.ref b), (.int fx)]))
  obtain ⟨T4, X4, e4, st4⟩ := getF X3 hx hZ hown (host := "") (Or.inl (hw _ (List.mem_of_getElem? (i := 9) rfl))) Via.refl e3 P5 (g := (mkF m 17 #[.val (.ref a), .val (.ref b), .val (.ref b)] [(.ref b), (.int fx)])) rfl rfl (hb hby d3_17)
  refine OwnEnds.via st4 ?_
  show OwnEnds _ _ _ _ (T4.setTop (mkF m 20 #[.val (.ref a), .val (.ref b), .val (.ref b)] [(.int fx2), (.int fx)]))
  by_cases hc20_5 : fx = fx2
  ·
    refine OwnEnds.via (fun t k => XS.icmpNo X4.here hx rfl (hb hby d3_20) rfl (teq hc20_5).2 k) ?_
    show OwnEnds _ _ _ _ (T4.setTop (mkF m 23 #[.val (.ref a), .val (.ref b), .val (.ref b)] []))
    refine OwnEnds.via (fun t k => XS.aloadN X4.here hx rfl (hb hby d3_23) rfl rfl k) ?_
    show OwnEnds _ _ _ _ (T4.setTop (mkF m 24 #[.val (.ref a), .val (.ref b), .val (.ref b)] [(.ref a)]))
    obtain ⟨T6, X6, e6, st6⟩ := getF X4 hx hZ hown (host := "") (Or.inl (hw _ (List.mem_of_getElem? (i := 11) rfl))) Via.refl e4 P2 (g := (mkF m 24 #[.val (.ref a), .val (.ref b), .val (.ref b)] [(.ref a)])) rfl rfl (hb hby d3_24)
    refine OwnEnds.via st6 ?_
    show OwnEnds _ _ _ _ (T6.setTop (mkF m 27 #[.val (.ref a), .val (.ref b), .val (.ref b)] [(.int fy)]))
    refine OwnEnds.via (fun t k => XS.aloadN X6.here hx rfl (hb hby d3_27) rfl rfl k) ?_
    show OwnEnds _ _ _ _ (T6.setTop (mkF m 28 #[.val (.ref a), .val (.ref b), .val (.ref b)] [(.ref b), (.int fy)]))
    obtain ⟨T7, X7, e7, st7⟩ := getF X6 hx hZ hown (host := "") (Or.inl (hw _ (List.mem_of_getElem? (i := 11) rfl))) Via.refl e6 P6 (g := (mkF m 28 #[.val (.ref a), .val (.ref b), .val (.ref b)] [(.ref b), (.int fy)])) rfl rfl (hb hby d3_28)
    refine OwnEnds.via st7 ?_
    show OwnEnds _ _ _ _ (T7.setTop (mkF m 31 #[.val (.ref a), .val (.ref b), .val (.ref b)] [(.int fy2), (.int fy)]))
    by_cases hc31_8 : fy = fy2
    ·
      refine OwnEnds.via (fun t k => XS.icmpNo X7.here hx rfl (hb hby d3_31) rfl (teq hc31_8).2 k) ?_
      show OwnEnds _ _ _ _ (T7.setTop (mkF m 34 #[.val (.ref a), .val (.ref b), .val (.ref b)] []))
      refine OwnEnds.via (fun t k => XS.aloadN X7.here hx rfl (hb hby d3_34) rfl rfl k) ?_
      show OwnEnds _ _ _ _ (T7.setTop (mkF m 35 #[.val (.ref a), .val (.ref b), .val (.ref b)] [(.ref a)]))
      obtain ⟨T9, X9, e9, st9⟩ := getF X7 hx hZ hown (host := "") (Or.inl (hw _ (List.mem_of_getElem? (i := 13) rfl))) Via.refl e7 P3 (g := (mkF m 35 #[.val (.ref a), .val (.ref b), .val (.ref b)] [(.ref a)])) rfl rfl (hb hby d3_35)
      refine OwnEnds.via st9 ?_
      show OwnEnds _ _ _ _ (T9.setTop (mkF m 38 #[.val (.ref a), .val (.ref b), .val (.ref b)] [(.int wd)]))
      refine OwnEnds.via (fun t k => XS.aloadN X9.here hx rfl (hb hby d3_38) rfl rfl k) ?_
      show OwnEnds _ _ _ _ (T9.setTop (mkF m 39 #[.val (.ref a), .val (.ref b), .val (.ref b)] [(.ref b), (.int wd)]))
      obtain ⟨T10, X10, e10, st10⟩ := getF X9 hx hZ hown (host := "") (Or.inl (hw _ (List.mem_of_getElem? (i := 13) rfl))) Via.refl e9 P7 (g := (mkF m 39 #[.val (.ref a), .val (.ref b), .val (.ref b)] [(.ref b), (.int wd)])) rfl rfl (hb hby d3_39)
      refine OwnEnds.via st10 ?_
      show OwnEnds _ _ _ _ (T10.setTop (mkF m 42 #[.val (.ref a), .val (.ref b), .val (.ref b)] [(.int wd2), (.int wd)]))
      by_cases hc42_11 : wd = wd2
      ·
        refine OwnEnds.via (fun t k => XS.icmpNo X10.here hx rfl (hb hby d3_42) rfl (teq hc42_11).2 k) ?_
        show OwnEnds _ _ _ _ (T10.setTop (mkF m 45 #[.val (.ref a), .val (.ref b), .val (.ref b)] []))
        refine OwnEnds.via (fun t k => XS.aloadN X10.here hx rfl (hb hby d3_45) rfl rfl k) ?_
        show OwnEnds _ _ _ _ (T10.setTop (mkF m 46 #[.val (.ref a), .val (.ref b), .val (.ref b)] [(.ref a)]))
        obtain ⟨T12, X12, e12, st12⟩ := getF X10 hx hZ hown (host := "") (Or.inl (hw _ (List.mem_of_getElem? (i := 15) rfl))) Via.refl e10 P4 (g := (mkF m 46 #[.val (.ref a), .val (.ref b), .val (.ref b)] [(.ref a)])) rfl rfl (hb hby d3_46)
        refine OwnEnds.via st12 ?_
        show OwnEnds _ _ _ _ (T12.setTop (mkF m 49 #[.val (.ref a), .val (.ref b), .val (.ref b)] [(.int ht)]))
        refine OwnEnds.via (fun t k => XS.aloadN X12.here hx rfl (hb hby d3_49) rfl rfl k) ?_
        show OwnEnds _ _ _ _ (T12.setTop (mkF m 50 #[.val (.ref a), .val (.ref b), .val (.ref b)] [(.ref b), (.int ht)]))
        obtain ⟨T13, X13, e13, st13⟩ := getF X12 hx hZ hown (host := "") (Or.inl (hw _ (List.mem_of_getElem? (i := 15) rfl))) Via.refl e12 P8 (g := (mkF m 50 #[.val (.ref a), .val (.ref b), .val (.ref b)] [(.ref b), (.int ht)])) rfl rfl (hb hby d3_50)
        refine OwnEnds.via st13 ?_
        show OwnEnds _ _ _ _ (T13.setTop (mkF m 53 #[.val (.ref a), .val (.ref b), .val (.ref b)] [(.int ht2), (.int ht)]))
        by_cases hc53_14 : ht = ht2
        ·
          refine OwnEnds.via (fun t k => XS.icmpNo X13.here hx rfl (hb hby d3_53) rfl (teq hc53_14).2 k) ?_
          show OwnEnds _ _ _ _ (T13.setTop (mkF m 56 #[.val (.ref a), .val (.ref b), .val (.ref b)] []))
          refine OwnEnds.via (fun t k => XS.iconst X13.here hx rfl (hb hby d3_56) k) ?_
          show OwnEnds _ _ _ _ (T13.setTop (mkF m 57 #[.val (.ref a), .val (.ref b), .val (.ref b)] [(.int (1 : Int32))]))
          refine OwnEnds.via (fun t k => XS.goto X13.here hx rfl (pc0 := 57) (pc' := 61) rfl (hb hby d3_57) (by decide) (by decide) k) ?_
          show OwnEnds _ _ _ _ (T13.setTop (mkF m 61 #[.val (.ref a), .val (.ref b), .val (.ref b)] [(.int (1 : Int32))]))
          obtain ⟨fs, hr, hrun, hended, hW, hsame⟩ := X13.leave (v := some (.int (1 : Int32))) (fun h => by rw [Bd.returns] at h; cases h)
          refine ⟨_, _, ?_, hrun, hended, _, _, rfl, ?_, ⟨_, rfl⟩, hW, hsame.mono (by decide) (by decide)⟩
          · exact retN X13 hx (t := .boolean) Bd.returns (by simp) (hb hby d3_61) hr
          · show QF Z a b fx fy wd ht fx2 fy2 wd2 ht2 h0 n0 _ T13.heap _
            rw [e13]
            exact ⟨(by rw [if_pos ⟨hc20_5, hc31_8, hc42_11, hc53_14⟩]), N0, rfl⟩
        ·
          refine OwnEnds.via (fun t k => XS.icmpYes X13.here hx rfl (pc0 := 53) (pc' := 60) rfl (hb hby d3_53) rfl (feq hc53_14).2 (by decide) (by decide) k) ?_
          show OwnEnds _ _ _ _ (T13.setTop (mkF m 60 #[.val (.ref a), .val (.ref b), .val (.ref b)] []))
          refine OwnEnds.via (fun t k => XS.iconst X13.here hx rfl (hb hby d3_60) k) ?_
          show OwnEnds _ _ _ _ (T13.setTop (mkF m 61 #[.val (.ref a), .val (.ref b), .val (.ref b)] [(.int (0 : Int32))]))
          obtain ⟨fs, hr, hrun, hended, hW, hsame⟩ := X13.leave (v := some (.int (0 : Int32))) (fun h => by rw [Bd.returns] at h; cases h)
          refine ⟨_, _, ?_, hrun, hended, _, _, rfl, ?_, ⟨_, rfl⟩, hW, hsame.mono (by decide) (by decide)⟩
          · exact retN X13 hx (t := .boolean) Bd.returns (by simp) (hb hby d3_61) hr
          · show QF Z a b fx fy wd ht fx2 fy2 wd2 ht2 h0 n0 _ T13.heap _
            rw [e13]
            exact ⟨(by rw [if_neg fun z => hc53_14 z.2.2.2]), N0, rfl⟩
      ·
        refine OwnEnds.via (fun t k => XS.icmpYes X10.here hx rfl (pc0 := 42) (pc' := 60) rfl (hb hby d3_42) rfl (feq hc42_11).2 (by decide) (by decide) k) ?_
        show OwnEnds _ _ _ _ (T10.setTop (mkF m 60 #[.val (.ref a), .val (.ref b), .val (.ref b)] []))
        refine OwnEnds.via (fun t k => XS.iconst X10.here hx rfl (hb hby d3_60) k) ?_
        show OwnEnds _ _ _ _ (T10.setTop (mkF m 61 #[.val (.ref a), .val (.ref b), .val (.ref b)] [(.int (0 : Int32))]))
        obtain ⟨fs, hr, hrun, hended, hW, hsame⟩ := X10.leave (v := some (.int (0 : Int32))) (fun h => by rw [Bd.returns] at h; cases h)
        refine ⟨_, _, ?_, hrun, hended, _, _, rfl, ?_, ⟨_, rfl⟩, hW, hsame.mono (by decide) (by decide)⟩
        · exact retN X10 hx (t := .boolean) Bd.returns (by simp) (hb hby d3_61) hr
        · show QF Z a b fx fy wd ht fx2 fy2 wd2 ht2 h0 n0 _ T10.heap _
          rw [e10]
          exact ⟨(by rw [if_neg fun z => hc42_11 z.2.2.1]), N0, rfl⟩
    ·
      refine OwnEnds.via (fun t k => XS.icmpYes X7.here hx rfl (pc0 := 31) (pc' := 60) rfl (hb hby d3_31) rfl (feq hc31_8).2 (by decide) (by decide) k) ?_
      show OwnEnds _ _ _ _ (T7.setTop (mkF m 60 #[.val (.ref a), .val (.ref b), .val (.ref b)] []))
      refine OwnEnds.via (fun t k => XS.iconst X7.here hx rfl (hb hby d3_60) k) ?_
      show OwnEnds _ _ _ _ (T7.setTop (mkF m 61 #[.val (.ref a), .val (.ref b), .val (.ref b)] [(.int (0 : Int32))]))
      obtain ⟨fs, hr, hrun, hended, hW, hsame⟩ := X7.leave (v := some (.int (0 : Int32))) (fun h => by rw [Bd.returns] at h; cases h)
      refine ⟨_, _, ?_, hrun, hended, _, _, rfl, ?_, ⟨_, rfl⟩, hW, hsame.mono (by decide) (by decide)⟩
      · exact retN X7 hx (t := .boolean) Bd.returns (by simp) (hb hby d3_61) hr
      · show QF Z a b fx fy wd ht fx2 fy2 wd2 ht2 h0 n0 _ T7.heap _
        rw [e7]
        exact ⟨(by rw [if_neg fun z => hc31_8 z.2.1]), N0, rfl⟩
  ·
    refine OwnEnds.via (fun t k => XS.icmpYes X4.here hx rfl (pc0 := 20) (pc' := 60) rfl (hb hby d3_20) rfl (feq hc20_5).2 (by decide) (by decide) k) ?_
    show OwnEnds _ _ _ _ (T4.setTop (mkF m 60 #[.val (.ref a), .val (.ref b), .val (.ref b)] []))
    refine OwnEnds.via (fun t k => XS.iconst X4.here hx rfl (hb hby d3_60) k) ?_
    show OwnEnds _ _ _ _ (T4.setTop (mkF m 61 #[.val (.ref a), .val (.ref b), .val (.ref b)] [(.int (0 : Int32))]))
    obtain ⟨fs, hr, hrun, hended, hW, hsame⟩ := X4.leave (v := some (.int (0 : Int32))) (fun h => by rw [Bd.returns] at h; cases h)
    refine ⟨_, _, ?_, hrun, hended, _, _, rfl, ?_, ⟨_, rfl⟩, hW, hsame.mono (by decide) (by decide)⟩
    · exact retN X4 hx (t := .boolean) Bd.returns (by simp) (hb hby d3_61) hr
    · show QF Z a b fx fy wd ht fx2 fy2 wd2 ht2 h0 n0 _ T4.heap _
      rw [e4]
      exact ⟨(by rw [if_neg fun z => hc20_5 z.1]), N0, rfl⟩

theorem pn_rmN : plainName "com/example/usher_panes/usherpanes/model/Frame" = true := by first | (simp [plainName, overriddenIn]; done) | decide +kernel
theorem ef_rmN (m : MethodId) (a : Addr) : entryFrame m #[(.ref a), .null] 3 = mkF m 0 #[.val (.ref a), .val .null, .unset] [] := by first | (simp [entryFrame, mkF, argsToLocals, Value.category]; done) | rfl
def QN (Z : State) (a : Addr) (h0 : Heap) (n0 : Nat) (v : Option Value) (h : Heap) (L : List Loc) : Prop := v = some (.int (0 : Int32)) ∧ Fr n0 L ∧ h = h0
set_option maxRecDepth 65536 in
set_option maxHeartbeats 40000000 in
theorem rmN (l : Launch) (Z : State) (a0 : Array Value) (hw : ∀ d ∈ tables_1, d.before a0 Z = true) (ws : List Jvm.Cond) (a : Addr) (h0 : Heap) (n0 : Nat) (Z0 : n0 ≤ h0.size)  :
    MetFree l (⟨"com/example/usher_panes/usherpanes/model/Frame", "equals", "(Ljava/lang/Object;)Z"⟩ : MethodName) (head1 (Jvm.Cond.code (⟨"com/example/usher_panes/usherpanes/model/Frame", "equals", "(Ljava/lang/Object;)Z"⟩ : MethodName) prog_53_method_11_code 3 (some .boolean) :: ws) ({ frames := 0, cells := 0, slots := 0, locals := 0 } : Room)) (fun aa U => aa = #[(.ref a), .null] ∧ Z.Warmed39 U.vm ∧ U.heap = h0) (fun _ _ _ _ _ => True) (fun _ U o U' => ∃ v L, o = .returned v ∧ QN Z a h0 n0 v U'.heap L ∧ FrameEnd U o U' L ({ frames := 0, cells := 0, slots := 0, locals := 0 } : Room).cells ({ frames := 0, cells := 0, slots := 0, locals := 0 } : Room).slots) := by
  refine MetFree.of_bodySF (plainFor_of_name pn_rmN) hisR ?_
  intro p e s m args below meth c s₁ Bd hml0 hP hK
  obtain ⟨rfl, hZ, hh⟩ := hP
  have hx := Bd.exec
  have hby := Bd.bytes
  have hml : c.maxLocals = 3 := hml0
  have hown : s.vm.findClass "com/example/usher_panes/usherpanes/model/Frame" = some m.cls := findClass_of_methodNamed Bd.named
  have hnm := (name_of_methodNamed Bd.named Bd.method).1
  have X0 : Stand p l e ({ frames := 0, cells := 0, slots := 0, locals := 0 } : Room) s m #[(.ref a), .null] below meth c s₁ [] 0 0 := Stand.of_body Bd
  have e0 : s₁.heap = h0 := by rw [← hh, Bd.state]; rfl
  have N0 := Fr.nil n0
  change OwnEnds p.tables e below _ _
  refine OwnEnds.via (fun t k => castTop (ef_rmN m a) k) ?_
  show OwnEnds _ _ _ _ (s₁.setTop (mkF m 0 #[.val (.ref a), .val .null, .unset] []))
  refine OwnEnds.via (fun t k => XS.aloadN X0.here hx rfl (hb hby d3_0) rfl rfl k) ?_
  show OwnEnds _ _ _ _ (s₁.setTop (mkF m 1 #[.val (.ref a), .val .null, .unset] [.null]))
  refine OwnEnds.via (X0.instanceofNull hx (g := (mkF m 1 #[.val (.ref a), .val .null, .unset] [.null])) rfl rfl (hb hby d3_1)) ?_
  show OwnEnds _ _ _ _ (s₁.setTop (mkF m 4 #[.val (.ref a), .val .null, .unset] [(.int (0 : Int32))]))
  refine OwnEnds.via (fun t k => XS.ifYes X0.here hx rfl (pc0 := 4) (pc' := 60) rfl (hb hby d3_4) rfl ((if0 _ _).trans (teq (by decide)).1) (by decide) (by decide) k) ?_
  show OwnEnds _ _ _ _ (s₁.setTop (mkF m 60 #[.val (.ref a), .val .null, .unset] []))
  refine OwnEnds.via (fun t k => XS.iconst X0.here hx rfl (hb hby d3_60) k) ?_
  show OwnEnds _ _ _ _ (s₁.setTop (mkF m 61 #[.val (.ref a), .val .null, .unset] [(.int (0 : Int32))]))
  obtain ⟨fs, hr, hrun, hended, hW, hsame⟩ := X0.leave (v := some (.int (0 : Int32))) (fun h => by rw [Bd.returns] at h; cases h)
  refine ⟨_, _, ?_, hrun, hended, _, _, rfl, ?_, ⟨_, rfl⟩, hW, hsame.mono (by decide) (by decide)⟩
  · exact retN X0 hx (t := .boolean) Bd.returns (by simp) (hb hby d3_61) hr
  · show QN Z a h0 n0 _ s₁.heap _
    rw [e0]
    exact ⟨rfl, N0, rfl⟩

theorem pn_rmI : plainName "com/example/usher_panes/usherpanes/model/Frame" = true := by first | (simp [plainName, overriddenIn]; done) | decide +kernel
theorem ef_rmI (m : MethodId) (a : Addr) (b : Addr) : entryFrame m #[(.ref a), (.ref b)] 3 = mkF m 0 #[.val (.ref a), .val (.ref b), .unset] [] := by first | (simp [entryFrame, mkF, argsToLocals, Value.category]; done) | rfl
def QI (Z : State) (a : Addr) (b : Addr) (h0 : Heap) (n0 : Nat) (v : Option Value) (h : Heap) (L : List Loc) : Prop := v = some (.int (0 : Int32)) ∧ Fr n0 L ∧ h = h0
set_option maxRecDepth 65536 in
set_option maxHeartbeats 40000000 in
theorem rmI (l : Launch) (Z : State) (a0 : Array Value) (hw : ∀ d ∈ tables_1, d.before a0 Z = true) (ws : List Jvm.Cond) (a : Addr) (b : Addr) (h0 : Heap) (n0 : Nat) (Z0 : n0 ≤ h0.size) (P0 : Exa Z h0 b "java/lang/Integer") :
    MetFree l (⟨"com/example/usher_panes/usherpanes/model/Frame", "equals", "(Ljava/lang/Object;)Z"⟩ : MethodName) (head1 (Jvm.Cond.code (⟨"com/example/usher_panes/usherpanes/model/Frame", "equals", "(Ljava/lang/Object;)Z"⟩ : MethodName) prog_53_method_11_code 3 (some .boolean) :: ws) ({ frames := 0, cells := 0, slots := 0, locals := 0 } : Room)) (fun aa U => aa = #[(.ref a), (.ref b)] ∧ Z.Warmed39 U.vm ∧ U.heap = h0) (fun _ _ _ _ _ => True) (fun _ U o U' => ∃ v L, o = .returned v ∧ QI Z a b h0 n0 v U'.heap L ∧ FrameEnd U o U' L ({ frames := 0, cells := 0, slots := 0, locals := 0 } : Room).cells ({ frames := 0, cells := 0, slots := 0, locals := 0 } : Room).slots) := by
  refine MetFree.of_bodySF (plainFor_of_name pn_rmI) hisR ?_
  intro p e s m args below meth c s₁ Bd hml0 hP hK
  obtain ⟨rfl, hZ, hh⟩ := hP
  have hx := Bd.exec
  have hby := Bd.bytes
  have hml : c.maxLocals = 3 := hml0
  have hown : s.vm.findClass "com/example/usher_panes/usherpanes/model/Frame" = some m.cls := findClass_of_methodNamed Bd.named
  have hnm := (name_of_methodNamed Bd.named Bd.method).1
  have X0 : Stand p l e ({ frames := 0, cells := 0, slots := 0, locals := 0 } : Room) s m #[(.ref a), (.ref b)] below meth c s₁ [] 0 0 := Stand.of_body Bd
  have e0 : s₁.heap = h0 := by rw [← hh, Bd.state]; rfl
  have N0 := Fr.nil n0
  change OwnEnds p.tables e below _ _
  refine OwnEnds.via (fun t k => castTop (ef_rmI m a b) k) ?_
  show OwnEnds _ _ _ _ (s₁.setTop (mkF m 0 #[.val (.ref a), .val (.ref b), .unset] []))
  refine OwnEnds.via (fun t k => XS.aloadN X0.here hx rfl (hb hby d3_0) rfl rfl k) ?_
  show OwnEnds _ _ _ _ (s₁.setTop (mkF m 1 #[.val (.ref a), .val (.ref b), .unset] [(.ref b)]))
  obtain ⟨T1, X1, e1, st1⟩ := instNo X0 hx hZ hown (hw _ (List.mem_of_getElem? (i := 22) rfl)) e0 P0 (own_no (hw _ (List.mem_of_getElem? (i := 45) rfl)) (hw _ (List.mem_of_getElem? (i := 1) rfl)) (NS.step (hw _ (List.mem_of_getElem? (i := 45) rfl)) (NS.step (hw _ (List.mem_of_getElem? (i := 46) rfl)) (own_root (hw _ (List.mem_of_getElem? (i := 47) rfl)) (hw _ (List.mem_of_getElem? (i := 1) rfl)) (by decide)) (by decide)) (by decide)) (by decide)) (g := (mkF m 1 #[.val (.ref a), .val (.ref b), .unset] [(.ref b)])) rfl rfl (hb hby d3_1)
  refine OwnEnds.via st1 ?_
  show OwnEnds _ _ _ _ (T1.setTop (mkF m 4 #[.val (.ref a), .val (.ref b), .unset] [(.int (0 : Int32))]))
  refine OwnEnds.via (fun t k => XS.ifYes X1.here hx rfl (pc0 := 4) (pc' := 60) rfl (hb hby d3_4) rfl ((if0 _ _).trans (teq (by decide)).1) (by decide) (by decide) k) ?_
  show OwnEnds _ _ _ _ (T1.setTop (mkF m 60 #[.val (.ref a), .val (.ref b), .unset] []))
  refine OwnEnds.via (fun t k => XS.iconst X1.here hx rfl (hb hby d3_60) k) ?_
  show OwnEnds _ _ _ _ (T1.setTop (mkF m 61 #[.val (.ref a), .val (.ref b), .unset] [(.int (0 : Int32))]))
  obtain ⟨fs, hr, hrun, hended, hW, hsame⟩ := X1.leave (v := some (.int (0 : Int32))) (fun h => by rw [Bd.returns] at h; cases h)
  refine ⟨_, _, ?_, hrun, hended, _, _, rfl, ?_, ⟨_, rfl⟩, hW, hsame.mono (by decide) (by decide)⟩
  · exact retN X1 hx (t := .boolean) Bd.returns (by simp) (hb hby d3_61) hr
  · show QI Z a b h0 n0 _ T1.heap _
    rw [e1]
    exact ⟨rfl, N0, rfl⟩

theorem own_add (x d : Int32) : x = x + d ↔ d = 0 := by
  rw [← Int32.toInt_inj, ← Int32.toInt_inj]
  have a := c_iadd x d
  have r1 := rng32 x
  have r2 := rng32 d
  have r3 := rng32 (x + d)
  have z : (0 : Int32).toInt = 0 := by decide
  omega
theorem own_ofNat (r : Int32) (N : Nat) (hN : N ≤ 2147483648) (h0 : 0 ≤ r.toInt) (h1 : r.toInt < N) : ∃ n : Fin N, r = n.val.toInt32 := by
  refine ⟨⟨r.toInt.toNat, by omega⟩, Int32.toInt_inj.mp ?_⟩
  rw [len_toInt (by show r.toInt.toNat < 2 ^ 31; omega)]
  show r.toInt = (r.toInt.toNat : Int)
  omega
theorem own_sub (s k : Int32) (e : (15 : Int32) &&& k = k) : (s &&& 15) &&& k = s &&& k := by rw [Int32.and_assoc, e]
theorem own_bits (s : Int32) : s &&& 15 = 0 ↔ (s &&& 1 = 0 ∧ s &&& 2 = 0 ∧ s &&& 4 = 0 ∧ s &&& 8 = 0) := by
  have e1 := own_sub s 1 (by decide)
  have e2 := own_sub s 2 (by decide)
  have e4 := own_sub s 4 (by decide)
  have e8 := own_sub s 8 (by decide)
  have hm := c_mask s (15 : Int32) 4 (by decide) (by decide)
  obtain ⟨n, hn⟩ := own_ofNat (s &&& 15) 16 (by decide) (by rw [hm]; exact Int.emod_nonneg _ (by decide)) (by rw [hm]; exact Int.emod_lt_of_pos _ (by decide))
  rw [← e1, ← e2, ← e4, ← e8, hn]
  clear hn hm e1 e2 e4 e8
  revert n
  decide
theorem own_one {s x d v : Int32} {k : Int32} (h : v = if s &&& k = 0 then x else x + d) : x = v ↔ (s &&& k = 0 ∨ d = 0) := by
  subst h
  by_cases q : s &&& k = 0
  · simp [q]
  · simp [q, own_add]
theorem own_fe {fx fy wd ht fx2 fy2 wd2 ht2 s d ex : Int32} (h1 : fx2 = if s &&& (1 : Int32) = (0 : Int32) then fx else fx + d) (h2 : fy2 = if s &&& (2 : Int32) = (0 : Int32) then fy else fy + d) (h3 : wd2 = if s &&& (4 : Int32) = (0 : Int32) then wd else wd + d) (h4 : ht2 = if s &&& (8 : Int32) = (0 : Int32) then ht else ht + d)
    (hx : ex = if s &&& (15 : Int32) = (0 : Int32) ∨ d = (0 : Int32) then (1 : Int32) else (0 : Int32)) : (if fx = fx2 ∧ fy = fy2 ∧ wd = wd2 ∧ ht = ht2 then (1 : Int32) else (0 : Int32)) = ex := by
  subst hx
  have e : (fx = fx2 ∧ fy = fy2 ∧ wd = wd2 ∧ ht = ht2) ↔ (s &&& (15 : Int32) = (0 : Int32) ∨ d = (0 : Int32)) := by
    rw [own_one h1, own_one h2, own_one h3, own_one h4, own_bits]
    by_cases hd : d = 0 <;> simp [hd]
  simp only [e]
theorem own_sym {fx fy wd ht fx2 fy2 wd2 ht2 ex : Int32} (h : (if fx = fx2 ∧ fy = fy2 ∧ wd = wd2 ∧ ht = ht2 then (1 : Int32) else (0 : Int32)) = ex) : (if fx2 = fx ∧ fy2 = fy ∧ wd2 = wd ∧ ht2 = ht then (1 : Int32) else (0 : Int32)) = ex := by
  rw [← h]
  simp only [eq_comm]
theorem own_self (a b c d : Int32) : ¬ (if a = a ∧ b = b ∧ c = c ∧ d = d then (1 : Int32) else (0 : Int32)) = (0 : Int32) := by simp

theorem pn_rm0 : plainName "com/example/usher_panes/usherpanes/model/FrameEqualsPinLaw" = true := by first | (simp [plainName, overriddenIn]; done) | decide +kernel
theorem pd_2 : parseMethodDescriptor "(IIII)V" = some ⟨[.int, .int, .int, .int], none⟩ := by decide +kernel
theorem pd_3 : parseMethodDescriptor "(Ljava/lang/Object;)Z" = some ⟨[(.object "java/lang/Object")], some .boolean⟩ := by decide +kernel
theorem pd_4 : parseMethodDescriptor "(I)Ljava/lang/Integer;" = some ⟨[.int], some (.object "java/lang/Integer")⟩ := by decide +kernel
theorem ef_rm0 (m : MethodId) (fx : Int32) (fy : Int32) (wd : Int32) (ht : Int32) (sel : Int32) (dl : Int32) : entryFrame m #[(.int fx), (.int fy), (.int wd), (.int ht), (.int sel), (.int dl)] maxLocals = mkF m 0 #[.val (.int fx), .val (.int fy), .val (.int wd), .val (.int ht), .val (.int sel), .val (.int dl), .unset, .unset, .unset, .unset, .unset, .unset, .unset, .unset, .unset] [] := by first | (simp [entryFrame, mkF, argsToLocals, Value.category, maxLocals]; done) | rfl
def Q0 (Z : State) (fx : Int32) (fy : Int32) (wd : Int32) (ht : Int32) (sel : Int32) (dl : Int32) (cc : Addr) (cb : Cell) (vb : Int32 → Value) (h0 : Heap) (n0 : Nat) (v : Option Value) (h : Heap) (L : List Loc) : Prop := v = some (.int (1 : Int32)) ∧ Fr n0 L
set_option maxRecDepth 65536 in
set_option maxHeartbeats 40000000 in
theorem rm0 (l : Launch) (Z : State) (a0 : Array Value) (hw : ∀ d ∈ tables_1, d.before a0 Z = true) (ws : List Jvm.Cond) (fx : Int32) (fy : Int32) (wd : Int32) (ht : Int32) (sel : Int32) (dl : Int32) (cc : Addr) (cb : Cell) (vb : Int32 → Value) (h0 : Heap) (n0 : Nat) (Z0 : n0 ≤ h0.size) (O0 : Old Z n0 h0) (P0 : Bxs Z cc cb "java/lang/Integer" "I" (256 : Int32) vb) (OP0 : Sta Z Z.heap "java/lang/Integer$IntegerCache" "high" "I" (.int (127 : Int32))) (OP1 : Sta Z Z.heap "java/lang/Integer$IntegerCache" "cache" "[Ljava/lang/Integer;" (.ref cc)) :
    MetFree l x (head1 (Jvm.Cond.code x code maxLocals ret :: ws) room_1) (fun aa U => aa = #[(.int fx), (.int fy), (.int wd), (.int ht), (.int sel), (.int dl)] ∧ Z.Warmed39 U.vm ∧ U.heap = h0) (fun _ _ _ _ _ => True) (fun _ U o U' => ∃ v L, o = .returned v ∧ Q0 Z fx fy wd ht sel dl cc cb vb h0 n0 v U'.heap L ∧ FrameEnd U o U' L room_1.cells room_1.slots) := by
  refine MetFree.of_bodySF (plainFor_of_name pn_rm0) hisR ?_
  intro p e s m args below meth c s₁ Bd hml0 hP hK
  obtain ⟨rfl, hZ, hh⟩ := hP
  have hx := Bd.exec
  have hby := Bd.bytes
  have hml : c.maxLocals = 15 := hml0
  have hown : s.vm.findClass "com/example/usher_panes/usherpanes/model/FrameEqualsPinLaw" = some m.cls := findClass_of_methodNamed Bd.named
  have hnm := (name_of_methodNamed Bd.named Bd.method).1
  have X0 : Stand p l e room_1 s m #[(.int fx), (.int fy), (.int wd), (.int ht), (.int sel), (.int dl)] below meth c s₁ [] 0 0 := Stand.of_body Bd
  have e0 : s₁.heap = h0 := by rw [← hh, Bd.state]; rfl
  have N0 := Fr.nil n0
  change OwnEnds p.tables e below _ _
  refine OwnEnds.via (fun t k => castTop (ef_rm0 m fx fy wd ht sel dl) k) ?_
  show OwnEnds _ _ _ _ (s₁.setTop (mkF m 0 #[.val (.int fx), .val (.int fy), .val (.int wd), .val (.int ht), .val (.int sel), .val (.int dl), .unset, .unset, .unset, .unset, .unset, .unset, .unset, .unset, .unset] []))
  refine OwnEnds.via (fun t k => XS.iload X0.here hx rfl (hb hby at_0) rfl k) ?_
  show OwnEnds _ _ _ _ (s₁.setTop (mkF m 2 #[.val (.int fx), .val (.int fy), .val (.int wd), .val (.int ht), .val (.int sel), .val (.int dl), .unset, .unset, .unset, .unset, .unset, .unset, .unset, .unset, .unset] [(.int sel)]))
  refine OwnEnds.via (fun t k => XS.iconst X0.here hx rfl (hb hby at_2) k) ?_
  show OwnEnds _ _ _ _ (s₁.setTop (mkF m 3 #[.val (.int fx), .val (.int fy), .val (.int wd), .val (.int ht), .val (.int sel), .val (.int dl), .unset, .unset, .unset, .unset, .unset, .unset, .unset, .unset, .unset] [(.int (1 : Int32)), (.int sel)]))
  refine OwnEnds.via (fun t k => XS.iand X0.here hx rfl (hb hby at_3) rfl k) ?_
  show OwnEnds _ _ _ _ (s₁.setTop (mkF m 4 #[.val (.int fx), .val (.int fy), .val (.int wd), .val (.int ht), .val (.int sel), .val (.int dl), .unset, .unset, .unset, .unset, .unset, .unset, .unset, .unset, .unset] [(.int (sel &&& (1 : Int32)))]))
  refine OwnEnds.cut (fun G => ∀ (T1 : State) (lc1 : List Loc) (X1 : Stand p l e room_1 s m #[(.int fx), (.int fy), (.int wd), (.int ht), (.int sel), (.int dl)] below meth c T1 lc1 0 0) (e1 : T1.heap = h0) (N1 : Fr n0 lc1) (fx2 : Int32) (hj1_0 : fx2 = if sel &&& (1 : Int32) = (0 : Int32) then fx else fx + dl), G (T1.setTop (mkF m 15 #[.val (.int fx), .val (.int fy), .val (.int wd), .val (.int ht), .val (.int sel), .val (.int dl), .unset, .unset, .unset, .unset, .unset, .unset, .unset, .unset, .unset] [(.int fx2)]))) ?_ ?_
  · intro T1 lc1 X1 e1 N1 fx2 hj1_0
    show OwnEnds _ _ _ _ (T1.setTop (mkF m 15 #[.val (.int fx), .val (.int fy), .val (.int wd), .val (.int ht), .val (.int sel), .val (.int dl), .unset, .unset, .unset, .unset, .unset, .unset, .unset, .unset, .unset] [(.int fx2)]))
    refine OwnEnds.via (fun t k => XS.istore X1.here hx rfl (hb hby at_15) rfl (l' := #[.val (.int fx), .val (.int fy), .val (.int wd), .val (.int ht), .val (.int sel), .val (.int dl), .val (.int fx2), .unset, .unset, .unset, .unset, .unset, .unset, .unset, .unset]) rfl k) ?_
    show OwnEnds _ _ _ _ (T1.setTop (mkF m 17 #[.val (.int fx), .val (.int fy), .val (.int wd), .val (.int ht), .val (.int sel), .val (.int dl), .val (.int fx2), .unset, .unset, .unset, .unset, .unset, .unset, .unset, .unset] []))
    refine OwnEnds.via (fun t k => XS.iload X1.here hx rfl (hb hby at_17) rfl k) ?_
    show OwnEnds _ _ _ _ (T1.setTop (mkF m 19 #[.val (.int fx), .val (.int fy), .val (.int wd), .val (.int ht), .val (.int sel), .val (.int dl), .val (.int fx2), .unset, .unset, .unset, .unset, .unset, .unset, .unset, .unset] [(.int sel)]))
    refine OwnEnds.via (fun t k => XS.iconst X1.here hx rfl (hb hby at_19) k) ?_
    show OwnEnds _ _ _ _ (T1.setTop (mkF m 20 #[.val (.int fx), .val (.int fy), .val (.int wd), .val (.int ht), .val (.int sel), .val (.int dl), .val (.int fx2), .unset, .unset, .unset, .unset, .unset, .unset, .unset, .unset] [(.int (2 : Int32)), (.int sel)]))
    refine OwnEnds.via (fun t k => XS.iand X1.here hx rfl (hb hby at_20) rfl k) ?_
    show OwnEnds _ _ _ _ (T1.setTop (mkF m 21 #[.val (.int fx), .val (.int fy), .val (.int wd), .val (.int ht), .val (.int sel), .val (.int dl), .val (.int fx2), .unset, .unset, .unset, .unset, .unset, .unset, .unset, .unset] [(.int (sel &&& (2 : Int32)))]))
    refine OwnEnds.cut (fun G => ∀ (T2 : State) (lc2 : List Loc) (X2 : Stand p l e room_1 s m #[(.int fx), (.int fy), (.int wd), (.int ht), (.int sel), (.int dl)] below meth c T2 lc2 0 0) (e2 : T2.heap = h0) (N2 : Fr n0 lc2) (fy2 : Int32) (hj2_0 : fy2 = if sel &&& (2 : Int32) = (0 : Int32) then fy else fy + dl), G (T2.setTop (mkF m 32 #[.val (.int fx), .val (.int fy), .val (.int wd), .val (.int ht), .val (.int sel), .val (.int dl), .val (.int fx2), .unset, .unset, .unset, .unset, .unset, .unset, .unset, .unset] [(.int fy2)]))) ?_ ?_
    · intro T2 lc2 X2 e2 N2 fy2 hj2_0
      show OwnEnds _ _ _ _ (T2.setTop (mkF m 32 #[.val (.int fx), .val (.int fy), .val (.int wd), .val (.int ht), .val (.int sel), .val (.int dl), .val (.int fx2), .unset, .unset, .unset, .unset, .unset, .unset, .unset, .unset] [(.int fy2)]))
      refine OwnEnds.via (fun t k => XS.istore X2.here hx rfl (hb hby at_32) rfl (l' := #[.val (.int fx), .val (.int fy), .val (.int wd), .val (.int ht), .val (.int sel), .val (.int dl), .val (.int fx2), .val (.int fy2), .unset, .unset, .unset, .unset, .unset, .unset, .unset]) rfl k) ?_
      show OwnEnds _ _ _ _ (T2.setTop (mkF m 34 #[.val (.int fx), .val (.int fy), .val (.int wd), .val (.int ht), .val (.int sel), .val (.int dl), .val (.int fx2), .val (.int fy2), .unset, .unset, .unset, .unset, .unset, .unset, .unset] []))
      refine OwnEnds.via (fun t k => XS.iload X2.here hx rfl (hb hby at_34) rfl k) ?_
      show OwnEnds _ _ _ _ (T2.setTop (mkF m 36 #[.val (.int fx), .val (.int fy), .val (.int wd), .val (.int ht), .val (.int sel), .val (.int dl), .val (.int fx2), .val (.int fy2), .unset, .unset, .unset, .unset, .unset, .unset, .unset] [(.int sel)]))
      refine OwnEnds.via (fun t k => XS.iconst X2.here hx rfl (hb hby at_36) k) ?_
      show OwnEnds _ _ _ _ (T2.setTop (mkF m 37 #[.val (.int fx), .val (.int fy), .val (.int wd), .val (.int ht), .val (.int sel), .val (.int dl), .val (.int fx2), .val (.int fy2), .unset, .unset, .unset, .unset, .unset, .unset, .unset] [(.int (4 : Int32)), (.int sel)]))
      refine OwnEnds.via (fun t k => XS.iand X2.here hx rfl (hb hby at_37) rfl k) ?_
      show OwnEnds _ _ _ _ (T2.setTop (mkF m 38 #[.val (.int fx), .val (.int fy), .val (.int wd), .val (.int ht), .val (.int sel), .val (.int dl), .val (.int fx2), .val (.int fy2), .unset, .unset, .unset, .unset, .unset, .unset, .unset] [(.int (sel &&& (4 : Int32)))]))
      refine OwnEnds.cut (fun G => ∀ (T3 : State) (lc3 : List Loc) (X3 : Stand p l e room_1 s m #[(.int fx), (.int fy), (.int wd), (.int ht), (.int sel), (.int dl)] below meth c T3 lc3 0 0) (e3 : T3.heap = h0) (N3 : Fr n0 lc3) (wd2 : Int32) (hj3_0 : wd2 = if sel &&& (4 : Int32) = (0 : Int32) then wd else wd + dl), G (T3.setTop (mkF m 49 #[.val (.int fx), .val (.int fy), .val (.int wd), .val (.int ht), .val (.int sel), .val (.int dl), .val (.int fx2), .val (.int fy2), .unset, .unset, .unset, .unset, .unset, .unset, .unset] [(.int wd2)]))) ?_ ?_
      · intro T3 lc3 X3 e3 N3 wd2 hj3_0
        show OwnEnds _ _ _ _ (T3.setTop (mkF m 49 #[.val (.int fx), .val (.int fy), .val (.int wd), .val (.int ht), .val (.int sel), .val (.int dl), .val (.int fx2), .val (.int fy2), .unset, .unset, .unset, .unset, .unset, .unset, .unset] [(.int wd2)]))
        refine OwnEnds.via (fun t k => XS.istore X3.here hx rfl (hb hby at_49) rfl (l' := #[.val (.int fx), .val (.int fy), .val (.int wd), .val (.int ht), .val (.int sel), .val (.int dl), .val (.int fx2), .val (.int fy2), .val (.int wd2), .unset, .unset, .unset, .unset, .unset, .unset]) rfl k) ?_
        show OwnEnds _ _ _ _ (T3.setTop (mkF m 51 #[.val (.int fx), .val (.int fy), .val (.int wd), .val (.int ht), .val (.int sel), .val (.int dl), .val (.int fx2), .val (.int fy2), .val (.int wd2), .unset, .unset, .unset, .unset, .unset, .unset] []))
        refine OwnEnds.via (fun t k => XS.iload X3.here hx rfl (hb hby at_51) rfl k) ?_
        show OwnEnds _ _ _ _ (T3.setTop (mkF m 53 #[.val (.int fx), .val (.int fy), .val (.int wd), .val (.int ht), .val (.int sel), .val (.int dl), .val (.int fx2), .val (.int fy2), .val (.int wd2), .unset, .unset, .unset, .unset, .unset, .unset] [(.int sel)]))
        refine OwnEnds.via (fun t k => XS.bipush X3.here hx rfl (hb hby at_53) k) ?_
        show OwnEnds _ _ _ _ (T3.setTop (mkF m 55 #[.val (.int fx), .val (.int fy), .val (.int wd), .val (.int ht), .val (.int sel), .val (.int dl), .val (.int fx2), .val (.int fy2), .val (.int wd2), .unset, .unset, .unset, .unset, .unset, .unset] [(.int (8 : Int32)), (.int sel)]))
        refine OwnEnds.via (fun t k => XS.iand X3.here hx rfl (hb hby at_55) rfl k) ?_
        show OwnEnds _ _ _ _ (T3.setTop (mkF m 56 #[.val (.int fx), .val (.int fy), .val (.int wd), .val (.int ht), .val (.int sel), .val (.int dl), .val (.int fx2), .val (.int fy2), .val (.int wd2), .unset, .unset, .unset, .unset, .unset, .unset] [(.int (sel &&& (8 : Int32)))]))
        refine OwnEnds.cut (fun G => ∀ (T4 : State) (lc4 : List Loc) (X4 : Stand p l e room_1 s m #[(.int fx), (.int fy), (.int wd), (.int ht), (.int sel), (.int dl)] below meth c T4 lc4 0 0) (e4 : T4.heap = h0) (N4 : Fr n0 lc4) (ht2 : Int32) (hj4_0 : ht2 = if sel &&& (8 : Int32) = (0 : Int32) then ht else ht + dl), G (T4.setTop (mkF m 67 #[.val (.int fx), .val (.int fy), .val (.int wd), .val (.int ht), .val (.int sel), .val (.int dl), .val (.int fx2), .val (.int fy2), .val (.int wd2), .unset, .unset, .unset, .unset, .unset, .unset] [(.int ht2)]))) ?_ ?_
        · intro T4 lc4 X4 e4 N4 ht2 hj4_0
          show OwnEnds _ _ _ _ (T4.setTop (mkF m 67 #[.val (.int fx), .val (.int fy), .val (.int wd), .val (.int ht), .val (.int sel), .val (.int dl), .val (.int fx2), .val (.int fy2), .val (.int wd2), .unset, .unset, .unset, .unset, .unset, .unset] [(.int ht2)]))
          refine OwnEnds.via (fun t k => XS.istore X4.here hx rfl (hb hby at_67) rfl (l' := #[.val (.int fx), .val (.int fy), .val (.int wd), .val (.int ht), .val (.int sel), .val (.int dl), .val (.int fx2), .val (.int fy2), .val (.int wd2), .val (.int ht2), .unset, .unset, .unset, .unset, .unset]) rfl k) ?_
          show OwnEnds _ _ _ _ (T4.setTop (mkF m 69 #[.val (.int fx), .val (.int fy), .val (.int wd), .val (.int ht), .val (.int sel), .val (.int dl), .val (.int fx2), .val (.int fy2), .val (.int wd2), .val (.int ht2), .unset, .unset, .unset, .unset, .unset] []))
          obtain ⟨T5, h5, X5, e5, E5, A5, D5, -, st5⟩ := newO X4 hx hZ hown (hw _ (List.mem_of_getElem? (i := 0) rfl)) (hw _ (List.mem_of_getElem? (i := 1) rfl)) (hw _ (List.mem_of_getElem? (i := 2) rfl)) e4 (g := (mkF m 69 #[.val (.int fx), .val (.int fy), .val (.int wd), .val (.int ht), .val (.int sel), .val (.int dl), .val (.int fx2), .val (.int fy2), .val (.int wd2), .val (.int ht2), .unset, .unset, .unset, .unset, .unset] [])) rfl (hb hby at_69) (by decide) (by decide)
          obtain ⟨b5, g5⟩ : ∃ z, z = h0.size := ⟨_, rfl⟩
          have ge_b5 : n0 ≤ b5 := Nat.le_trans Z0 (Nat.le_of_eq g5.symm)
          have Z5 : n0 ≤ h5.size := Nat.le_trans Z0 E5.1
          have O5 : Old Z n0 h5 := O0.ext E5
          rw [← g5] at A5 D5 st5
          have F5_x : Fld Z h5 b5 "com/example/usher_panes/usherpanes/model/Frame" "x" "I" (.int (0 : Int32)) := D5 (Or.inr (hw _ (List.mem_of_getElem? (i := 10) rfl))) (ty := .int) (by decide)
          have F5_y : Fld Z h5 b5 "com/example/usher_panes/usherpanes/model/Frame" "y" "I" (.int (0 : Int32)) := D5 (Or.inr (hw _ (List.mem_of_getElem? (i := 12) rfl))) (ty := .int) (by decide)
          have F5_width : Fld Z h5 b5 "com/example/usher_panes/usherpanes/model/Frame" "width" "I" (.int (0 : Int32)) := D5 (Or.inr (hw _ (List.mem_of_getElem? (i := 14) rfl))) (ty := .int) (by decide)
          have F5_height : Fld Z h5 b5 "com/example/usher_panes/usherpanes/model/Frame" "height" "I" (.int (0 : Int32)) := D5 (Or.inr (hw _ (List.mem_of_getElem? (i := 16) rfl))) (ty := .int) (by decide)
          refine OwnEnds.via st5 ?_
          show OwnEnds _ _ _ _ (T5.setTop (mkF m 72 #[.val (.int fx), .val (.int fy), .val (.int wd), .val (.int ht), .val (.int sel), .val (.int dl), .val (.int fx2), .val (.int fy2), .val (.int wd2), .val (.int ht2), .unset, .unset, .unset, .unset, .unset] [(.ref b5)]))
          refine OwnEnds.via (fun t k => XS.dup X5.here hx rfl (hb hby at_72) rfl rfl k) ?_
          show OwnEnds _ _ _ _ (T5.setTop (mkF m 73 #[.val (.int fx), .val (.int fy), .val (.int wd), .val (.int ht), .val (.int sel), .val (.int dl), .val (.int fx2), .val (.int fy2), .val (.int wd2), .val (.int ht2), .unset, .unset, .unset, .unset, .unset] [(.ref b5), (.ref b5)]))
          refine OwnEnds.via (fun t k => XS.iloadN X5.here hx rfl (hb hby at_73) rfl k) ?_
          show OwnEnds _ _ _ _ (T5.setTop (mkF m 74 #[.val (.int fx), .val (.int fy), .val (.int wd), .val (.int ht), .val (.int sel), .val (.int dl), .val (.int fx2), .val (.int fy2), .val (.int wd2), .val (.int ht2), .unset, .unset, .unset, .unset, .unset] [(.int fx), (.ref b5), (.ref b5)]))
          refine OwnEnds.via (fun t k => XS.iloadN X5.here hx rfl (hb hby at_74) rfl k) ?_
          show OwnEnds _ _ _ _ (T5.setTop (mkF m 75 #[.val (.int fx), .val (.int fy), .val (.int wd), .val (.int ht), .val (.int sel), .val (.int dl), .val (.int fx2), .val (.int fy2), .val (.int wd2), .val (.int ht2), .unset, .unset, .unset, .unset, .unset] [(.int fy), (.int fx), (.ref b5), (.ref b5)]))
          refine OwnEnds.via (fun t k => XS.iloadN X5.here hx rfl (hb hby at_75) rfl k) ?_
          show OwnEnds _ _ _ _ (T5.setTop (mkF m 76 #[.val (.int fx), .val (.int fy), .val (.int wd), .val (.int ht), .val (.int sel), .val (.int dl), .val (.int fx2), .val (.int fy2), .val (.int wd2), .val (.int ht2), .unset, .unset, .unset, .unset, .unset] [(.int wd), (.int fy), (.int fx), (.ref b5), (.ref b5)]))
          refine OwnEnds.via (fun t k => XS.iloadN X5.here hx rfl (hb hby at_76) rfl k) ?_
          show OwnEnds _ _ _ _ (T5.setTop (mkF m 77 #[.val (.int fx), .val (.int fy), .val (.int wd), .val (.int ht), .val (.int sel), .val (.int dl), .val (.int fx2), .val (.int fy2), .val (.int wd2), .val (.int ht2), .unset, .unset, .unset, .unset, .unset] [(.int ht), (.int wd), (.int fy), (.int fx), (.ref b5), (.ref b5)]))
          obtain ⟨_, _, ⟨T6, L6, k6, n6⟩, -, X6, ⟨Lc6, hQ6, l6, y6, z6⟩, st6⟩ := X5.specialBack hx (y := (⟨"com/example/usher_panes/usherpanes/model/Frame", "<init>", "(IIII)V"⟩ : MethodName)) rfl hown (mvT hZ (hw _ (List.mem_of_getElem? (i := 3) rfl))) (mvT hZ (hw _ (List.mem_of_getElem? (i := 4) rfl))) (mvT hZ (hw _ (List.mem_of_getElem? (i := 5) rfl))) (by decide) (backOf (W := 1) (rm1 l Z a0 hw [] b5 fx fy wd ht h5 n0 Z5 A5 F5_x F5_y F5_width F5_height ge_b5) hZ (hw _ (List.mem_of_getElem? (i := 5) rfl)) (hw _ (List.mem_of_getElem? (i := 2) rfl)) (by decide) (by decide)) (g := (mkF m 77 #[.val (.int fx), .val (.int fy), .val (.int wd), .val (.int ht), .val (.int sel), .val (.int dl), .val (.int fx2), .val (.int fy2), .val (.int wd2), .val (.int ht2), .unset, .unset, .unset, .unset, .unset] [(.int ht), (.int wd), (.int fy), (.int fx), (.ref b5), (.ref b5)])) rfl (by rw [hml]; rfl) (Steps.refl _) (a := b5) (argsL := [(.int fx), (.int fy), (.int wd), (.int ht)]) (rest := [(.ref b5)]) (lenOf pd_2 rfl) rfl (by show 2 * 0 + _ ≤ _; exact Nat.le_of_eq rfl) (hb hby at_77) (fun _ _ => ⟨rfl, e5, (by decide : 1 + 0 ≤ _), (by decide : 4 + 0 ≤ _)⟩)
          dsimp only [Pt.U, Pt.locs, Pt.cells, Pt.slots] at X6 l6 y6 z6 st6 hQ6
          subst l6 y6 z6
          obtain ⟨h6, e6⟩ : ∃ z, T6.heap = z := ⟨_, rfl⟩
          rw [e6] at hQ6
          obtain ⟨rfl, Nq6, Kq6, q6_0, q6_1, q6_2, q6_3, q6_4⟩ := hQ6
          have Z6 : n0 ≤ h6.size := Nat.le_trans Z5 Kq6.1
          have O6 : Old Z n0 h6 := O5.keep Kq6 (allS ge_b5 all0)
          have N6 := Fr.app N4 Nq6
          refine OwnEnds.via (fun t k => st6.trans k) ?_
          show OwnEnds _ _ _ _ (T6.setTop (mkF m 80 #[.val (.int fx), .val (.int fy), .val (.int wd), .val (.int ht), .val (.int sel), .val (.int dl), .val (.int fx2), .val (.int fy2), .val (.int wd2), .val (.int ht2), .unset, .unset, .unset, .unset, .unset] [(.ref b5)]))
          refine OwnEnds.via (fun t k => XS.astore X6.here hx rfl (hb hby at_80) rfl rfl (l' := #[.val (.int fx), .val (.int fy), .val (.int wd), .val (.int ht), .val (.int sel), .val (.int dl), .val (.int fx2), .val (.int fy2), .val (.int wd2), .val (.int ht2), .val (.ref b5), .unset, .unset, .unset, .unset]) rfl k) ?_
          show OwnEnds _ _ _ _ (T6.setTop (mkF m 82 #[.val (.int fx), .val (.int fy), .val (.int wd), .val (.int ht), .val (.int sel), .val (.int dl), .val (.int fx2), .val (.int fy2), .val (.int wd2), .val (.int ht2), .val (.ref b5), .unset, .unset, .unset, .unset] []))
          obtain ⟨T7, h7, X7, e7, E7, A7, D7, -, st7⟩ := newO X6 hx hZ hown (hw _ (List.mem_of_getElem? (i := 0) rfl)) (hw _ (List.mem_of_getElem? (i := 1) rfl)) (hw _ (List.mem_of_getElem? (i := 2) rfl)) e6 (g := (mkF m 82 #[.val (.int fx), .val (.int fy), .val (.int wd), .val (.int ht), .val (.int sel), .val (.int dl), .val (.int fx2), .val (.int fy2), .val (.int wd2), .val (.int ht2), .val (.ref b5), .unset, .unset, .unset, .unset] [])) rfl (hb hby at_82) (by decide) (by decide)
          obtain ⟨b7, g7⟩ : ∃ z, z = h6.size := ⟨_, rfl⟩
          have ne_b5_b7 : b5 ≠ b7 := Nat.ne_of_lt (Nat.lt_of_lt_of_le q6_0.lt (Nat.le_of_eq g7.symm))
          have ge_b7 : n0 ≤ b7 := Nat.le_trans Z6 (Nat.le_of_eq g7.symm)
          have Z7 : n0 ≤ h7.size := Nat.le_trans Z6 E7.1
          have O7 : Old Z n0 h7 := O6.ext E7
          rw [← g7] at A7 D7 st7
          have F7_x : Fld Z h7 b7 "com/example/usher_panes/usherpanes/model/Frame" "x" "I" (.int (0 : Int32)) := D7 (Or.inr (hw _ (List.mem_of_getElem? (i := 10) rfl))) (ty := .int) (by decide)
          have F7_y : Fld Z h7 b7 "com/example/usher_panes/usherpanes/model/Frame" "y" "I" (.int (0 : Int32)) := D7 (Or.inr (hw _ (List.mem_of_getElem? (i := 12) rfl))) (ty := .int) (by decide)
          have F7_width : Fld Z h7 b7 "com/example/usher_panes/usherpanes/model/Frame" "width" "I" (.int (0 : Int32)) := D7 (Or.inr (hw _ (List.mem_of_getElem? (i := 14) rfl))) (ty := .int) (by decide)
          have F7_height : Fld Z h7 b7 "com/example/usher_panes/usherpanes/model/Frame" "height" "I" (.int (0 : Int32)) := D7 (Or.inr (hw _ (List.mem_of_getElem? (i := 16) rfl))) (ty := .int) (by decide)
          refine OwnEnds.via st7 ?_
          show OwnEnds _ _ _ _ (T7.setTop (mkF m 85 #[.val (.int fx), .val (.int fy), .val (.int wd), .val (.int ht), .val (.int sel), .val (.int dl), .val (.int fx2), .val (.int fy2), .val (.int wd2), .val (.int ht2), .val (.ref b5), .unset, .unset, .unset, .unset] [(.ref b7)]))
          refine OwnEnds.via (fun t k => XS.dup X7.here hx rfl (hb hby at_85) rfl rfl k) ?_
          show OwnEnds _ _ _ _ (T7.setTop (mkF m 86 #[.val (.int fx), .val (.int fy), .val (.int wd), .val (.int ht), .val (.int sel), .val (.int dl), .val (.int fx2), .val (.int fy2), .val (.int wd2), .val (.int ht2), .val (.ref b5), .unset, .unset, .unset, .unset] [(.ref b7), (.ref b7)]))
          refine OwnEnds.via (fun t k => XS.iload X7.here hx rfl (hb hby at_86) rfl k) ?_
          show OwnEnds _ _ _ _ (T7.setTop (mkF m 88 #[.val (.int fx), .val (.int fy), .val (.int wd), .val (.int ht), .val (.int sel), .val (.int dl), .val (.int fx2), .val (.int fy2), .val (.int wd2), .val (.int ht2), .val (.ref b5), .unset, .unset, .unset, .unset] [(.int fx2), (.ref b7), (.ref b7)]))
          refine OwnEnds.via (fun t k => XS.iload X7.here hx rfl (hb hby at_88) rfl k) ?_
          show OwnEnds _ _ _ _ (T7.setTop (mkF m 90 #[.val (.int fx), .val (.int fy), .val (.int wd), .val (.int ht), .val (.int sel), .val (.int dl), .val (.int fx2), .val (.int fy2), .val (.int wd2), .val (.int ht2), .val (.ref b5), .unset, .unset, .unset, .unset] [(.int fy2), (.int fx2), (.ref b7), (.ref b7)]))
          refine OwnEnds.via (fun t k => XS.iload X7.here hx rfl (hb hby at_90) rfl k) ?_
          show OwnEnds _ _ _ _ (T7.setTop (mkF m 92 #[.val (.int fx), .val (.int fy), .val (.int wd), .val (.int ht), .val (.int sel), .val (.int dl), .val (.int fx2), .val (.int fy2), .val (.int wd2), .val (.int ht2), .val (.ref b5), .unset, .unset, .unset, .unset] [(.int wd2), (.int fy2), (.int fx2), (.ref b7), (.ref b7)]))
          refine OwnEnds.via (fun t k => XS.iload X7.here hx rfl (hb hby at_92) rfl k) ?_
          show OwnEnds _ _ _ _ (T7.setTop (mkF m 94 #[.val (.int fx), .val (.int fy), .val (.int wd), .val (.int ht), .val (.int sel), .val (.int dl), .val (.int fx2), .val (.int fy2), .val (.int wd2), .val (.int ht2), .val (.ref b5), .unset, .unset, .unset, .unset] [(.int ht2), (.int wd2), (.int fy2), (.int fx2), (.ref b7), (.ref b7)]))
          obtain ⟨_, _, ⟨T8, L8, k8, n8⟩, -, X8, ⟨Lc8, hQ8, l8, y8, z8⟩, st8⟩ := X7.specialBack hx (y := (⟨"com/example/usher_panes/usherpanes/model/Frame", "<init>", "(IIII)V"⟩ : MethodName)) rfl hown (mvT hZ (hw _ (List.mem_of_getElem? (i := 3) rfl))) (mvT hZ (hw _ (List.mem_of_getElem? (i := 4) rfl))) (mvT hZ (hw _ (List.mem_of_getElem? (i := 5) rfl))) (by decide) (backOf (W := 1) (rm1 l Z a0 hw [] b7 fx2 fy2 wd2 ht2 h7 n0 Z7 A7 F7_x F7_y F7_width F7_height ge_b7) hZ (hw _ (List.mem_of_getElem? (i := 5) rfl)) (hw _ (List.mem_of_getElem? (i := 2) rfl)) (by decide) (by decide)) (g := (mkF m 94 #[.val (.int fx), .val (.int fy), .val (.int wd), .val (.int ht), .val (.int sel), .val (.int dl), .val (.int fx2), .val (.int fy2), .val (.int wd2), .val (.int ht2), .val (.ref b5), .unset, .unset, .unset, .unset] [(.int ht2), (.int wd2), (.int fy2), (.int fx2), (.ref b7), (.ref b7)])) rfl (by rw [hml]; rfl) (Steps.refl _) (a := b7) (argsL := [(.int fx2), (.int fy2), (.int wd2), (.int ht2)]) (rest := [(.ref b7)]) (lenOf pd_2 rfl) rfl (by show 2 * 0 + _ ≤ _; exact Nat.le_of_eq rfl) (hb hby at_94) (fun _ _ => ⟨rfl, e7, (by decide : 2 + 0 ≤ _), (by decide : 8 + 0 ≤ _)⟩)
          dsimp only [Pt.U, Pt.locs, Pt.cells, Pt.slots] at X8 l8 y8 z8 st8 hQ8
          subst l8 y8 z8
          obtain ⟨h8, e8⟩ : ∃ z, T8.heap = z := ⟨_, rfl⟩
          rw [e8] at hQ8
          obtain ⟨rfl, Nq8, Kq8, q8_0, q8_1, q8_2, q8_3, q8_4⟩ := hQ8
          have Z8 : n0 ≤ h8.size := Nat.le_trans Z7 Kq8.1
          have O8 : Old Z n0 h8 := O7.keep Kq8 (allS ge_b7 all0)
          have N8 := Fr.app N6 Nq8
          refine OwnEnds.via (fun t k => st8.trans k) ?_
          show OwnEnds _ _ _ _ (T8.setTop (mkF m 97 #[.val (.int fx), .val (.int fy), .val (.int wd), .val (.int ht), .val (.int sel), .val (.int dl), .val (.int fx2), .val (.int fy2), .val (.int wd2), .val (.int ht2), .val (.ref b5), .unset, .unset, .unset, .unset] [(.ref b7)]))
          refine OwnEnds.via (fun t k => XS.astore X8.here hx rfl (hb hby at_97) rfl rfl (l' := #[.val (.int fx), .val (.int fy), .val (.int wd), .val (.int ht), .val (.int sel), .val (.int dl), .val (.int fx2), .val (.int fy2), .val (.int wd2), .val (.int ht2), .val (.ref b5), .val (.ref b7), .unset, .unset, .unset]) rfl k) ?_
          show OwnEnds _ _ _ _ (T8.setTop (mkF m 99 #[.val (.int fx), .val (.int fy), .val (.int wd), .val (.int ht), .val (.int sel), .val (.int dl), .val (.int fx2), .val (.int fy2), .val (.int wd2), .val (.int ht2), .val (.ref b5), .val (.ref b7), .unset, .unset, .unset] []))
          refine OwnEnds.via (fun t k => XS.iload X8.here hx rfl (hb hby at_99) rfl k) ?_
          show OwnEnds _ _ _ _ (T8.setTop (mkF m 101 #[.val (.int fx), .val (.int fy), .val (.int wd), .val (.int ht), .val (.int sel), .val (.int dl), .val (.int fx2), .val (.int fy2), .val (.int wd2), .val (.int ht2), .val (.ref b5), .val (.ref b7), .unset, .unset, .unset] [(.int sel)]))
          refine OwnEnds.via (fun t k => XS.bipush X8.here hx rfl (hb hby at_101) k) ?_
          show OwnEnds _ _ _ _ (T8.setTop (mkF m 103 #[.val (.int fx), .val (.int fy), .val (.int wd), .val (.int ht), .val (.int sel), .val (.int dl), .val (.int fx2), .val (.int fy2), .val (.int wd2), .val (.int ht2), .val (.ref b5), .val (.ref b7), .unset, .unset, .unset] [(.int (15 : Int32)), (.int sel)]))
          refine OwnEnds.via (fun t k => XS.iand X8.here hx rfl (hb hby at_103) rfl k) ?_
          show OwnEnds _ _ _ _ (T8.setTop (mkF m 104 #[.val (.int fx), .val (.int fy), .val (.int wd), .val (.int ht), .val (.int sel), .val (.int dl), .val (.int fx2), .val (.int fy2), .val (.int wd2), .val (.int ht2), .val (.ref b5), .val (.ref b7), .unset, .unset, .unset] [(.int (sel &&& (15 : Int32)))]))
          refine OwnEnds.cut (fun G => ∀ (T9 : State) (lc9 : List Loc) (X9 : Stand p l e room_1 s m #[(.int fx), (.int fy), (.int wd), (.int ht), (.int sel), (.int dl)] below meth c T9 lc9 2 8) (e9 : T9.heap = h8) (N9 : Fr n0 lc9) (ex : Int32) (hj9_0 : ex = if sel &&& (15 : Int32) = (0 : Int32) ∨ dl = (0 : Int32) then (1 : Int32) else (0 : Int32)), G (T9.setTop (mkF m 117 #[.val (.int fx), .val (.int fy), .val (.int wd), .val (.int ht), .val (.int sel), .val (.int dl), .val (.int fx2), .val (.int fy2), .val (.int wd2), .val (.int ht2), .val (.ref b5), .val (.ref b7), .unset, .unset, .unset] [(.int ex)]))) ?_ ?_
          · intro T9 lc9 X9 e9 N9 ex hj9_0
            show OwnEnds _ _ _ _ (T9.setTop (mkF m 117 #[.val (.int fx), .val (.int fy), .val (.int wd), .val (.int ht), .val (.int sel), .val (.int dl), .val (.int fx2), .val (.int fy2), .val (.int wd2), .val (.int ht2), .val (.ref b5), .val (.ref b7), .unset, .unset, .unset] [(.int ex)]))
            refine OwnEnds.via (fun t k => XS.istore X9.here hx rfl (hb hby at_117) rfl (l' := #[.val (.int fx), .val (.int fy), .val (.int wd), .val (.int ht), .val (.int sel), .val (.int dl), .val (.int fx2), .val (.int fy2), .val (.int wd2), .val (.int ht2), .val (.ref b5), .val (.ref b7), .val (.int ex), .unset, .unset]) rfl k) ?_
            show OwnEnds _ _ _ _ (T9.setTop (mkF m 119 #[.val (.int fx), .val (.int fy), .val (.int wd), .val (.int ht), .val (.int sel), .val (.int dl), .val (.int fx2), .val (.int fy2), .val (.int wd2), .val (.int ht2), .val (.ref b5), .val (.ref b7), .val (.int ex), .unset, .unset] []))
            refine OwnEnds.via (fun t k => XS.iload X9.here hx rfl (hb hby at_119) rfl k) ?_
            show OwnEnds _ _ _ _ (T9.setTop (mkF m 121 #[.val (.int fx), .val (.int fy), .val (.int wd), .val (.int ht), .val (.int sel), .val (.int dl), .val (.int fx2), .val (.int fy2), .val (.int wd2), .val (.int ht2), .val (.ref b5), .val (.ref b7), .val (.int ex), .unset, .unset] [(.int sel)]))
            refine OwnEnds.via (fun t k => XS.iconst X9.here hx rfl (hb hby at_121) k) ?_
            show OwnEnds _ _ _ _ (T9.setTop (mkF m 122 #[.val (.int fx), .val (.int fy), .val (.int wd), .val (.int ht), .val (.int sel), .val (.int dl), .val (.int fx2), .val (.int fy2), .val (.int wd2), .val (.int ht2), .val (.ref b5), .val (.ref b7), .val (.int ex), .unset, .unset] [(.int (4 : Int32)), (.int sel)]))
            refine OwnEnds.via (fun t k => XS.ishr X9.here hx rfl (hb hby at_122) rfl k) ?_
            show OwnEnds _ _ _ _ (T9.setTop (mkF m 123 #[.val (.int fx), .val (.int fy), .val (.int wd), .val (.int ht), .val (.int sel), .val (.int dl), .val (.int fx2), .val (.int fy2), .val (.int wd2), .val (.int ht2), .val (.ref b5), .val (.ref b7), .val (.int ex), .unset, .unset] [(.int (sel >>> ((4 : Int32) &&& 31)))]))
            refine OwnEnds.via (fun t k => XS.iconst X9.here hx rfl (hb hby at_123) k) ?_
            show OwnEnds _ _ _ _ (T9.setTop (mkF m 124 #[.val (.int fx), .val (.int fy), .val (.int wd), .val (.int ht), .val (.int sel), .val (.int dl), .val (.int fx2), .val (.int fy2), .val (.int wd2), .val (.int ht2), .val (.ref b5), .val (.ref b7), .val (.int ex), .unset, .unset] [(.int (3 : Int32)), (.int (sel >>> ((4 : Int32) &&& 31)))]))
            refine OwnEnds.via (fun t k => XS.iand X9.here hx rfl (hb hby at_124) rfl k) ?_
            show OwnEnds _ _ _ _ (T9.setTop (mkF m 125 #[.val (.int fx), .val (.int fy), .val (.int wd), .val (.int ht), .val (.int sel), .val (.int dl), .val (.int fx2), .val (.int fy2), .val (.int wd2), .val (.int ht2), .val (.ref b5), .val (.ref b7), .val (.int ex), .unset, .unset] [(.int ((sel >>> ((4 : Int32) &&& 31)) &&& (3 : Int32)))]))
            refine OwnEnds.via (fun t k => XS.istore X9.here hx rfl (hb hby at_125) rfl (l' := #[.val (.int fx), .val (.int fy), .val (.int wd), .val (.int ht), .val (.int sel), .val (.int dl), .val (.int fx2), .val (.int fy2), .val (.int wd2), .val (.int ht2), .val (.ref b5), .val (.ref b7), .val (.int ex), .val (.int ((sel >>> ((4 : Int32) &&& 31)) &&& (3 : Int32))), .unset]) rfl k) ?_
            show OwnEnds _ _ _ _ (T9.setTop (mkF m 127 #[.val (.int fx), .val (.int fy), .val (.int wd), .val (.int ht), .val (.int sel), .val (.int dl), .val (.int fx2), .val (.int fy2), .val (.int wd2), .val (.int ht2), .val (.ref b5), .val (.ref b7), .val (.int ex), .val (.int ((sel >>> ((4 : Int32) &&& 31)) &&& (3 : Int32))), .unset] []))
            refine OwnEnds.via (fun t k => XS.iload X9.here hx rfl (hb hby at_127) rfl k) ?_
            show OwnEnds _ _ _ _ (T9.setTop (mkF m 129 #[.val (.int fx), .val (.int fy), .val (.int wd), .val (.int ht), .val (.int sel), .val (.int dl), .val (.int fx2), .val (.int fy2), .val (.int wd2), .val (.int ht2), .val (.ref b5), .val (.ref b7), .val (.int ex), .val (.int ((sel >>> ((4 : Int32) &&& 31)) &&& (3 : Int32))), .unset] [(.int ((sel >>> ((4 : Int32) &&& 31)) &&& (3 : Int32)))]))
            by_cases hc129_10 : ((sel >>> ((4 : Int32) &&& 31)) &&& (3 : Int32)) = (0 : Int32)
            ·
              refine OwnEnds.via (fun t k => XS.ifNo X9.here hx rfl (hb hby at_129) rfl ((if0 _ _).trans (teq hc129_10).2) k) ?_
              show OwnEnds _ _ _ _ (T9.setTop (mkF m 132 #[.val (.int fx), .val (.int fy), .val (.int wd), .val (.int ht), .val (.int sel), .val (.int dl), .val (.int fx2), .val (.int fy2), .val (.int wd2), .val (.int ht2), .val (.ref b5), .val (.ref b7), .val (.int ex), .val (.int ((sel >>> ((4 : Int32) &&& 31)) &&& (3 : Int32))), .unset] []))
              refine OwnEnds.via (fun t k => XS.aload X9.here hx rfl (hb hby at_132) rfl rfl k) ?_
              show OwnEnds _ _ _ _ (T9.setTop (mkF m 134 #[.val (.int fx), .val (.int fy), .val (.int wd), .val (.int ht), .val (.int sel), .val (.int dl), .val (.int fx2), .val (.int fy2), .val (.int wd2), .val (.int ht2), .val (.ref b5), .val (.ref b7), .val (.int ex), .val (.int ((sel >>> ((4 : Int32) &&& 31)) &&& (3 : Int32))), .unset] [(.ref b5)]))
              refine OwnEnds.via (fun t k => XS.aload X9.here hx rfl (hb hby at_134) rfl rfl k) ?_
              show OwnEnds _ _ _ _ (T9.setTop (mkF m 136 #[.val (.int fx), .val (.int fy), .val (.int wd), .val (.int ht), .val (.int sel), .val (.int dl), .val (.int fx2), .val (.int fy2), .val (.int wd2), .val (.int ht2), .val (.ref b5), .val (.ref b7), .val (.int ex), .val (.int ((sel >>> ((4 : Int32) &&& 31)) &&& (3 : Int32))), .unset] [(.ref b7), (.ref b5)]))
              obtain ⟨cq11, kq11, q11a, q11b, q11c⟩ := isOf hZ e9 ((q6_0.ext E7).keep Kq8)
              obtain ⟨_, _, ⟨T11, L11, k11, n11⟩, -, X11, ⟨Lc11, hQ11, l11, y11, z11⟩, st11⟩ := X9.virtualBack hx (y := (⟨"com/example/usher_panes/usherpanes/model/Frame", "equals", "(Ljava/lang/Object;)Z"⟩ : MethodName)) (z := (⟨"com/example/usher_panes/usherpanes/model/Frame", "equals", "(Ljava/lang/Object;)Z"⟩ : MethodName)) hown (mvT hZ (hw _ (List.mem_of_getElem? (i := 17) rfl))) (mvT hZ (hw _ (List.mem_of_getElem? (i := 18) rfl))) (notFace_of_selects (args := #[]) (mvT hZ (hw _ (List.mem_of_getElem? (i := 20) rfl)))) (mvT hZ (hw _ (List.mem_of_getElem? (i := 20) rfl))) (mvT hZ (hw _ (List.mem_of_getElem? (i := 19) rfl))) (by decide) (backOf (W := 0) (rmF l Z a0 hw [] b5 b7 fx fy wd ht fx2 fy2 wd2 ht2 h8 n0 Z8 q8_0 ((q6_1.ext E7).keep Kq8 (ninS ne_b5_b7 nin0)) ((q6_2.ext E7).keep Kq8 (ninS ne_b5_b7 nin0)) ((q6_3.ext E7).keep Kq8 (ninS ne_b5_b7 nin0)) ((q6_4.ext E7).keep Kq8 (ninS ne_b5_b7 nin0)) q8_1 q8_2 q8_3 q8_4) hZ (hw _ (List.mem_of_getElem? (i := 21) rfl)) (hw _ (List.mem_of_getElem? (i := 2) rfl)) (by decide) (by decide)) q11a q11c (g := (mkF m 136 #[.val (.int fx), .val (.int fy), .val (.int wd), .val (.int ht), .val (.int sel), .val (.int dl), .val (.int fx2), .val (.int fy2), .val (.int wd2), .val (.int ht2), .val (.ref b5), .val (.ref b7), .val (.int ex), .val (.int ((sel >>> ((4 : Int32) &&& 31)) &&& (3 : Int32))), .unset] [(.ref b7), (.ref b5)])) rfl (by rw [hml]; rfl) (Steps.refl _) (argsL := [(.ref b7)]) (rest := []) (lenOf pd_3 rfl) rfl (by show 2 * 0 + _ ≤ _; exact Nat.le_of_eq rfl) (hb hby at_136) (fun _ _ => ⟨rfl, e9, (by decide : 2 + 0 ≤ _), (by decide : 8 + 0 ≤ _)⟩)
              dsimp only [Pt.U, Pt.locs, Pt.cells, Pt.slots] at X11 l11 y11 z11 st11 hQ11
              subst l11 y11 z11
              obtain ⟨rfl, Nq11, e11⟩ := hQ11
              have N11 := Fr.app N9 Nq11
              refine OwnEnds.via (fun t k => st11.trans k) ?_
              show OwnEnds _ _ _ _ (T11.setTop (mkF m 139 #[.val (.int fx), .val (.int fy), .val (.int wd), .val (.int ht), .val (.int sel), .val (.int dl), .val (.int fx2), .val (.int fy2), .val (.int wd2), .val (.int ht2), .val (.ref b5), .val (.ref b7), .val (.int ex), .val (.int ((sel >>> ((4 : Int32) &&& 31)) &&& (3 : Int32))), .unset] [(.int (if fx = fx2 ∧ fy = fy2 ∧ wd = wd2 ∧ ht = ht2 then (1 : Int32) else (0 : Int32)))]))
              refine OwnEnds.via (fun t k => XS.iload X11.here hx rfl (hb hby at_139) rfl k) ?_
              show OwnEnds _ _ _ _ (T11.setTop (mkF m 141 #[.val (.int fx), .val (.int fy), .val (.int wd), .val (.int ht), .val (.int sel), .val (.int dl), .val (.int fx2), .val (.int fy2), .val (.int wd2), .val (.int ht2), .val (.ref b5), .val (.ref b7), .val (.int ex), .val (.int ((sel >>> ((4 : Int32) &&& 31)) &&& (3 : Int32))), .unset] [(.int ex), (.int (if fx = fx2 ∧ fy = fy2 ∧ wd = wd2 ∧ ht = ht2 then (1 : Int32) else (0 : Int32)))]))
              refine OwnEnds.via (fun t k => XS.icmpNo X11.here hx rfl (hb hby at_141) rfl (teq (own_fe hj1_0 hj2_0 hj3_0 hj4_0 hj9_0)).2 k) ?_
              show OwnEnds _ _ _ _ (T11.setTop (mkF m 144 #[.val (.int fx), .val (.int fy), .val (.int wd), .val (.int ht), .val (.int sel), .val (.int dl), .val (.int fx2), .val (.int fy2), .val (.int wd2), .val (.int ht2), .val (.ref b5), .val (.ref b7), .val (.int ex), .val (.int ((sel >>> ((4 : Int32) &&& 31)) &&& (3 : Int32))), .unset] []))
              refine OwnEnds.via (fun t k => XS.aload X11.here hx rfl (hb hby at_144) rfl rfl k) ?_
              show OwnEnds _ _ _ _ (T11.setTop (mkF m 146 #[.val (.int fx), .val (.int fy), .val (.int wd), .val (.int ht), .val (.int sel), .val (.int dl), .val (.int fx2), .val (.int fy2), .val (.int wd2), .val (.int ht2), .val (.ref b5), .val (.ref b7), .val (.int ex), .val (.int ((sel >>> ((4 : Int32) &&& 31)) &&& (3 : Int32))), .unset] [(.ref b5)]))
              refine OwnEnds.via (fun t k => XS.aload X11.here hx rfl (hb hby at_146) rfl rfl k) ?_
              show OwnEnds _ _ _ _ (T11.setTop (mkF m 148 #[.val (.int fx), .val (.int fy), .val (.int wd), .val (.int ht), .val (.int sel), .val (.int dl), .val (.int fx2), .val (.int fy2), .val (.int wd2), .val (.int ht2), .val (.ref b5), .val (.ref b7), .val (.int ex), .val (.int ((sel >>> ((4 : Int32) &&& 31)) &&& (3 : Int32))), .unset] [(.ref b5), (.ref b5)]))
              obtain ⟨cq12, kq12, q12a, q12b, q12c⟩ := isOf hZ e11 ((q6_0.ext E7).keep Kq8)
              obtain ⟨_, _, ⟨T12, L12, k12, n12⟩, -, X12, ⟨Lc12, hQ12, l12, y12, z12⟩, st12⟩ := X11.virtualBack hx (y := (⟨"com/example/usher_panes/usherpanes/model/Frame", "equals", "(Ljava/lang/Object;)Z"⟩ : MethodName)) (z := (⟨"com/example/usher_panes/usherpanes/model/Frame", "equals", "(Ljava/lang/Object;)Z"⟩ : MethodName)) hown (mvT hZ (hw _ (List.mem_of_getElem? (i := 17) rfl))) (mvT hZ (hw _ (List.mem_of_getElem? (i := 18) rfl))) (notFace_of_selects (args := #[]) (mvT hZ (hw _ (List.mem_of_getElem? (i := 20) rfl)))) (mvT hZ (hw _ (List.mem_of_getElem? (i := 20) rfl))) (mvT hZ (hw _ (List.mem_of_getElem? (i := 19) rfl))) (by decide) (backOf (W := 0) (rmF l Z a0 hw [] b5 b5 fx fy wd ht fx fy wd ht h8 n0 Z8 ((q6_0.ext E7).keep Kq8) ((q6_1.ext E7).keep Kq8 (ninS ne_b5_b7 nin0)) ((q6_2.ext E7).keep Kq8 (ninS ne_b5_b7 nin0)) ((q6_3.ext E7).keep Kq8 (ninS ne_b5_b7 nin0)) ((q6_4.ext E7).keep Kq8 (ninS ne_b5_b7 nin0)) ((q6_1.ext E7).keep Kq8 (ninS ne_b5_b7 nin0)) ((q6_2.ext E7).keep Kq8 (ninS ne_b5_b7 nin0)) ((q6_3.ext E7).keep Kq8 (ninS ne_b5_b7 nin0)) ((q6_4.ext E7).keep Kq8 (ninS ne_b5_b7 nin0))) hZ (hw _ (List.mem_of_getElem? (i := 21) rfl)) (hw _ (List.mem_of_getElem? (i := 2) rfl)) (by decide) (by decide)) q12a q12c (g := (mkF m 148 #[.val (.int fx), .val (.int fy), .val (.int wd), .val (.int ht), .val (.int sel), .val (.int dl), .val (.int fx2), .val (.int fy2), .val (.int wd2), .val (.int ht2), .val (.ref b5), .val (.ref b7), .val (.int ex), .val (.int ((sel >>> ((4 : Int32) &&& 31)) &&& (3 : Int32))), .unset] [(.ref b5), (.ref b5)])) rfl (by rw [hml]; rfl) (Steps.refl _) (argsL := [(.ref b5)]) (rest := []) (lenOf pd_3 rfl) rfl (by show 2 * 0 + _ ≤ _; exact Nat.le_of_eq rfl) (hb hby at_148) (fun _ _ => ⟨rfl, e11, (by decide : 2 + 0 ≤ _), (by decide : 8 + 0 ≤ _)⟩)
              dsimp only [Pt.U, Pt.locs, Pt.cells, Pt.slots] at X12 l12 y12 z12 st12 hQ12
              subst l12 y12 z12
              obtain ⟨rfl, Nq12, e12⟩ := hQ12
              have N12 := Fr.app N11 Nq12
              refine OwnEnds.via (fun t k => st12.trans k) ?_
              show OwnEnds _ _ _ _ (T12.setTop (mkF m 151 #[.val (.int fx), .val (.int fy), .val (.int wd), .val (.int ht), .val (.int sel), .val (.int dl), .val (.int fx2), .val (.int fy2), .val (.int wd2), .val (.int ht2), .val (.ref b5), .val (.ref b7), .val (.int ex), .val (.int ((sel >>> ((4 : Int32) &&& 31)) &&& (3 : Int32))), .unset] [(.int (if fx = fx ∧ fy = fy ∧ wd = wd ∧ ht = ht then (1 : Int32) else (0 : Int32)))]))
              refine OwnEnds.via (fun t k => XS.ifNo X12.here hx rfl (hb hby at_151) rfl ((if0 _ _).trans (feq (own_self _ _ _ _)).1) k) ?_
              show OwnEnds _ _ _ _ (T12.setTop (mkF m 154 #[.val (.int fx), .val (.int fy), .val (.int wd), .val (.int ht), .val (.int sel), .val (.int dl), .val (.int fx2), .val (.int fy2), .val (.int wd2), .val (.int ht2), .val (.ref b5), .val (.ref b7), .val (.int ex), .val (.int ((sel >>> ((4 : Int32) &&& 31)) &&& (3 : Int32))), .unset] []))
              refine OwnEnds.via (fun t k => XS.iconst X12.here hx rfl (hb hby at_154) k) ?_
              show OwnEnds _ _ _ _ (T12.setTop (mkF m 155 #[.val (.int fx), .val (.int fy), .val (.int wd), .val (.int ht), .val (.int sel), .val (.int dl), .val (.int fx2), .val (.int fy2), .val (.int wd2), .val (.int ht2), .val (.ref b5), .val (.ref b7), .val (.int ex), .val (.int ((sel >>> ((4 : Int32) &&& 31)) &&& (3 : Int32))), .unset] [(.int (1 : Int32))]))
              refine OwnEnds.via (fun t k => XS.goto X12.here hx rfl (pc0 := 155) (pc' := 159) rfl (hb hby at_155) (by decide) (by decide) k) ?_
              show OwnEnds _ _ _ _ (T12.setTop (mkF m 159 #[.val (.int fx), .val (.int fy), .val (.int wd), .val (.int ht), .val (.int sel), .val (.int dl), .val (.int fx2), .val (.int fy2), .val (.int wd2), .val (.int ht2), .val (.ref b5), .val (.ref b7), .val (.int ex), .val (.int ((sel >>> ((4 : Int32) &&& 31)) &&& (3 : Int32))), .unset] [(.int (1 : Int32))]))
              obtain ⟨fs, hr, hrun, hended, hW, hsame⟩ := X12.leave (v := some (.int (1 : Int32))) (fun h => by rw [Bd.returns] at h; cases h)
              refine ⟨_, _, ?_, hrun, hended, _, _, rfl, ?_, ⟨_, rfl⟩, hW, hsame.mono (by decide) (by decide)⟩
              · exact retN X12 hx (t := .boolean) Bd.returns (by simp) (hb hby at_159) hr
              · show Q0 Z fx fy wd ht sel dl cc cb vb h0 n0 _ T12.heap _
                rw [e12]
                exact ⟨rfl, N12⟩
            ·
              refine OwnEnds.via (fun t k => XS.ifYes X9.here hx rfl (pc0 := 129) (pc' := 160) rfl (hb hby at_129) rfl ((if0 _ _).trans (feq hc129_10).2) (by decide) (by decide) k) ?_
              show OwnEnds _ _ _ _ (T9.setTop (mkF m 160 #[.val (.int fx), .val (.int fy), .val (.int wd), .val (.int ht), .val (.int sel), .val (.int dl), .val (.int fx2), .val (.int fy2), .val (.int wd2), .val (.int ht2), .val (.ref b5), .val (.ref b7), .val (.int ex), .val (.int ((sel >>> ((4 : Int32) &&& 31)) &&& (3 : Int32))), .unset] []))
              refine OwnEnds.via (fun t k => XS.iload X9.here hx rfl (hb hby at_160) rfl k) ?_
              show OwnEnds _ _ _ _ (T9.setTop (mkF m 162 #[.val (.int fx), .val (.int fy), .val (.int wd), .val (.int ht), .val (.int sel), .val (.int dl), .val (.int fx2), .val (.int fy2), .val (.int wd2), .val (.int ht2), .val (.ref b5), .val (.ref b7), .val (.int ex), .val (.int ((sel >>> ((4 : Int32) &&& 31)) &&& (3 : Int32))), .unset] [(.int ((sel >>> ((4 : Int32) &&& 31)) &&& (3 : Int32)))]))
              refine OwnEnds.via (fun t k => XS.iconst X9.here hx rfl (hb hby at_162) k) ?_
              show OwnEnds _ _ _ _ (T9.setTop (mkF m 163 #[.val (.int fx), .val (.int fy), .val (.int wd), .val (.int ht), .val (.int sel), .val (.int dl), .val (.int fx2), .val (.int fy2), .val (.int wd2), .val (.int ht2), .val (.ref b5), .val (.ref b7), .val (.int ex), .val (.int ((sel >>> ((4 : Int32) &&& 31)) &&& (3 : Int32))), .unset] [(.int (1 : Int32)), (.int ((sel >>> ((4 : Int32) &&& 31)) &&& (3 : Int32)))]))
              by_cases hc163_13 : ((sel >>> ((4 : Int32) &&& 31)) &&& (3 : Int32)) = (1 : Int32)
              ·
                refine OwnEnds.via (fun t k => XS.icmpNo X9.here hx rfl (hb hby at_163) rfl (teq hc163_13).2 k) ?_
                show OwnEnds _ _ _ _ (T9.setTop (mkF m 166 #[.val (.int fx), .val (.int fy), .val (.int wd), .val (.int ht), .val (.int sel), .val (.int dl), .val (.int fx2), .val (.int fy2), .val (.int wd2), .val (.int ht2), .val (.ref b5), .val (.ref b7), .val (.int ex), .val (.int ((sel >>> ((4 : Int32) &&& 31)) &&& (3 : Int32))), .unset] []))
                refine OwnEnds.via (fun t k => XS.aload X9.here hx rfl (hb hby at_166) rfl rfl k) ?_
                show OwnEnds _ _ _ _ (T9.setTop (mkF m 168 #[.val (.int fx), .val (.int fy), .val (.int wd), .val (.int ht), .val (.int sel), .val (.int dl), .val (.int fx2), .val (.int fy2), .val (.int wd2), .val (.int ht2), .val (.ref b5), .val (.ref b7), .val (.int ex), .val (.int ((sel >>> ((4 : Int32) &&& 31)) &&& (3 : Int32))), .unset] [(.ref b7)]))
                refine OwnEnds.via (fun t k => XS.aload X9.here hx rfl (hb hby at_168) rfl rfl k) ?_
                show OwnEnds _ _ _ _ (T9.setTop (mkF m 170 #[.val (.int fx), .val (.int fy), .val (.int wd), .val (.int ht), .val (.int sel), .val (.int dl), .val (.int fx2), .val (.int fy2), .val (.int wd2), .val (.int ht2), .val (.ref b5), .val (.ref b7), .val (.int ex), .val (.int ((sel >>> ((4 : Int32) &&& 31)) &&& (3 : Int32))), .unset] [(.ref b5), (.ref b7)]))
                obtain ⟨cq14, kq14, q14a, q14b, q14c⟩ := isOf hZ e9 q8_0
                obtain ⟨_, _, ⟨T14, L14, k14, n14⟩, -, X14, ⟨Lc14, hQ14, l14, y14, z14⟩, st14⟩ := X9.virtualBack hx (y := (⟨"com/example/usher_panes/usherpanes/model/Frame", "equals", "(Ljava/lang/Object;)Z"⟩ : MethodName)) (z := (⟨"com/example/usher_panes/usherpanes/model/Frame", "equals", "(Ljava/lang/Object;)Z"⟩ : MethodName)) hown (mvT hZ (hw _ (List.mem_of_getElem? (i := 17) rfl))) (mvT hZ (hw _ (List.mem_of_getElem? (i := 18) rfl))) (notFace_of_selects (args := #[]) (mvT hZ (hw _ (List.mem_of_getElem? (i := 20) rfl)))) (mvT hZ (hw _ (List.mem_of_getElem? (i := 20) rfl))) (mvT hZ (hw _ (List.mem_of_getElem? (i := 19) rfl))) (by decide) (backOf (W := 0) (rmF l Z a0 hw [] b7 b5 fx2 fy2 wd2 ht2 fx fy wd ht h8 n0 Z8 ((q6_0.ext E7).keep Kq8) q8_1 q8_2 q8_3 q8_4 ((q6_1.ext E7).keep Kq8 (ninS ne_b5_b7 nin0)) ((q6_2.ext E7).keep Kq8 (ninS ne_b5_b7 nin0)) ((q6_3.ext E7).keep Kq8 (ninS ne_b5_b7 nin0)) ((q6_4.ext E7).keep Kq8 (ninS ne_b5_b7 nin0))) hZ (hw _ (List.mem_of_getElem? (i := 21) rfl)) (hw _ (List.mem_of_getElem? (i := 2) rfl)) (by decide) (by decide)) q14a q14c (g := (mkF m 170 #[.val (.int fx), .val (.int fy), .val (.int wd), .val (.int ht), .val (.int sel), .val (.int dl), .val (.int fx2), .val (.int fy2), .val (.int wd2), .val (.int ht2), .val (.ref b5), .val (.ref b7), .val (.int ex), .val (.int ((sel >>> ((4 : Int32) &&& 31)) &&& (3 : Int32))), .unset] [(.ref b5), (.ref b7)])) rfl (by rw [hml]; rfl) (Steps.refl _) (argsL := [(.ref b5)]) (rest := []) (lenOf pd_3 rfl) rfl (by show 2 * 0 + _ ≤ _; exact Nat.le_of_eq rfl) (hb hby at_170) (fun _ _ => ⟨rfl, e9, (by decide : 2 + 0 ≤ _), (by decide : 8 + 0 ≤ _)⟩)
                dsimp only [Pt.U, Pt.locs, Pt.cells, Pt.slots] at X14 l14 y14 z14 st14 hQ14
                subst l14 y14 z14
                obtain ⟨rfl, Nq14, e14⟩ := hQ14
                have N14 := Fr.app N9 Nq14
                refine OwnEnds.via (fun t k => st14.trans k) ?_
                show OwnEnds _ _ _ _ (T14.setTop (mkF m 173 #[.val (.int fx), .val (.int fy), .val (.int wd), .val (.int ht), .val (.int sel), .val (.int dl), .val (.int fx2), .val (.int fy2), .val (.int wd2), .val (.int ht2), .val (.ref b5), .val (.ref b7), .val (.int ex), .val (.int ((sel >>> ((4 : Int32) &&& 31)) &&& (3 : Int32))), .unset] [(.int (if fx2 = fx ∧ fy2 = fy ∧ wd2 = wd ∧ ht2 = ht then (1 : Int32) else (0 : Int32)))]))
                refine OwnEnds.via (fun t k => XS.iload X14.here hx rfl (hb hby at_173) rfl k) ?_
                show OwnEnds _ _ _ _ (T14.setTop (mkF m 175 #[.val (.int fx), .val (.int fy), .val (.int wd), .val (.int ht), .val (.int sel), .val (.int dl), .val (.int fx2), .val (.int fy2), .val (.int wd2), .val (.int ht2), .val (.ref b5), .val (.ref b7), .val (.int ex), .val (.int ((sel >>> ((4 : Int32) &&& 31)) &&& (3 : Int32))), .unset] [(.int ex), (.int (if fx2 = fx ∧ fy2 = fy ∧ wd2 = wd ∧ ht2 = ht then (1 : Int32) else (0 : Int32)))]))
                refine OwnEnds.via (fun t k => XS.icmpNo X14.here hx rfl (hb hby at_175) rfl (teq (own_sym (own_fe hj1_0 hj2_0 hj3_0 hj4_0 hj9_0))).2 k) ?_
                show OwnEnds _ _ _ _ (T14.setTop (mkF m 178 #[.val (.int fx), .val (.int fy), .val (.int wd), .val (.int ht), .val (.int sel), .val (.int dl), .val (.int fx2), .val (.int fy2), .val (.int wd2), .val (.int ht2), .val (.ref b5), .val (.ref b7), .val (.int ex), .val (.int ((sel >>> ((4 : Int32) &&& 31)) &&& (3 : Int32))), .unset] []))
                refine OwnEnds.via (fun t k => XS.iconst X14.here hx rfl (hb hby at_178) k) ?_
                show OwnEnds _ _ _ _ (T14.setTop (mkF m 179 #[.val (.int fx), .val (.int fy), .val (.int wd), .val (.int ht), .val (.int sel), .val (.int dl), .val (.int fx2), .val (.int fy2), .val (.int wd2), .val (.int ht2), .val (.ref b5), .val (.ref b7), .val (.int ex), .val (.int ((sel >>> ((4 : Int32) &&& 31)) &&& (3 : Int32))), .unset] [(.int (1 : Int32))]))
                refine OwnEnds.via (fun t k => XS.goto X14.here hx rfl (pc0 := 179) (pc' := 183) rfl (hb hby at_179) (by decide) (by decide) k) ?_
                show OwnEnds _ _ _ _ (T14.setTop (mkF m 183 #[.val (.int fx), .val (.int fy), .val (.int wd), .val (.int ht), .val (.int sel), .val (.int dl), .val (.int fx2), .val (.int fy2), .val (.int wd2), .val (.int ht2), .val (.ref b5), .val (.ref b7), .val (.int ex), .val (.int ((sel >>> ((4 : Int32) &&& 31)) &&& (3 : Int32))), .unset] [(.int (1 : Int32))]))
                obtain ⟨fs, hr, hrun, hended, hW, hsame⟩ := X14.leave (v := some (.int (1 : Int32))) (fun h => by rw [Bd.returns] at h; cases h)
                refine ⟨_, _, ?_, hrun, hended, _, _, rfl, ?_, ⟨_, rfl⟩, hW, hsame.mono (by decide) (by decide)⟩
                · exact retN X14 hx (t := .boolean) Bd.returns (by simp) (hb hby at_183) hr
                · show Q0 Z fx fy wd ht sel dl cc cb vb h0 n0 _ T14.heap _
                  rw [e14]
                  exact ⟨rfl, N14⟩
              ·
                refine OwnEnds.via (fun t k => XS.icmpYes X9.here hx rfl (pc0 := 163) (pc' := 184) rfl (hb hby at_163) rfl (feq hc163_13).2 (by decide) (by decide) k) ?_
                show OwnEnds _ _ _ _ (T9.setTop (mkF m 184 #[.val (.int fx), .val (.int fy), .val (.int wd), .val (.int ht), .val (.int sel), .val (.int dl), .val (.int fx2), .val (.int fy2), .val (.int wd2), .val (.int ht2), .val (.ref b5), .val (.ref b7), .val (.int ex), .val (.int ((sel >>> ((4 : Int32) &&& 31)) &&& (3 : Int32))), .unset] []))
                refine OwnEnds.via (fun t k => XS.iload X9.here hx rfl (hb hby at_184) rfl k) ?_
                show OwnEnds _ _ _ _ (T9.setTop (mkF m 186 #[.val (.int fx), .val (.int fy), .val (.int wd), .val (.int ht), .val (.int sel), .val (.int dl), .val (.int fx2), .val (.int fy2), .val (.int wd2), .val (.int ht2), .val (.ref b5), .val (.ref b7), .val (.int ex), .val (.int ((sel >>> ((4 : Int32) &&& 31)) &&& (3 : Int32))), .unset] [(.int ((sel >>> ((4 : Int32) &&& 31)) &&& (3 : Int32)))]))
                refine OwnEnds.via (fun t k => XS.iconst X9.here hx rfl (hb hby at_186) k) ?_
                show OwnEnds _ _ _ _ (T9.setTop (mkF m 187 #[.val (.int fx), .val (.int fy), .val (.int wd), .val (.int ht), .val (.int sel), .val (.int dl), .val (.int fx2), .val (.int fy2), .val (.int wd2), .val (.int ht2), .val (.ref b5), .val (.ref b7), .val (.int ex), .val (.int ((sel >>> ((4 : Int32) &&& 31)) &&& (3 : Int32))), .unset] [(.int (2 : Int32)), (.int ((sel >>> ((4 : Int32) &&& 31)) &&& (3 : Int32)))]))
                by_cases hc187_15 : ((sel >>> ((4 : Int32) &&& 31)) &&& (3 : Int32)) = (2 : Int32)
                ·
                  refine OwnEnds.via (fun t k => XS.icmpNo X9.here hx rfl (hb hby at_187) rfl (teq hc187_15).2 k) ?_
                  show OwnEnds _ _ _ _ (T9.setTop (mkF m 190 #[.val (.int fx), .val (.int fy), .val (.int wd), .val (.int ht), .val (.int sel), .val (.int dl), .val (.int fx2), .val (.int fy2), .val (.int wd2), .val (.int ht2), .val (.ref b5), .val (.ref b7), .val (.int ex), .val (.int ((sel >>> ((4 : Int32) &&& 31)) &&& (3 : Int32))), .unset] []))
                  refine OwnEnds.via (fun t k => XS.aload X9.here hx rfl (hb hby at_190) rfl rfl k) ?_
                  show OwnEnds _ _ _ _ (T9.setTop (mkF m 192 #[.val (.int fx), .val (.int fy), .val (.int wd), .val (.int ht), .val (.int sel), .val (.int dl), .val (.int fx2), .val (.int fy2), .val (.int wd2), .val (.int ht2), .val (.ref b5), .val (.ref b7), .val (.int ex), .val (.int ((sel >>> ((4 : Int32) &&& 31)) &&& (3 : Int32))), .unset] [(.ref b5)]))
                  refine OwnEnds.via (fun t k => XS.aconstNull X9.here hx rfl (hb hby at_192) k) ?_
                  show OwnEnds _ _ _ _ (T9.setTop (mkF m 193 #[.val (.int fx), .val (.int fy), .val (.int wd), .val (.int ht), .val (.int sel), .val (.int dl), .val (.int fx2), .val (.int fy2), .val (.int wd2), .val (.int ht2), .val (.ref b5), .val (.ref b7), .val (.int ex), .val (.int ((sel >>> ((4 : Int32) &&& 31)) &&& (3 : Int32))), .unset] [.null, (.ref b5)]))
                  obtain ⟨cq16, kq16, q16a, q16b, q16c⟩ := isOf hZ e9 ((q6_0.ext E7).keep Kq8)
                  obtain ⟨_, _, ⟨T16, L16, k16, n16⟩, -, X16, ⟨Lc16, hQ16, l16, y16, z16⟩, st16⟩ := X9.virtualBack hx (y := (⟨"com/example/usher_panes/usherpanes/model/Frame", "equals", "(Ljava/lang/Object;)Z"⟩ : MethodName)) (z := (⟨"com/example/usher_panes/usherpanes/model/Frame", "equals", "(Ljava/lang/Object;)Z"⟩ : MethodName)) hown (mvT hZ (hw _ (List.mem_of_getElem? (i := 17) rfl))) (mvT hZ (hw _ (List.mem_of_getElem? (i := 18) rfl))) (notFace_of_selects (args := #[]) (mvT hZ (hw _ (List.mem_of_getElem? (i := 20) rfl)))) (mvT hZ (hw _ (List.mem_of_getElem? (i := 20) rfl))) (mvT hZ (hw _ (List.mem_of_getElem? (i := 19) rfl))) (by decide) (backOf (W := 0) (rmN l Z a0 hw [] b5 h8 n0 Z8 ) hZ (hw _ (List.mem_of_getElem? (i := 21) rfl)) (hw _ (List.mem_of_getElem? (i := 2) rfl)) (by decide) (by decide)) q16a q16c (g := (mkF m 193 #[.val (.int fx), .val (.int fy), .val (.int wd), .val (.int ht), .val (.int sel), .val (.int dl), .val (.int fx2), .val (.int fy2), .val (.int wd2), .val (.int ht2), .val (.ref b5), .val (.ref b7), .val (.int ex), .val (.int ((sel >>> ((4 : Int32) &&& 31)) &&& (3 : Int32))), .unset] [.null, (.ref b5)])) rfl (by rw [hml]; rfl) (Steps.refl _) (argsL := [.null]) (rest := []) (lenOf pd_3 rfl) rfl (by show 2 * 0 + _ ≤ _; exact Nat.le_of_eq rfl) (hb hby at_193) (fun _ _ => ⟨rfl, e9, (by decide : 2 + 0 ≤ _), (by decide : 8 + 0 ≤ _)⟩)
                  dsimp only [Pt.U, Pt.locs, Pt.cells, Pt.slots] at X16 l16 y16 z16 st16 hQ16
                  subst l16 y16 z16
                  obtain ⟨rfl, Nq16, e16⟩ := hQ16
                  have N16 := Fr.app N9 Nq16
                  refine OwnEnds.via (fun t k => st16.trans k) ?_
                  show OwnEnds _ _ _ _ (T16.setTop (mkF m 196 #[.val (.int fx), .val (.int fy), .val (.int wd), .val (.int ht), .val (.int sel), .val (.int dl), .val (.int fx2), .val (.int fy2), .val (.int wd2), .val (.int ht2), .val (.ref b5), .val (.ref b7), .val (.int ex), .val (.int ((sel >>> ((4 : Int32) &&& 31)) &&& (3 : Int32))), .unset] [(.int (0 : Int32))]))
                  refine OwnEnds.via (fun t k => XS.ifNo X16.here hx rfl (hb hby at_196) rfl ((if0 _ _).trans (teq (by decide)).2) k) ?_
                  show OwnEnds _ _ _ _ (T16.setTop (mkF m 199 #[.val (.int fx), .val (.int fy), .val (.int wd), .val (.int ht), .val (.int sel), .val (.int dl), .val (.int fx2), .val (.int fy2), .val (.int wd2), .val (.int ht2), .val (.ref b5), .val (.ref b7), .val (.int ex), .val (.int ((sel >>> ((4 : Int32) &&& 31)) &&& (3 : Int32))), .unset] []))
                  refine OwnEnds.via (fun t k => XS.iconst X16.here hx rfl (hb hby at_199) k) ?_
                  show OwnEnds _ _ _ _ (T16.setTop (mkF m 200 #[.val (.int fx), .val (.int fy), .val (.int wd), .val (.int ht), .val (.int sel), .val (.int dl), .val (.int fx2), .val (.int fy2), .val (.int wd2), .val (.int ht2), .val (.ref b5), .val (.ref b7), .val (.int ex), .val (.int ((sel >>> ((4 : Int32) &&& 31)) &&& (3 : Int32))), .unset] [(.int (1 : Int32))]))
                  refine OwnEnds.via (fun t k => XS.goto X16.here hx rfl (pc0 := 200) (pc' := 204) rfl (hb hby at_200) (by decide) (by decide) k) ?_
                  show OwnEnds _ _ _ _ (T16.setTop (mkF m 204 #[.val (.int fx), .val (.int fy), .val (.int wd), .val (.int ht), .val (.int sel), .val (.int dl), .val (.int fx2), .val (.int fy2), .val (.int wd2), .val (.int ht2), .val (.ref b5), .val (.ref b7), .val (.int ex), .val (.int ((sel >>> ((4 : Int32) &&& 31)) &&& (3 : Int32))), .unset] [(.int (1 : Int32))]))
                  obtain ⟨fs, hr, hrun, hended, hW, hsame⟩ := X16.leave (v := some (.int (1 : Int32))) (fun h => by rw [Bd.returns] at h; cases h)
                  refine ⟨_, _, ?_, hrun, hended, _, _, rfl, ?_, ⟨_, rfl⟩, hW, hsame.mono (by decide) (by decide)⟩
                  · exact retN X16 hx (t := .boolean) Bd.returns (by simp) (hb hby at_204) hr
                  · show Q0 Z fx fy wd ht sel dl cc cb vb h0 n0 _ T16.heap _
                    rw [e16]
                    exact ⟨rfl, N16⟩
                ·
                  refine OwnEnds.via (fun t k => XS.icmpYes X9.here hx rfl (pc0 := 187) (pc' := 205) rfl (hb hby at_187) rfl (feq hc187_15).2 (by decide) (by decide) k) ?_
                  show OwnEnds _ _ _ _ (T9.setTop (mkF m 205 #[.val (.int fx), .val (.int fy), .val (.int wd), .val (.int ht), .val (.int sel), .val (.int dl), .val (.int fx2), .val (.int fy2), .val (.int wd2), .val (.int ht2), .val (.ref b5), .val (.ref b7), .val (.int ex), .val (.int ((sel >>> ((4 : Int32) &&& 31)) &&& (3 : Int32))), .unset] []))
                  refine OwnEnds.via (fun t k => XS.iloadN X9.here hx rfl (hb hby at_205) rfl k) ?_
                  show OwnEnds _ _ _ _ (T9.setTop (mkF m 206 #[.val (.int fx), .val (.int fy), .val (.int wd), .val (.int ht), .val (.int sel), .val (.int dl), .val (.int fx2), .val (.int fy2), .val (.int wd2), .val (.int ht2), .val (.ref b5), .val (.ref b7), .val (.int ex), .val (.int ((sel >>> ((4 : Int32) &&& 31)) &&& (3 : Int32))), .unset] [(.int fx)]))
                  obtain ⟨_, _, ⟨T17, L17, k17, n17⟩, -, X17, ⟨Lc17, hQ17, l17, y17, z17⟩, st17⟩ := Jvm.LawKit.callS X9 hx (y := (⟨"java/lang/Integer", "valueOf", "(I)Ljava/lang/Integer;"⟩ : MethodName)) hown (mvT hZ (hw _ (List.mem_of_getElem? (i := 24) rfl))) (mvT hZ (hw _ (List.mem_of_getElem? (i := 25) rfl))) (mvT hZ (hw _ (List.mem_of_getElem? (i := 26) rfl))) (mvT hZ (hw _ (List.mem_of_getElem? (i := 27) rfl))) (by decide) (backOf (W := 0) (rm4 l Z a0 hw [] fx cc cb vb h8 n0 Z8 O8 P0 OP0 OP1) hZ (hw _ (List.mem_of_getElem? (i := 27) rfl)) (hw _ (List.mem_of_getElem? (i := 26) rfl)) (by decide) (by decide)) (g := (mkF m 206 #[.val (.int fx), .val (.int fy), .val (.int wd), .val (.int ht), .val (.int sel), .val (.int dl), .val (.int fx2), .val (.int fy2), .val (.int wd2), .val (.int ht2), .val (.ref b5), .val (.ref b7), .val (.int ex), .val (.int ((sel >>> ((4 : Int32) &&& 31)) &&& (3 : Int32))), .unset] [(.int fx)])) rfl (by rw [hml]; rfl) (argsL := [(.int fx)]) (rest := []) (lenOf pd_4 rfl) rfl (by show 2 * 0 + _ ≤ _; exact Nat.le_of_eq rfl) (hb hby at_206) (fun _ _ => ⟨rfl, e9, (by decide : 2 + 1 ≤ _), (by decide : 8 + 1 ≤ _)⟩)
                  dsimp only [Pt.U, Pt.locs, Pt.cells, Pt.slots] at X17 l17 y17 z17 st17 hQ17
                  subst l17 y17 z17
                  obtain ⟨h17, e17⟩ : ∃ z, T17.heap = z := ⟨_, rfl⟩
                  rw [e17] at hQ17
                  obtain ⟨b_17, rfl, Nq17, Kq17, q17_0⟩ := hQ17
                  have Z17 : n0 ≤ h17.size := Nat.le_trans Z8 Kq17.1
                  have O17 : Old Z n0 h17 := O8.keep Kq17 all0
                  have N17 := Fr.app N9 Nq17
                  refine OwnEnds.via st17 ?_
                  show OwnEnds _ _ _ _ (T17.setTop (mkF m 209 #[.val (.int fx), .val (.int fy), .val (.int wd), .val (.int ht), .val (.int sel), .val (.int dl), .val (.int fx2), .val (.int fy2), .val (.int wd2), .val (.int ht2), .val (.ref b5), .val (.ref b7), .val (.int ex), .val (.int ((sel >>> ((4 : Int32) &&& 31)) &&& (3 : Int32))), .unset] [(.ref b_17)]))
                  refine OwnEnds.via (fun t k => XS.astore X17.here hx rfl (hb hby at_209) rfl rfl (l' := #[.val (.int fx), .val (.int fy), .val (.int wd), .val (.int ht), .val (.int sel), .val (.int dl), .val (.int fx2), .val (.int fy2), .val (.int wd2), .val (.int ht2), .val (.ref b5), .val (.ref b7), .val (.int ex), .val (.int ((sel >>> ((4 : Int32) &&& 31)) &&& (3 : Int32))), .val (.ref b_17)]) rfl k) ?_
                  show OwnEnds _ _ _ _ (T17.setTop (mkF m 211 #[.val (.int fx), .val (.int fy), .val (.int wd), .val (.int ht), .val (.int sel), .val (.int dl), .val (.int fx2), .val (.int fy2), .val (.int wd2), .val (.int ht2), .val (.ref b5), .val (.ref b7), .val (.int ex), .val (.int ((sel >>> ((4 : Int32) &&& 31)) &&& (3 : Int32))), .val (.ref b_17)] []))
                  refine OwnEnds.via (fun t k => XS.aload X17.here hx rfl (hb hby at_211) rfl rfl k) ?_
                  show OwnEnds _ _ _ _ (T17.setTop (mkF m 213 #[.val (.int fx), .val (.int fy), .val (.int wd), .val (.int ht), .val (.int sel), .val (.int dl), .val (.int fx2), .val (.int fy2), .val (.int wd2), .val (.int ht2), .val (.ref b5), .val (.ref b7), .val (.int ex), .val (.int ((sel >>> ((4 : Int32) &&& 31)) &&& (3 : Int32))), .val (.ref b_17)] [(.ref b5)]))
                  refine OwnEnds.via (fun t k => XS.aload X17.here hx rfl (hb hby at_213) rfl rfl k) ?_
                  show OwnEnds _ _ _ _ (T17.setTop (mkF m 215 #[.val (.int fx), .val (.int fy), .val (.int wd), .val (.int ht), .val (.int sel), .val (.int dl), .val (.int fx2), .val (.int fy2), .val (.int wd2), .val (.int ht2), .val (.ref b5), .val (.ref b7), .val (.int ex), .val (.int ((sel >>> ((4 : Int32) &&& 31)) &&& (3 : Int32))), .val (.ref b_17)] [(.ref b_17), (.ref b5)]))
                  obtain ⟨cq18, kq18, q18a, q18b, q18c⟩ := isOf hZ e17 (((q6_0.ext E7).keep Kq8).keep Kq17)
                  obtain ⟨_, _, ⟨T18, L18, k18, n18⟩, -, X18, ⟨Lc18, hQ18, l18, y18, z18⟩, st18⟩ := X17.virtualBack hx (y := (⟨"com/example/usher_panes/usherpanes/model/Frame", "equals", "(Ljava/lang/Object;)Z"⟩ : MethodName)) (z := (⟨"com/example/usher_panes/usherpanes/model/Frame", "equals", "(Ljava/lang/Object;)Z"⟩ : MethodName)) hown (mvT hZ (hw _ (List.mem_of_getElem? (i := 17) rfl))) (mvT hZ (hw _ (List.mem_of_getElem? (i := 18) rfl))) (notFace_of_selects (args := #[]) (mvT hZ (hw _ (List.mem_of_getElem? (i := 20) rfl)))) (mvT hZ (hw _ (List.mem_of_getElem? (i := 20) rfl))) (mvT hZ (hw _ (List.mem_of_getElem? (i := 19) rfl))) (by decide) (backOf (W := 0) (rmI l Z a0 hw [] b5 b_17 h17 n0 Z17 q17_0) hZ (hw _ (List.mem_of_getElem? (i := 21) rfl)) (hw _ (List.mem_of_getElem? (i := 2) rfl)) (by decide) (by decide)) q18a q18c (g := (mkF m 215 #[.val (.int fx), .val (.int fy), .val (.int wd), .val (.int ht), .val (.int sel), .val (.int dl), .val (.int fx2), .val (.int fy2), .val (.int wd2), .val (.int ht2), .val (.ref b5), .val (.ref b7), .val (.int ex), .val (.int ((sel >>> ((4 : Int32) &&& 31)) &&& (3 : Int32))), .val (.ref b_17)] [(.ref b_17), (.ref b5)])) rfl (by rw [hml]; rfl) (Steps.refl _) (argsL := [(.ref b_17)]) (rest := []) (lenOf pd_3 rfl) rfl (by show 2 * 0 + _ ≤ _; exact Nat.le_of_eq rfl) (hb hby at_215) (fun _ _ => ⟨rfl, e17, (by decide : 3 + 0 ≤ _), (by decide : 9 + 0 ≤ _)⟩)
                  dsimp only [Pt.U, Pt.locs, Pt.cells, Pt.slots] at X18 l18 y18 z18 st18 hQ18
                  subst l18 y18 z18
                  obtain ⟨rfl, Nq18, e18⟩ := hQ18
                  have N18 := Fr.app N17 Nq18
                  refine OwnEnds.via (fun t k => st18.trans k) ?_
                  show OwnEnds _ _ _ _ (T18.setTop (mkF m 218 #[.val (.int fx), .val (.int fy), .val (.int wd), .val (.int ht), .val (.int sel), .val (.int dl), .val (.int fx2), .val (.int fy2), .val (.int wd2), .val (.int ht2), .val (.ref b5), .val (.ref b7), .val (.int ex), .val (.int ((sel >>> ((4 : Int32) &&& 31)) &&& (3 : Int32))), .val (.ref b_17)] [(.int (0 : Int32))]))
                  refine OwnEnds.via (fun t k => XS.ifNo X18.here hx rfl (hb hby at_218) rfl ((if0 _ _).trans (teq (by decide)).2) k) ?_
                  show OwnEnds _ _ _ _ (T18.setTop (mkF m 221 #[.val (.int fx), .val (.int fy), .val (.int wd), .val (.int ht), .val (.int sel), .val (.int dl), .val (.int fx2), .val (.int fy2), .val (.int wd2), .val (.int ht2), .val (.ref b5), .val (.ref b7), .val (.int ex), .val (.int ((sel >>> ((4 : Int32) &&& 31)) &&& (3 : Int32))), .val (.ref b_17)] []))
                  refine OwnEnds.via (fun t k => XS.iconst X18.here hx rfl (hb hby at_221) k) ?_
                  show OwnEnds _ _ _ _ (T18.setTop (mkF m 222 #[.val (.int fx), .val (.int fy), .val (.int wd), .val (.int ht), .val (.int sel), .val (.int dl), .val (.int fx2), .val (.int fy2), .val (.int wd2), .val (.int ht2), .val (.ref b5), .val (.ref b7), .val (.int ex), .val (.int ((sel >>> ((4 : Int32) &&& 31)) &&& (3 : Int32))), .val (.ref b_17)] [(.int (1 : Int32))]))
                  refine OwnEnds.via (fun t k => XS.goto X18.here hx rfl (pc0 := 222) (pc' := 226) rfl (hb hby at_222) (by decide) (by decide) k) ?_
                  show OwnEnds _ _ _ _ (T18.setTop (mkF m 226 #[.val (.int fx), .val (.int fy), .val (.int wd), .val (.int ht), .val (.int sel), .val (.int dl), .val (.int fx2), .val (.int fy2), .val (.int wd2), .val (.int ht2), .val (.ref b5), .val (.ref b7), .val (.int ex), .val (.int ((sel >>> ((4 : Int32) &&& 31)) &&& (3 : Int32))), .val (.ref b_17)] [(.int (1 : Int32))]))
                  obtain ⟨fs, hr, hrun, hended, hW, hsame⟩ := X18.leave (v := some (.int (1 : Int32))) (fun h => by rw [Bd.returns] at h; cases h)
                  refine ⟨_, _, ?_, hrun, hended, _, _, rfl, ?_, ⟨_, rfl⟩, hW, hsame.mono (by decide) (by decide)⟩
                  · exact retN X18 hx (t := .boolean) Bd.returns (by simp) (hb hby at_226) hr
                  · show Q0 Z fx fy wd ht sel dl cc cb vb h0 n0 _ T18.heap _
                    rw [e18]
                    exact ⟨rfl, N18⟩
          intro J9
          by_cases hc104_19 : (sel &&& (15 : Int32)) = (0 : Int32)
          ·
            refine OwnEnds.via (fun t k => XS.ifYes X8.here hx rfl (pc0 := 104) (pc' := 112) rfl (hb hby at_104) rfl ((if0 _ _).trans (teq hc104_19).1) (by decide) (by decide) k) ?_
            show OwnEnds _ _ _ _ (T8.setTop (mkF m 112 #[.val (.int fx), .val (.int fy), .val (.int wd), .val (.int ht), .val (.int sel), .val (.int dl), .val (.int fx2), .val (.int fy2), .val (.int wd2), .val (.int ht2), .val (.ref b5), .val (.ref b7), .unset, .unset, .unset] []))
            refine OwnEnds.via (fun t k => XS.iconst X8.here hx rfl (hb hby at_112) k) ?_
            show OwnEnds _ _ _ _ (T8.setTop (mkF m 113 #[.val (.int fx), .val (.int fy), .val (.int wd), .val (.int ht), .val (.int sel), .val (.int dl), .val (.int fx2), .val (.int fy2), .val (.int wd2), .val (.int ht2), .val (.ref b5), .val (.ref b7), .unset, .unset, .unset] [(.int (1 : Int32))]))
            refine OwnEnds.via (fun t k => XS.goto X8.here hx rfl (pc0 := 113) (pc' := 117) rfl (hb hby at_113) (by decide) (by decide) k) ?_
            exact J9 _ _ X8 e8 N8 (1 : Int32) (by rw [if_pos (Or.inl hc104_19)])
          ·
            refine OwnEnds.via (fun t k => XS.ifNo X8.here hx rfl (hb hby at_104) rfl ((if0 _ _).trans (feq hc104_19).1) k) ?_
            show OwnEnds _ _ _ _ (T8.setTop (mkF m 107 #[.val (.int fx), .val (.int fy), .val (.int wd), .val (.int ht), .val (.int sel), .val (.int dl), .val (.int fx2), .val (.int fy2), .val (.int wd2), .val (.int ht2), .val (.ref b5), .val (.ref b7), .unset, .unset, .unset] []))
            refine OwnEnds.via (fun t k => XS.iload X8.here hx rfl (hb hby at_107) rfl k) ?_
            show OwnEnds _ _ _ _ (T8.setTop (mkF m 109 #[.val (.int fx), .val (.int fy), .val (.int wd), .val (.int ht), .val (.int sel), .val (.int dl), .val (.int fx2), .val (.int fy2), .val (.int wd2), .val (.int ht2), .val (.ref b5), .val (.ref b7), .unset, .unset, .unset] [(.int dl)]))
            by_cases hc109_20 : dl = (0 : Int32)
            ·
              refine OwnEnds.via (fun t k => XS.ifNo X8.here hx rfl (hb hby at_109) rfl ((if0 _ _).trans (teq hc109_20).2) k) ?_
              show OwnEnds _ _ _ _ (T8.setTop (mkF m 112 #[.val (.int fx), .val (.int fy), .val (.int wd), .val (.int ht), .val (.int sel), .val (.int dl), .val (.int fx2), .val (.int fy2), .val (.int wd2), .val (.int ht2), .val (.ref b5), .val (.ref b7), .unset, .unset, .unset] []))
              refine OwnEnds.via (fun t k => XS.iconst X8.here hx rfl (hb hby at_112) k) ?_
              show OwnEnds _ _ _ _ (T8.setTop (mkF m 113 #[.val (.int fx), .val (.int fy), .val (.int wd), .val (.int ht), .val (.int sel), .val (.int dl), .val (.int fx2), .val (.int fy2), .val (.int wd2), .val (.int ht2), .val (.ref b5), .val (.ref b7), .unset, .unset, .unset] [(.int (1 : Int32))]))
              refine OwnEnds.via (fun t k => XS.goto X8.here hx rfl (pc0 := 113) (pc' := 117) rfl (hb hby at_113) (by decide) (by decide) k) ?_
              exact J9 _ _ X8 e8 N8 (1 : Int32) (by rw [if_pos (Or.inr hc109_20)])
            ·
              refine OwnEnds.via (fun t k => XS.ifYes X8.here hx rfl (pc0 := 109) (pc' := 116) rfl (hb hby at_109) rfl ((if0 _ _).trans (feq hc109_20).2) (by decide) (by decide) k) ?_
              show OwnEnds _ _ _ _ (T8.setTop (mkF m 116 #[.val (.int fx), .val (.int fy), .val (.int wd), .val (.int ht), .val (.int sel), .val (.int dl), .val (.int fx2), .val (.int fy2), .val (.int wd2), .val (.int ht2), .val (.ref b5), .val (.ref b7), .unset, .unset, .unset] []))
              refine OwnEnds.via (fun t k => XS.iconst X8.here hx rfl (hb hby at_116) k) ?_
              exact J9 _ _ X8 e8 N8 (0 : Int32) (by rw [if_neg fun z => z.elim hc104_19 hc109_20])
        intro J4
        by_cases hc56_21 : (sel &&& (8 : Int32)) = (0 : Int32)
        ·
          refine OwnEnds.via (fun t k => XS.ifYes X3.here hx rfl (pc0 := 56) (pc' := 66) rfl (hb hby at_56) rfl ((if0 _ _).trans (teq hc56_21).1) (by decide) (by decide) k) ?_
          show OwnEnds _ _ _ _ (T3.setTop (mkF m 66 #[.val (.int fx), .val (.int fy), .val (.int wd), .val (.int ht), .val (.int sel), .val (.int dl), .val (.int fx2), .val (.int fy2), .val (.int wd2), .unset, .unset, .unset, .unset, .unset, .unset] []))
          refine OwnEnds.via (fun t k => XS.iloadN X3.here hx rfl (hb hby at_66) rfl k) ?_
          exact J4 _ _ X3 e3 N3 ht (by rw [if_pos hc56_21])
        ·
          refine OwnEnds.via (fun t k => XS.ifNo X3.here hx rfl (hb hby at_56) rfl ((if0 _ _).trans (feq hc56_21).1) k) ?_
          show OwnEnds _ _ _ _ (T3.setTop (mkF m 59 #[.val (.int fx), .val (.int fy), .val (.int wd), .val (.int ht), .val (.int sel), .val (.int dl), .val (.int fx2), .val (.int fy2), .val (.int wd2), .unset, .unset, .unset, .unset, .unset, .unset] []))
          refine OwnEnds.via (fun t k => XS.iloadN X3.here hx rfl (hb hby at_59) rfl k) ?_
          show OwnEnds _ _ _ _ (T3.setTop (mkF m 60 #[.val (.int fx), .val (.int fy), .val (.int wd), .val (.int ht), .val (.int sel), .val (.int dl), .val (.int fx2), .val (.int fy2), .val (.int wd2), .unset, .unset, .unset, .unset, .unset, .unset] [(.int ht)]))
          refine OwnEnds.via (fun t k => XS.iload X3.here hx rfl (hb hby at_60) rfl k) ?_
          show OwnEnds _ _ _ _ (T3.setTop (mkF m 62 #[.val (.int fx), .val (.int fy), .val (.int wd), .val (.int ht), .val (.int sel), .val (.int dl), .val (.int fx2), .val (.int fy2), .val (.int wd2), .unset, .unset, .unset, .unset, .unset, .unset] [(.int dl), (.int ht)]))
          refine OwnEnds.via (fun t k => XS.iadd X3.here hx rfl (hb hby at_62) rfl k) ?_
          show OwnEnds _ _ _ _ (T3.setTop (mkF m 63 #[.val (.int fx), .val (.int fy), .val (.int wd), .val (.int ht), .val (.int sel), .val (.int dl), .val (.int fx2), .val (.int fy2), .val (.int wd2), .unset, .unset, .unset, .unset, .unset, .unset] [(.int (ht + dl))]))
          refine OwnEnds.via (fun t k => XS.goto X3.here hx rfl (pc0 := 63) (pc' := 67) rfl (hb hby at_63) (by decide) (by decide) k) ?_
          exact J4 _ _ X3 e3 N3 (ht + dl) (by rw [if_neg hc56_21])
      intro J3
      by_cases hc38_22 : (sel &&& (4 : Int32)) = (0 : Int32)
      ·
        refine OwnEnds.via (fun t k => XS.ifYes X2.here hx rfl (pc0 := 38) (pc' := 48) rfl (hb hby at_38) rfl ((if0 _ _).trans (teq hc38_22).1) (by decide) (by decide) k) ?_
        show OwnEnds _ _ _ _ (T2.setTop (mkF m 48 #[.val (.int fx), .val (.int fy), .val (.int wd), .val (.int ht), .val (.int sel), .val (.int dl), .val (.int fx2), .val (.int fy2), .unset, .unset, .unset, .unset, .unset, .unset, .unset] []))
        refine OwnEnds.via (fun t k => XS.iloadN X2.here hx rfl (hb hby at_48) rfl k) ?_
        exact J3 _ _ X2 e2 N2 wd (by rw [if_pos hc38_22])
      ·
        refine OwnEnds.via (fun t k => XS.ifNo X2.here hx rfl (hb hby at_38) rfl ((if0 _ _).trans (feq hc38_22).1) k) ?_
        show OwnEnds _ _ _ _ (T2.setTop (mkF m 41 #[.val (.int fx), .val (.int fy), .val (.int wd), .val (.int ht), .val (.int sel), .val (.int dl), .val (.int fx2), .val (.int fy2), .unset, .unset, .unset, .unset, .unset, .unset, .unset] []))
        refine OwnEnds.via (fun t k => XS.iloadN X2.here hx rfl (hb hby at_41) rfl k) ?_
        show OwnEnds _ _ _ _ (T2.setTop (mkF m 42 #[.val (.int fx), .val (.int fy), .val (.int wd), .val (.int ht), .val (.int sel), .val (.int dl), .val (.int fx2), .val (.int fy2), .unset, .unset, .unset, .unset, .unset, .unset, .unset] [(.int wd)]))
        refine OwnEnds.via (fun t k => XS.iload X2.here hx rfl (hb hby at_42) rfl k) ?_
        show OwnEnds _ _ _ _ (T2.setTop (mkF m 44 #[.val (.int fx), .val (.int fy), .val (.int wd), .val (.int ht), .val (.int sel), .val (.int dl), .val (.int fx2), .val (.int fy2), .unset, .unset, .unset, .unset, .unset, .unset, .unset] [(.int dl), (.int wd)]))
        refine OwnEnds.via (fun t k => XS.iadd X2.here hx rfl (hb hby at_44) rfl k) ?_
        show OwnEnds _ _ _ _ (T2.setTop (mkF m 45 #[.val (.int fx), .val (.int fy), .val (.int wd), .val (.int ht), .val (.int sel), .val (.int dl), .val (.int fx2), .val (.int fy2), .unset, .unset, .unset, .unset, .unset, .unset, .unset] [(.int (wd + dl))]))
        refine OwnEnds.via (fun t k => XS.goto X2.here hx rfl (pc0 := 45) (pc' := 49) rfl (hb hby at_45) (by decide) (by decide) k) ?_
        exact J3 _ _ X2 e2 N2 (wd + dl) (by rw [if_neg hc38_22])
    intro J2
    by_cases hc21_23 : (sel &&& (2 : Int32)) = (0 : Int32)
    ·
      refine OwnEnds.via (fun t k => XS.ifYes X1.here hx rfl (pc0 := 21) (pc' := 31) rfl (hb hby at_21) rfl ((if0 _ _).trans (teq hc21_23).1) (by decide) (by decide) k) ?_
      show OwnEnds _ _ _ _ (T1.setTop (mkF m 31 #[.val (.int fx), .val (.int fy), .val (.int wd), .val (.int ht), .val (.int sel), .val (.int dl), .val (.int fx2), .unset, .unset, .unset, .unset, .unset, .unset, .unset, .unset] []))
      refine OwnEnds.via (fun t k => XS.iloadN X1.here hx rfl (hb hby at_31) rfl k) ?_
      exact J2 _ _ X1 e1 N1 fy (by rw [if_pos hc21_23])
    ·
      refine OwnEnds.via (fun t k => XS.ifNo X1.here hx rfl (hb hby at_21) rfl ((if0 _ _).trans (feq hc21_23).1) k) ?_
      show OwnEnds _ _ _ _ (T1.setTop (mkF m 24 #[.val (.int fx), .val (.int fy), .val (.int wd), .val (.int ht), .val (.int sel), .val (.int dl), .val (.int fx2), .unset, .unset, .unset, .unset, .unset, .unset, .unset, .unset] []))
      refine OwnEnds.via (fun t k => XS.iloadN X1.here hx rfl (hb hby at_24) rfl k) ?_
      show OwnEnds _ _ _ _ (T1.setTop (mkF m 25 #[.val (.int fx), .val (.int fy), .val (.int wd), .val (.int ht), .val (.int sel), .val (.int dl), .val (.int fx2), .unset, .unset, .unset, .unset, .unset, .unset, .unset, .unset] [(.int fy)]))
      refine OwnEnds.via (fun t k => XS.iload X1.here hx rfl (hb hby at_25) rfl k) ?_
      show OwnEnds _ _ _ _ (T1.setTop (mkF m 27 #[.val (.int fx), .val (.int fy), .val (.int wd), .val (.int ht), .val (.int sel), .val (.int dl), .val (.int fx2), .unset, .unset, .unset, .unset, .unset, .unset, .unset, .unset] [(.int dl), (.int fy)]))
      refine OwnEnds.via (fun t k => XS.iadd X1.here hx rfl (hb hby at_27) rfl k) ?_
      show OwnEnds _ _ _ _ (T1.setTop (mkF m 28 #[.val (.int fx), .val (.int fy), .val (.int wd), .val (.int ht), .val (.int sel), .val (.int dl), .val (.int fx2), .unset, .unset, .unset, .unset, .unset, .unset, .unset, .unset] [(.int (fy + dl))]))
      refine OwnEnds.via (fun t k => XS.goto X1.here hx rfl (pc0 := 28) (pc' := 32) rfl (hb hby at_28) (by decide) (by decide) k) ?_
      exact J2 _ _ X1 e1 N1 (fy + dl) (by rw [if_neg hc21_23])
  intro J1
  by_cases hc4_24 : (sel &&& (1 : Int32)) = (0 : Int32)
  ·
    refine OwnEnds.via (fun t k => XS.ifYes X0.here hx rfl (pc0 := 4) (pc' := 14) rfl (hb hby at_4) rfl ((if0 _ _).trans (teq hc4_24).1) (by decide) (by decide) k) ?_
    show OwnEnds _ _ _ _ (s₁.setTop (mkF m 14 #[.val (.int fx), .val (.int fy), .val (.int wd), .val (.int ht), .val (.int sel), .val (.int dl), .unset, .unset, .unset, .unset, .unset, .unset, .unset, .unset, .unset] []))
    refine OwnEnds.via (fun t k => XS.iloadN X0.here hx rfl (hb hby at_14) rfl k) ?_
    exact J1 _ _ X0 e0 N0 fx (by rw [if_pos hc4_24])
  ·
    refine OwnEnds.via (fun t k => XS.ifNo X0.here hx rfl (hb hby at_4) rfl ((if0 _ _).trans (feq hc4_24).1) k) ?_
    show OwnEnds _ _ _ _ (s₁.setTop (mkF m 7 #[.val (.int fx), .val (.int fy), .val (.int wd), .val (.int ht), .val (.int sel), .val (.int dl), .unset, .unset, .unset, .unset, .unset, .unset, .unset, .unset, .unset] []))
    refine OwnEnds.via (fun t k => XS.iloadN X0.here hx rfl (hb hby at_7) rfl k) ?_
    show OwnEnds _ _ _ _ (s₁.setTop (mkF m 8 #[.val (.int fx), .val (.int fy), .val (.int wd), .val (.int ht), .val (.int sel), .val (.int dl), .unset, .unset, .unset, .unset, .unset, .unset, .unset, .unset, .unset] [(.int fx)]))
    refine OwnEnds.via (fun t k => XS.iload X0.here hx rfl (hb hby at_8) rfl k) ?_
    show OwnEnds _ _ _ _ (s₁.setTop (mkF m 10 #[.val (.int fx), .val (.int fy), .val (.int wd), .val (.int ht), .val (.int sel), .val (.int dl), .unset, .unset, .unset, .unset, .unset, .unset, .unset, .unset, .unset] [(.int dl), (.int fx)]))
    refine OwnEnds.via (fun t k => XS.iadd X0.here hx rfl (hb hby at_10) rfl k) ?_
    show OwnEnds _ _ _ _ (s₁.setTop (mkF m 11 #[.val (.int fx), .val (.int fy), .val (.int wd), .val (.int ht), .val (.int sel), .val (.int dl), .unset, .unset, .unset, .unset, .unset, .unset, .unset, .unset, .unset] [(.int (fx + dl))]))
    refine OwnEnds.via (fun t k => XS.goto X0.here hx rfl (pc0 := 11) (pc' := 15) rfl (hb hby at_11) (by decide) (by decide) k) ?_
    exact J1 _ _ X0 e0 N0 (fx + dl) (by rw [if_neg hc4_24])

set_option maxRecDepth 65536 in
set_option maxHeartbeats 40000000 in
theorem comes_1 {Post : Tables → Env → Array Value → State → Outcome → State → Prop} (hpost : ∀ tb e args s v u, (limb_1_1.after args s (.returned v) u = true ∧ limb_1_2.after args s (.returned v) u = true ∧ True) → FrameEnd s (.returned v) u (Jvm.fieldLocs frame_1_writes args s ++ Jvm.arrayLocs frame_1_arrays args s ++ Jvm.staticLocs frame_1_statics s) 16 128 → Post tb e args s (.returned v) u) :
    ArmFor flags0 classFile x code maxLocals ret World_1 tables_1 room_1 Calls_1 rest_1 Pre_1 Post := by
  intro l hfl _ _ p e ha hc hk s m args below hf hA hF happ hP
  obtain ⟨hcalls, hrest, hpre⟩ := hP
  obtain ⟨-, -, -, hnamed, -, -, -, hat⟩ := (Spec.applies_iff hf).mp happ
  obtain ⟨hg, hn⟩ := and_e (Cond.before_iff.mp (show (Jvm.Cond.and given_1 narrow_1).before args s = true from hpre))
  obtain ⟨hg0, hh0⟩ := and_e hg
  obtain ⟨hg1, hh1⟩ := and_e hh0
  obtain ⟨hg2, hh2⟩ := and_e hh1
  obtain ⟨hg3, hh3⟩ := and_e hh2
  obtain ⟨hg4, hh4⟩ := and_e hh3
  obtain ⟨hg5, hh5⟩ := and_e hh4
  obtain ⟨w0, w1, w2, w3, w4, w5, rfl⟩ : ∃ w0 w1 w2 w3 w4 w5 : Value, args = #[w0, w1, w2, w3, w4, w5] := by
    have hs : args.size = 6 := by simpa [Cond.value, given_1] using hg0
    obtain ⟨L⟩ := args
    match L, hs with
    | [w0, w1, w2, w3, w4, w5], _ => exact ⟨w0, w1, w2, w3, w4, w5, rfl⟩
  have hw := fun d (hd : d ∈ tables_1) => atoms_spec (ws := Jvm.Cond.code x code maxLocals ret :: tables_1) hat d (List.mem_cons_of_mem _ hd)
  have hfit : Fit s := fun {y c} hc i hi => by
    obtain ⟨ha, rfl⟩ := Array.getElem?_eq_some_iff.mp hc
    have q := List.all_eq_true.mp ((Array.all_eq_true_iff_forall_mem.mp hF) _ (Array.getElem_mem ha)) i (List.mem_range.mpr hi)
    simpa [Array.getElem?_eq_getElem hi] using q
  obtain ⟨hsets, hown0⟩ := atoms_of _ (rest_1_c_eq ▸ (show rest_1_c.before _ s = true from hrest))
  have hr0 := Cond.before_iff.mp hown0
  obtain ⟨i0, ei0⟩ := is_v hg1
  obtain rfl : w0 = (.int i0) := Option.some.inj ei0
  obtain ⟨i1, ei1⟩ := is_v hg2
  obtain rfl : w1 = (.int i1) := Option.some.inj ei1
  obtain ⟨i2, ei2⟩ := is_v hg3
  obtain rfl : w2 = (.int i2) := Option.some.inj ei2
  obtain ⟨i3, ei3⟩ := is_v hg4
  obtain rfl : w3 = (.int i3) := Option.some.inj ei3
  obtain ⟨i4, ei4⟩ := is_v hg5
  obtain rfl : w4 = (.int i4) := Option.some.inj ei4
  obtain ⟨i5, ei5⟩ := is_v hh5
  obtain rfl : w5 = (.int i5) := Option.some.inj ei5
  have ev_hi := eqv_i (Term.int_eval _) (Cond.before_iff.mp (hsets _ (List.mem_of_getElem? (i := 3) rfl)))
  have S_hi : Sta s s.heap "java/lang/Integer$IntegerCache" "high" "I" (.int (127 : Int32)) := Sta.start ev_hi (Or.inl (hsets _ (List.mem_of_getElem? (i := 1) rfl)))
  obtain ⟨cc, ev_cc⟩ := arr_v (Cond.before_iff.mp (hsets _ (List.mem_of_getElem? (i := 4) rfl)))
  have S_cc : Sta s s.heap "java/lang/Integer$IntegerCache" "cache" "[Ljava/lang/Integer;" (.ref cc) := Sta.start ev_cc (Or.inr ⟨(hw _ (List.mem_of_getElem? (i := 29) rfl)), (hsets _ (List.mem_of_getElem? (i := 2) rfl))⟩)
  obtain ⟨cb, A_cc⟩ := Arr.start ev_cc (Cond.before_iff.mp (hsets _ (List.mem_of_getElem? (i := 4) rfl)))
  obtain ⟨len_q, len_e⟩ := own_len ev_cc (A_cc.fin (Vm.Alike.refl _)) (eqv_i (Term.int_eval _) (Cond.before_iff.mp (hsets _ (List.mem_of_getElem? (i := 6) rfl))))
  have B_cc : Bxs s cc cb "java/lang/Integer" "I" (256 : Int32) (fun j => .int (j - 128)) := Bxs.start (fun _ => ev_cc) A_cc len_q len_e (by decide) (Cond.before_iff.mp (hsets _ (List.mem_of_getElem? (i := 7) rfl))) (fun X j nn h => eqv_i (by simp [Term.eval, idx_at nn, (back32 nn).1]) h)
  obtain ⟨n, o, h1, h2, h3, _, L, rfl, ⟨rfl, N⟩, hq⟩ := rm0 l s _ hw tables_1 i0 i1 i2 i3 i4 i5 cc cb _ s.heap s.heap.size (Nat.le_refl _) (Old.start s) B_cc S_hi S_cc p e ha hc hk s m _ below hf ((Spec.applies_iff_loose hf).mp happ).1 ⟨rfl, State.Warmed39.refl s, rfl⟩ trivial
  refine ⟨n, _, h1, h2, h3, hpost _ _ _ _ _ _ ⟨Cond.after_iff.mpr rfl, Cond.after_iff.mpr (eq_i res_at (Term.int_eval (1)) rfl), trivial⟩ ⟨hq.1, hq.2.1, (hq.2.2.sift fun y hy => Or.inr (N y hy)).mono (by decide) (by decide)⟩⟩
theorem main_1_1 : Claimed_1_1 := comes_1 fun _ _ _ _ _ _ h hF => ⟨h.1, hF⟩
theorem main_1_2 : Claimed_1_2 := comes_1 fun _ _ _ _ _ _ h hF => ⟨h.2.1, hF⟩
end Jvm.Pilot.@@N@@
namespace Jvm.Pilot.@@N@@
open Jvm Jvm.ClassFile Sem Op Lib Jvm.Free Jvm.Stand Jvm.Pilot.@@N@@.Jvm.D
/-! MADE BY PROGRAM (witnessworld.py) out of the Statement's table words and the real class files: 16 classes; the members and pool entries that the words name. The judged class is class 1, her method 1. -/
namespace start1
open Jvm.ClassFile
def u (s : String) : CpInfo := .utf8 (stringToUtf16 s)
/-- a pool by its gaps: so many unusable entries, then the entry; so many at the end -/
def gap : Nat → List CpInfo → List CpInfo
  | 0, r => r
  | n + 1, r => .unusable :: gap n r
def poolList (es : List (Nat × CpInfo)) (last : Nat) : List CpInfo := es.foldr (fun e r => gap e.1 (e.2 :: r)) (gap last [])
def pool (es : List (Nat × CpInfo)) (last : Nat) : Array CpInfo := ⟨poolList es last⟩
def fileOf (pool : Array CpInfo) (this : Nat) (attrs : Array Attribute := #[]) (ms : Array MethodInfo := #[]) (fl : Nat := 33) (sup : Nat := 0) (ifs : Array Nat := #[]) (fds : Array FieldInfo := #[]) : ClassFile where
  minorVersion := 0
  majorVersion := 65
  constantPool := pool
  accessFlags := fl
  thisClass := this
  superClass := sup
  interfaces := ifs
  fields := fds
  methods := ms
  attributes := attrs
def plain (name : String) (sup : Option ClassId) : Class where
  name := name
  kind := .ordinary
  loader := none
  accessFlags := 33
  super := sup
  interfaces := #[]
  cf := none
  fields := #[]
  methods := #[]
  instanceTypes := #[]
  staticTypes := #[]
  resolved := #[]
  callSites := []
  init := .initialized
  statics := none
  mirror := none

def pool0 : Array CpInfo := pool [(5, u "<init>"), (0, u "()V"), (1, .class_ 10), (1, u "java/lang/Object")] 113

def k0c0 : Code := { maxStack := 0, maxLocals := 1, code := object_method_1_code, exceptionTable := #[], attributes := #[] }
def k0m0 : Method := { name := "<init>", desc := "()V", sig := { parameters := [], returnType := none }, accessFlags := 1, code := some k0c0 }
/-- java/lang/Object -/
def k0 : Class := { plain "java/lang/Object" none with
  accessFlags := 33
  interfaces := #[]
  cf := some (fileOf pool0 8 #[] #[{ accessFlags := 1, nameIndex := 5, descriptorIndex := 6, attributes := #[] }] 33 0 #[] #[])
  fields := #[]
  methods := #[k0m0]
  instanceTypes := #[]
  staticTypes := #[]
  resolved := Array.replicate 124 none
  statics := none }

def pool1 : Array CpInfo := pool [(2, .class_ 4), (1, u "java/lang/Object"), (0, u "<init>"), (0, u "()V"), (0, .class_ 8), (0, u "com/example/usher_panes/usherpanes/model/Frame"), (0, .methodref 7 10), (0, .nameAndType 5 11), (0, u "(IIII)V"), (0, .methodref 7 13), (0, .nameAndType 14 15), (0, u "equals"), (0, u "(Ljava/lang/Object;)Z"), (0, .methodref 17 18), (0, .class_ 19), (0, .nameAndType 20 21), (0, u "java/lang/Integer"), (0, u "valueOf"), (0, u "(I)Ljava/lang/Integer;"), (0, .class_ 23), (0, u "com/example/usher_panes/usherpanes/model/FrameEqualsPinLaw"), (2, u "law"), (0, u "(IIIIII)Z")] 3

def k1m0 : Method := { name := "<init>", desc := "()V", sig := { parameters := [], returnType := none }, accessFlags := 1, code := none }
def k1c1 : Code := { maxStack := 6, maxLocals := 15, code := code, exceptionTable := #[], attributes := #[] }
def k1m1 : Method := { name := "law", desc := "(IIIIII)Z", sig := { parameters := [.int, .int, .int, .int, .int, .int], returnType := some .boolean }, accessFlags := 9, code := some k1c1 }
/-- com/example/usher_panes/usherpanes/model/FrameEqualsPinLaw -/
def k1 : Class := { plain "com/example/usher_panes/usherpanes/model/FrameEqualsPinLaw" (some 0) with
  accessFlags := 49
  interfaces := #[]
  cf := some (fileOf pool1 22 #[] #[{ accessFlags := 1, nameIndex := 5, descriptorIndex := 6, attributes := #[] }, { accessFlags := 9, nameIndex := 26, descriptorIndex := 27, attributes := #[] }] 49 2 #[] #[])
  fields := #[]
  methods := #[k1m0, k1m1]
  instanceTypes := #[]
  staticTypes := #[]
  resolved := Array.replicate 31 none
  statics := none }

def pool2 : Array CpInfo := pool [(1, .methodref 2 3), (0, .class_ 4), (0, .nameAndType 5 6), (0, u "java/lang/Object"), (0, u "<init>"), (0, u "()V"), (0, .fieldref 8 9), (0, .class_ 10), (0, .nameAndType 11 12), (0, u "com/example/usher_panes/usherpanes/model/Frame"), (0, u "x"), (0, u "I"), (0, .fieldref 8 14), (0, .nameAndType 15 12), (0, u "y"), (0, .fieldref 8 17), (0, .nameAndType 18 12), (0, u "width"), (0, .fieldref 8 20), (0, .nameAndType 21 12), (0, u "height"), (25, u "(IIII)V"), (42, u "equals"), (0, u "(Ljava/lang/Object;)Z")] 20

def k2c0 : Code := { maxStack := 2, maxLocals := 5, code := prog_53_method_1_code, exceptionTable := #[], attributes := #[] }
def k2m0 : Method := { name := "<init>", desc := "(IIII)V", sig := { parameters := [.int, .int, .int, .int], returnType := none }, accessFlags := 1, code := some k2c0 }
def k2c1 : Code := { maxStack := 2, maxLocals := 3, code := prog_53_method_11_code, exceptionTable := #[], attributes := #[] }
def k2m1 : Method := { name := "equals", desc := "(Ljava/lang/Object;)Z", sig := { parameters := [(.object "java/lang/Object")], returnType := some .boolean }, accessFlags := 1, code := some k2c1 }
/-- com/example/usher_panes/usherpanes/model/Frame -/
def k2 : Class := { plain "com/example/usher_panes/usherpanes/model/Frame" (some 0) with
  accessFlags := 49
  interfaces := #[]
  cf := some (fileOf pool2 8 #[] #[{ accessFlags := 1, nameIndex := 5, descriptorIndex := 47, attributes := #[] }, { accessFlags := 1, nameIndex := 90, descriptorIndex := 91, attributes := #[] }] 49 2 #[] #[{ accessFlags := 18, nameIndex := 11, descriptorIndex := 12, attributes := #[] }, { accessFlags := 18, nameIndex := 15, descriptorIndex := 12, attributes := #[] }, { accessFlags := 18, nameIndex := 18, descriptorIndex := 12, attributes := #[] }, { accessFlags := 18, nameIndex := 21, descriptorIndex := 12, attributes := #[] }])
  fields := #[{ name := "x", type := .int, accessFlags := 18, slot := 0, constantValue := 0 }, { name := "y", type := .int, accessFlags := 18, slot := 1, constantValue := 0 }, { name := "width", type := .int, accessFlags := 18, slot := 2, constantValue := 0 }, { name := "height", type := .int, accessFlags := 18, slot := 3, constantValue := 0 }]
  methods := #[k2m0, k2m1]
  instanceTypes := #[.int, .int, .int, .int]
  staticTypes := #[]
  resolved := Array.replicate 112 none
  statics := none }

def pool3 : Array CpInfo := pool [(1, .class_ 2), (0, u "java/io/Serializable"), (0, .class_ 4), (0, u "java/lang/Object")] 2

/-- java/io/Serializable -/
def k3 : Class := { plain "java/io/Serializable" (some 0) with
  accessFlags := 1537
  interfaces := #[]
  cf := some (fileOf pool3 1 #[] #[] 1537 3 #[] #[])
  fields := #[]
  methods := #[]
  instanceTypes := #[]
  staticTypes := #[]
  resolved := Array.replicate 7 none
  statics := none }

def pool4 : Array CpInfo := pool [(1, .methodref 2 3), (0, .class_ 4), (0, .nameAndType 5 6), (0, u "java/lang/Object"), (0, u "<init>"), (0, u "()V"), (1, .class_ 10), (1, u "java/lang/Number"), (2, .class_ 14), (0, u "java/io/Serializable"), (0, u "serialVersionUID"), (0, u "J")] 20

def k4c0 : Code := { maxStack := 1, maxLocals := 1, code := jdk_18_method_1_code, exceptionTable := #[], attributes := #[] }
def k4m0 : Method := { name := "<init>", desc := "()V", sig := { parameters := [], returnType := none }, accessFlags := 1, code := some k4c0 }
/-- java/lang/Number -/
def k4 : Class := { plain "java/lang/Number" (some 0) with
  accessFlags := 1057
  interfaces := #[3]
  cf := some (fileOf pool4 8 #[] #[{ accessFlags := 1, nameIndex := 5, descriptorIndex := 6, attributes := #[] }] 1057 2 #[13] #[{ accessFlags := 26, nameIndex := 15, descriptorIndex := 16, attributes := #[] }])
  fields := #[{ name := "serialVersionUID", type := .long, accessFlags := 26, slot := 0, constantValue := 0 }]
  methods := #[k4m0]
  instanceTypes := #[]
  staticTypes := #[.long]
  resolved := Array.replicate 37 none
  statics := none }

def pool5 : Array CpInfo := pool [(1, .class_ 2), (0, u "java/lang/Comparable"), (0, .class_ 4), (0, u "java/lang/Object")] 7

/-- java/lang/Comparable -/
def k5 : Class := { plain "java/lang/Comparable" (some 0) with
  accessFlags := 1537
  interfaces := #[]
  cf := some (fileOf pool5 1 #[] #[] 1537 3 #[] #[])
  fields := #[]
  methods := #[]
  instanceTypes := #[]
  staticTypes := #[]
  resolved := Array.replicate 12 none
  statics := none }

def pool6 : Array CpInfo := pool [(1, .class_ 2), (0, u "java/lang/constant/Constable"), (0, .class_ 4), (0, u "java/lang/Object")] 6

/-- java/lang/constant/Constable -/
def k6 : Class := { plain "java/lang/constant/Constable" (some 0) with
  accessFlags := 1537
  interfaces := #[]
  cf := some (fileOf pool6 1 #[] #[] 1537 3 #[] #[])
  fields := #[]
  methods := #[]
  instanceTypes := #[]
  staticTypes := #[]
  resolved := Array.replicate 11 none
  statics := none }

def pool7 : Array CpInfo := pool [(1, .class_ 2), (0, u "java/lang/constant/ConstantDesc"), (0, .class_ 4), (0, u "java/lang/Object")] 32

/-- java/lang/constant/ConstantDesc -/
def k7 : Class := { plain "java/lang/constant/ConstantDesc" (some 0) with
  accessFlags := 1537
  interfaces := #[]
  cf := some (fileOf pool7 1 #[] #[] 1537 3 #[] #[])
  fields := #[]
  methods := #[]
  instanceTypes := #[]
  staticTypes := #[]
  resolved := Array.replicate 37 none
  statics := none }

def pool8 : Array CpInfo := pool [(1, .class_ 2), (0, u "java/lang/Integer"), (16, u "digits"), (0, u "[C"), (46, u "<init>"), (17, u "DigitOnes"), (0, u "[B"), (2, u "DigitTens"), (10, .nameAndType 67 101), (0, u "()V"), (85, u "valueOf"), (0, u "(I)Ljava/lang/Integer;"), (0, .class_ 190), (0, u "java/lang/Integer$IntegerCache"), (0, .fieldref 189 192), (0, .nameAndType 193 194), (0, u "high"), (0, u "I"), (0, .fieldref 189 196), (0, .nameAndType 197 198), (0, u "cache"), (0, u "[Ljava/lang/Integer;"), (0, .methodref 1 200), (0, .nameAndType 67 201), (0, u "(I)V"), (0, .methodref 203 100), (0, .class_ 204), (0, u "java/lang/Number"), (0, .fieldref 1 206), (0, .nameAndType 207 194), (0, u "value"), (94, u "TYPE"), (0, u "Ljava/lang/Class;"), (0, .class_ 305), (0, u "java/lang/Comparable"), (0, .class_ 307), (0, u "java/lang/constant/Constable"), (0, .class_ 309), (0, u "java/lang/constant/ConstantDesc"), (0, u "MIN_VALUE"), (1, u "MAX_VALUE"), (3, u "SIZE"), (1, u "BYTES"), (1, u "serialVersionUID"), (0, u "J")] 131

def k8c0 : Code := { maxStack := 3, maxLocals := 1, code := jdk_33_method_22_code, exceptionTable := #[], attributes := #[] }
def k8m0 : Method := { name := "valueOf", desc := "(I)Ljava/lang/Integer;", sig := { parameters := [.int], returnType := some (.object "java/lang/Integer") }, accessFlags := 9, code := some k8c0 }
def k8c1 : Code := { maxStack := 2, maxLocals := 2, code := jdk_33_method_23_code, exceptionTable := #[], attributes := #[] }
def k8m1 : Method := { name := "<init>", desc := "(I)V", sig := { parameters := [.int], returnType := none }, accessFlags := 1, code := some k8c1 }
/-- java/lang/Integer -/
def k8 : Class := { plain "java/lang/Integer" (some 4) with
  accessFlags := 49
  interfaces := #[5, 6, 7]
  cf := some (fileOf pool8 1 #[.nestMembers #[189]] #[{ accessFlags := 9, nameIndex := 187, descriptorIndex := 188, attributes := #[] }, { accessFlags := 1, nameIndex := 67, descriptorIndex := 201, attributes := #[] }] 49 203 #[304, 306, 308] #[{ accessFlags := 25, nameIndex := 310, descriptorIndex := 194, attributes := #[] }, { accessFlags := 25, nameIndex := 312, descriptorIndex := 194, attributes := #[] }, { accessFlags := 25, nameIndex := 302, descriptorIndex := 303, attributes := #[] }, { accessFlags := 24, nameIndex := 19, descriptorIndex := 20, attributes := #[] }, { accessFlags := 24, nameIndex := 89, descriptorIndex := 86, attributes := #[] }, { accessFlags := 24, nameIndex := 85, descriptorIndex := 86, attributes := #[] }, { accessFlags := 18, nameIndex := 207, descriptorIndex := 194, attributes := #[] }, { accessFlags := 25, nameIndex := 316, descriptorIndex := 194, attributes := #[] }, { accessFlags := 25, nameIndex := 318, descriptorIndex := 194, attributes := #[] }, { accessFlags := 26, nameIndex := 320, descriptorIndex := 321, attributes := #[] }])
  fields := #[{ name := "MIN_VALUE", type := .int, accessFlags := 25, slot := 0, constantValue := 0 }, { name := "MAX_VALUE", type := .int, accessFlags := 25, slot := 1, constantValue := 0 }, { name := "TYPE", type := (.object "java/lang/Class"), accessFlags := 25, slot := 2, constantValue := 0 }, { name := "digits", type := (.array .char), accessFlags := 24, slot := 3, constantValue := 0 }, { name := "DigitTens", type := (.array .byte), accessFlags := 24, slot := 4, constantValue := 0 }, { name := "DigitOnes", type := (.array .byte), accessFlags := 24, slot := 5, constantValue := 0 }, { name := "value", type := .int, accessFlags := 18, slot := 0, constantValue := 0 }, { name := "SIZE", type := .int, accessFlags := 25, slot := 6, constantValue := 0 }, { name := "BYTES", type := .int, accessFlags := 25, slot := 7, constantValue := 0 }, { name := "serialVersionUID", type := .long, accessFlags := 26, slot := 8, constantValue := 0 }]
  methods := #[k8m0, k8m1]
  instanceTypes := #[.int]
  staticTypes := #[.int, .int, (.object "java/lang/Class"), (.array .char), (.array .byte), (.array .byte), .int, .int, .long]
  resolved := Array.replicate 453 none
  statics := none }

def pool9 : Array CpInfo := pool [(2, .class_ 4), (1, u "java/lang/Object"), (0, u "<init>"), (0, u "()V"), (0, .class_ 8), (0, u "java/lang/Integer"), (7, .class_ 18), (1, u "java/lang/Integer$IntegerCache"), (0, u "$assertionsDisabled"), (0, u "Z"), (26, u "high"), (0, u "I"), (8, u "archivedCache"), (0, u "[Ljava/lang/Integer;"), (12, u "cache"), (0, u "low")] 27

def k9m0 : Method := { name := "<init>", desc := "()V", sig := { parameters := [], returnType := none }, accessFlags := 2, code := none }
/-- java/lang/Integer$IntegerCache -/
def k9 : Class := { plain "java/lang/Integer$IntegerCache" (some 0) with
  accessFlags := 48
  interfaces := #[]
  cf := some (fileOf pool9 16 #[.nestHost 7] #[{ accessFlags := 2, nameIndex := 5, descriptorIndex := 6, attributes := #[] }] 48 2 #[] #[{ accessFlags := 24, nameIndex := 72, descriptorIndex := 48, attributes := #[] }, { accessFlags := 24, nameIndex := 47, descriptorIndex := 48, attributes := #[] }, { accessFlags := 24, nameIndex := 71, descriptorIndex := 58, attributes := #[] }, { accessFlags := 8, nameIndex := 57, descriptorIndex := 58, attributes := #[] }, { accessFlags := 4120, nameIndex := 19, descriptorIndex := 20, attributes := #[] }])
  fields := #[{ name := "low", type := .int, accessFlags := 24, slot := 0, constantValue := 0 }, { name := "high", type := .int, accessFlags := 24, slot := 1, constantValue := 0 }, { name := "cache", type := (.array (.object "java/lang/Integer")), accessFlags := 24, slot := 2, constantValue := 0 }, { name := "archivedCache", type := (.array (.object "java/lang/Integer")), accessFlags := 8, slot := 3, constantValue := 0 }, { name := "$assertionsDisabled", type := .boolean, accessFlags := 4120, slot := 4, constantValue := 0 }]
  methods := #[k9m0]
  instanceTypes := #[]
  staticTypes := #[.int, .int, (.array (.object "java/lang/Integer")), (.array (.object "java/lang/Integer")), .boolean]
  resolved := Array.replicate 100 none
  statics := some 0 }

def pool10 : Array CpInfo := pool [(1, u "java/lang/Cloneable"), (0, .class_ 1), (0, u "java/lang/Object"), (0, .class_ 3)] 3

/-- java/lang/Cloneable -/
def k10 : Class := { plain "java/lang/Cloneable" (some 0) with
  accessFlags := 1537
  interfaces := #[]
  cf := some (fileOf pool10 2 #[] #[] 1537 4 #[] #[])
  fields := #[]
  methods := #[]
  instanceTypes := #[]
  staticTypes := #[]
  resolved := Array.replicate 8 none
  statics := none }

/-- the primitive byte -/
def k11 : Class := { plain "byte" none with kind := .primitive 'B', accessFlags := 0x411 }
/-- [B -/
def k12 : Class := { plain "[B" (some 0) with kind := .array 11 .byte, interfaces := #[10, 3], accessFlags := 1041 }

/-- the primitive int -/
def k13 : Class := { plain "int" none with kind := .primitive 'I', accessFlags := 0x411 }
/-- [I -/
def k14 : Class := { plain "[I" (some 0) with kind := .array 13 .int, interfaces := #[10, 3], accessFlags := 1041 }

/-- [Ljava/lang/Integer; -/
def k15 : Class := { plain "[Ljava/lang/Integer;" (some 0) with kind := .array 8 (.object "java/lang/Integer"), interfaces := #[10, 3], accessFlags := 1041 }

def heap : Heap := #[{ cls := 9, slots := #[.int 0, .int 127, .ref 1, .null, .int 0], vm := .statics 9 },
  { cls := 15, slots := #[.ref 2, .ref 3, .ref 4, .ref 5, .ref 6, .ref 7, .ref 8, .ref 9, .ref 10, .ref 11, .ref 12, .ref 13, .ref 14, .ref 15, .ref 16, .ref 17, .ref 18, .ref 19, .ref 20, .ref 21, .ref 22, .ref 23, .ref 24, .ref 25, .ref 26, .ref 27, .ref 28, .ref 29, .ref 30, .ref 31, .ref 32, .ref 33, .ref 34, .ref 35, .ref 36, .ref 37, .ref 38, .ref 39, .ref 40, .ref 41, .ref 42, .ref 43, .ref 44, .ref 45, .ref 46, .ref 47, .ref 48, .ref 49, .ref 50, .ref 51, .ref 52, .ref 53, .ref 54, .ref 55, .ref 56, .ref 57, .ref 58, .ref 59, .ref 60, .ref 61, .ref 62, .ref 63, .ref 64, .ref 65, .ref 66, .ref 67, .ref 68, .ref 69, .ref 70, .ref 71, .ref 72, .ref 73, .ref 74, .ref 75, .ref 76, .ref 77, .ref 78, .ref 79, .ref 80, .ref 81, .ref 82, .ref 83, .ref 84, .ref 85, .ref 86, .ref 87, .ref 88, .ref 89, .ref 90, .ref 91, .ref 92, .ref 93, .ref 94, .ref 95, .ref 96, .ref 97, .ref 98, .ref 99, .ref 100, .ref 101, .ref 102, .ref 103, .ref 104, .ref 105, .ref 106, .ref 107, .ref 108, .ref 109, .ref 110, .ref 111, .ref 112, .ref 113, .ref 114, .ref 115, .ref 116, .ref 117, .ref 118, .ref 119, .ref 120, .ref 121, .ref 122, .ref 123, .ref 124, .ref 125, .ref 126, .ref 127, .ref 128, .ref 129, .ref 130, .ref 131, .ref 132, .ref 133, .ref 134, .ref 135, .ref 136, .ref 137, .ref 138, .ref 139, .ref 140, .ref 141, .ref 142, .ref 143, .ref 144, .ref 145, .ref 146, .ref 147, .ref 148, .ref 149, .ref 150, .ref 151, .ref 152, .ref 153, .ref 154, .ref 155, .ref 156, .ref 157, .ref 158, .ref 159, .ref 160, .ref 161, .ref 162, .ref 163, .ref 164, .ref 165, .ref 166, .ref 167, .ref 168, .ref 169, .ref 170, .ref 171, .ref 172, .ref 173, .ref 174, .ref 175, .ref 176, .ref 177, .ref 178, .ref 179, .ref 180, .ref 181, .ref 182, .ref 183, .ref 184, .ref 185, .ref 186, .ref 187, .ref 188, .ref 189, .ref 190, .ref 191, .ref 192, .ref 193, .ref 194, .ref 195, .ref 196, .ref 197, .ref 198, .ref 199, .ref 200, .ref 201, .ref 202, .ref 203, .ref 204, .ref 205, .ref 206, .ref 207, .ref 208, .ref 209, .ref 210, .ref 211, .ref 212, .ref 213, .ref 214, .ref 215, .ref 216, .ref 217, .ref 218, .ref 219, .ref 220, .ref 221, .ref 222, .ref 223, .ref 224, .ref 225, .ref 226, .ref 227, .ref 228, .ref 229, .ref 230, .ref 231, .ref 232, .ref 233, .ref 234, .ref 235, .ref 236, .ref 237, .ref 238, .ref 239, .ref 240, .ref 241, .ref 242, .ref 243, .ref 244, .ref 245, .ref 246, .ref 247, .ref 248, .ref 249, .ref 250, .ref 251, .ref 252, .ref 253, .ref 254, .ref 255, .ref 256, .ref 257], vm := .none },
  { cls := 8, slots := #[.int (-128)], vm := .none },
  { cls := 8, slots := #[.int (-127)], vm := .none },
  { cls := 8, slots := #[.int (-126)], vm := .none },
  { cls := 8, slots := #[.int (-125)], vm := .none },
  { cls := 8, slots := #[.int (-124)], vm := .none },
  { cls := 8, slots := #[.int (-123)], vm := .none },
  { cls := 8, slots := #[.int (-122)], vm := .none },
  { cls := 8, slots := #[.int (-121)], vm := .none },
  { cls := 8, slots := #[.int (-120)], vm := .none },
  { cls := 8, slots := #[.int (-119)], vm := .none },
  { cls := 8, slots := #[.int (-118)], vm := .none },
  { cls := 8, slots := #[.int (-117)], vm := .none },
  { cls := 8, slots := #[.int (-116)], vm := .none },
  { cls := 8, slots := #[.int (-115)], vm := .none },
  { cls := 8, slots := #[.int (-114)], vm := .none },
  { cls := 8, slots := #[.int (-113)], vm := .none },
  { cls := 8, slots := #[.int (-112)], vm := .none },
  { cls := 8, slots := #[.int (-111)], vm := .none },
  { cls := 8, slots := #[.int (-110)], vm := .none },
  { cls := 8, slots := #[.int (-109)], vm := .none },
  { cls := 8, slots := #[.int (-108)], vm := .none },
  { cls := 8, slots := #[.int (-107)], vm := .none },
  { cls := 8, slots := #[.int (-106)], vm := .none },
  { cls := 8, slots := #[.int (-105)], vm := .none },
  { cls := 8, slots := #[.int (-104)], vm := .none },
  { cls := 8, slots := #[.int (-103)], vm := .none },
  { cls := 8, slots := #[.int (-102)], vm := .none },
  { cls := 8, slots := #[.int (-101)], vm := .none },
  { cls := 8, slots := #[.int (-100)], vm := .none },
  { cls := 8, slots := #[.int (-99)], vm := .none },
  { cls := 8, slots := #[.int (-98)], vm := .none },
  { cls := 8, slots := #[.int (-97)], vm := .none },
  { cls := 8, slots := #[.int (-96)], vm := .none },
  { cls := 8, slots := #[.int (-95)], vm := .none },
  { cls := 8, slots := #[.int (-94)], vm := .none },
  { cls := 8, slots := #[.int (-93)], vm := .none },
  { cls := 8, slots := #[.int (-92)], vm := .none },
  { cls := 8, slots := #[.int (-91)], vm := .none },
  { cls := 8, slots := #[.int (-90)], vm := .none },
  { cls := 8, slots := #[.int (-89)], vm := .none },
  { cls := 8, slots := #[.int (-88)], vm := .none },
  { cls := 8, slots := #[.int (-87)], vm := .none },
  { cls := 8, slots := #[.int (-86)], vm := .none },
  { cls := 8, slots := #[.int (-85)], vm := .none },
  { cls := 8, slots := #[.int (-84)], vm := .none },
  { cls := 8, slots := #[.int (-83)], vm := .none },
  { cls := 8, slots := #[.int (-82)], vm := .none },
  { cls := 8, slots := #[.int (-81)], vm := .none },
  { cls := 8, slots := #[.int (-80)], vm := .none },
  { cls := 8, slots := #[.int (-79)], vm := .none },
  { cls := 8, slots := #[.int (-78)], vm := .none },
  { cls := 8, slots := #[.int (-77)], vm := .none },
  { cls := 8, slots := #[.int (-76)], vm := .none },
  { cls := 8, slots := #[.int (-75)], vm := .none },
  { cls := 8, slots := #[.int (-74)], vm := .none },
  { cls := 8, slots := #[.int (-73)], vm := .none },
  { cls := 8, slots := #[.int (-72)], vm := .none },
  { cls := 8, slots := #[.int (-71)], vm := .none },
  { cls := 8, slots := #[.int (-70)], vm := .none },
  { cls := 8, slots := #[.int (-69)], vm := .none },
  { cls := 8, slots := #[.int (-68)], vm := .none },
  { cls := 8, slots := #[.int (-67)], vm := .none },
  { cls := 8, slots := #[.int (-66)], vm := .none },
  { cls := 8, slots := #[.int (-65)], vm := .none },
  { cls := 8, slots := #[.int (-64)], vm := .none },
  { cls := 8, slots := #[.int (-63)], vm := .none },
  { cls := 8, slots := #[.int (-62)], vm := .none },
  { cls := 8, slots := #[.int (-61)], vm := .none },
  { cls := 8, slots := #[.int (-60)], vm := .none },
  { cls := 8, slots := #[.int (-59)], vm := .none },
  { cls := 8, slots := #[.int (-58)], vm := .none },
  { cls := 8, slots := #[.int (-57)], vm := .none },
  { cls := 8, slots := #[.int (-56)], vm := .none },
  { cls := 8, slots := #[.int (-55)], vm := .none },
  { cls := 8, slots := #[.int (-54)], vm := .none },
  { cls := 8, slots := #[.int (-53)], vm := .none },
  { cls := 8, slots := #[.int (-52)], vm := .none },
  { cls := 8, slots := #[.int (-51)], vm := .none },
  { cls := 8, slots := #[.int (-50)], vm := .none },
  { cls := 8, slots := #[.int (-49)], vm := .none },
  { cls := 8, slots := #[.int (-48)], vm := .none },
  { cls := 8, slots := #[.int (-47)], vm := .none },
  { cls := 8, slots := #[.int (-46)], vm := .none },
  { cls := 8, slots := #[.int (-45)], vm := .none },
  { cls := 8, slots := #[.int (-44)], vm := .none },
  { cls := 8, slots := #[.int (-43)], vm := .none },
  { cls := 8, slots := #[.int (-42)], vm := .none },
  { cls := 8, slots := #[.int (-41)], vm := .none },
  { cls := 8, slots := #[.int (-40)], vm := .none },
  { cls := 8, slots := #[.int (-39)], vm := .none },
  { cls := 8, slots := #[.int (-38)], vm := .none },
  { cls := 8, slots := #[.int (-37)], vm := .none },
  { cls := 8, slots := #[.int (-36)], vm := .none },
  { cls := 8, slots := #[.int (-35)], vm := .none },
  { cls := 8, slots := #[.int (-34)], vm := .none },
  { cls := 8, slots := #[.int (-33)], vm := .none },
  { cls := 8, slots := #[.int (-32)], vm := .none },
  { cls := 8, slots := #[.int (-31)], vm := .none },
  { cls := 8, slots := #[.int (-30)], vm := .none },
  { cls := 8, slots := #[.int (-29)], vm := .none },
  { cls := 8, slots := #[.int (-28)], vm := .none },
  { cls := 8, slots := #[.int (-27)], vm := .none },
  { cls := 8, slots := #[.int (-26)], vm := .none },
  { cls := 8, slots := #[.int (-25)], vm := .none },
  { cls := 8, slots := #[.int (-24)], vm := .none },
  { cls := 8, slots := #[.int (-23)], vm := .none },
  { cls := 8, slots := #[.int (-22)], vm := .none },
  { cls := 8, slots := #[.int (-21)], vm := .none },
  { cls := 8, slots := #[.int (-20)], vm := .none },
  { cls := 8, slots := #[.int (-19)], vm := .none },
  { cls := 8, slots := #[.int (-18)], vm := .none },
  { cls := 8, slots := #[.int (-17)], vm := .none },
  { cls := 8, slots := #[.int (-16)], vm := .none },
  { cls := 8, slots := #[.int (-15)], vm := .none },
  { cls := 8, slots := #[.int (-14)], vm := .none },
  { cls := 8, slots := #[.int (-13)], vm := .none },
  { cls := 8, slots := #[.int (-12)], vm := .none },
  { cls := 8, slots := #[.int (-11)], vm := .none },
  { cls := 8, slots := #[.int (-10)], vm := .none },
  { cls := 8, slots := #[.int (-9)], vm := .none },
  { cls := 8, slots := #[.int (-8)], vm := .none },
  { cls := 8, slots := #[.int (-7)], vm := .none },
  { cls := 8, slots := #[.int (-6)], vm := .none },
  { cls := 8, slots := #[.int (-5)], vm := .none },
  { cls := 8, slots := #[.int (-4)], vm := .none },
  { cls := 8, slots := #[.int (-3)], vm := .none },
  { cls := 8, slots := #[.int (-2)], vm := .none },
  { cls := 8, slots := #[.int (-1)], vm := .none },
  { cls := 8, slots := #[.int 0], vm := .none },
  { cls := 8, slots := #[.int 1], vm := .none },
  { cls := 8, slots := #[.int 2], vm := .none },
  { cls := 8, slots := #[.int 3], vm := .none },
  { cls := 8, slots := #[.int 4], vm := .none },
  { cls := 8, slots := #[.int 5], vm := .none },
  { cls := 8, slots := #[.int 6], vm := .none },
  { cls := 8, slots := #[.int 7], vm := .none },
  { cls := 8, slots := #[.int 8], vm := .none },
  { cls := 8, slots := #[.int 9], vm := .none },
  { cls := 8, slots := #[.int 10], vm := .none },
  { cls := 8, slots := #[.int 11], vm := .none },
  { cls := 8, slots := #[.int 12], vm := .none },
  { cls := 8, slots := #[.int 13], vm := .none },
  { cls := 8, slots := #[.int 14], vm := .none },
  { cls := 8, slots := #[.int 15], vm := .none },
  { cls := 8, slots := #[.int 16], vm := .none },
  { cls := 8, slots := #[.int 17], vm := .none },
  { cls := 8, slots := #[.int 18], vm := .none },
  { cls := 8, slots := #[.int 19], vm := .none },
  { cls := 8, slots := #[.int 20], vm := .none },
  { cls := 8, slots := #[.int 21], vm := .none },
  { cls := 8, slots := #[.int 22], vm := .none },
  { cls := 8, slots := #[.int 23], vm := .none },
  { cls := 8, slots := #[.int 24], vm := .none },
  { cls := 8, slots := #[.int 25], vm := .none },
  { cls := 8, slots := #[.int 26], vm := .none },
  { cls := 8, slots := #[.int 27], vm := .none },
  { cls := 8, slots := #[.int 28], vm := .none },
  { cls := 8, slots := #[.int 29], vm := .none },
  { cls := 8, slots := #[.int 30], vm := .none },
  { cls := 8, slots := #[.int 31], vm := .none },
  { cls := 8, slots := #[.int 32], vm := .none },
  { cls := 8, slots := #[.int 33], vm := .none },
  { cls := 8, slots := #[.int 34], vm := .none },
  { cls := 8, slots := #[.int 35], vm := .none },
  { cls := 8, slots := #[.int 36], vm := .none },
  { cls := 8, slots := #[.int 37], vm := .none },
  { cls := 8, slots := #[.int 38], vm := .none },
  { cls := 8, slots := #[.int 39], vm := .none },
  { cls := 8, slots := #[.int 40], vm := .none },
  { cls := 8, slots := #[.int 41], vm := .none },
  { cls := 8, slots := #[.int 42], vm := .none },
  { cls := 8, slots := #[.int 43], vm := .none },
  { cls := 8, slots := #[.int 44], vm := .none },
  { cls := 8, slots := #[.int 45], vm := .none },
  { cls := 8, slots := #[.int 46], vm := .none },
  { cls := 8, slots := #[.int 47], vm := .none },
  { cls := 8, slots := #[.int 48], vm := .none },
  { cls := 8, slots := #[.int 49], vm := .none },
  { cls := 8, slots := #[.int 50], vm := .none },
  { cls := 8, slots := #[.int 51], vm := .none },
  { cls := 8, slots := #[.int 52], vm := .none },
  { cls := 8, slots := #[.int 53], vm := .none },
  { cls := 8, slots := #[.int 54], vm := .none },
  { cls := 8, slots := #[.int 55], vm := .none },
  { cls := 8, slots := #[.int 56], vm := .none },
  { cls := 8, slots := #[.int 57], vm := .none },
  { cls := 8, slots := #[.int 58], vm := .none },
  { cls := 8, slots := #[.int 59], vm := .none },
  { cls := 8, slots := #[.int 60], vm := .none },
  { cls := 8, slots := #[.int 61], vm := .none },
  { cls := 8, slots := #[.int 62], vm := .none },
  { cls := 8, slots := #[.int 63], vm := .none },
  { cls := 8, slots := #[.int 64], vm := .none },
  { cls := 8, slots := #[.int 65], vm := .none },
  { cls := 8, slots := #[.int 66], vm := .none },
  { cls := 8, slots := #[.int 67], vm := .none },
  { cls := 8, slots := #[.int 68], vm := .none },
  { cls := 8, slots := #[.int 69], vm := .none },
  { cls := 8, slots := #[.int 70], vm := .none },
  { cls := 8, slots := #[.int 71], vm := .none },
  { cls := 8, slots := #[.int 72], vm := .none },
  { cls := 8, slots := #[.int 73], vm := .none },
  { cls := 8, slots := #[.int 74], vm := .none },
  { cls := 8, slots := #[.int 75], vm := .none },
  { cls := 8, slots := #[.int 76], vm := .none },
  { cls := 8, slots := #[.int 77], vm := .none },
  { cls := 8, slots := #[.int 78], vm := .none },
  { cls := 8, slots := #[.int 79], vm := .none },
  { cls := 8, slots := #[.int 80], vm := .none },
  { cls := 8, slots := #[.int 81], vm := .none },
  { cls := 8, slots := #[.int 82], vm := .none },
  { cls := 8, slots := #[.int 83], vm := .none },
  { cls := 8, slots := #[.int 84], vm := .none },
  { cls := 8, slots := #[.int 85], vm := .none },
  { cls := 8, slots := #[.int 86], vm := .none },
  { cls := 8, slots := #[.int 87], vm := .none },
  { cls := 8, slots := #[.int 88], vm := .none },
  { cls := 8, slots := #[.int 89], vm := .none },
  { cls := 8, slots := #[.int 90], vm := .none },
  { cls := 8, slots := #[.int 91], vm := .none },
  { cls := 8, slots := #[.int 92], vm := .none },
  { cls := 8, slots := #[.int 93], vm := .none },
  { cls := 8, slots := #[.int 94], vm := .none },
  { cls := 8, slots := #[.int 95], vm := .none },
  { cls := 8, slots := #[.int 96], vm := .none },
  { cls := 8, slots := #[.int 97], vm := .none },
  { cls := 8, slots := #[.int 98], vm := .none },
  { cls := 8, slots := #[.int 99], vm := .none },
  { cls := 8, slots := #[.int 100], vm := .none },
  { cls := 8, slots := #[.int 101], vm := .none },
  { cls := 8, slots := #[.int 102], vm := .none },
  { cls := 8, slots := #[.int 103], vm := .none },
  { cls := 8, slots := #[.int 104], vm := .none },
  { cls := 8, slots := #[.int 105], vm := .none },
  { cls := 8, slots := #[.int 106], vm := .none },
  { cls := 8, slots := #[.int 107], vm := .none },
  { cls := 8, slots := #[.int 108], vm := .none },
  { cls := 8, slots := #[.int 109], vm := .none },
  { cls := 8, slots := #[.int 110], vm := .none },
  { cls := 8, slots := #[.int 111], vm := .none },
  { cls := 8, slots := #[.int 112], vm := .none },
  { cls := 8, slots := #[.int 113], vm := .none },
  { cls := 8, slots := #[.int 114], vm := .none },
  { cls := 8, slots := #[.int 115], vm := .none },
  { cls := 8, slots := #[.int 116], vm := .none },
  { cls := 8, slots := #[.int 117], vm := .none },
  { cls := 8, slots := #[.int 118], vm := .none },
  { cls := 8, slots := #[.int 119], vm := .none },
  { cls := 8, slots := #[.int 120], vm := .none },
  { cls := 8, slots := #[.int 121], vm := .none },
  { cls := 8, slots := #[.int 122], vm := .none },
  { cls := 8, slots := #[.int 123], vm := .none },
  { cls := 8, slots := #[.int 124], vm := .none },
  { cls := 8, slots := #[.int 125], vm := .none },
  { cls := 8, slots := #[.int 126], vm := .none },
  { cls := 8, slots := #[.int 127], vm := .none }]
def classes : Array Class := #[k0, k1, k2, k3, k4, k5, k6, k7, k8, k9, k10, k11, k12, k13, k14, k15]
def interned : List (Array UInt16 × Addr) := []
def slotsUsed : Nat := 517
def theMethod : MethodId := ⟨1, 1⟩
def args0 : Array Value := #[.int 3, .int 7, .int 5, .int 5, .int 1, .int 2]
def aboutOver (below : List Frame) : State where
  vm := { classes := classes, interned := interned.toArray }
  heap := heap
  slotsUsed := slotsUsed
  threads := #[{ frames := .invoking theMethod args0 :: below }]
def below0 : List Frame := [.native { method := ⟨0, 0⟩, args := #[] }]
def about1 : State := aboutOver below0
def p0 : Program := .bare "" "" ""
def e0 : Env := launch0.env 0 0 0
theorem w_frames : about1.frames = Frame.invoking theMethod args0 :: below0 := rfl
set_option maxRecDepth 65536 in
theorem w_args : argsFit about1.vm theMethod args0 = true := by decide +kernel
set_option maxRecDepth 65536 in
theorem w_heap : heapFits about1 = true := by decide +kernel
set_option maxRecDepth 65536 in
theorem w_runnable : about1.curStatus? = some .runnable := by decide +kernel
set_option maxRecDepth 65536 in
theorem w_alone : about1.alone = true := by decide +kernel
set_option maxRecDepth 65536 in
theorem w_named : about1.methodNamed? x = some theMethod := by decide +kernel
set_option maxRecDepth 65536 in
theorem w_hears : about1.hears theMethod below0 = true := by decide +kernel
set_option maxRecDepth 65536 in
theorem w_ripe : about1.ripe theMethod args0 below0 = true := by decide +kernel
theorem w_running : about1.status = .running := rfl
set_option maxRecDepth 65536 in
theorem w_room : about1.hasRoom e0.platform room_1 = true :=
  launch0.hasRoom_least _ room_1 (by decide +kernel) (by decide +kernel) (by decide +kernel) (by decide +kernel) (by decide +kernel) (by decide +kernel)
theorem allAtoms_all (ts : List Jvm.Cond) (a : Array Jvm.Value) (st : Jvm.State) : (allAtoms ts).before a st = ts.all (fun c => c.before a st) := by
  induction ts with
  | nil => rfl
  | cons c t ih =>
    show (Jvm.Cond.and c (allAtoms t)).before a st = _
    rw [Jvm.Cond.before_and, ih, List.all_cons]
def words1 : List Jvm.Cond := Jvm.Cond.code x code maxLocals ret :: tables_1
/-- a 'code' word, met by the world's own term for the bytes: nothing is compared byte by byte -/
theorem code_word {y : MethodName} {bytes : ByteArray} {mx : Nat} {rt : Option FieldType} {a : Array Value} {s : State} {m : MethodId} {meth : Method} {c : Code} (h1 : s.methodNamed? y = some m) (h2 : s.vm.method? m = some meth) (h3 : meth.code = some c) (h4 : c.code = bytes)
    (h5 : (c.maxLocals == mx && c.exceptionTable.isEmpty && decide (c.maxStack ≤ mostOperands) && decide (meth.sig.returnType = rt) && !meth.locks && decide (parseMethodDescriptor y.desc = some meth.sig)) = true) : (Jvm.Cond.code y bytes mx rt).before a s = true := by
  simp only [Bool.and_eq_true, beq_iff_eq, Bool.not_eq_true', decide_eq_true_eq] at h5
  obtain ⟨⟨⟨⟨⟨g1, g2⟩, g3⟩, g4⟩, g5⟩, g6⟩ := h5
  simp [Cond.before, Cond.holds, Cond.value, h1, h2, h3, h4, g1, g2, g3, g4, g5, g6]
def isCode : Jvm.Cond → Bool
  | .code _ _ _ _ => true
  | _ => false
theorem all_split {L : List Jvm.Cond} {P : Jvm.Cond → Bool} (h1 : L.all (fun c => isCode c || P c) = true) (h2 : ∀ c ∈ L.filter isCode, P c = true) : L.all P = true := by
  refine List.all_eq_true.mpr fun c hc => ?_
  have h := List.all_eq_true.mp h1 c hc
  rcases Bool.eq_false_or_eq_true (isCode c) with hi | hi
  · exact h2 c (List.mem_filter.mpr ⟨hc, hi⟩)
  · simpa [hi] using h
set_option maxRecDepth 65536 in
theorem w_c0 : (Jvm.Cond.code x code maxLocals ret).before args0 about1 = true := code_word (m := ⟨1, 1⟩) (meth := k1m1) (c := k1c1) (by decide +kernel) rfl rfl rfl (by decide +kernel)
set_option maxRecDepth 65536 in
theorem w_c1 : (Jvm.Cond.code ({ cls := "com/example/usher_panes/usherpanes/model/Frame", name := "<init>", desc := "(IIII)V" } : Jvm.MethodName) prog_53_method_1_code (5 : Nat) (Option.none : Option Jvm.ClassFile.FieldType)).before args0 about1 = true := code_word (m := ⟨2, 0⟩) (meth := k2m0) (c := k2c0) (by decide +kernel) rfl rfl rfl (by decide +kernel)
set_option maxRecDepth 65536 in
theorem w_c2 : (Jvm.Cond.code ({ cls := "java/lang/Object", name := "<init>", desc := "()V" } : Jvm.MethodName) object_method_1_code (1 : Nat) (Option.none : Option Jvm.ClassFile.FieldType)).before args0 about1 = true := code_word (m := ⟨0, 0⟩) (meth := k0m0) (c := k0c0) (by decide +kernel) rfl rfl rfl (by decide +kernel)
set_option maxRecDepth 65536 in
theorem w_c3 : (Jvm.Cond.code ({ cls := "com/example/usher_panes/usherpanes/model/Frame", name := "equals", desc := "(Ljava/lang/Object;)Z" } : Jvm.MethodName) prog_53_method_11_code (3 : Nat) (Option.some Jvm.ClassFile.FieldType.boolean)).before args0 about1 = true := code_word (m := ⟨2, 1⟩) (meth := k2m1) (c := k2c1) (by decide +kernel) rfl rfl rfl (by decide +kernel)
set_option maxRecDepth 65536 in
theorem w_c4 : (Jvm.Cond.code ({ cls := "java/lang/Integer", name := "valueOf", desc := "(I)Ljava/lang/Integer;" } : Jvm.MethodName) jdk_33_method_22_code (1 : Nat) (Option.some (Jvm.ClassFile.FieldType.object "java/lang/Integer"))).before args0 about1 = true := code_word (m := ⟨8, 0⟩) (meth := k8m0) (c := k8c0) (by decide +kernel) rfl rfl rfl (by decide +kernel)
set_option maxRecDepth 65536 in
theorem w_c5 : (Jvm.Cond.code ({ cls := "java/lang/Integer", name := "<init>", desc := "(I)V" } : Jvm.MethodName) jdk_33_method_23_code (2 : Nat) (Option.none : Option Jvm.ClassFile.FieldType)).before args0 about1 = true := code_word (m := ⟨8, 1⟩) (meth := k8m1) (c := k8c1) (by decide +kernel) rfl rfl rfl (by decide +kernel)
set_option maxRecDepth 65536 in
theorem w_c6 : (Jvm.Cond.code ({ cls := "java/lang/Number", name := "<init>", desc := "()V" } : Jvm.MethodName) jdk_18_method_1_code (1 : Nat) (Option.none : Option Jvm.ClassFile.FieldType)).before args0 about1 = true := code_word (m := ⟨4, 0⟩) (meth := k4m0) (c := k4c0) (by decide +kernel) rfl rfl rfl (by decide +kernel)
def codes1 : List Jvm.Cond := [Jvm.Cond.code x code maxLocals ret, Jvm.Cond.code ({ cls := "com/example/usher_panes/usherpanes/model/Frame", name := "<init>", desc := "(IIII)V" } : Jvm.MethodName) prog_53_method_1_code (5 : Nat) (Option.none : Option Jvm.ClassFile.FieldType), Jvm.Cond.code ({ cls := "java/lang/Object", name := "<init>", desc := "()V" } : Jvm.MethodName) object_method_1_code (1 : Nat) (Option.none : Option Jvm.ClassFile.FieldType), Jvm.Cond.code ({ cls := "com/example/usher_panes/usherpanes/model/Frame", name := "equals", desc := "(Ljava/lang/Object;)Z" } : Jvm.MethodName) prog_53_method_11_code (3 : Nat) (Option.some Jvm.ClassFile.FieldType.boolean), Jvm.Cond.code ({ cls := "java/lang/Integer", name := "valueOf", desc := "(I)Ljava/lang/Integer;" } : Jvm.MethodName) jdk_33_method_22_code (1 : Nat) (Option.some (Jvm.ClassFile.FieldType.object "java/lang/Integer")), Jvm.Cond.code ({ cls := "java/lang/Integer", name := "<init>", desc := "(I)V" } : Jvm.MethodName) jdk_33_method_23_code (2 : Nat) (Option.none : Option Jvm.ClassFile.FieldType), Jvm.Cond.code ({ cls := "java/lang/Number", name := "<init>", desc := "()V" } : Jvm.MethodName) jdk_18_method_1_code (1 : Nat) (Option.none : Option Jvm.ClassFile.FieldType)]
set_option maxRecDepth 65536 in
theorem codes_eq : words1.filter isCode = codes1 := rfl
theorem w_codes : ∀ c ∈ words1.filter isCode, c.before args0 about1 = true := by
  rw [codes_eq]
  intro c hc
  simp only [codes1, List.mem_cons, List.not_mem_nil, or_false] at hc
  rcases hc with rfl | rfl | rfl | rfl | rfl | rfl | rfl
  · exact w_c0
  · exact w_c1
  · exact w_c2
  · exact w_c3
  · exact w_c4
  · exact w_c5
  · exact w_c6
set_option maxRecDepth 65536 in
theorem w_t1 : (words1.take 24).all (fun c => isCode c || c.before args0 about1) = true := by decide +kernel
set_option maxRecDepth 65536 in
theorem w_t2 : ((words1.drop 24).take 24).all (fun c => isCode c || c.before args0 about1) = true := by decide +kernel
set_option maxRecDepth 65536 in
theorem w_t3 : ((words1.drop 24).drop 24).all (fun c => isCode c || c.before args0 about1) = true := by decide +kernel
theorem w_tables : (allAtoms (Jvm.Cond.code x code maxLocals ret :: tables_1)).before args0 about1 = true := by
  rw [allAtoms_all]
  show words1.all (fun c => c.before args0 about1) = true
  refine all_split ?_ w_codes
  rw [← List.take_append_drop 24 words1, List.all_append, w_t1, ← List.take_append_drop 24 (words1.drop 24), List.all_append, w_t2, w_t3]
  rfl
set_option maxRecDepth 65536 in
theorem w_rest : rest_1_c.before args0 about1 = true := by decide +kernel
set_option maxRecDepth 65536 in
theorem w_case : (Jvm.Cond.and given_1 narrow_1).before args0 about1 = true := by decide +kernel
theorem w_applies : (headSpec (Jvm.Cond.code x code maxLocals ret :: tables_1) room_1).applies x e0.platform about1 = true :=
  (Spec.applies_iff w_frames).mpr ⟨w_running, w_runnable, w_alone, w_named, w_hears, w_ripe, w_room, w_tables⟩
theorem atStart : AtStart classFile x code maxLocals ret World_1 tables_1 room_1 Calls_1 rest_1 Pre_1 launch0 p0 e0 about1 theMethod args0 below0 :=
  ⟨lists_1, trivial, launch0.admits_env _ _ _, launch0.least_env, fairChoices_fair.cas, fairChoices_fair.clock, w_frames, w_args, w_heap, w_applies, trivial, w_rest, w_case⟩
end start1
theorem witness_1 : WitnessClaimed_1 := ⟨start1.p0, start1.e0, start1.about1, start1.theMethod, start1.args0, start1.below0, start1.atStart⟩
end Jvm.Pilot.@@N@@
