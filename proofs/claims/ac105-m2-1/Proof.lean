import JvmDerived
import JvmDerived.Pilot.@@N@@Statement
import JvmDerived.Pilot.@@N@@Code
set_option linter.unusedVariables false
set_option linter.unusedSimpArgs false
namespace Jvm.RoadKit
open Sem ClassFile Op Lib Jvm.Stand Jvm.Free Jvm.LawKit
section New
variable {p : Program} {l : Launch} {e : Env} {R : Room} {s : State} {m : MethodId} {args : Array Value} {below : List Frame} {meth : Method} {c : Code} {T : State} {locs : List Loc} {cells slots : Nat}
theorem retI (X : Stand p l e R s m args below meth c T locs cells slots) (hx : p.tables.exec = Jvm.exec) {pc : Nat} {Ls : Array Slot} {z : Int32} {rest : List Value} (hret : meth.sig.returnType = some .int) (hd : decode c.code pc = .ok (.ireturn, 1)) {fs : List Frame}
    (hl : ∀ (f : JFrame) (acts : List Action), f.method = m → f.locked = none → f.entered = [] → (doReturn e (T.setTop f) acts (some (.int z))).1 = T.setFrames fs) : Steps p.tables e below (T.setTop (mkF m pc Ls (.int z :: rest))) (T.setFrames fs) := by
  have hm' : T.vm.method? m = some meth := X.method'
  have hn : narrow .int (.int z) = .int z := rfl
  show Steps p.tables e below (T.setTop { method := m, pc := pc, locals := Ls, stack := _ :: rest, locked := none }) _
  jvm_step X.here [X.here.top, hx, hd, hm', hret, hn]
  first | (intro acts; rw [hl _ acts rfl rfl rfl]) | rw [hl _ _ rfl rfl rfl]
  exact Steps.refl _
end New
/-- from W the run comes to a state and an outcome of which K holds -/
def OwnEnds (tb : Tables) (e : Env) (below : List Frame) (K : State → Outcome → Prop) (W : State) : Prop := ∃ t o, Steps tb e below W t ∧ K t o
theorem OwnEnds.via {tb : Tables} {e : Env} {below : List Frame} {K : State → Outcome → Prop} {W W' : State} (f : ∀ t, Steps tb e below W' t → Steps tb e below W t) (h : OwnEnds tb e below K W') : OwnEnds tb e below K W := by
  obtain ⟨t, o, h1, h2⟩ := h
  exact ⟨t, o, f t h1, h2⟩
theorem OwnEnds.cut {tb : Tables} {e : Env} {below : List Frame} {K : State → Outcome → Prop} {W : State} (A : (State → Prop) → Prop) (h1 : A (OwnEnds tb e below K)) (h2 : A (OwnEnds tb e below K) → OwnEnds tb e below K W) : OwnEnds tb e below K W := h2 h1
end Jvm.RoadKit
namespace Jvm.Pilot.@@N@@
open Jvm Jvm.ClassFile Sem Op Lib Jvm.Free Jvm.Stand Jvm.LawKit Jvm.RoadKit Bundle Jvm.Pilot.@@N@@.Jvm.D
theorem d1_0 : decode prog_20_method_1_code 0 = .ok (.aload_n 0, 1) := by decide +kernel
theorem d1_1 : decode prog_20_method_1_code 1 = .ok (.invokespecial 1, 3) := by decide +kernel
theorem d1_4 : decode prog_20_method_1_code 4 = .ok (.aload_n 0, 1) := by decide +kernel
theorem d1_5 : decode prog_20_method_1_code 5 = .ok (.aload_n 1, 1) := by decide +kernel
theorem d1_6 : decode prog_20_method_1_code 6 = .ok (.putfield 7, 3) := by decide +kernel
theorem d1_9 : decode prog_20_method_1_code 9 = .ok (.aload_n 0, 1) := by decide +kernel
theorem d1_10 : decode prog_20_method_1_code 10 = .ok (.lload_n 2, 1) := by decide +kernel
theorem d1_11 : decode prog_20_method_1_code 11 = .ok (.putfield 13, 3) := by decide +kernel
theorem d1_14 : decode prog_20_method_1_code 14 = .ok (.aload_n 0, 1) := by decide +kernel
theorem d1_15 : decode prog_20_method_1_code 15 = .ok (.lload 4, 2) := by decide +kernel
theorem d1_17 : decode prog_20_method_1_code 17 = .ok (.putfield 17, 3) := by decide +kernel
theorem d1_20 : decode prog_20_method_1_code 20 = .ok (.aload_n 0, 1) := by decide +kernel
theorem d1_21 : decode prog_20_method_1_code 21 = .ok (.aload 6, 2) := by decide +kernel
theorem d1_23 : decode prog_20_method_1_code 23 = .ok (.putfield 20, 3) := by decide +kernel
theorem d1_26 : decode prog_20_method_1_code 26 = .ok (.return_, 1) := by decide +kernel
theorem pn_rm1 : plainName "com/example/careful_lock/carefullock/core/Grant" = true := by first | (simp [plainName, overriddenIn]; done) | decide +kernel
theorem ef_rm1 (m : MethodId) (a : Addr) (ow : Addr) (tk : Int64) (tl : Int64) (pr : Addr) : entryFrame m #[(.ref a), (.ref ow), (.long tk), (.long tl), (.ref pr)] 7 = mkF m 0 #[.val (.ref a), .val (.ref ow), .val (.long tk), .second, .val (.long tl), .second, .val (.ref pr)] [] := by first | (simp [entryFrame, mkF, argsToLocals, Value.category]; done) | rfl
def Q1 (Z : State) (a : Addr) (ow : Addr) (tk : Int64) (tl : Int64) (pr : Addr) (h0 : Heap) (n0 : Nat) (v : Option Value) (h : Heap) (L : List Loc) : Prop := v = none ∧ Fr n0 L ∧ Keep h0 h [a] ∧ Exa Z h a "com/example/careful_lock/carefullock/core/Grant"
set_option maxRecDepth 65536 in
set_option maxHeartbeats 40000000 in
theorem rm1 (l : Launch) (Z : State) (a0 : Array Value) (hw : ∀ d ∈ tables_1, d.before a0 Z = true) (ws : List Jvm.Cond) (a : Addr) (ow : Addr) (tk : Int64) (tl : Int64) (pr : Addr) (h0 : Heap) (n0 : Nat) (Z0 : n0 ≤ h0.size) (P0 : Exa Z h0 a "com/example/careful_lock/carefullock/core/Grant") (P1 : Fld Z h0 a "com/example/careful_lock/carefullock/core/Grant" "owner" "Ljava/lang/String;" .null) (P2 : Fld Z h0 a "com/example/careful_lock/carefullock/core/Grant" "token" "J" (.long (0 : Int64))) (P3 : Fld Z h0 a "com/example/careful_lock/carefullock/core/Grant" "ttlMs" "J" (.long (0 : Int64))) (P4 : Fld Z h0 a "com/example/careful_lock/carefullock/core/Grant" "previous" "Lcom/example/careful_lock/carefullock/core/Ending;" .null) (P5 : n0 ≤ a) :
    MetFree l (⟨"com/example/careful_lock/carefullock/core/Grant", "<init>", "(Ljava/lang/String;JJLcom/example/careful_lock/carefullock/core/Ending;)V"⟩ : MethodName) (head1 (Jvm.Cond.code (⟨"com/example/careful_lock/carefullock/core/Grant", "<init>", "(Ljava/lang/String;JJLcom/example/careful_lock/carefullock/core/Ending;)V"⟩ : MethodName) prog_20_method_1_code 7 none :: ws) ({ frames := 1, cells := 0, slots := 0, locals := 12 } : Room)) (fun aa U => aa = #[(.ref a), (.ref ow), (.long tk), (.long tl), (.ref pr)] ∧ Z.Warmed39 U.vm ∧ U.heap = h0) (fun _ _ _ _ _ => True) (fun _ U o U' => ∃ v L, o = .returned v ∧ Q1 Z a ow tk tl pr h0 n0 v U'.heap L ∧ FrameEnd U o U' L ({ frames := 1, cells := 0, slots := 0, locals := 12 } : Room).cells ({ frames := 1, cells := 0, slots := 0, locals := 12 } : Room).slots) := by
  refine MetFree.of_bodySF (plainFor_of_name pn_rm1) hisR ?_
  intro p e s m args below meth c s₁ Bd hml0 hP hK
  obtain ⟨rfl, hZ, hh⟩ := hP
  have hx := Bd.exec
  have hby := Bd.bytes
  have hml : c.maxLocals = 7 := hml0
  have hown : s.vm.findClass "com/example/careful_lock/carefullock/core/Grant" = some m.cls := findClass_of_methodNamed Bd.named
  have hnm := (name_of_methodNamed Bd.named Bd.method).1
  have X0 : Stand p l e ({ frames := 1, cells := 0, slots := 0, locals := 12 } : Room) s m #[(.ref a), (.ref ow), (.long tk), (.long tl), (.ref pr)] below meth c s₁ [] 0 0 := Stand.of_body Bd
  have e0 : s₁.heap = h0 := by rw [← hh, Bd.state]; rfl
  have N0 := Fr.nil n0
  change OwnEnds p.tables e below _ _
  refine OwnEnds.via (fun t k => castTop (ef_rm1 m a ow tk tl pr) k) ?_
  show OwnEnds _ _ _ _ (s₁.setTop (mkF m 0 #[.val (.ref a), .val (.ref ow), .val (.long tk), .second, .val (.long tl), .second, .val (.ref pr)] []))
  refine OwnEnds.via (fun t k => XS.aloadN X0.here hx rfl (hb hby d1_0) rfl rfl k) ?_
  show OwnEnds _ _ _ _ (s₁.setTop (mkF m 1 #[.val (.ref a), .val (.ref ow), .val (.long tk), .second, .val (.long tl), .second, .val (.ref pr)] [(.ref a)]))
  obtain ⟨T1, X1, e1, st1⟩ := initO X0 hx hZ hown (hw _ (List.mem_of_getElem? (i := 17) rfl)) (hw _ (List.mem_of_getElem? (i := 18) rfl)) (hw _ (List.mem_of_getElem? (i := 19) rfl)) e0 (g := (mkF m 1 #[.val (.ref a), .val (.ref ow), .val (.long tk), .second, .val (.long tl), .second, .val (.ref pr)] [(.ref a)])) rfl (by rw [hml]; rfl) rfl (hb hby d1_1) (by decide) (W := 0) (by show 2 * 0 + _ ≤ _; exact Nat.le_of_eq rfl) (by decide)
  refine OwnEnds.via st1 ?_
  show OwnEnds _ _ _ _ (T1.setTop (mkF m 4 #[.val (.ref a), .val (.ref ow), .val (.long tk), .second, .val (.long tl), .second, .val (.ref pr)] []))
  refine OwnEnds.via (fun t k => XS.aloadN X1.here hx rfl (hb hby d1_4) rfl rfl k) ?_
  show OwnEnds _ _ _ _ (T1.setTop (mkF m 5 #[.val (.ref a), .val (.ref ow), .val (.long tk), .second, .val (.long tl), .second, .val (.ref pr)] [(.ref a)]))
  refine OwnEnds.via (fun t k => XS.aloadN X1.here hx rfl (hb hby d1_5) rfl rfl k) ?_
  show OwnEnds _ _ _ _ (T1.setTop (mkF m 6 #[.val (.ref a), .val (.ref ow), .val (.long tk), .second, .val (.long tl), .second, .val (.ref pr)] [(.ref ow), (.ref a)]))
  obtain ⟨T2, h2, X2, e2, W2, st2⟩ := putF X1 hx hZ hown (host := "") (Or.inl (hw _ (List.mem_of_getElem? (i := 20) rfl))) Via.refl e1 P1 P0 (Or.inr ⟨(hw _ (List.mem_of_getElem? (i := 21) rfl)), rfl, hnm⟩) (hw _ (List.mem_of_getElem? (i := 1) rfl)) (ty := (.object "java/lang/String")) (by decide) rfl rfl (g := (mkF m 6 #[.val (.ref a), .val (.ref ow), .val (.long tk), .second, .val (.long tl), .second, .val (.ref pr)] [(.ref ow), (.ref a)])) rfl rfl (hb hby d1_6)
  have Fw2 : Fld Z h2 a "com/example/careful_lock/carefullock/core/Grant" "owner" "Ljava/lang/String;" (.ref ow) := P1.same W2
  have N2 := Fr.snoc X2 N0 P5
  have Z2 : n0 ≤ h2.size := Nat.le_trans Z0 (Nat.le_of_eq W2.size.symm)
  have K2 : Keep h0 h2 [a] := (Keep.refl h0 [a]).wr W2 (Or.inl (by simp))
  refine OwnEnds.via st2 ?_
  show OwnEnds _ _ _ _ (T2.setTop (mkF m 9 #[.val (.ref a), .val (.ref ow), .val (.long tk), .second, .val (.long tl), .second, .val (.ref pr)] []))
  refine OwnEnds.via (fun t k => XS.aloadN X2.here hx rfl (hb hby d1_9) rfl rfl k) ?_
  show OwnEnds _ _ _ _ (T2.setTop (mkF m 10 #[.val (.ref a), .val (.ref ow), .val (.long tk), .second, .val (.long tl), .second, .val (.ref pr)] [(.ref a)]))
  refine OwnEnds.via (fun t k => XS.lloadN X2.here hx rfl (hb hby d1_10) rfl k) ?_
  show OwnEnds _ _ _ _ (T2.setTop (mkF m 11 #[.val (.ref a), .val (.ref ow), .val (.long tk), .second, .val (.long tl), .second, .val (.ref pr)] [(.long tk), (.ref a)]))
  obtain ⟨T3, h3, X3, e3, W3, st3⟩ := putF X2 hx hZ hown (host := "") (Or.inl (hw _ (List.mem_of_getElem? (i := 22) rfl))) Via.refl e2 (P2.other W2 (Or.inr (slot_ne (Or.inr (hw _ (List.mem_of_getElem? (i := 23) rfl))) (Or.inr (hw _ (List.mem_of_getElem? (i := 21) rfl))) (by decide) (t := .long) (t' := (.object "java/lang/String")) (by decide) (by decide)))) (P0.wr W2) (Or.inr ⟨(hw _ (List.mem_of_getElem? (i := 23) rfl)), rfl, hnm⟩) (hw _ (List.mem_of_getElem? (i := 1) rfl)) (ty := .long) (by decide) rfl rfl (g := (mkF m 11 #[.val (.ref a), .val (.ref ow), .val (.long tk), .second, .val (.long tl), .second, .val (.ref pr)] [(.long tk), (.ref a)])) rfl rfl (hb hby d1_11)
  have Fw3 : Fld Z h3 a "com/example/careful_lock/carefullock/core/Grant" "token" "J" (.long tk) := (P2.other W2 (Or.inr (slot_ne (Or.inr (hw _ (List.mem_of_getElem? (i := 23) rfl))) (Or.inr (hw _ (List.mem_of_getElem? (i := 21) rfl))) (by decide) (t := .long) (t' := (.object "java/lang/String")) (by decide) (by decide)))).same W3
  have N3 := Fr.snoc X3 N2 P5
  have Z3 : n0 ≤ h3.size := Nat.le_trans Z2 (Nat.le_of_eq W3.size.symm)
  have K3 : Keep h0 h3 [a] := K2.wr W3 (Or.inl (by simp))
  refine OwnEnds.via st3 ?_
  show OwnEnds _ _ _ _ (T3.setTop (mkF m 14 #[.val (.ref a), .val (.ref ow), .val (.long tk), .second, .val (.long tl), .second, .val (.ref pr)] []))
  refine OwnEnds.via (fun t k => XS.aloadN X3.here hx rfl (hb hby d1_14) rfl rfl k) ?_
  show OwnEnds _ _ _ _ (T3.setTop (mkF m 15 #[.val (.ref a), .val (.ref ow), .val (.long tk), .second, .val (.long tl), .second, .val (.ref pr)] [(.ref a)]))
  refine OwnEnds.via (fun t k => XS.lload X3.here hx rfl (hb hby d1_15) rfl k) ?_
  show OwnEnds _ _ _ _ (T3.setTop (mkF m 17 #[.val (.ref a), .val (.ref ow), .val (.long tk), .second, .val (.long tl), .second, .val (.ref pr)] [(.long tl), (.ref a)]))
  obtain ⟨T4, h4, X4, e4, W4, st4⟩ := putF X3 hx hZ hown (host := "") (Or.inl (hw _ (List.mem_of_getElem? (i := 24) rfl))) Via.refl e3 ((P3.other W2 (Or.inr (slot_ne (Or.inr (hw _ (List.mem_of_getElem? (i := 25) rfl))) (Or.inr (hw _ (List.mem_of_getElem? (i := 21) rfl))) (by decide) (t := .long) (t' := (.object "java/lang/String")) (by decide) (by decide)))).other W3 (Or.inr (slot_ne (Or.inr (hw _ (List.mem_of_getElem? (i := 25) rfl))) (Or.inr (hw _ (List.mem_of_getElem? (i := 23) rfl))) (by decide) (t := .long) (t' := .long) (by decide) (by decide)))) ((P0.wr W2).wr W3) (Or.inr ⟨(hw _ (List.mem_of_getElem? (i := 25) rfl)), rfl, hnm⟩) (hw _ (List.mem_of_getElem? (i := 1) rfl)) (ty := .long) (by decide) rfl rfl (g := (mkF m 17 #[.val (.ref a), .val (.ref ow), .val (.long tk), .second, .val (.long tl), .second, .val (.ref pr)] [(.long tl), (.ref a)])) rfl rfl (hb hby d1_17)
  have Fw4 : Fld Z h4 a "com/example/careful_lock/carefullock/core/Grant" "ttlMs" "J" (.long tl) := ((P3.other W2 (Or.inr (slot_ne (Or.inr (hw _ (List.mem_of_getElem? (i := 25) rfl))) (Or.inr (hw _ (List.mem_of_getElem? (i := 21) rfl))) (by decide) (t := .long) (t' := (.object "java/lang/String")) (by decide) (by decide)))).other W3 (Or.inr (slot_ne (Or.inr (hw _ (List.mem_of_getElem? (i := 25) rfl))) (Or.inr (hw _ (List.mem_of_getElem? (i := 23) rfl))) (by decide) (t := .long) (t' := .long) (by decide) (by decide)))).same W4
  have N4 := Fr.snoc X4 N3 P5
  have Z4 : n0 ≤ h4.size := Nat.le_trans Z3 (Nat.le_of_eq W4.size.symm)
  have K4 : Keep h0 h4 [a] := K3.wr W4 (Or.inl (by simp))
  refine OwnEnds.via st4 ?_
  show OwnEnds _ _ _ _ (T4.setTop (mkF m 20 #[.val (.ref a), .val (.ref ow), .val (.long tk), .second, .val (.long tl), .second, .val (.ref pr)] []))
  refine OwnEnds.via (fun t k => XS.aloadN X4.here hx rfl (hb hby d1_20) rfl rfl k) ?_
  show OwnEnds _ _ _ _ (T4.setTop (mkF m 21 #[.val (.ref a), .val (.ref ow), .val (.long tk), .second, .val (.long tl), .second, .val (.ref pr)] [(.ref a)]))
  refine OwnEnds.via (fun t k => XS.aload X4.here hx rfl (hb hby d1_21) rfl rfl k) ?_
  show OwnEnds _ _ _ _ (T4.setTop (mkF m 23 #[.val (.ref a), .val (.ref ow), .val (.long tk), .second, .val (.long tl), .second, .val (.ref pr)] [(.ref pr), (.ref a)]))
  obtain ⟨T5, h5, X5, e5, W5, st5⟩ := putF X4 hx hZ hown (host := "") (Or.inl (hw _ (List.mem_of_getElem? (i := 26) rfl))) Via.refl e4 (((P4.other W2 (Or.inr (slot_ne (Or.inr (hw _ (List.mem_of_getElem? (i := 27) rfl))) (Or.inr (hw _ (List.mem_of_getElem? (i := 21) rfl))) (by decide) (t := (.object "com/example/careful_lock/carefullock/core/Ending")) (t' := (.object "java/lang/String")) (by decide) (by decide)))).other W3 (Or.inr (slot_ne (Or.inr (hw _ (List.mem_of_getElem? (i := 27) rfl))) (Or.inr (hw _ (List.mem_of_getElem? (i := 23) rfl))) (by decide) (t := (.object "com/example/careful_lock/carefullock/core/Ending")) (t' := .long) (by decide) (by decide)))).other W4 (Or.inr (slot_ne (Or.inr (hw _ (List.mem_of_getElem? (i := 27) rfl))) (Or.inr (hw _ (List.mem_of_getElem? (i := 25) rfl))) (by decide) (t := (.object "com/example/careful_lock/carefullock/core/Ending")) (t' := .long) (by decide) (by decide)))) (((P0.wr W2).wr W3).wr W4) (Or.inr ⟨(hw _ (List.mem_of_getElem? (i := 27) rfl)), rfl, hnm⟩) (hw _ (List.mem_of_getElem? (i := 1) rfl)) (ty := (.object "com/example/careful_lock/carefullock/core/Ending")) (by decide) rfl rfl (g := (mkF m 23 #[.val (.ref a), .val (.ref ow), .val (.long tk), .second, .val (.long tl), .second, .val (.ref pr)] [(.ref pr), (.ref a)])) rfl rfl (hb hby d1_23)
  have Fw5 : Fld Z h5 a "com/example/careful_lock/carefullock/core/Grant" "previous" "Lcom/example/careful_lock/carefullock/core/Ending;" (.ref pr) := (((P4.other W2 (Or.inr (slot_ne (Or.inr (hw _ (List.mem_of_getElem? (i := 27) rfl))) (Or.inr (hw _ (List.mem_of_getElem? (i := 21) rfl))) (by decide) (t := (.object "com/example/careful_lock/carefullock/core/Ending")) (t' := (.object "java/lang/String")) (by decide) (by decide)))).other W3 (Or.inr (slot_ne (Or.inr (hw _ (List.mem_of_getElem? (i := 27) rfl))) (Or.inr (hw _ (List.mem_of_getElem? (i := 23) rfl))) (by decide) (t := (.object "com/example/careful_lock/carefullock/core/Ending")) (t' := .long) (by decide) (by decide)))).other W4 (Or.inr (slot_ne (Or.inr (hw _ (List.mem_of_getElem? (i := 27) rfl))) (Or.inr (hw _ (List.mem_of_getElem? (i := 25) rfl))) (by decide) (t := (.object "com/example/careful_lock/carefullock/core/Ending")) (t' := .long) (by decide) (by decide)))).same W5
  have N5 := Fr.snoc X5 N4 P5
  have Z5 : n0 ≤ h5.size := Nat.le_trans Z4 (Nat.le_of_eq W5.size.symm)
  have K5 : Keep h0 h5 [a] := K4.wr W5 (Or.inl (by simp))
  refine OwnEnds.via st5 ?_
  show OwnEnds _ _ _ _ (T5.setTop (mkF m 26 #[.val (.ref a), .val (.ref ow), .val (.long tk), .second, .val (.long tl), .second, .val (.ref pr)] []))
  obtain ⟨fs, hr, hrun, hended, hW, hsame⟩ := X5.leave (v := none) (fun _ => rfl)
  refine ⟨_, _, ?_, hrun, hended, _, _, rfl, ?_, ⟨_, rfl⟩, hW, hsame.mono (by decide) (by decide)⟩
  · exact X5.returnOut hx Bd.returns (hb hby d1_26) hr
  · show Q1 Z a ow tk tl pr h0 n0 _ T5.heap _
    rw [e5]
    exact ⟨rfl, N5, K5, ((((P0.wr W2).wr W3).wr W4).wr W5)⟩

theorem d3_0 : decode prog_23_method_1_code 0 = .ok (.aload_n 0, 1) := by decide +kernel
theorem d3_1 : decode prog_23_method_1_code 1 = .ok (.invokespecial 1, 3) := by decide +kernel
theorem d3_4 : decode prog_23_method_1_code 4 = .ok (.aload_n 0, 1) := by decide +kernel
theorem d3_5 : decode prog_23_method_1_code 5 = .ok (.aload_n 1, 1) := by decide +kernel
theorem d3_6 : decode prog_23_method_1_code 6 = .ok (.putfield 7, 3) := by decide +kernel
theorem d3_9 : decode prog_23_method_1_code 9 = .ok (.aload_n 0, 1) := by decide +kernel
theorem d3_10 : decode prog_23_method_1_code 10 = .ok (.lload_n 2, 1) := by decide +kernel
theorem d3_11 : decode prog_23_method_1_code 11 = .ok (.putfield 13, 3) := by decide +kernel
theorem d3_14 : decode prog_23_method_1_code 14 = .ok (.aload_n 0, 1) := by decide +kernel
theorem d3_15 : decode prog_23_method_1_code 15 = .ok (.iload 4, 2) := by decide +kernel
theorem d3_17 : decode prog_23_method_1_code 17 = .ok (.putfield 17, 3) := by decide +kernel
theorem d3_20 : decode prog_23_method_1_code 20 = .ok (.aload_n 0, 1) := by decide +kernel
theorem d3_21 : decode prog_23_method_1_code 21 = .ok (.iload 5, 2) := by decide +kernel
theorem d3_23 : decode prog_23_method_1_code 23 = .ok (.putfield 21, 3) := by decide +kernel
theorem d3_26 : decode prog_23_method_1_code 26 = .ok (.return_, 1) := by decide +kernel
theorem pn_rmLN : plainName "com/example/careful_lock/carefullock/core/LockStatus" = true := by first | (simp [plainName, overriddenIn]; done) | decide +kernel
theorem ef_rmLN (m : MethodId) (a : Addr) (tk : Int64) (wt : Int32) (pe : Int32) : entryFrame m #[(.ref a), .null, (.long tk), (.int wt), (.int pe)] 6 = mkF m 0 #[.val (.ref a), .val .null, .val (.long tk), .second, .val (.int wt), .val (.int pe)] [] := by first | (simp [entryFrame, mkF, argsToLocals, Value.category]; done) | rfl
def QLN (Z : State) (a : Addr) (tk : Int64) (wt : Int32) (pe : Int32) (h0 : Heap) (n0 : Nat) (v : Option Value) (h : Heap) (L : List Loc) : Prop := v = none ∧ Fr n0 L ∧ Keep h0 h [a] ∧ Exa Z h a "com/example/careful_lock/carefullock/core/LockStatus" ∧ Fld Z h a "com/example/careful_lock/carefullock/core/LockStatus" "lastToken" "J" (.long tk)
set_option maxRecDepth 65536 in
set_option maxHeartbeats 40000000 in
theorem rmLN (l : Launch) (Z : State) (a0 : Array Value) (hw : ∀ d ∈ tables_1, d.before a0 Z = true) (ws : List Jvm.Cond) (a : Addr) (tk : Int64) (wt : Int32) (pe : Int32) (h0 : Heap) (n0 : Nat) (Z0 : n0 ≤ h0.size) (P0 : Exa Z h0 a "com/example/careful_lock/carefullock/core/LockStatus") (P1 : Fld Z h0 a "com/example/careful_lock/carefullock/core/LockStatus" "holder" "Lcom/example/careful_lock/carefullock/core/Grant;" .null) (P2 : Fld Z h0 a "com/example/careful_lock/carefullock/core/LockStatus" "lastToken" "J" (.long (0 : Int64))) (P3 : Fld Z h0 a "com/example/careful_lock/carefullock/core/LockStatus" "waiters" "I" (.int (0 : Int32))) (P4 : Fld Z h0 a "com/example/careful_lock/carefullock/core/LockStatus" "expiryPending" "Z" (.int (0 : Int32))) (P5 : n0 ≤ a) :
    MetFree l (⟨"com/example/careful_lock/carefullock/core/LockStatus", "<init>", "(Lcom/example/careful_lock/carefullock/core/Grant;JIZ)V"⟩ : MethodName) (head1 (Jvm.Cond.code (⟨"com/example/careful_lock/carefullock/core/LockStatus", "<init>", "(Lcom/example/careful_lock/carefullock/core/Grant;JIZ)V"⟩ : MethodName) prog_23_method_1_code 6 none :: ws) ({ frames := 1, cells := 0, slots := 0, locals := 12 } : Room)) (fun aa U => aa = #[(.ref a), .null, (.long tk), (.int wt), (.int pe)] ∧ Z.Warmed39 U.vm ∧ U.heap = h0) (fun _ _ _ _ _ => True) (fun _ U o U' => ∃ v L, o = .returned v ∧ QLN Z a tk wt pe h0 n0 v U'.heap L ∧ FrameEnd U o U' L ({ frames := 1, cells := 0, slots := 0, locals := 12 } : Room).cells ({ frames := 1, cells := 0, slots := 0, locals := 12 } : Room).slots) := by
  refine MetFree.of_bodySF (plainFor_of_name pn_rmLN) hisR ?_
  intro p e s m args below meth c s₁ Bd hml0 hP hK
  obtain ⟨rfl, hZ, hh⟩ := hP
  have hx := Bd.exec
  have hby := Bd.bytes
  have hml : c.maxLocals = 6 := hml0
  have hown : s.vm.findClass "com/example/careful_lock/carefullock/core/LockStatus" = some m.cls := findClass_of_methodNamed Bd.named
  have hnm := (name_of_methodNamed Bd.named Bd.method).1
  have X0 : Stand p l e ({ frames := 1, cells := 0, slots := 0, locals := 12 } : Room) s m #[(.ref a), .null, (.long tk), (.int wt), (.int pe)] below meth c s₁ [] 0 0 := Stand.of_body Bd
  have e0 : s₁.heap = h0 := by rw [← hh, Bd.state]; rfl
  have N0 := Fr.nil n0
  change OwnEnds p.tables e below _ _
  refine OwnEnds.via (fun t k => castTop (ef_rmLN m a tk wt pe) k) ?_
  show OwnEnds _ _ _ _ (s₁.setTop (mkF m 0 #[.val (.ref a), .val .null, .val (.long tk), .second, .val (.int wt), .val (.int pe)] []))
  refine OwnEnds.via (fun t k => XS.aloadN X0.here hx rfl (hb hby d3_0) rfl rfl k) ?_
  show OwnEnds _ _ _ _ (s₁.setTop (mkF m 1 #[.val (.ref a), .val .null, .val (.long tk), .second, .val (.int wt), .val (.int pe)] [(.ref a)]))
  obtain ⟨T1, X1, e1, st1⟩ := initO X0 hx hZ hown (hw _ (List.mem_of_getElem? (i := 34) rfl)) (hw _ (List.mem_of_getElem? (i := 18) rfl)) (hw _ (List.mem_of_getElem? (i := 19) rfl)) e0 (g := (mkF m 1 #[.val (.ref a), .val .null, .val (.long tk), .second, .val (.int wt), .val (.int pe)] [(.ref a)])) rfl (by rw [hml]; rfl) rfl (hb hby d3_1) (by decide) (W := 0) (by show 2 * 0 + _ ≤ _; exact Nat.le_of_eq rfl) (by decide)
  refine OwnEnds.via st1 ?_
  show OwnEnds _ _ _ _ (T1.setTop (mkF m 4 #[.val (.ref a), .val .null, .val (.long tk), .second, .val (.int wt), .val (.int pe)] []))
  refine OwnEnds.via (fun t k => XS.aloadN X1.here hx rfl (hb hby d3_4) rfl rfl k) ?_
  show OwnEnds _ _ _ _ (T1.setTop (mkF m 5 #[.val (.ref a), .val .null, .val (.long tk), .second, .val (.int wt), .val (.int pe)] [(.ref a)]))
  refine OwnEnds.via (fun t k => XS.aloadN X1.here hx rfl (hb hby d3_5) rfl rfl k) ?_
  show OwnEnds _ _ _ _ (T1.setTop (mkF m 6 #[.val (.ref a), .val .null, .val (.long tk), .second, .val (.int wt), .val (.int pe)] [.null, (.ref a)]))
  obtain ⟨T2, h2, X2, e2, W2, st2⟩ := putF X1 hx hZ hown (host := "") (Or.inl (hw _ (List.mem_of_getElem? (i := 35) rfl))) Via.refl e1 P1 P0 (Or.inr ⟨(hw _ (List.mem_of_getElem? (i := 36) rfl)), rfl, hnm⟩) (hw _ (List.mem_of_getElem? (i := 29) rfl)) (ty := (.object "com/example/careful_lock/carefullock/core/Grant")) (by decide) rfl rfl (g := (mkF m 6 #[.val (.ref a), .val .null, .val (.long tk), .second, .val (.int wt), .val (.int pe)] [.null, (.ref a)])) rfl rfl (hb hby d3_6)
  have Fw2 : Fld Z h2 a "com/example/careful_lock/carefullock/core/LockStatus" "holder" "Lcom/example/careful_lock/carefullock/core/Grant;" .null := P1.same W2
  have N2 := Fr.snoc X2 N0 P5
  have Z2 : n0 ≤ h2.size := Nat.le_trans Z0 (Nat.le_of_eq W2.size.symm)
  have K2 : Keep h0 h2 [a] := (Keep.refl h0 [a]).wr W2 (Or.inl (by simp))
  refine OwnEnds.via st2 ?_
  show OwnEnds _ _ _ _ (T2.setTop (mkF m 9 #[.val (.ref a), .val .null, .val (.long tk), .second, .val (.int wt), .val (.int pe)] []))
  refine OwnEnds.via (fun t k => XS.aloadN X2.here hx rfl (hb hby d3_9) rfl rfl k) ?_
  show OwnEnds _ _ _ _ (T2.setTop (mkF m 10 #[.val (.ref a), .val .null, .val (.long tk), .second, .val (.int wt), .val (.int pe)] [(.ref a)]))
  refine OwnEnds.via (fun t k => XS.lloadN X2.here hx rfl (hb hby d3_10) rfl k) ?_
  show OwnEnds _ _ _ _ (T2.setTop (mkF m 11 #[.val (.ref a), .val .null, .val (.long tk), .second, .val (.int wt), .val (.int pe)] [(.long tk), (.ref a)]))
  obtain ⟨T3, h3, X3, e3, W3, st3⟩ := putF X2 hx hZ hown (host := "") (Or.inl (hw _ (List.mem_of_getElem? (i := 37) rfl))) Via.refl e2 (P2.other W2 (Or.inr (slot_ne (Or.inr (hw _ (List.mem_of_getElem? (i := 38) rfl))) (Or.inr (hw _ (List.mem_of_getElem? (i := 36) rfl))) (by decide) (t := .long) (t' := (.object "com/example/careful_lock/carefullock/core/Grant")) (by decide) (by decide)))) (P0.wr W2) (Or.inr ⟨(hw _ (List.mem_of_getElem? (i := 38) rfl)), rfl, hnm⟩) (hw _ (List.mem_of_getElem? (i := 29) rfl)) (ty := .long) (by decide) rfl rfl (g := (mkF m 11 #[.val (.ref a), .val .null, .val (.long tk), .second, .val (.int wt), .val (.int pe)] [(.long tk), (.ref a)])) rfl rfl (hb hby d3_11)
  have Fw3 : Fld Z h3 a "com/example/careful_lock/carefullock/core/LockStatus" "lastToken" "J" (.long tk) := (P2.other W2 (Or.inr (slot_ne (Or.inr (hw _ (List.mem_of_getElem? (i := 38) rfl))) (Or.inr (hw _ (List.mem_of_getElem? (i := 36) rfl))) (by decide) (t := .long) (t' := (.object "com/example/careful_lock/carefullock/core/Grant")) (by decide) (by decide)))).same W3
  have N3 := Fr.snoc X3 N2 P5
  have Z3 : n0 ≤ h3.size := Nat.le_trans Z2 (Nat.le_of_eq W3.size.symm)
  have K3 : Keep h0 h3 [a] := K2.wr W3 (Or.inl (by simp))
  refine OwnEnds.via st3 ?_
  show OwnEnds _ _ _ _ (T3.setTop (mkF m 14 #[.val (.ref a), .val .null, .val (.long tk), .second, .val (.int wt), .val (.int pe)] []))
  refine OwnEnds.via (fun t k => XS.aloadN X3.here hx rfl (hb hby d3_14) rfl rfl k) ?_
  show OwnEnds _ _ _ _ (T3.setTop (mkF m 15 #[.val (.ref a), .val .null, .val (.long tk), .second, .val (.int wt), .val (.int pe)] [(.ref a)]))
  refine OwnEnds.via (fun t k => XS.iload X3.here hx rfl (hb hby d3_15) rfl k) ?_
  show OwnEnds _ _ _ _ (T3.setTop (mkF m 17 #[.val (.ref a), .val .null, .val (.long tk), .second, .val (.int wt), .val (.int pe)] [(.int wt), (.ref a)]))
  obtain ⟨T4, h4, X4, e4, W4, st4⟩ := putF X3 hx hZ hown (host := "") (Or.inl (hw _ (List.mem_of_getElem? (i := 39) rfl))) Via.refl e3 ((P3.other W2 (Or.inr (slot_ne (Or.inr (hw _ (List.mem_of_getElem? (i := 40) rfl))) (Or.inr (hw _ (List.mem_of_getElem? (i := 36) rfl))) (by decide) (t := .int) (t' := (.object "com/example/careful_lock/carefullock/core/Grant")) (by decide) (by decide)))).other W3 (Or.inr (slot_ne (Or.inr (hw _ (List.mem_of_getElem? (i := 40) rfl))) (Or.inr (hw _ (List.mem_of_getElem? (i := 38) rfl))) (by decide) (t := .int) (t' := .long) (by decide) (by decide)))) ((P0.wr W2).wr W3) (Or.inr ⟨(hw _ (List.mem_of_getElem? (i := 40) rfl)), rfl, hnm⟩) (hw _ (List.mem_of_getElem? (i := 29) rfl)) (ty := .int) (by decide) rfl rfl (g := (mkF m 17 #[.val (.ref a), .val .null, .val (.long tk), .second, .val (.int wt), .val (.int pe)] [(.int wt), (.ref a)])) rfl rfl (hb hby d3_17)
  have Fw4 : Fld Z h4 a "com/example/careful_lock/carefullock/core/LockStatus" "waiters" "I" (.int wt) := ((P3.other W2 (Or.inr (slot_ne (Or.inr (hw _ (List.mem_of_getElem? (i := 40) rfl))) (Or.inr (hw _ (List.mem_of_getElem? (i := 36) rfl))) (by decide) (t := .int) (t' := (.object "com/example/careful_lock/carefullock/core/Grant")) (by decide) (by decide)))).other W3 (Or.inr (slot_ne (Or.inr (hw _ (List.mem_of_getElem? (i := 40) rfl))) (Or.inr (hw _ (List.mem_of_getElem? (i := 38) rfl))) (by decide) (t := .int) (t' := .long) (by decide) (by decide)))).same W4
  have N4 := Fr.snoc X4 N3 P5
  have Z4 : n0 ≤ h4.size := Nat.le_trans Z3 (Nat.le_of_eq W4.size.symm)
  have K4 : Keep h0 h4 [a] := K3.wr W4 (Or.inl (by simp))
  refine OwnEnds.via st4 ?_
  show OwnEnds _ _ _ _ (T4.setTop (mkF m 20 #[.val (.ref a), .val .null, .val (.long tk), .second, .val (.int wt), .val (.int pe)] []))
  refine OwnEnds.via (fun t k => XS.aloadN X4.here hx rfl (hb hby d3_20) rfl rfl k) ?_
  show OwnEnds _ _ _ _ (T4.setTop (mkF m 21 #[.val (.ref a), .val .null, .val (.long tk), .second, .val (.int wt), .val (.int pe)] [(.ref a)]))
  refine OwnEnds.via (fun t k => XS.iload X4.here hx rfl (hb hby d3_21) rfl k) ?_
  show OwnEnds _ _ _ _ (T4.setTop (mkF m 23 #[.val (.ref a), .val .null, .val (.long tk), .second, .val (.int wt), .val (.int pe)] [(.int pe), (.ref a)]))
  obtain ⟨T5, h5, X5, e5, W5, st5⟩ := putFN X4 hx hZ hown (hw _ (List.mem_of_getElem? (i := 41) rfl)) Via.refl e4 (((P4.other W2 (Or.inr (slot_ne (Or.inr (hw _ (List.mem_of_getElem? (i := 42) rfl))) (Or.inr (hw _ (List.mem_of_getElem? (i := 36) rfl))) (by decide) (t := .boolean) (t' := (.object "com/example/careful_lock/carefullock/core/Grant")) (by decide) (by decide)))).other W3 (Or.inr (slot_ne (Or.inr (hw _ (List.mem_of_getElem? (i := 42) rfl))) (Or.inr (hw _ (List.mem_of_getElem? (i := 38) rfl))) (by decide) (t := .boolean) (t' := .long) (by decide) (by decide)))).other W4 (Or.inr (slot_ne (Or.inr (hw _ (List.mem_of_getElem? (i := 42) rfl))) (Or.inr (hw _ (List.mem_of_getElem? (i := 40) rfl))) (by decide) (t := .boolean) (t' := .int) (by decide) (by decide)))) (((P0.wr W2).wr W3).wr W4) (Or.inr ⟨(hw _ (List.mem_of_getElem? (i := 42) rfl)), rfl, hnm⟩) (hw _ (List.mem_of_getElem? (i := 29) rfl)) (ty := .boolean) (v' := (.int (nar .boolean pe))) (by decide) rfl (fits_nar_bool _) (g := (mkF m 23 #[.val (.ref a), .val .null, .val (.long tk), .second, .val (.int wt), .val (.int pe)] [(.int pe), (.ref a)])) rfl rfl (hb hby d3_23)
  have Fw5 : Fld Z h5 a "com/example/careful_lock/carefullock/core/LockStatus" "expiryPending" "Z" (.int (nar .boolean pe)) := (((P4.other W2 (Or.inr (slot_ne (Or.inr (hw _ (List.mem_of_getElem? (i := 42) rfl))) (Or.inr (hw _ (List.mem_of_getElem? (i := 36) rfl))) (by decide) (t := .boolean) (t' := (.object "com/example/careful_lock/carefullock/core/Grant")) (by decide) (by decide)))).other W3 (Or.inr (slot_ne (Or.inr (hw _ (List.mem_of_getElem? (i := 42) rfl))) (Or.inr (hw _ (List.mem_of_getElem? (i := 38) rfl))) (by decide) (t := .boolean) (t' := .long) (by decide) (by decide)))).other W4 (Or.inr (slot_ne (Or.inr (hw _ (List.mem_of_getElem? (i := 42) rfl))) (Or.inr (hw _ (List.mem_of_getElem? (i := 40) rfl))) (by decide) (t := .boolean) (t' := .int) (by decide) (by decide)))).same W5
  have N5 := Fr.snoc X5 N4 P5
  have Z5 : n0 ≤ h5.size := Nat.le_trans Z4 (Nat.le_of_eq W5.size.symm)
  have K5 : Keep h0 h5 [a] := K4.wr W5 (Or.inl (by simp))
  refine OwnEnds.via st5 ?_
  show OwnEnds _ _ _ _ (T5.setTop (mkF m 26 #[.val (.ref a), .val .null, .val (.long tk), .second, .val (.int wt), .val (.int pe)] []))
  obtain ⟨fs, hr, hrun, hended, hW, hsame⟩ := X5.leave (v := none) (fun _ => rfl)
  refine ⟨_, _, ?_, hrun, hended, _, _, rfl, ?_, ⟨_, rfl⟩, hW, hsame.mono (by decide) (by decide)⟩
  · exact X5.returnOut hx Bd.returns (hb hby d3_26) hr
  · show QLN Z a tk wt pe h0 n0 _ T5.heap _
    rw [e5]
    exact ⟨rfl, N5, K5, ((((P0.wr W2).wr W3).wr W4).wr W5), ((Fw3.other W4 (Or.inr (slot_ne (Or.inr (hw _ (List.mem_of_getElem? (i := 38) rfl))) (Or.inr (hw _ (List.mem_of_getElem? (i := 40) rfl))) (by decide) (t := .long) (t' := .int) (by decide) (by decide)))).other W5 (Or.inr (slot_ne (Or.inr (hw _ (List.mem_of_getElem? (i := 38) rfl))) (Or.inr (hw _ (List.mem_of_getElem? (i := 42) rfl))) (by decide) (t := .long) (t' := .boolean) (by decide) (by decide))))⟩

theorem pn_rmLR : plainName "com/example/careful_lock/carefullock/core/LockStatus" = true := by first | (simp [plainName, overriddenIn]; done) | decide +kernel
theorem ef_rmLR (m : MethodId) (a : Addr) (ho : Addr) (tk : Int64) (wt : Int32) (pe : Int32) : entryFrame m #[(.ref a), (.ref ho), (.long tk), (.int wt), (.int pe)] 6 = mkF m 0 #[.val (.ref a), .val (.ref ho), .val (.long tk), .second, .val (.int wt), .val (.int pe)] [] := by first | (simp [entryFrame, mkF, argsToLocals, Value.category]; done) | rfl
def QLR (Z : State) (a : Addr) (ho : Addr) (tk : Int64) (wt : Int32) (pe : Int32) (h0 : Heap) (n0 : Nat) (v : Option Value) (h : Heap) (L : List Loc) : Prop := v = none ∧ Fr n0 L ∧ Keep h0 h [a] ∧ Exa Z h a "com/example/careful_lock/carefullock/core/LockStatus" ∧ Fld Z h a "com/example/careful_lock/carefullock/core/LockStatus" "lastToken" "J" (.long tk)
set_option maxRecDepth 65536 in
set_option maxHeartbeats 40000000 in
theorem rmLR (l : Launch) (Z : State) (a0 : Array Value) (hw : ∀ d ∈ tables_1, d.before a0 Z = true) (ws : List Jvm.Cond) (a : Addr) (ho : Addr) (tk : Int64) (wt : Int32) (pe : Int32) (h0 : Heap) (n0 : Nat) (Z0 : n0 ≤ h0.size) (P0 : Exa Z h0 a "com/example/careful_lock/carefullock/core/LockStatus") (P1 : Fld Z h0 a "com/example/careful_lock/carefullock/core/LockStatus" "holder" "Lcom/example/careful_lock/carefullock/core/Grant;" .null) (P2 : Fld Z h0 a "com/example/careful_lock/carefullock/core/LockStatus" "lastToken" "J" (.long (0 : Int64))) (P3 : Fld Z h0 a "com/example/careful_lock/carefullock/core/LockStatus" "waiters" "I" (.int (0 : Int32))) (P4 : Fld Z h0 a "com/example/careful_lock/carefullock/core/LockStatus" "expiryPending" "Z" (.int (0 : Int32))) (P5 : n0 ≤ a) :
    MetFree l (⟨"com/example/careful_lock/carefullock/core/LockStatus", "<init>", "(Lcom/example/careful_lock/carefullock/core/Grant;JIZ)V"⟩ : MethodName) (head1 (Jvm.Cond.code (⟨"com/example/careful_lock/carefullock/core/LockStatus", "<init>", "(Lcom/example/careful_lock/carefullock/core/Grant;JIZ)V"⟩ : MethodName) prog_23_method_1_code 6 none :: ws) ({ frames := 1, cells := 0, slots := 0, locals := 12 } : Room)) (fun aa U => aa = #[(.ref a), (.ref ho), (.long tk), (.int wt), (.int pe)] ∧ Z.Warmed39 U.vm ∧ U.heap = h0) (fun _ _ _ _ _ => True) (fun _ U o U' => ∃ v L, o = .returned v ∧ QLR Z a ho tk wt pe h0 n0 v U'.heap L ∧ FrameEnd U o U' L ({ frames := 1, cells := 0, slots := 0, locals := 12 } : Room).cells ({ frames := 1, cells := 0, slots := 0, locals := 12 } : Room).slots) := by
  refine MetFree.of_bodySF (plainFor_of_name pn_rmLR) hisR ?_
  intro p e s m args below meth c s₁ Bd hml0 hP hK
  obtain ⟨rfl, hZ, hh⟩ := hP
  have hx := Bd.exec
  have hby := Bd.bytes
  have hml : c.maxLocals = 6 := hml0
  have hown : s.vm.findClass "com/example/careful_lock/carefullock/core/LockStatus" = some m.cls := findClass_of_methodNamed Bd.named
  have hnm := (name_of_methodNamed Bd.named Bd.method).1
  have X0 : Stand p l e ({ frames := 1, cells := 0, slots := 0, locals := 12 } : Room) s m #[(.ref a), (.ref ho), (.long tk), (.int wt), (.int pe)] below meth c s₁ [] 0 0 := Stand.of_body Bd
  have e0 : s₁.heap = h0 := by rw [← hh, Bd.state]; rfl
  have N0 := Fr.nil n0
  change OwnEnds p.tables e below _ _
  refine OwnEnds.via (fun t k => castTop (ef_rmLR m a ho tk wt pe) k) ?_
  show OwnEnds _ _ _ _ (s₁.setTop (mkF m 0 #[.val (.ref a), .val (.ref ho), .val (.long tk), .second, .val (.int wt), .val (.int pe)] []))
  refine OwnEnds.via (fun t k => XS.aloadN X0.here hx rfl (hb hby d3_0) rfl rfl k) ?_
  show OwnEnds _ _ _ _ (s₁.setTop (mkF m 1 #[.val (.ref a), .val (.ref ho), .val (.long tk), .second, .val (.int wt), .val (.int pe)] [(.ref a)]))
  obtain ⟨T1, X1, e1, st1⟩ := initO X0 hx hZ hown (hw _ (List.mem_of_getElem? (i := 34) rfl)) (hw _ (List.mem_of_getElem? (i := 18) rfl)) (hw _ (List.mem_of_getElem? (i := 19) rfl)) e0 (g := (mkF m 1 #[.val (.ref a), .val (.ref ho), .val (.long tk), .second, .val (.int wt), .val (.int pe)] [(.ref a)])) rfl (by rw [hml]; rfl) rfl (hb hby d3_1) (by decide) (W := 0) (by show 2 * 0 + _ ≤ _; exact Nat.le_of_eq rfl) (by decide)
  refine OwnEnds.via st1 ?_
  show OwnEnds _ _ _ _ (T1.setTop (mkF m 4 #[.val (.ref a), .val (.ref ho), .val (.long tk), .second, .val (.int wt), .val (.int pe)] []))
  refine OwnEnds.via (fun t k => XS.aloadN X1.here hx rfl (hb hby d3_4) rfl rfl k) ?_
  show OwnEnds _ _ _ _ (T1.setTop (mkF m 5 #[.val (.ref a), .val (.ref ho), .val (.long tk), .second, .val (.int wt), .val (.int pe)] [(.ref a)]))
  refine OwnEnds.via (fun t k => XS.aloadN X1.here hx rfl (hb hby d3_5) rfl rfl k) ?_
  show OwnEnds _ _ _ _ (T1.setTop (mkF m 6 #[.val (.ref a), .val (.ref ho), .val (.long tk), .second, .val (.int wt), .val (.int pe)] [(.ref ho), (.ref a)]))
  obtain ⟨T2, h2, X2, e2, W2, st2⟩ := putF X1 hx hZ hown (host := "") (Or.inl (hw _ (List.mem_of_getElem? (i := 35) rfl))) Via.refl e1 P1 P0 (Or.inr ⟨(hw _ (List.mem_of_getElem? (i := 36) rfl)), rfl, hnm⟩) (hw _ (List.mem_of_getElem? (i := 29) rfl)) (ty := (.object "com/example/careful_lock/carefullock/core/Grant")) (by decide) rfl rfl (g := (mkF m 6 #[.val (.ref a), .val (.ref ho), .val (.long tk), .second, .val (.int wt), .val (.int pe)] [(.ref ho), (.ref a)])) rfl rfl (hb hby d3_6)
  have Fw2 : Fld Z h2 a "com/example/careful_lock/carefullock/core/LockStatus" "holder" "Lcom/example/careful_lock/carefullock/core/Grant;" (.ref ho) := P1.same W2
  have N2 := Fr.snoc X2 N0 P5
  have Z2 : n0 ≤ h2.size := Nat.le_trans Z0 (Nat.le_of_eq W2.size.symm)
  have K2 : Keep h0 h2 [a] := (Keep.refl h0 [a]).wr W2 (Or.inl (by simp))
  refine OwnEnds.via st2 ?_
  show OwnEnds _ _ _ _ (T2.setTop (mkF m 9 #[.val (.ref a), .val (.ref ho), .val (.long tk), .second, .val (.int wt), .val (.int pe)] []))
  refine OwnEnds.via (fun t k => XS.aloadN X2.here hx rfl (hb hby d3_9) rfl rfl k) ?_
  show OwnEnds _ _ _ _ (T2.setTop (mkF m 10 #[.val (.ref a), .val (.ref ho), .val (.long tk), .second, .val (.int wt), .val (.int pe)] [(.ref a)]))
  refine OwnEnds.via (fun t k => XS.lloadN X2.here hx rfl (hb hby d3_10) rfl k) ?_
  show OwnEnds _ _ _ _ (T2.setTop (mkF m 11 #[.val (.ref a), .val (.ref ho), .val (.long tk), .second, .val (.int wt), .val (.int pe)] [(.long tk), (.ref a)]))
  obtain ⟨T3, h3, X3, e3, W3, st3⟩ := putF X2 hx hZ hown (host := "") (Or.inl (hw _ (List.mem_of_getElem? (i := 37) rfl))) Via.refl e2 (P2.other W2 (Or.inr (slot_ne (Or.inr (hw _ (List.mem_of_getElem? (i := 38) rfl))) (Or.inr (hw _ (List.mem_of_getElem? (i := 36) rfl))) (by decide) (t := .long) (t' := (.object "com/example/careful_lock/carefullock/core/Grant")) (by decide) (by decide)))) (P0.wr W2) (Or.inr ⟨(hw _ (List.mem_of_getElem? (i := 38) rfl)), rfl, hnm⟩) (hw _ (List.mem_of_getElem? (i := 29) rfl)) (ty := .long) (by decide) rfl rfl (g := (mkF m 11 #[.val (.ref a), .val (.ref ho), .val (.long tk), .second, .val (.int wt), .val (.int pe)] [(.long tk), (.ref a)])) rfl rfl (hb hby d3_11)
  have Fw3 : Fld Z h3 a "com/example/careful_lock/carefullock/core/LockStatus" "lastToken" "J" (.long tk) := (P2.other W2 (Or.inr (slot_ne (Or.inr (hw _ (List.mem_of_getElem? (i := 38) rfl))) (Or.inr (hw _ (List.mem_of_getElem? (i := 36) rfl))) (by decide) (t := .long) (t' := (.object "com/example/careful_lock/carefullock/core/Grant")) (by decide) (by decide)))).same W3
  have N3 := Fr.snoc X3 N2 P5
  have Z3 : n0 ≤ h3.size := Nat.le_trans Z2 (Nat.le_of_eq W3.size.symm)
  have K3 : Keep h0 h3 [a] := K2.wr W3 (Or.inl (by simp))
  refine OwnEnds.via st3 ?_
  show OwnEnds _ _ _ _ (T3.setTop (mkF m 14 #[.val (.ref a), .val (.ref ho), .val (.long tk), .second, .val (.int wt), .val (.int pe)] []))
  refine OwnEnds.via (fun t k => XS.aloadN X3.here hx rfl (hb hby d3_14) rfl rfl k) ?_
  show OwnEnds _ _ _ _ (T3.setTop (mkF m 15 #[.val (.ref a), .val (.ref ho), .val (.long tk), .second, .val (.int wt), .val (.int pe)] [(.ref a)]))
  refine OwnEnds.via (fun t k => XS.iload X3.here hx rfl (hb hby d3_15) rfl k) ?_
  show OwnEnds _ _ _ _ (T3.setTop (mkF m 17 #[.val (.ref a), .val (.ref ho), .val (.long tk), .second, .val (.int wt), .val (.int pe)] [(.int wt), (.ref a)]))
  obtain ⟨T4, h4, X4, e4, W4, st4⟩ := putF X3 hx hZ hown (host := "") (Or.inl (hw _ (List.mem_of_getElem? (i := 39) rfl))) Via.refl e3 ((P3.other W2 (Or.inr (slot_ne (Or.inr (hw _ (List.mem_of_getElem? (i := 40) rfl))) (Or.inr (hw _ (List.mem_of_getElem? (i := 36) rfl))) (by decide) (t := .int) (t' := (.object "com/example/careful_lock/carefullock/core/Grant")) (by decide) (by decide)))).other W3 (Or.inr (slot_ne (Or.inr (hw _ (List.mem_of_getElem? (i := 40) rfl))) (Or.inr (hw _ (List.mem_of_getElem? (i := 38) rfl))) (by decide) (t := .int) (t' := .long) (by decide) (by decide)))) ((P0.wr W2).wr W3) (Or.inr ⟨(hw _ (List.mem_of_getElem? (i := 40) rfl)), rfl, hnm⟩) (hw _ (List.mem_of_getElem? (i := 29) rfl)) (ty := .int) (by decide) rfl rfl (g := (mkF m 17 #[.val (.ref a), .val (.ref ho), .val (.long tk), .second, .val (.int wt), .val (.int pe)] [(.int wt), (.ref a)])) rfl rfl (hb hby d3_17)
  have Fw4 : Fld Z h4 a "com/example/careful_lock/carefullock/core/LockStatus" "waiters" "I" (.int wt) := ((P3.other W2 (Or.inr (slot_ne (Or.inr (hw _ (List.mem_of_getElem? (i := 40) rfl))) (Or.inr (hw _ (List.mem_of_getElem? (i := 36) rfl))) (by decide) (t := .int) (t' := (.object "com/example/careful_lock/carefullock/core/Grant")) (by decide) (by decide)))).other W3 (Or.inr (slot_ne (Or.inr (hw _ (List.mem_of_getElem? (i := 40) rfl))) (Or.inr (hw _ (List.mem_of_getElem? (i := 38) rfl))) (by decide) (t := .int) (t' := .long) (by decide) (by decide)))).same W4
  have N4 := Fr.snoc X4 N3 P5
  have Z4 : n0 ≤ h4.size := Nat.le_trans Z3 (Nat.le_of_eq W4.size.symm)
  have K4 : Keep h0 h4 [a] := K3.wr W4 (Or.inl (by simp))
  refine OwnEnds.via st4 ?_
  show OwnEnds _ _ _ _ (T4.setTop (mkF m 20 #[.val (.ref a), .val (.ref ho), .val (.long tk), .second, .val (.int wt), .val (.int pe)] []))
  refine OwnEnds.via (fun t k => XS.aloadN X4.here hx rfl (hb hby d3_20) rfl rfl k) ?_
  show OwnEnds _ _ _ _ (T4.setTop (mkF m 21 #[.val (.ref a), .val (.ref ho), .val (.long tk), .second, .val (.int wt), .val (.int pe)] [(.ref a)]))
  refine OwnEnds.via (fun t k => XS.iload X4.here hx rfl (hb hby d3_21) rfl k) ?_
  show OwnEnds _ _ _ _ (T4.setTop (mkF m 23 #[.val (.ref a), .val (.ref ho), .val (.long tk), .second, .val (.int wt), .val (.int pe)] [(.int pe), (.ref a)]))
  obtain ⟨T5, h5, X5, e5, W5, st5⟩ := putFN X4 hx hZ hown (hw _ (List.mem_of_getElem? (i := 41) rfl)) Via.refl e4 (((P4.other W2 (Or.inr (slot_ne (Or.inr (hw _ (List.mem_of_getElem? (i := 42) rfl))) (Or.inr (hw _ (List.mem_of_getElem? (i := 36) rfl))) (by decide) (t := .boolean) (t' := (.object "com/example/careful_lock/carefullock/core/Grant")) (by decide) (by decide)))).other W3 (Or.inr (slot_ne (Or.inr (hw _ (List.mem_of_getElem? (i := 42) rfl))) (Or.inr (hw _ (List.mem_of_getElem? (i := 38) rfl))) (by decide) (t := .boolean) (t' := .long) (by decide) (by decide)))).other W4 (Or.inr (slot_ne (Or.inr (hw _ (List.mem_of_getElem? (i := 42) rfl))) (Or.inr (hw _ (List.mem_of_getElem? (i := 40) rfl))) (by decide) (t := .boolean) (t' := .int) (by decide) (by decide)))) (((P0.wr W2).wr W3).wr W4) (Or.inr ⟨(hw _ (List.mem_of_getElem? (i := 42) rfl)), rfl, hnm⟩) (hw _ (List.mem_of_getElem? (i := 29) rfl)) (ty := .boolean) (v' := (.int (nar .boolean pe))) (by decide) rfl (fits_nar_bool _) (g := (mkF m 23 #[.val (.ref a), .val (.ref ho), .val (.long tk), .second, .val (.int wt), .val (.int pe)] [(.int pe), (.ref a)])) rfl rfl (hb hby d3_23)
  have Fw5 : Fld Z h5 a "com/example/careful_lock/carefullock/core/LockStatus" "expiryPending" "Z" (.int (nar .boolean pe)) := (((P4.other W2 (Or.inr (slot_ne (Or.inr (hw _ (List.mem_of_getElem? (i := 42) rfl))) (Or.inr (hw _ (List.mem_of_getElem? (i := 36) rfl))) (by decide) (t := .boolean) (t' := (.object "com/example/careful_lock/carefullock/core/Grant")) (by decide) (by decide)))).other W3 (Or.inr (slot_ne (Or.inr (hw _ (List.mem_of_getElem? (i := 42) rfl))) (Or.inr (hw _ (List.mem_of_getElem? (i := 38) rfl))) (by decide) (t := .boolean) (t' := .long) (by decide) (by decide)))).other W4 (Or.inr (slot_ne (Or.inr (hw _ (List.mem_of_getElem? (i := 42) rfl))) (Or.inr (hw _ (List.mem_of_getElem? (i := 40) rfl))) (by decide) (t := .boolean) (t' := .int) (by decide) (by decide)))).same W5
  have N5 := Fr.snoc X5 N4 P5
  have Z5 : n0 ≤ h5.size := Nat.le_trans Z4 (Nat.le_of_eq W5.size.symm)
  have K5 : Keep h0 h5 [a] := K4.wr W5 (Or.inl (by simp))
  refine OwnEnds.via st5 ?_
  show OwnEnds _ _ _ _ (T5.setTop (mkF m 26 #[.val (.ref a), .val (.ref ho), .val (.long tk), .second, .val (.int wt), .val (.int pe)] []))
  obtain ⟨fs, hr, hrun, hended, hW, hsame⟩ := X5.leave (v := none) (fun _ => rfl)
  refine ⟨_, _, ?_, hrun, hended, _, _, rfl, ?_, ⟨_, rfl⟩, hW, hsame.mono (by decide) (by decide)⟩
  · exact X5.returnOut hx Bd.returns (hb hby d3_26) hr
  · show QLR Z a ho tk wt pe h0 n0 _ T5.heap _
    rw [e5]
    exact ⟨rfl, N5, K5, ((((P0.wr W2).wr W3).wr W4).wr W5), ((Fw3.other W4 (Or.inr (slot_ne (Or.inr (hw _ (List.mem_of_getElem? (i := 38) rfl))) (Or.inr (hw _ (List.mem_of_getElem? (i := 40) rfl))) (by decide) (t := .long) (t' := .int) (by decide) (by decide)))).other W5 (Or.inr (slot_ne (Or.inr (hw _ (List.mem_of_getElem? (i := 38) rfl))) (Or.inr (hw _ (List.mem_of_getElem? (i := 42) rfl))) (by decide) (t := .long) (t' := .boolean) (by decide) (by decide))))⟩

theorem d6_0 : decode jdk_2650_method_3_code 0 = .ok (.aload_n 0, 1) := by decide +kernel
theorem d6_1 : decode jdk_2650_method_3_code 1 = .ok (.invokespecial 1, 3) := by decide +kernel
theorem d6_4 : decode jdk_2650_method_3_code 4 = .ok (.aload_n 0, 1) := by decide +kernel
theorem d6_5 : decode jdk_2650_method_3_code 5 = .ok (.iconst 1, 1) := by decide +kernel
theorem d6_6 : decode jdk_2650_method_3_code 6 = .ok (.putfield 7, 3) := by decide +kernel
theorem d6_9 : decode jdk_2650_method_3_code 9 = .ok (.aload_n 0, 1) := by decide +kernel
theorem d6_10 : decode jdk_2650_method_3_code 10 = .ok (.lload_n 1, 1) := by decide +kernel
theorem d6_11 : decode jdk_2650_method_3_code 11 = .ok (.putfield 13, 3) := by decide +kernel
theorem d6_14 : decode jdk_2650_method_3_code 14 = .ok (.return_, 1) := by decide +kernel
theorem pn_rm6 : plainName "java/util/OptionalLong" = true := by first | (simp [plainName, overriddenIn]; done) | decide +kernel
theorem ef_rm6 (m : MethodId) (a : Addr) (tk : Int64) : entryFrame m #[(.ref a), (.long tk)] 3 = mkF m 0 #[.val (.ref a), .val (.long tk), .second] [] := by first | (simp [entryFrame, mkF, argsToLocals, Value.category]; done) | rfl
def Q6 (Z : State) (a : Addr) (tk : Int64) (h0 : Heap) (n0 : Nat) (v : Option Value) (h : Heap) (L : List Loc) : Prop := v = none ∧ Fr n0 L ∧ Keep h0 h [a] ∧ Exa Z h a "java/util/OptionalLong" ∧ Fld Z h a "java/util/OptionalLong" "isPresent" "Z" (.int (1 : Int32)) ∧ Fld Z h a "java/util/OptionalLong" "value" "J" (.long tk)
set_option maxRecDepth 65536 in
set_option maxHeartbeats 40000000 in
theorem rm6 (l : Launch) (Z : State) (a0 : Array Value) (hw : ∀ d ∈ tables_1, d.before a0 Z = true) (ws : List Jvm.Cond) (a : Addr) (tk : Int64) (h0 : Heap) (n0 : Nat) (Z0 : n0 ≤ h0.size) (P0 : Exa Z h0 a "java/util/OptionalLong") (P1 : Fld Z h0 a "java/util/OptionalLong" "isPresent" "Z" (.int (0 : Int32))) (P2 : Fld Z h0 a "java/util/OptionalLong" "value" "J" (.long (0 : Int64))) (P3 : n0 ≤ a) :
    MetFree l (⟨"java/util/OptionalLong", "<init>", "(J)V"⟩ : MethodName) (head1 (Jvm.Cond.code (⟨"java/util/OptionalLong", "<init>", "(J)V"⟩ : MethodName) jdk_2650_method_3_code 3 none :: ws) ({ frames := 1, cells := 0, slots := 0, locals := 12 } : Room)) (fun aa U => aa = #[(.ref a), (.long tk)] ∧ Z.Warmed39 U.vm ∧ U.heap = h0) (fun _ _ _ _ _ => True) (fun _ U o U' => ∃ v L, o = .returned v ∧ Q6 Z a tk h0 n0 v U'.heap L ∧ FrameEnd U o U' L ({ frames := 1, cells := 0, slots := 0, locals := 12 } : Room).cells ({ frames := 1, cells := 0, slots := 0, locals := 12 } : Room).slots) := by
  refine MetFree.of_bodySF (plainFor_of_name pn_rm6) hisR ?_
  intro p e s m args below meth c s₁ Bd hml0 hP hK
  obtain ⟨rfl, hZ, hh⟩ := hP
  have hx := Bd.exec
  have hby := Bd.bytes
  have hml : c.maxLocals = 3 := hml0
  have hown : s.vm.findClass "java/util/OptionalLong" = some m.cls := findClass_of_methodNamed Bd.named
  have hnm := (name_of_methodNamed Bd.named Bd.method).1
  have X0 : Stand p l e ({ frames := 1, cells := 0, slots := 0, locals := 12 } : Room) s m #[(.ref a), (.long tk)] below meth c s₁ [] 0 0 := Stand.of_body Bd
  have e0 : s₁.heap = h0 := by rw [← hh, Bd.state]; rfl
  have N0 := Fr.nil n0
  change OwnEnds p.tables e below _ _
  refine OwnEnds.via (fun t k => castTop (ef_rm6 m a tk) k) ?_
  show OwnEnds _ _ _ _ (s₁.setTop (mkF m 0 #[.val (.ref a), .val (.long tk), .second] []))
  refine OwnEnds.via (fun t k => XS.aloadN X0.here hx rfl (hb hby d6_0) rfl rfl k) ?_
  show OwnEnds _ _ _ _ (s₁.setTop (mkF m 1 #[.val (.ref a), .val (.long tk), .second] [(.ref a)]))
  obtain ⟨T1, X1, e1, st1⟩ := initO X0 hx hZ hown (hw _ (List.mem_of_getElem? (i := 58) rfl)) (hw _ (List.mem_of_getElem? (i := 18) rfl)) (hw _ (List.mem_of_getElem? (i := 19) rfl)) e0 (g := (mkF m 1 #[.val (.ref a), .val (.long tk), .second] [(.ref a)])) rfl (by rw [hml]; rfl) rfl (hb hby d6_1) (by decide) (W := 0) (by show 2 * 0 + _ ≤ _; exact Nat.le_of_eq rfl) (by decide)
  refine OwnEnds.via st1 ?_
  show OwnEnds _ _ _ _ (T1.setTop (mkF m 4 #[.val (.ref a), .val (.long tk), .second] []))
  refine OwnEnds.via (fun t k => XS.aloadN X1.here hx rfl (hb hby d6_4) rfl rfl k) ?_
  show OwnEnds _ _ _ _ (T1.setTop (mkF m 5 #[.val (.ref a), .val (.long tk), .second] [(.ref a)]))
  refine OwnEnds.via (fun t k => XS.iconst X1.here hx rfl (hb hby d6_5) k) ?_
  show OwnEnds _ _ _ _ (T1.setTop (mkF m 6 #[.val (.ref a), .val (.long tk), .second] [(.int (1 : Int32)), (.ref a)]))
  obtain ⟨T2, h2, X2, e2, W2, st2⟩ := putFN X1 hx hZ hown (hw _ (List.mem_of_getElem? (i := 59) rfl)) Via.refl e1 P1 P0 (Or.inr ⟨(hw _ (List.mem_of_getElem? (i := 60) rfl)), rfl, hnm⟩) (hw _ (List.mem_of_getElem? (i := 53) rfl)) (ty := .boolean) (v' := (.int (1 : Int32))) (by decide) rfl (by decide) (g := (mkF m 6 #[.val (.ref a), .val (.long tk), .second] [(.int (1 : Int32)), (.ref a)])) rfl rfl (hb hby d6_6)
  have Fw2 : Fld Z h2 a "java/util/OptionalLong" "isPresent" "Z" (.int (1 : Int32)) := P1.same W2
  have N2 := Fr.snoc X2 N0 P3
  have Z2 : n0 ≤ h2.size := Nat.le_trans Z0 (Nat.le_of_eq W2.size.symm)
  have K2 : Keep h0 h2 [a] := (Keep.refl h0 [a]).wr W2 (Or.inl (by simp))
  refine OwnEnds.via st2 ?_
  show OwnEnds _ _ _ _ (T2.setTop (mkF m 9 #[.val (.ref a), .val (.long tk), .second] []))
  refine OwnEnds.via (fun t k => XS.aloadN X2.here hx rfl (hb hby d6_9) rfl rfl k) ?_
  show OwnEnds _ _ _ _ (T2.setTop (mkF m 10 #[.val (.ref a), .val (.long tk), .second] [(.ref a)]))
  refine OwnEnds.via (fun t k => XS.lloadN X2.here hx rfl (hb hby d6_10) rfl k) ?_
  show OwnEnds _ _ _ _ (T2.setTop (mkF m 11 #[.val (.ref a), .val (.long tk), .second] [(.long tk), (.ref a)]))
  obtain ⟨T3, h3, X3, e3, W3, st3⟩ := putF X2 hx hZ hown (host := "") (Or.inl (hw _ (List.mem_of_getElem? (i := 61) rfl))) Via.refl e2 (P2.other W2 (Or.inr (slot_ne (Or.inr (hw _ (List.mem_of_getElem? (i := 62) rfl))) (Or.inr (hw _ (List.mem_of_getElem? (i := 60) rfl))) (by decide) (t := .long) (t' := .boolean) (by decide) (by decide)))) (P0.wr W2) (Or.inr ⟨(hw _ (List.mem_of_getElem? (i := 62) rfl)), rfl, hnm⟩) (hw _ (List.mem_of_getElem? (i := 53) rfl)) (ty := .long) (by decide) rfl rfl (g := (mkF m 11 #[.val (.ref a), .val (.long tk), .second] [(.long tk), (.ref a)])) rfl rfl (hb hby d6_11)
  have Fw3 : Fld Z h3 a "java/util/OptionalLong" "value" "J" (.long tk) := (P2.other W2 (Or.inr (slot_ne (Or.inr (hw _ (List.mem_of_getElem? (i := 62) rfl))) (Or.inr (hw _ (List.mem_of_getElem? (i := 60) rfl))) (by decide) (t := .long) (t' := .boolean) (by decide) (by decide)))).same W3
  have N3 := Fr.snoc X3 N2 P3
  have Z3 : n0 ≤ h3.size := Nat.le_trans Z2 (Nat.le_of_eq W3.size.symm)
  have K3 : Keep h0 h3 [a] := K2.wr W3 (Or.inl (by simp))
  refine OwnEnds.via st3 ?_
  show OwnEnds _ _ _ _ (T3.setTop (mkF m 14 #[.val (.ref a), .val (.long tk), .second] []))
  obtain ⟨fs, hr, hrun, hended, hW, hsame⟩ := X3.leave (v := none) (fun _ => rfl)
  refine ⟨_, _, ?_, hrun, hended, _, _, rfl, ?_, ⟨_, rfl⟩, hW, hsame.mono (by decide) (by decide)⟩
  · exact X3.returnOut hx Bd.returns (hb hby d6_14) hr
  · show Q6 Z a tk h0 n0 _ T3.heap _
    rw [e3]
    exact ⟨rfl, N3, K3, ((P0.wr W2).wr W3), (Fw2.other W3 (Or.inr (slot_ne (Or.inr (hw _ (List.mem_of_getElem? (i := 60) rfl))) (Or.inr (hw _ (List.mem_of_getElem? (i := 62) rfl))) (by decide) (t := .boolean) (t' := .long) (by decide) (by decide)))), Fw3⟩

theorem d5_0 : decode jdk_2650_method_4_code 0 = .ok (.new 8, 3) := by decide +kernel
theorem d5_3 : decode jdk_2650_method_4_code 3 = .ok (.dup, 1) := by decide +kernel
theorem d5_4 : decode jdk_2650_method_4_code 4 = .ok (.lload_n 0, 1) := by decide +kernel
theorem d5_5 : decode jdk_2650_method_4_code 5 = .ok (.invokespecial 21, 3) := by decide +kernel
theorem d5_8 : decode jdk_2650_method_4_code 8 = .ok (.areturn, 1) := by decide +kernel
theorem pn_rm5 : plainName "java/util/OptionalLong" = true := by first | (simp [plainName, overriddenIn]; done) | decide +kernel
theorem pd_0 : parseMethodDescriptor "(J)V" = some ⟨[.long], none⟩ := by decide +kernel
theorem ef_rm5 (m : MethodId) (tk : Int64) : entryFrame m #[(.long tk)] 2 = mkF m 0 #[.val (.long tk), .second] [] := by first | (simp [entryFrame, mkF, argsToLocals, Value.category]; done) | rfl
def Q5 (Z : State) (tk : Int64) (h0 : Heap) (n0 : Nat) (v : Option Value) (h : Heap) (L : List Loc) : Prop := ∃ b : Addr, v = some (.ref b) ∧ Fr n0 L ∧ Keep h0 h [] ∧ Exa Z h b "java/util/OptionalLong" ∧ Fld Z h b "java/util/OptionalLong" "isPresent" "Z" (.int (1 : Int32)) ∧ Fld Z h b "java/util/OptionalLong" "value" "J" (.long tk)
set_option maxRecDepth 65536 in
set_option maxHeartbeats 40000000 in
theorem rm5 (l : Launch) (Z : State) (a0 : Array Value) (hw : ∀ d ∈ tables_1, d.before a0 Z = true) (ws : List Jvm.Cond) (tk : Int64) (h0 : Heap) (n0 : Nat) (Z0 : n0 ≤ h0.size)  :
    MetFree l (⟨"java/util/OptionalLong", "of", "(J)Ljava/util/OptionalLong;"⟩ : MethodName) (head1 (Jvm.Cond.code (⟨"java/util/OptionalLong", "of", "(J)Ljava/util/OptionalLong;"⟩ : MethodName) jdk_2650_method_4_code 2 (some (.object "java/util/OptionalLong")) :: ws) ({ frames := 2, cells := 1, slots := 2, locals := 27 } : Room)) (fun aa U => aa = #[(.long tk)] ∧ Z.Warmed39 U.vm ∧ U.heap = h0) (fun _ _ _ _ _ => True) (fun _ U o U' => ∃ v L, o = .returned v ∧ Q5 Z tk h0 n0 v U'.heap L ∧ FrameEnd U o U' L ({ frames := 2, cells := 1, slots := 2, locals := 27 } : Room).cells ({ frames := 2, cells := 1, slots := 2, locals := 27 } : Room).slots) := by
  refine MetFree.of_bodySF (plainFor_of_name pn_rm5) hisR ?_
  intro p e s m args below meth c s₁ Bd hml0 hP hK
  obtain ⟨rfl, hZ, hh⟩ := hP
  have hx := Bd.exec
  have hby := Bd.bytes
  have hml : c.maxLocals = 2 := hml0
  have hown : s.vm.findClass "java/util/OptionalLong" = some m.cls := findClass_of_methodNamed Bd.named
  have hnm := (name_of_methodNamed Bd.named Bd.method).1
  have X0 : Stand p l e ({ frames := 2, cells := 1, slots := 2, locals := 27 } : Room) s m #[(.long tk)] below meth c s₁ [] 0 0 := Stand.of_body Bd
  have e0 : s₁.heap = h0 := by rw [← hh, Bd.state]; rfl
  have N0 := Fr.nil n0
  change OwnEnds p.tables e below _ _
  refine OwnEnds.via (fun t k => castTop (ef_rm5 m tk) k) ?_
  show OwnEnds _ _ _ _ (s₁.setTop (mkF m 0 #[.val (.long tk), .second] []))
  obtain ⟨T1, h1, X1, e1, E1, A1, D1, -, st1⟩ := newO X0 hx hZ hown (hw _ (List.mem_of_getElem? (i := 52) rfl)) (hw _ (List.mem_of_getElem? (i := 53) rfl)) (hw _ (List.mem_of_getElem? (i := 50) rfl)) e0 (g := (mkF m 0 #[.val (.long tk), .second] [])) rfl (hb hby d5_0) (by decide) (by decide)
  obtain ⟨b1, g1⟩ : ∃ z, z = h0.size := ⟨_, rfl⟩
  have ge_b1 : n0 ≤ b1 := Nat.le_trans Z0 (Nat.le_of_eq g1.symm)
  have sz_b1 : h0.size ≤ b1 := Nat.le_trans (Keep.refl h0 []).1 (Nat.le_of_eq g1.symm)
  have Z1 : n0 ≤ h1.size := Nat.le_trans Z0 E1.1
  have K1 : Keep h0 h1 [] := (Keep.refl h0 []).ext E1
  rw [← g1] at A1 D1 st1
  have F1_isPresent : Fld Z h1 b1 "java/util/OptionalLong" "isPresent" "Z" (.int (0 : Int32)) := D1 (Or.inr (hw _ (List.mem_of_getElem? (i := 60) rfl))) (ty := .boolean) (by decide)
  have F1_value : Fld Z h1 b1 "java/util/OptionalLong" "value" "J" (.long (0 : Int64)) := D1 (Or.inr (hw _ (List.mem_of_getElem? (i := 62) rfl))) (ty := .long) (by decide)
  refine OwnEnds.via st1 ?_
  show OwnEnds _ _ _ _ (T1.setTop (mkF m 3 #[.val (.long tk), .second] [(.ref b1)]))
  refine OwnEnds.via (fun t k => XS.dup X1.here hx rfl (hb hby d5_3) rfl rfl k) ?_
  show OwnEnds _ _ _ _ (T1.setTop (mkF m 4 #[.val (.long tk), .second] [(.ref b1), (.ref b1)]))
  refine OwnEnds.via (fun t k => XS.lloadN X1.here hx rfl (hb hby d5_4) rfl k) ?_
  show OwnEnds _ _ _ _ (T1.setTop (mkF m 5 #[.val (.long tk), .second] [(.long tk), (.ref b1), (.ref b1)]))
  obtain ⟨_, _, ⟨T2, L2, k2, n2⟩, -, X2, ⟨Lc2, hQ2, l2, y2, z2⟩, st2⟩ := X1.specialBack hx (y := (⟨"java/util/OptionalLong", "<init>", "(J)V"⟩ : MethodName)) rfl hown (mvT hZ (hw _ (List.mem_of_getElem? (i := 54) rfl))) (mvT hZ (hw _ (List.mem_of_getElem? (i := 55) rfl))) (mvT hZ (hw _ (List.mem_of_getElem? (i := 57) rfl))) (by decide) (backOf (W := 1) (rm6 l Z a0 hw [] b1 tk h1 n0 Z1 A1 F1_isPresent F1_value ge_b1) hZ (hw _ (List.mem_of_getElem? (i := 57) rfl)) (hw _ (List.mem_of_getElem? (i := 50) rfl)) (by decide) (by decide)) (g := (mkF m 5 #[.val (.long tk), .second] [(.long tk), (.ref b1), (.ref b1)])) rfl (by rw [hml]; rfl) (Steps.refl _) (a := b1) (argsL := [(.long tk)]) (rest := [(.ref b1)]) (lenOf pd_0 rfl) rfl (by show 2 * 0 + _ ≤ _; exact Nat.le_of_eq rfl) (hb hby d5_5) (fun _ _ => ⟨rfl, e1, (by decide : 1 + 0 ≤ _), (by decide : 2 + 0 ≤ _)⟩)
  dsimp only [Pt.U, Pt.locs, Pt.cells, Pt.slots] at X2 l2 y2 z2 st2 hQ2
  subst l2 y2 z2
  obtain ⟨h2, e2⟩ : ∃ z, T2.heap = z := ⟨_, rfl⟩
  rw [e2] at hQ2
  obtain ⟨rfl, Nq2, Kq2, q2_0, q2_1, q2_2⟩ := hQ2
  have Z2 : n0 ≤ h2.size := Nat.le_trans Z1 Kq2.1
  have K2 : Keep h0 h2 [] := K1.trans Kq2 (allS (Or.inr sz_b1) all0)
  have N2 := Fr.app N0 Nq2
  refine OwnEnds.via (fun t k => st2.trans k) ?_
  show OwnEnds _ _ _ _ (T2.setTop (mkF m 8 #[.val (.long tk), .second] [(.ref b1)]))
  obtain ⟨fs, hr, hrun, hended, hW, hsame⟩ := X2.leave (v := some (.ref b1)) (fun h => by rw [Bd.returns] at h; cases h)
  refine ⟨_, _, ?_, hrun, hended, _, _, rfl, ?_, ⟨_, rfl⟩, hW, hsame.mono (by decide) (by decide)⟩
  · jvm_step X2.here [X2.here.top, hx, (hb hby d5_8), X2.method', Bd.returns, Value.isRef, FieldType.isReference]
    first | (intro acts; rw [hr _ acts rfl rfl rfl]) | rw [hr _ _ rfl rfl rfl]
    exact Steps.refl _
  · show Q5 Z tk h0 n0 _ T2.heap _
    rw [e2]
    exact ⟨b1, rfl, N2, K2, q2_0, q2_1, q2_2⟩

theorem d9_0 : decode jdk_2650_method_2_code 0 = .ok (.getstatic 17, 3) := by decide +kernel
theorem d9_3 : decode jdk_2650_method_2_code 3 = .ok (.areturn, 1) := by decide +kernel
theorem pn_rm9 : plainName "java/util/OptionalLong" = true := by first | (simp [plainName, overriddenIn]; done) | decide +kernel
theorem ef_rm9 (m : MethodId)  : entryFrame m #[] 0 = mkF m 0 #[] [] := by first | (simp [entryFrame, mkF, argsToLocals, Value.category]; done) | rfl
def Q9 (Z : State) (em : Addr) (h0 : Heap) (n0 : Nat) (v : Option Value) (h : Heap) (L : List Loc) : Prop := v = some (.ref em) ∧ Fr n0 L ∧ h = h0
set_option maxRecDepth 65536 in
set_option maxHeartbeats 40000000 in
theorem rm9 (l : Launch) (Z : State) (a0 : Array Value) (hw : ∀ d ∈ tables_1, d.before a0 Z = true) (ws : List Jvm.Cond) (em : Addr) (h0 : Heap) (n0 : Nat) (Z0 : n0 ≤ h0.size) (O0 : Old Z n0 h0) (OP0 : Sta Z Z.heap "java/util/OptionalLong" "EMPTY" "Ljava/util/OptionalLong;" (.ref em)) :
    MetFree l (⟨"java/util/OptionalLong", "empty", "()Ljava/util/OptionalLong;"⟩ : MethodName) (head1 (Jvm.Cond.code (⟨"java/util/OptionalLong", "empty", "()Ljava/util/OptionalLong;"⟩ : MethodName) jdk_2650_method_2_code 0 (some (.object "java/util/OptionalLong")) :: ws) ({ frames := 0, cells := 0, slots := 0, locals := 0 } : Room)) (fun aa U => aa = #[] ∧ Z.Warmed39 U.vm ∧ U.heap = h0) (fun _ _ _ _ _ => True) (fun _ U o U' => ∃ v L, o = .returned v ∧ Q9 Z em h0 n0 v U'.heap L ∧ FrameEnd U o U' L ({ frames := 0, cells := 0, slots := 0, locals := 0 } : Room).cells ({ frames := 0, cells := 0, slots := 0, locals := 0 } : Room).slots) := by
  refine MetFree.of_bodySF (plainFor_of_name pn_rm9) hisR ?_
  intro p e s m args below meth c s₁ Bd hml0 hP hK
  obtain ⟨rfl, hZ, hh⟩ := hP
  have hx := Bd.exec
  have hby := Bd.bytes
  have hml : c.maxLocals = 0 := hml0
  have hown : s.vm.findClass "java/util/OptionalLong" = some m.cls := findClass_of_methodNamed Bd.named
  have hnm := (name_of_methodNamed Bd.named Bd.method).1
  have X0 : Stand p l e ({ frames := 0, cells := 0, slots := 0, locals := 0 } : Room) s m #[] below meth c s₁ [] 0 0 := Stand.of_body Bd
  have e0 : s₁.heap = h0 := by rw [← hh, Bd.state]; rfl
  have N0 := Fr.nil n0
  change OwnEnds p.tables e below _ _
  refine OwnEnds.via (fun t k => castTop (ef_rm9 m ) k) ?_
  show OwnEnds _ _ _ _ (s₁.setTop (mkF m 0 #[] []))
  obtain ⟨T1, X1, e1, st1⟩ := getS2 X0 hx hZ hown (host := "") (Or.inl (hw _ (List.mem_of_getElem? (i := 76) rfl))) Via.refl e0 (OP0.ext O0.2) (g := (mkF m 0 #[] [])) rfl (hb hby d9_0)
  refine OwnEnds.via st1 ?_
  show OwnEnds _ _ _ _ (T1.setTop (mkF m 3 #[] [(.ref em)]))
  obtain ⟨fs, hr, hrun, hended, hW, hsame⟩ := X1.leave (v := some (.ref em)) (fun h => by rw [Bd.returns] at h; cases h)
  refine ⟨_, _, ?_, hrun, hended, _, _, rfl, ?_, ⟨_, rfl⟩, hW, hsame.mono (by decide) (by decide)⟩
  · jvm_step X1.here [X1.here.top, hx, (hb hby d9_3), X1.method', Bd.returns, Value.isRef, FieldType.isReference]
    first | (intro acts; rw [hr _ acts rfl rfl rfl]) | rw [hr _ _ rfl rfl rfl]
    exact Steps.refl _
  · show Q9 Z em h0 n0 _ T1.heap _
    rw [e1]
    exact ⟨rfl, N0, rfl⟩

theorem d4_0 : decode prog_23_method_3_code 0 = .ok (.aload_n 0, 1) := by decide +kernel
theorem d4_1 : decode prog_23_method_3_code 1 = .ok (.getfield 13, 3) := by decide +kernel
theorem d4_4 : decode prog_23_method_3_code 4 = .ok (.lconst 0, 1) := by decide +kernel
theorem d4_5 : decode prog_23_method_3_code 5 = .ok (.lcmp, 1) := by decide +kernel
theorem d4_6 : decode prog_23_method_3_code 6 = .ok (.ifCond .ne 9, 3) := by decide +kernel
theorem d4_9 : decode prog_23_method_3_code 9 = .ok (.invokestatic 31, 3) := by decide +kernel
theorem d4_12 : decode prog_23_method_3_code 12 = .ok (.goto 10, 3) := by decide +kernel
theorem d4_15 : decode prog_23_method_3_code 15 = .ok (.aload_n 0, 1) := by decide +kernel
theorem d4_16 : decode prog_23_method_3_code 16 = .ok (.getfield 13, 3) := by decide +kernel
theorem d4_19 : decode prog_23_method_3_code 19 = .ok (.invokestatic 37, 3) := by decide +kernel
theorem d4_22 : decode prog_23_method_3_code 22 = .ok (.areturn, 1) := by decide +kernel
theorem pn_rm4 : plainName "com/example/careful_lock/carefullock/core/LockStatus" = true := by first | (simp [plainName, overriddenIn]; done) | decide +kernel
theorem pd_1 : parseMethodDescriptor "()Ljava/util/OptionalLong;" = some ⟨[], some (.object "java/util/OptionalLong")⟩ := by decide +kernel
theorem pd_2 : parseMethodDescriptor "(J)Ljava/util/OptionalLong;" = some ⟨[.long], some (.object "java/util/OptionalLong")⟩ := by decide +kernel
theorem ef_rm4 (m : MethodId) (a : Addr) : entryFrame m #[(.ref a)] 1 = mkF m 0 #[.val (.ref a)] [] := by first | (simp [entryFrame, mkF, argsToLocals, Value.category]; done) | rfl
def Q4 (Z : State) (a : Addr) (tk : Int64) (em : Addr) (h0 : Heap) (n0 : Nat) (v : Option Value) (h : Heap) (L : List Loc) : Prop := ∃ b : Addr, v = some (.ref b) ∧ Fr n0 L ∧ Keep h0 h [] ∧ Exa Z h b "java/util/OptionalLong" ∧ Fld Z h b "java/util/OptionalLong" "isPresent" "Z" (.int (if lcmpW tk (0 : Int64) = (0 : Int32) then (0 : Int32) else (1 : Int32))) ∧ Fld Z h b "java/util/OptionalLong" "value" "J" (.long tk)
set_option maxRecDepth 65536 in
set_option maxHeartbeats 40000000 in
theorem rm4 (l : Launch) (Z : State) (a0 : Array Value) (hw : ∀ d ∈ tables_1, d.before a0 Z = true) (ws : List Jvm.Cond) (a : Addr) (tk : Int64) (em : Addr) (h0 : Heap) (n0 : Nat) (Z0 : n0 ≤ h0.size) (O0 : Old Z n0 h0) (P0 : Fld Z h0 a "com/example/careful_lock/carefullock/core/LockStatus" "lastToken" "J" (.long tk)) (OP0 : Sta Z Z.heap "java/util/OptionalLong" "EMPTY" "Ljava/util/OptionalLong;" (.ref em)) (OP1 : Exa Z Z.heap em "java/util/OptionalLong") (OP2 : Fld Z Z.heap em "java/util/OptionalLong" "isPresent" "Z" (.int (0 : Int32))) (OP3 : Fld Z Z.heap em "java/util/OptionalLong" "value" "J" (.long (0 : Int64))) :
    MetFree l (⟨"com/example/careful_lock/carefullock/core/LockStatus", "lastToken", "()Ljava/util/OptionalLong;"⟩ : MethodName) (head1 (Jvm.Cond.code (⟨"com/example/careful_lock/carefullock/core/LockStatus", "lastToken", "()Ljava/util/OptionalLong;"⟩ : MethodName) prog_23_method_3_code 1 (some (.object "java/util/OptionalLong")) :: ws) ({ frames := 3, cells := 1, slots := 2, locals := 40 } : Room)) (fun aa U => aa = #[(.ref a)] ∧ Z.Warmed39 U.vm ∧ U.heap = h0) (fun _ _ _ _ _ => True) (fun _ U o U' => ∃ v L, o = .returned v ∧ Q4 Z a tk em h0 n0 v U'.heap L ∧ FrameEnd U o U' L ({ frames := 3, cells := 1, slots := 2, locals := 40 } : Room).cells ({ frames := 3, cells := 1, slots := 2, locals := 40 } : Room).slots) := by
  refine MetFree.of_bodySF (plainFor_of_name pn_rm4) hisR ?_
  intro p e s m args below meth c s₁ Bd hml0 hP hK
  obtain ⟨rfl, hZ, hh⟩ := hP
  have hx := Bd.exec
  have hby := Bd.bytes
  have hml : c.maxLocals = 1 := hml0
  have hown : s.vm.findClass "com/example/careful_lock/carefullock/core/LockStatus" = some m.cls := findClass_of_methodNamed Bd.named
  have hnm := (name_of_methodNamed Bd.named Bd.method).1
  have X0 : Stand p l e ({ frames := 3, cells := 1, slots := 2, locals := 40 } : Room) s m #[(.ref a)] below meth c s₁ [] 0 0 := Stand.of_body Bd
  have e0 : s₁.heap = h0 := by rw [← hh, Bd.state]; rfl
  have N0 := Fr.nil n0
  change OwnEnds p.tables e below _ _
  refine OwnEnds.via (fun t k => castTop (ef_rm4 m a) k) ?_
  show OwnEnds _ _ _ _ (s₁.setTop (mkF m 0 #[.val (.ref a)] []))
  refine OwnEnds.via (fun t k => XS.aloadN X0.here hx rfl (hb hby d4_0) rfl rfl k) ?_
  show OwnEnds _ _ _ _ (s₁.setTop (mkF m 1 #[.val (.ref a)] [(.ref a)]))
  obtain ⟨T1, X1, e1, st1⟩ := getF X0 hx hZ hown (host := "") (Or.inl (hw _ (List.mem_of_getElem? (i := 37) rfl))) Via.refl e0 P0 (g := (mkF m 1 #[.val (.ref a)] [(.ref a)])) rfl rfl (hb hby d4_1)
  refine OwnEnds.via st1 ?_
  show OwnEnds _ _ _ _ (T1.setTop (mkF m 4 #[.val (.ref a)] [(.long tk)]))
  refine OwnEnds.via (fun t k => XS.lconst X1.here hx rfl (hb hby d4_4) k) ?_
  show OwnEnds _ _ _ _ (T1.setTop (mkF m 5 #[.val (.ref a)] [(.long (0 : Int64)), (.long tk)]))
  refine OwnEnds.via (fun t k => XS.lcmp X1.here hx rfl (hb hby d4_5) rfl k) ?_
  show OwnEnds _ _ _ _ (T1.setTop (mkF m 6 #[.val (.ref a)] [(.int (lcmpW tk (0 : Int64)))]))
  by_cases hc6_2 : (lcmpW tk (0 : Int64)) = (0 : Int32)
  ·
    refine OwnEnds.via (fun t k => XS.ifNo X1.here hx rfl (hb hby d4_6) rfl ((if0 _ _).trans (teq hc6_2).2) k) ?_
    show OwnEnds _ _ _ _ (T1.setTop (mkF m 9 #[.val (.ref a)] []))
    obtain ⟨_, _, ⟨T3, L3, k3, n3⟩, -, X3, ⟨Lc3, hQ3, l3, y3, z3⟩, st3⟩ := Jvm.LawKit.callS X1 hx (y := (⟨"java/util/OptionalLong", "empty", "()Ljava/util/OptionalLong;"⟩ : MethodName)) hown (mvT hZ (hw _ (List.mem_of_getElem? (i := 73) rfl))) (mvT hZ (hw _ (List.mem_of_getElem? (i := 74) rfl))) (mvT hZ (hw _ (List.mem_of_getElem? (i := 50) rfl))) (mvT hZ (hw _ (List.mem_of_getElem? (i := 75) rfl))) (by decide) (backOf (W := 0) (rm9 l Z a0 hw [] em h0 n0 Z0 O0 OP0) hZ (hw _ (List.mem_of_getElem? (i := 75) rfl)) (hw _ (List.mem_of_getElem? (i := 50) rfl)) (by decide) (by decide)) (g := (mkF m 9 #[.val (.ref a)] [])) rfl (by rw [hml]; rfl) (argsL := []) (rest := []) (lenOf pd_1 rfl) rfl (by show 2 * 0 + _ ≤ _; exact Nat.le_of_eq rfl) (hb hby d4_9) (fun _ _ => ⟨rfl, e1, (by decide : 0 + 0 ≤ _), (by decide : 0 + 0 ≤ _)⟩)
    dsimp only [Pt.U, Pt.locs, Pt.cells, Pt.slots] at X3 l3 y3 z3 st3 hQ3
    subst l3 y3 z3
    obtain ⟨rfl, Nq3, e3⟩ := hQ3
    have N3 := Fr.app N0 Nq3
    refine OwnEnds.via st3 ?_
    show OwnEnds _ _ _ _ (T3.setTop (mkF m 12 #[.val (.ref a)] [(.ref em)]))
    refine OwnEnds.via (fun t k => XS.goto X3.here hx rfl (pc0 := 12) (pc' := 22) rfl (hb hby d4_12) (by decide) (by decide) k) ?_
    show OwnEnds _ _ _ _ (T3.setTop (mkF m 22 #[.val (.ref a)] [(.ref em)]))
    obtain ⟨fs, hr, hrun, hended, hW, hsame⟩ := X3.leave (v := some (.ref em)) (fun h => by rw [Bd.returns] at h; cases h)
    refine ⟨_, _, ?_, hrun, hended, _, _, rfl, ?_, ⟨_, rfl⟩, hW, hsame.mono (by decide) (by decide)⟩
    · jvm_step X3.here [X3.here.top, hx, (hb hby d4_22), X3.method', Bd.returns, Value.isRef, FieldType.isReference]
      first | (intro acts; rw [hr _ acts rfl rfl rfl]) | rw [hr _ _ rfl rfl rfl]
      exact Steps.refl _
    · show Q4 Z a tk em h0 n0 _ T3.heap _
      rw [e3]
      exact ⟨em, rfl, N3, (Keep.refl h0 []), (OP1.ext O0.2), (by rw [if_pos hc6_2]; exact (OP2.ext O0.2)), (by rw [(lw_eq _ _).mp hc6_2]; exact (OP3.ext O0.2))⟩
  ·
    refine OwnEnds.via (fun t k => XS.ifYes X1.here hx rfl (pc0 := 6) (pc' := 15) rfl (hb hby d4_6) rfl ((if0 _ _).trans (feq hc6_2).2) (by decide) (by decide) k) ?_
    show OwnEnds _ _ _ _ (T1.setTop (mkF m 15 #[.val (.ref a)] []))
    refine OwnEnds.via (fun t k => XS.aloadN X1.here hx rfl (hb hby d4_15) rfl rfl k) ?_
    show OwnEnds _ _ _ _ (T1.setTop (mkF m 16 #[.val (.ref a)] [(.ref a)]))
    obtain ⟨T4, X4, e4, st4⟩ := getF X1 hx hZ hown (host := "") (Or.inl (hw _ (List.mem_of_getElem? (i := 37) rfl))) Via.refl e1 P0 (g := (mkF m 16 #[.val (.ref a)] [(.ref a)])) rfl rfl (hb hby d4_16)
    refine OwnEnds.via st4 ?_
    show OwnEnds _ _ _ _ (T4.setTop (mkF m 19 #[.val (.ref a)] [(.long tk)]))
    obtain ⟨_, _, ⟨T5, L5, k5, n5⟩, -, X5, ⟨Lc5, hQ5, l5, y5, z5⟩, st5⟩ := Jvm.LawKit.callS X4 hx (y := (⟨"java/util/OptionalLong", "of", "(J)Ljava/util/OptionalLong;"⟩ : MethodName)) hown (mvT hZ (hw _ (List.mem_of_getElem? (i := 48) rfl))) (mvT hZ (hw _ (List.mem_of_getElem? (i := 49) rfl))) (mvT hZ (hw _ (List.mem_of_getElem? (i := 50) rfl))) (mvT hZ (hw _ (List.mem_of_getElem? (i := 51) rfl))) (by decide) (backOf (W := 0) (rm5 l Z a0 hw [] tk h0 n0 Z0 ) hZ (hw _ (List.mem_of_getElem? (i := 51) rfl)) (hw _ (List.mem_of_getElem? (i := 50) rfl)) (by decide) (by decide)) (g := (mkF m 19 #[.val (.ref a)] [(.long tk)])) rfl (by rw [hml]; rfl) (argsL := [(.long tk)]) (rest := []) (lenOf pd_2 rfl) rfl (by show 2 * 0 + _ ≤ _; exact Nat.le_of_eq rfl) (hb hby d4_19) (fun _ _ => ⟨rfl, e4, (by decide : 0 + 1 ≤ _), (by decide : 0 + 2 ≤ _)⟩)
    dsimp only [Pt.U, Pt.locs, Pt.cells, Pt.slots] at X5 l5 y5 z5 st5 hQ5
    subst l5 y5 z5
    obtain ⟨h5, e5⟩ : ∃ z, T5.heap = z := ⟨_, rfl⟩
    rw [e5] at hQ5
    obtain ⟨b_5, rfl, Nq5, Kq5, q5_0, q5_1, q5_2⟩ := hQ5
    have Z5 : n0 ≤ h5.size := Nat.le_trans Z0 Kq5.1
    have K5 : Keep h0 h5 [] := (Keep.refl h0 []).trans Kq5 all0
    have O5 : Old Z n0 h5 := O0.keep Kq5 all0
    have N5 := Fr.app N0 Nq5
    refine OwnEnds.via st5 ?_
    show OwnEnds _ _ _ _ (T5.setTop (mkF m 22 #[.val (.ref a)] [(.ref b_5)]))
    obtain ⟨fs, hr, hrun, hended, hW, hsame⟩ := X5.leave (v := some (.ref b_5)) (fun h => by rw [Bd.returns] at h; cases h)
    refine ⟨_, _, ?_, hrun, hended, _, _, rfl, ?_, ⟨_, rfl⟩, hW, hsame.mono (by decide) (by decide)⟩
    · jvm_step X5.here [X5.here.top, hx, (hb hby d4_22), X5.method', Bd.returns, Value.isRef, FieldType.isReference]
      first | (intro acts; rw [hr _ acts rfl rfl rfl]) | rw [hr _ _ rfl rfl rfl]
      exact Steps.refl _
    · show Q4 Z a tk em h0 n0 _ T5.heap _
      rw [e5]
      exact ⟨b_5, rfl, N5, K5, q5_0, (by rw [if_neg hc6_2]; exact q5_1), q5_2⟩

theorem d7_0 : decode jdk_2650_method_6_code 0 = .ok (.aload_n 0, 1) := by decide +kernel
theorem d7_1 : decode jdk_2650_method_6_code 1 = .ok (.getfield 7, 3) := by decide +kernel
theorem d7_4 : decode jdk_2650_method_6_code 4 = .ok (.ireturn, 1) := by decide +kernel
theorem pn_rm7 : plainName "java/util/OptionalLong" = true := by first | (simp [plainName, overriddenIn]; done) | decide +kernel
theorem ef_rm7 (m : MethodId) (a : Addr) : entryFrame m #[(.ref a)] 1 = mkF m 0 #[.val (.ref a)] [] := by first | (simp [entryFrame, mkF, argsToLocals, Value.category]; done) | rfl
def Q7 (Z : State) (a : Addr) (pv : Int32) (h0 : Heap) (n0 : Nat) (v : Option Value) (h : Heap) (L : List Loc) : Prop := v = some (.int (nar .boolean pv)) ∧ Fr n0 L ∧ h = h0
set_option maxRecDepth 65536 in
set_option maxHeartbeats 40000000 in
theorem rm7 (l : Launch) (Z : State) (a0 : Array Value) (hw : ∀ d ∈ tables_1, d.before a0 Z = true) (ws : List Jvm.Cond) (a : Addr) (pv : Int32) (h0 : Heap) (n0 : Nat) (Z0 : n0 ≤ h0.size) (P0 : Fld Z h0 a "java/util/OptionalLong" "isPresent" "Z" (.int pv)) :
    MetFree l (⟨"java/util/OptionalLong", "isPresent", "()Z"⟩ : MethodName) (head1 (Jvm.Cond.code (⟨"java/util/OptionalLong", "isPresent", "()Z"⟩ : MethodName) jdk_2650_method_6_code 1 (some .boolean) :: ws) ({ frames := 0, cells := 0, slots := 0, locals := 0 } : Room)) (fun aa U => aa = #[(.ref a)] ∧ Z.Warmed39 U.vm ∧ U.heap = h0) (fun _ _ _ _ _ => True) (fun _ U o U' => ∃ v L, o = .returned v ∧ Q7 Z a pv h0 n0 v U'.heap L ∧ FrameEnd U o U' L ({ frames := 0, cells := 0, slots := 0, locals := 0 } : Room).cells ({ frames := 0, cells := 0, slots := 0, locals := 0 } : Room).slots) := by
  refine MetFree.of_bodySF (plainFor_of_name pn_rm7) hisR ?_
  intro p e s m args below meth c s₁ Bd hml0 hP hK
  obtain ⟨rfl, hZ, hh⟩ := hP
  have hx := Bd.exec
  have hby := Bd.bytes
  have hml : c.maxLocals = 1 := hml0
  have hown : s.vm.findClass "java/util/OptionalLong" = some m.cls := findClass_of_methodNamed Bd.named
  have hnm := (name_of_methodNamed Bd.named Bd.method).1
  have X0 : Stand p l e ({ frames := 0, cells := 0, slots := 0, locals := 0 } : Room) s m #[(.ref a)] below meth c s₁ [] 0 0 := Stand.of_body Bd
  have e0 : s₁.heap = h0 := by rw [← hh, Bd.state]; rfl
  have N0 := Fr.nil n0
  change OwnEnds p.tables e below _ _
  refine OwnEnds.via (fun t k => castTop (ef_rm7 m a) k) ?_
  show OwnEnds _ _ _ _ (s₁.setTop (mkF m 0 #[.val (.ref a)] []))
  refine OwnEnds.via (fun t k => XS.aloadN X0.here hx rfl (hb hby d7_0) rfl rfl k) ?_
  show OwnEnds _ _ _ _ (s₁.setTop (mkF m 1 #[.val (.ref a)] [(.ref a)]))
  obtain ⟨T1, X1, e1, st1⟩ := getF X0 hx hZ hown (host := "") (Or.inl (hw _ (List.mem_of_getElem? (i := 59) rfl))) Via.refl e0 P0 (g := (mkF m 1 #[.val (.ref a)] [(.ref a)])) rfl rfl (hb hby d7_1)
  refine OwnEnds.via st1 ?_
  show OwnEnds _ _ _ _ (T1.setTop (mkF m 4 #[.val (.ref a)] [(.int pv)]))
  obtain ⟨fs, hr, hrun, hended, hW, hsame⟩ := X1.leave (v := some (.int (nar .boolean pv))) (fun h => by rw [Bd.returns] at h; cases h)
  refine ⟨_, _, ?_, hrun, hended, _, _, rfl, ?_, ⟨_, rfl⟩, hW, hsame.mono (by decide) (by decide)⟩
  · exact retN X1 hx (t := .boolean) Bd.returns (by simp) (hb hby d7_4) hr
  · show Q7 Z a pv h0 n0 _ T1.heap _
    rw [e1]
    exact ⟨rfl, N0, rfl⟩

theorem d8_0 : decode jdk_2650_method_5_code 0 = .ok (.aload_n 0, 1) := by decide +kernel
theorem d8_1 : decode jdk_2650_method_5_code 1 = .ok (.getfield 7, 3) := by decide +kernel
theorem d8_4 : decode jdk_2650_method_5_code 4 = .ok (.ifCond .ne 13, 3) := by decide +kernel
theorem d8_17 : decode jdk_2650_method_5_code 17 = .ok (.aload_n 0, 1) := by decide +kernel
theorem d8_18 : decode jdk_2650_method_5_code 18 = .ok (.getfield 13, 3) := by decide +kernel
theorem d8_21 : decode jdk_2650_method_5_code 21 = .ok (.lreturn, 1) := by decide +kernel
theorem pn_rm8 : plainName "java/util/OptionalLong" = true := by first | (simp [plainName, overriddenIn]; done) | decide +kernel
theorem ef_rm8 (m : MethodId) (a : Addr) : entryFrame m #[(.ref a)] 1 = mkF m 0 #[.val (.ref a)] [] := by first | (simp [entryFrame, mkF, argsToLocals, Value.category]; done) | rfl
def Q8 (Z : State) (a : Addr) (pv : Int32) (tk : Int64) (h0 : Heap) (n0 : Nat) (v : Option Value) (h : Heap) (L : List Loc) : Prop := v = some (.long tk) ∧ Fr n0 L ∧ h = h0
set_option maxRecDepth 65536 in
set_option maxHeartbeats 40000000 in
theorem rm8 (l : Launch) (Z : State) (a0 : Array Value) (hw : ∀ d ∈ tables_1, d.before a0 Z = true) (ws : List Jvm.Cond) (a : Addr) (pv : Int32) (tk : Int64) (h0 : Heap) (n0 : Nat) (Z0 : n0 ≤ h0.size) (P0 : Fld Z h0 a "java/util/OptionalLong" "isPresent" "Z" (.int pv)) (P1 : Fld Z h0 a "java/util/OptionalLong" "value" "J" (.long tk)) (P2 : ¬ pv = (0 : Int32)) :
    MetFree l (⟨"java/util/OptionalLong", "getAsLong", "()J"⟩ : MethodName) (head1 (Jvm.Cond.code (⟨"java/util/OptionalLong", "getAsLong", "()J"⟩ : MethodName) jdk_2650_method_5_code 1 (some .long) :: ws) ({ frames := 0, cells := 0, slots := 0, locals := 0 } : Room)) (fun aa U => aa = #[(.ref a)] ∧ Z.Warmed39 U.vm ∧ U.heap = h0) (fun _ _ _ _ _ => True) (fun _ U o U' => ∃ v L, o = .returned v ∧ Q8 Z a pv tk h0 n0 v U'.heap L ∧ FrameEnd U o U' L ({ frames := 0, cells := 0, slots := 0, locals := 0 } : Room).cells ({ frames := 0, cells := 0, slots := 0, locals := 0 } : Room).slots) := by
  refine MetFree.of_bodySF (plainFor_of_name pn_rm8) hisR ?_
  intro p e s m args below meth c s₁ Bd hml0 hP hK
  obtain ⟨rfl, hZ, hh⟩ := hP
  have hx := Bd.exec
  have hby := Bd.bytes
  have hml : c.maxLocals = 1 := hml0
  have hown : s.vm.findClass "java/util/OptionalLong" = some m.cls := findClass_of_methodNamed Bd.named
  have hnm := (name_of_methodNamed Bd.named Bd.method).1
  have X0 : Stand p l e ({ frames := 0, cells := 0, slots := 0, locals := 0 } : Room) s m #[(.ref a)] below meth c s₁ [] 0 0 := Stand.of_body Bd
  have e0 : s₁.heap = h0 := by rw [← hh, Bd.state]; rfl
  have N0 := Fr.nil n0
  change OwnEnds p.tables e below _ _
  refine OwnEnds.via (fun t k => castTop (ef_rm8 m a) k) ?_
  show OwnEnds _ _ _ _ (s₁.setTop (mkF m 0 #[.val (.ref a)] []))
  refine OwnEnds.via (fun t k => XS.aloadN X0.here hx rfl (hb hby d8_0) rfl rfl k) ?_
  show OwnEnds _ _ _ _ (s₁.setTop (mkF m 1 #[.val (.ref a)] [(.ref a)]))
  obtain ⟨T1, X1, e1, st1⟩ := getF X0 hx hZ hown (host := "") (Or.inl (hw _ (List.mem_of_getElem? (i := 59) rfl))) Via.refl e0 P0 (g := (mkF m 1 #[.val (.ref a)] [(.ref a)])) rfl rfl (hb hby d8_1)
  refine OwnEnds.via st1 ?_
  show OwnEnds _ _ _ _ (T1.setTop (mkF m 4 #[.val (.ref a)] [(.int pv)]))
  refine OwnEnds.via (fun t k => XS.ifYes X1.here hx rfl (pc0 := 4) (pc' := 17) rfl (hb hby d8_4) rfl ((if0 _ _).trans (feq P2).2) (by decide) (by decide) k) ?_
  show OwnEnds _ _ _ _ (T1.setTop (mkF m 17 #[.val (.ref a)] []))
  refine OwnEnds.via (fun t k => XS.aloadN X1.here hx rfl (hb hby d8_17) rfl rfl k) ?_
  show OwnEnds _ _ _ _ (T1.setTop (mkF m 18 #[.val (.ref a)] [(.ref a)]))
  obtain ⟨T2, X2, e2, st2⟩ := getF X1 hx hZ hown (host := "") (Or.inl (hw _ (List.mem_of_getElem? (i := 61) rfl))) Via.refl e1 P1 (g := (mkF m 18 #[.val (.ref a)] [(.ref a)])) rfl rfl (hb hby d8_18)
  refine OwnEnds.via st2 ?_
  show OwnEnds _ _ _ _ (T2.setTop (mkF m 21 #[.val (.ref a)] [(.long tk)]))
  obtain ⟨fs, hr, hrun, hended, hW, hsame⟩ := X2.leave (v := some (.long tk)) (fun h => by rw [Bd.returns] at h; cases h)
  refine ⟨_, _, ?_, hrun, hended, _, _, rfl, ?_, ⟨_, rfl⟩, hW, hsame.mono (by decide) (by decide)⟩
  · jvm_step X2.here [X2.here.top, hx, (hb hby d8_21), X2.method', Bd.returns, narrow]
    first | (intro acts; rw [hr _ acts rfl rfl rfl]) | rw [hr _ _ rfl rfl rfl]
    exact Steps.refl _
  · show Q8 Z a pv tk h0 n0 _ T2.heap _
    rw [e2]
    exact ⟨rfl, N0, rfl⟩

theorem own_p {tk : Int64} (h : lcmpW tk (0 : Int64) = (0 : Int32)) : nar .boolean (if lcmpW tk (0 : Int64) = (0 : Int32) then (0 : Int32) else (1 : Int32)) = (0 : Int32) := by rw [if_pos h]; decide
theorem own_q {tk : Int64} (h : ¬ lcmpW tk (0 : Int64) = (0 : Int32)) : ¬ nar .boolean (if lcmpW tk (0 : Int64) = (0 : Int32) then (0 : Int32) else (1 : Int32)) = (0 : Int32) := by rw [if_neg h]; decide
theorem own_r {tk : Int64} (h : ¬ lcmpW tk (0 : Int64) = (0 : Int32)) : ¬ (if lcmpW tk (0 : Int64) = (0 : Int32) then (0 : Int32) else (1 : Int32)) = (0 : Int32) := by rw [if_neg h]; decide

theorem pn_rm0 : plainName "com/example/careful_lock/carefullock/core/LockStatusLastTokenPinLaw" = true := by first | (simp [plainName, overriddenIn]; done) | decide +kernel
theorem pd_3 : parseMethodDescriptor "(Lcom/example/careful_lock/carefullock/core/Grant;JIZ)V" = some ⟨[(.object "com/example/careful_lock/carefullock/core/Grant"), .long, .int, .boolean], none⟩ := by decide +kernel
theorem pd_4 : parseMethodDescriptor "()Z" = some ⟨[], some .boolean⟩ := by decide +kernel
theorem pd_5 : parseMethodDescriptor "()J" = some ⟨[], some .long⟩ := by decide +kernel
theorem pd_6 : parseMethodDescriptor "(Ljava/lang/String;JJLcom/example/careful_lock/carefullock/core/Ending;)V" = some ⟨[(.object "java/lang/String"), .long, .long, (.object "com/example/careful_lock/carefullock/core/Ending")], none⟩ := by decide +kernel
theorem ef_rm0 (m : MethodId) (tk : Int64) (wt : Int32) (fl : Int32) : entryFrame m #[(.long tk), (.int wt), (.int fl)] maxLocals = mkF m 0 #[.val (.long tk), .second, .val (.int wt), .val (.int fl), .unset, .unset, .unset, .unset, .unset] [] := by first | (simp [entryFrame, mkF, argsToLocals, Value.category, maxLocals]; done) | rfl
def Q0 (Z : State) (tk : Int64) (wt : Int32) (fl : Int32) (en : Addr) (em : Addr) (h0 : Heap) (n0 : Nat) (v : Option Value) (h : Heap) (L : List Loc) : Prop := v = some (.int (1 : Int32)) ∧ Fr n0 L
set_option maxRecDepth 65536 in
set_option maxHeartbeats 40000000 in
theorem rm0 (l : Launch) (Z : State) (a0 : Array Value) (hw : ∀ d ∈ tables_1, d.before a0 Z = true) (ws : List Jvm.Cond) (tk : Int64) (wt : Int32) (fl : Int32) (en : Addr) (em : Addr) (h0 : Heap) (n0 : Nat) (Z0 : n0 ≤ h0.size) (O0 : Old Z n0 h0) (OP0 : Sta Z Z.heap "com/example/careful_lock/carefullock/core/Ending" "NONE" "Lcom/example/careful_lock/carefullock/core/Ending;" (.ref en)) (OP1 : Sta Z Z.heap "java/util/OptionalLong" "EMPTY" "Ljava/util/OptionalLong;" (.ref em)) (OP2 : Exa Z Z.heap em "java/util/OptionalLong") (OP3 : Fld Z Z.heap em "java/util/OptionalLong" "isPresent" "Z" (.int (0 : Int32))) (OP4 : Fld Z Z.heap em "java/util/OptionalLong" "value" "J" (.long (0 : Int64))) :
    MetFree l x (head1 (Jvm.Cond.code x code maxLocals ret :: ws) room_1) (fun aa U => aa = #[(.long tk), (.int wt), (.int fl)] ∧ Z.Warmed39 U.vm ∧ U.heap = h0) (fun _ _ _ _ _ => True) (fun _ U o U' => ∃ v L, o = .returned v ∧ Q0 Z tk wt fl en em h0 n0 v U'.heap L ∧ ReturnedEndW U o U' L room_1.cells room_1.slots) := by
  refine MetFree.of_bodySF (plainFor_of_name pn_rm0) hisR ?_
  intro p e s m args below meth c s₁ Bd hml0 hP hK
  obtain ⟨rfl, hZ, hh⟩ := hP
  have hx := Bd.exec
  have hby := Bd.bytes
  have hml : c.maxLocals = 9 := hml0
  have hown : s.vm.findClass "com/example/careful_lock/carefullock/core/LockStatusLastTokenPinLaw" = some m.cls := findClass_of_methodNamed Bd.named
  have hnm := (name_of_methodNamed Bd.named Bd.method).1
  have X0 : Stand p l e room_1 s m #[(.long tk), (.int wt), (.int fl)] below meth c s₁ [] 0 0 := Stand.of_body Bd
  have e0 : s₁.heap = h0 := by rw [← hh, Bd.state]; rfl
  have N0 := Fr.nil n0
  change OwnEnds p.tables e below _ _
  refine OwnEnds.via (fun t k => castTop (ef_rm0 m tk wt fl) k) ?_
  show OwnEnds _ _ _ _ (s₁.setTop (mkF m 0 #[.val (.long tk), .second, .val (.int wt), .val (.int fl), .unset, .unset, .unset, .unset, .unset] []))
  refine OwnEnds.via (fun t k => XS.iloadN X0.here hx rfl (hb hby at_0) rfl k) ?_
  show OwnEnds _ _ _ _ (s₁.setTop (mkF m 1 #[.val (.long tk), .second, .val (.int wt), .val (.int fl), .unset, .unset, .unset, .unset, .unset] [(.int fl)]))
  refine OwnEnds.via (fun t k => XS.iconst X0.here hx rfl (hb hby at_1) k) ?_
  show OwnEnds _ _ _ _ (s₁.setTop (mkF m 2 #[.val (.long tk), .second, .val (.int wt), .val (.int fl), .unset, .unset, .unset, .unset, .unset] [(.int (1 : Int32)), (.int fl)]))
  refine OwnEnds.via (fun t k => XS.iand X0.here hx rfl (hb hby at_2) rfl k) ?_
  show OwnEnds _ _ _ _ (s₁.setTop (mkF m 3 #[.val (.long tk), .second, .val (.int wt), .val (.int fl), .unset, .unset, .unset, .unset, .unset] [(.int (fl &&& (1 : Int32)))]))
  by_cases hc3_1 : (fl &&& (1 : Int32)) = (0 : Int32)
  ·
    refine OwnEnds.via (fun t k => XS.ifYes X0.here hx rfl (pc0 := 3) (pc' := 10) rfl (hb hby at_3) rfl ((if0 _ _).trans (teq hc3_1).1) (by decide) (by decide) k) ?_
    show OwnEnds _ _ _ _ (s₁.setTop (mkF m 10 #[.val (.long tk), .second, .val (.int wt), .val (.int fl), .unset, .unset, .unset, .unset, .unset] []))
    refine OwnEnds.via (fun t k => XS.iconst X0.here hx rfl (hb hby at_10) k) ?_
    show OwnEnds _ _ _ _ (s₁.setTop (mkF m 11 #[.val (.long tk), .second, .val (.int wt), .val (.int fl), .unset, .unset, .unset, .unset, .unset] [(.int (0 : Int32))]))
    refine OwnEnds.via (fun t k => XS.istore X0.here hx rfl (hb hby at_11) rfl (l' := #[.val (.long tk), .second, .val (.int wt), .val (.int fl), .val (.int (0 : Int32)), .unset, .unset, .unset, .unset]) rfl k) ?_
    show OwnEnds _ _ _ _ (s₁.setTop (mkF m 13 #[.val (.long tk), .second, .val (.int wt), .val (.int fl), .val (.int (0 : Int32)), .unset, .unset, .unset, .unset] []))
    refine OwnEnds.via (fun t k => XS.iloadN X0.here hx rfl (hb hby at_13) rfl k) ?_
    show OwnEnds _ _ _ _ (s₁.setTop (mkF m 14 #[.val (.long tk), .second, .val (.int wt), .val (.int fl), .val (.int (0 : Int32)), .unset, .unset, .unset, .unset] [(.int fl)]))
    refine OwnEnds.via (fun t k => XS.iconst X0.here hx rfl (hb hby at_14) k) ?_
    show OwnEnds _ _ _ _ (s₁.setTop (mkF m 15 #[.val (.long tk), .second, .val (.int wt), .val (.int fl), .val (.int (0 : Int32)), .unset, .unset, .unset, .unset] [(.int (2 : Int32)), (.int fl)]))
    refine OwnEnds.via (fun t k => XS.iand X0.here hx rfl (hb hby at_15) rfl k) ?_
    show OwnEnds _ _ _ _ (s₁.setTop (mkF m 16 #[.val (.long tk), .second, .val (.int wt), .val (.int fl), .val (.int (0 : Int32)), .unset, .unset, .unset, .unset] [(.int (fl &&& (2 : Int32)))]))
    refine OwnEnds.cut (fun G => ∀ (T2 : State) (lc2 : List Loc) (X2 : Stand p l e room_1 s m #[(.long tk), (.int wt), (.int fl)] below meth c T2 lc2 0 0) (e2 : T2.heap = h0) (N2 : Fr n0 lc2) (pe : Int32), G (T2.setTop (mkF m 24 #[.val (.long tk), .second, .val (.int wt), .val (.int fl), .val (.int (0 : Int32)), .unset, .unset, .unset, .unset] [(.int pe)]))) ?_ ?_
    · intro T2 lc2 X2 e2 N2 pe
      show OwnEnds _ _ _ _ (T2.setTop (mkF m 24 #[.val (.long tk), .second, .val (.int wt), .val (.int fl), .val (.int (0 : Int32)), .unset, .unset, .unset, .unset] [(.int pe)]))
      refine OwnEnds.via (fun t k => XS.istore X2.here hx rfl (hb hby at_24) rfl (l' := #[.val (.long tk), .second, .val (.int wt), .val (.int fl), .val (.int (0 : Int32)), .val (.int pe), .unset, .unset, .unset]) rfl k) ?_
      show OwnEnds _ _ _ _ (T2.setTop (mkF m 26 #[.val (.long tk), .second, .val (.int wt), .val (.int fl), .val (.int (0 : Int32)), .val (.int pe), .unset, .unset, .unset] []))
      refine OwnEnds.via (fun t k => XS.iload X2.here hx rfl (hb hby at_26) rfl k) ?_
      show OwnEnds _ _ _ _ (T2.setTop (mkF m 28 #[.val (.long tk), .second, .val (.int wt), .val (.int fl), .val (.int (0 : Int32)), .val (.int pe), .unset, .unset, .unset] [(.int (0 : Int32))]))
      refine OwnEnds.via (fun t k => XS.ifYes X2.here hx rfl (pc0 := 28) (pc' := 48) rfl (hb hby at_28) rfl ((if0 _ _).trans (teq (by decide)).1) (by decide) (by decide) k) ?_
      show OwnEnds _ _ _ _ (T2.setTop (mkF m 48 #[.val (.long tk), .second, .val (.int wt), .val (.int fl), .val (.int (0 : Int32)), .val (.int pe), .unset, .unset, .unset] []))
      refine OwnEnds.via (fun t k => XS.aconstNull X2.here hx rfl (hb hby at_48) k) ?_
      show OwnEnds _ _ _ _ (T2.setTop (mkF m 49 #[.val (.long tk), .second, .val (.int wt), .val (.int fl), .val (.int (0 : Int32)), .val (.int pe), .unset, .unset, .unset] [.null]))
      refine OwnEnds.via (fun t k => XS.astore X2.here hx rfl (hb hby at_49) rfl rfl (l' := #[.val (.long tk), .second, .val (.int wt), .val (.int fl), .val (.int (0 : Int32)), .val (.int pe), .val .null, .unset, .unset]) rfl k) ?_
      show OwnEnds _ _ _ _ (T2.setTop (mkF m 51 #[.val (.long tk), .second, .val (.int wt), .val (.int fl), .val (.int (0 : Int32)), .val (.int pe), .val .null, .unset, .unset] []))
      obtain ⟨T3, h3, X3, e3, E3, A3, D3, -, st3⟩ := newO X2 hx hZ hown (hw _ (List.mem_of_getElem? (i := 28) rfl)) (hw _ (List.mem_of_getElem? (i := 29) rfl)) (hw _ (List.mem_of_getElem? (i := 30) rfl)) e2 (g := (mkF m 51 #[.val (.long tk), .second, .val (.int wt), .val (.int fl), .val (.int (0 : Int32)), .val (.int pe), .val .null, .unset, .unset] [])) rfl (hb hby at_51) (by decide) (by decide)
      obtain ⟨b3, g3⟩ : ∃ z, z = h0.size := ⟨_, rfl⟩
      have ne_em_b3 : em ≠ b3 := Nat.ne_of_lt (Nat.lt_of_lt_of_le (OP2.ext O0.2).lt (Nat.le_of_eq g3.symm))
      have ge_b3 : n0 ≤ b3 := Nat.le_trans Z0 (Nat.le_of_eq g3.symm)
      have Z3 : n0 ≤ h3.size := Nat.le_trans Z0 E3.1
      have O3 : Old Z n0 h3 := O0.ext E3
      rw [← g3] at A3 D3 st3
      have F3_holder : Fld Z h3 b3 "com/example/careful_lock/carefullock/core/LockStatus" "holder" "Lcom/example/careful_lock/carefullock/core/Grant;" .null := D3 (Or.inr (hw _ (List.mem_of_getElem? (i := 36) rfl))) (ty := (.object "com/example/careful_lock/carefullock/core/Grant")) (by decide)
      have F3_lastToken : Fld Z h3 b3 "com/example/careful_lock/carefullock/core/LockStatus" "lastToken" "J" (.long (0 : Int64)) := D3 (Or.inr (hw _ (List.mem_of_getElem? (i := 38) rfl))) (ty := .long) (by decide)
      have F3_waiters : Fld Z h3 b3 "com/example/careful_lock/carefullock/core/LockStatus" "waiters" "I" (.int (0 : Int32)) := D3 (Or.inr (hw _ (List.mem_of_getElem? (i := 40) rfl))) (ty := .int) (by decide)
      have F3_expiryPending : Fld Z h3 b3 "com/example/careful_lock/carefullock/core/LockStatus" "expiryPending" "Z" (.int (0 : Int32)) := D3 (Or.inr (hw _ (List.mem_of_getElem? (i := 42) rfl))) (ty := .boolean) (by decide)
      refine OwnEnds.via st3 ?_
      show OwnEnds _ _ _ _ (T3.setTop (mkF m 54 #[.val (.long tk), .second, .val (.int wt), .val (.int fl), .val (.int (0 : Int32)), .val (.int pe), .val .null, .unset, .unset] [(.ref b3)]))
      refine OwnEnds.via (fun t k => XS.dup X3.here hx rfl (hb hby at_54) rfl rfl k) ?_
      show OwnEnds _ _ _ _ (T3.setTop (mkF m 55 #[.val (.long tk), .second, .val (.int wt), .val (.int fl), .val (.int (0 : Int32)), .val (.int pe), .val .null, .unset, .unset] [(.ref b3), (.ref b3)]))
      refine OwnEnds.via (fun t k => XS.aload X3.here hx rfl (hb hby at_55) rfl rfl k) ?_
      show OwnEnds _ _ _ _ (T3.setTop (mkF m 57 #[.val (.long tk), .second, .val (.int wt), .val (.int fl), .val (.int (0 : Int32)), .val (.int pe), .val .null, .unset, .unset] [.null, (.ref b3), (.ref b3)]))
      refine OwnEnds.via (fun t k => XS.lloadN X3.here hx rfl (hb hby at_57) rfl k) ?_
      show OwnEnds _ _ _ _ (T3.setTop (mkF m 58 #[.val (.long tk), .second, .val (.int wt), .val (.int fl), .val (.int (0 : Int32)), .val (.int pe), .val .null, .unset, .unset] [(.long tk), .null, (.ref b3), (.ref b3)]))
      refine OwnEnds.via (fun t k => XS.iloadN X3.here hx rfl (hb hby at_58) rfl k) ?_
      show OwnEnds _ _ _ _ (T3.setTop (mkF m 59 #[.val (.long tk), .second, .val (.int wt), .val (.int fl), .val (.int (0 : Int32)), .val (.int pe), .val .null, .unset, .unset] [(.int wt), (.long tk), .null, (.ref b3), (.ref b3)]))
      refine OwnEnds.via (fun t k => XS.iload X3.here hx rfl (hb hby at_59) rfl k) ?_
      show OwnEnds _ _ _ _ (T3.setTop (mkF m 61 #[.val (.long tk), .second, .val (.int wt), .val (.int fl), .val (.int (0 : Int32)), .val (.int pe), .val .null, .unset, .unset] [(.int pe), (.int wt), (.long tk), .null, (.ref b3), (.ref b3)]))
      obtain ⟨_, _, ⟨T4, L4, k4, n4⟩, -, X4, ⟨Lc4, hQ4, l4, y4, z4⟩, st4⟩ := X3.specialBack hx (y := (⟨"com/example/careful_lock/carefullock/core/LockStatus", "<init>", "(Lcom/example/careful_lock/carefullock/core/Grant;JIZ)V"⟩ : MethodName)) rfl hown (mvT hZ (hw _ (List.mem_of_getElem? (i := 31) rfl))) (mvT hZ (hw _ (List.mem_of_getElem? (i := 32) rfl))) (mvT hZ (hw _ (List.mem_of_getElem? (i := 33) rfl))) (by decide) (backOf (W := 1) (rmLN l Z a0 hw [] b3 tk wt pe h3 n0 Z3 A3 F3_holder F3_lastToken F3_waiters F3_expiryPending ge_b3) hZ (hw _ (List.mem_of_getElem? (i := 33) rfl)) (hw _ (List.mem_of_getElem? (i := 30) rfl)) (by decide) (by decide)) (g := (mkF m 61 #[.val (.long tk), .second, .val (.int wt), .val (.int fl), .val (.int (0 : Int32)), .val (.int pe), .val .null, .unset, .unset] [(.int pe), (.int wt), (.long tk), .null, (.ref b3), (.ref b3)])) rfl (by rw [hml]; rfl) (Steps.refl _) (a := b3) (argsL := [.null, (.long tk), (.int wt), (.int pe)]) (rest := [(.ref b3)]) (lenOf pd_3 rfl) rfl (by show 2 * 0 + _ ≤ _; exact Nat.le_of_eq rfl) (hb hby at_61) (fun _ _ => ⟨rfl, e3, (by decide : 1 + 0 ≤ _), (by decide : 4 + 0 ≤ _)⟩)
      dsimp only [Pt.U, Pt.locs, Pt.cells, Pt.slots] at X4 l4 y4 z4 st4 hQ4
      subst l4 y4 z4
      obtain ⟨h4, e4⟩ : ∃ z, T4.heap = z := ⟨_, rfl⟩
      rw [e4] at hQ4
      obtain ⟨rfl, Nq4, Kq4, q4_0, q4_1⟩ := hQ4
      have Z4 : n0 ≤ h4.size := Nat.le_trans Z3 Kq4.1
      have O4 : Old Z n0 h4 := O3.keep Kq4 (allS ge_b3 all0)
      have N4 := Fr.app N2 Nq4
      refine OwnEnds.via (fun t k => st4.trans k) ?_
      show OwnEnds _ _ _ _ (T4.setTop (mkF m 64 #[.val (.long tk), .second, .val (.int wt), .val (.int fl), .val (.int (0 : Int32)), .val (.int pe), .val .null, .unset, .unset] [(.ref b3)]))
      refine OwnEnds.via (fun t k => XS.astore X4.here hx rfl (hb hby at_64) rfl rfl (l' := #[.val (.long tk), .second, .val (.int wt), .val (.int fl), .val (.int (0 : Int32)), .val (.int pe), .val .null, .val (.ref b3), .unset]) rfl k) ?_
      show OwnEnds _ _ _ _ (T4.setTop (mkF m 66 #[.val (.long tk), .second, .val (.int wt), .val (.int fl), .val (.int (0 : Int32)), .val (.int pe), .val .null, .val (.ref b3), .unset] []))
      refine OwnEnds.via (fun t k => XS.aload X4.here hx rfl (hb hby at_66) rfl rfl k) ?_
      show OwnEnds _ _ _ _ (T4.setTop (mkF m 68 #[.val (.long tk), .second, .val (.int wt), .val (.int fl), .val (.int (0 : Int32)), .val (.int pe), .val .null, .val (.ref b3), .unset] [(.ref b3)]))
      obtain ⟨cq5, kq5, q5a, q5b, q5c⟩ := isOf hZ e4 q4_0
      obtain ⟨_, _, ⟨T5, L5, k5, n5⟩, -, X5, ⟨Lc5, hQ5, l5, y5, z5⟩, st5⟩ := X4.virtualBack hx (y := (⟨"com/example/careful_lock/carefullock/core/LockStatus", "lastToken", "()Ljava/util/OptionalLong;"⟩ : MethodName)) (z := (⟨"com/example/careful_lock/carefullock/core/LockStatus", "lastToken", "()Ljava/util/OptionalLong;"⟩ : MethodName)) hown (mvT hZ (hw _ (List.mem_of_getElem? (i := 43) rfl))) (mvT hZ (hw _ (List.mem_of_getElem? (i := 44) rfl))) (notFace_of_selects (args := #[]) (mvT hZ (hw _ (List.mem_of_getElem? (i := 46) rfl)))) (mvT hZ (hw _ (List.mem_of_getElem? (i := 46) rfl))) (mvT hZ (hw _ (List.mem_of_getElem? (i := 45) rfl))) (by decide) (backOf (W := 0) (rm4 l Z a0 hw [] b3 tk em h4 n0 Z4 O4 q4_1 OP1 OP2 OP3 OP4) hZ (hw _ (List.mem_of_getElem? (i := 47) rfl)) (hw _ (List.mem_of_getElem? (i := 30) rfl)) (by decide) (by decide)) q5a q5c (g := (mkF m 68 #[.val (.long tk), .second, .val (.int wt), .val (.int fl), .val (.int (0 : Int32)), .val (.int pe), .val .null, .val (.ref b3), .unset] [(.ref b3)])) rfl (by rw [hml]; rfl) (Steps.refl _) (argsL := []) (rest := []) (lenOf pd_1 rfl) rfl (by show 2 * 0 + _ ≤ _; exact Nat.le_of_eq rfl) (hb hby at_68) (fun _ _ => ⟨rfl, e4, (by decide : 1 + 1 ≤ _), (by decide : 4 + 2 ≤ _)⟩)
      dsimp only [Pt.U, Pt.locs, Pt.cells, Pt.slots] at X5 l5 y5 z5 st5 hQ5
      subst l5 y5 z5
      obtain ⟨h5, e5⟩ : ∃ z, T5.heap = z := ⟨_, rfl⟩
      rw [e5] at hQ5
      obtain ⟨b_5, rfl, Nq5, Kq5, q5_0, q5_1, q5_2⟩ := hQ5
      have Z5 : n0 ≤ h5.size := Nat.le_trans Z4 Kq5.1
      have O5 : Old Z n0 h5 := O4.keep Kq5 all0
      have N5 := Fr.app N4 Nq5
      refine OwnEnds.via (fun t k => st5.trans k) ?_
      show OwnEnds _ _ _ _ (T5.setTop (mkF m 71 #[.val (.long tk), .second, .val (.int wt), .val (.int fl), .val (.int (0 : Int32)), .val (.int pe), .val .null, .val (.ref b3), .unset] [(.ref b_5)]))
      refine OwnEnds.via (fun t k => XS.astore X5.here hx rfl (hb hby at_71) rfl rfl (l' := #[.val (.long tk), .second, .val (.int wt), .val (.int fl), .val (.int (0 : Int32)), .val (.int pe), .val .null, .val (.ref b3), .val (.ref b_5)]) rfl k) ?_
      show OwnEnds _ _ _ _ (T5.setTop (mkF m 73 #[.val (.long tk), .second, .val (.int wt), .val (.int fl), .val (.int (0 : Int32)), .val (.int pe), .val .null, .val (.ref b3), .val (.ref b_5)] []))
      refine OwnEnds.via (fun t k => XS.lloadN X5.here hx rfl (hb hby at_73) rfl k) ?_
      show OwnEnds _ _ _ _ (T5.setTop (mkF m 74 #[.val (.long tk), .second, .val (.int wt), .val (.int fl), .val (.int (0 : Int32)), .val (.int pe), .val .null, .val (.ref b3), .val (.ref b_5)] [(.long tk)]))
      refine OwnEnds.via (fun t k => XS.lconst X5.here hx rfl (hb hby at_74) k) ?_
      show OwnEnds _ _ _ _ (T5.setTop (mkF m 75 #[.val (.long tk), .second, .val (.int wt), .val (.int fl), .val (.int (0 : Int32)), .val (.int pe), .val .null, .val (.ref b3), .val (.ref b_5)] [(.long (0 : Int64)), (.long tk)]))
      refine OwnEnds.via (fun t k => XS.lcmp X5.here hx rfl (hb hby at_75) rfl k) ?_
      show OwnEnds _ _ _ _ (T5.setTop (mkF m 76 #[.val (.long tk), .second, .val (.int wt), .val (.int fl), .val (.int (0 : Int32)), .val (.int pe), .val .null, .val (.ref b3), .val (.ref b_5)] [(.int (lcmpW tk (0 : Int64)))]))
      by_cases hc76_6 : (lcmpW tk (0 : Int64)) = (0 : Int32)
      ·
        refine OwnEnds.via (fun t k => XS.ifNo X5.here hx rfl (hb hby at_76) rfl ((if0 _ _).trans (teq hc76_6).2) k) ?_
        show OwnEnds _ _ _ _ (T5.setTop (mkF m 79 #[.val (.long tk), .second, .val (.int wt), .val (.int fl), .val (.int (0 : Int32)), .val (.int pe), .val .null, .val (.ref b3), .val (.ref b_5)] []))
        refine OwnEnds.via (fun t k => XS.aload X5.here hx rfl (hb hby at_79) rfl rfl k) ?_
        show OwnEnds _ _ _ _ (T5.setTop (mkF m 81 #[.val (.long tk), .second, .val (.int wt), .val (.int fl), .val (.int (0 : Int32)), .val (.int pe), .val .null, .val (.ref b3), .val (.ref b_5)] [(.ref b_5)]))
        obtain ⟨cq7, kq7, q7a, q7b, q7c⟩ := isOf hZ e5 q5_0
        obtain ⟨_, _, ⟨T7, L7, k7, n7⟩, -, X7, ⟨Lc7, hQ7, l7, y7, z7⟩, st7⟩ := X5.virtualBack hx (y := (⟨"java/util/OptionalLong", "isPresent", "()Z"⟩ : MethodName)) (z := (⟨"java/util/OptionalLong", "isPresent", "()Z"⟩ : MethodName)) hown (mvT hZ (hw _ (List.mem_of_getElem? (i := 63) rfl))) (mvT hZ (hw _ (List.mem_of_getElem? (i := 64) rfl))) (notFace_of_selects (args := #[]) (mvT hZ (hw _ (List.mem_of_getElem? (i := 66) rfl)))) (mvT hZ (hw _ (List.mem_of_getElem? (i := 66) rfl))) (mvT hZ (hw _ (List.mem_of_getElem? (i := 65) rfl))) (by decide) (backOf (W := 0) (rm7 l Z a0 hw [] b_5 (if lcmpW tk (0 : Int64) = (0 : Int32) then (0 : Int32) else (1 : Int32)) h5 n0 Z5 q5_1) hZ (hw _ (List.mem_of_getElem? (i := 67) rfl)) (hw _ (List.mem_of_getElem? (i := 50) rfl)) (by decide) (by decide)) q7a q7c (g := (mkF m 81 #[.val (.long tk), .second, .val (.int wt), .val (.int fl), .val (.int (0 : Int32)), .val (.int pe), .val .null, .val (.ref b3), .val (.ref b_5)] [(.ref b_5)])) rfl (by rw [hml]; rfl) (Steps.refl _) (argsL := []) (rest := []) (lenOf pd_4 rfl) rfl (by show 2 * 0 + _ ≤ _; exact Nat.le_of_eq rfl) (hb hby at_81) (fun _ _ => ⟨rfl, e5, (by decide : 2 + 0 ≤ _), (by decide : 6 + 0 ≤ _)⟩)
        dsimp only [Pt.U, Pt.locs, Pt.cells, Pt.slots] at X7 l7 y7 z7 st7 hQ7
        subst l7 y7 z7
        obtain ⟨rfl, Nq7, e7⟩ := hQ7
        have N7 := Fr.app N5 Nq7
        refine OwnEnds.via (fun t k => st7.trans k) ?_
        show OwnEnds _ _ _ _ (T7.setTop (mkF m 84 #[.val (.long tk), .second, .val (.int wt), .val (.int fl), .val (.int (0 : Int32)), .val (.int pe), .val .null, .val (.ref b3), .val (.ref b_5)] [(.int (nar .boolean (if lcmpW tk (0 : Int64) = (0 : Int32) then (0 : Int32) else (1 : Int32))))]))
        refine OwnEnds.via (fun t k => XS.ifNo X7.here hx rfl (hb hby at_84) rfl ((if0 _ _).trans (teq (own_p hc76_6)).2) k) ?_
        show OwnEnds _ _ _ _ (T7.setTop (mkF m 87 #[.val (.long tk), .second, .val (.int wt), .val (.int fl), .val (.int (0 : Int32)), .val (.int pe), .val .null, .val (.ref b3), .val (.ref b_5)] []))
        refine OwnEnds.via (fun t k => XS.iconst X7.here hx rfl (hb hby at_87) k) ?_
        show OwnEnds _ _ _ _ (T7.setTop (mkF m 88 #[.val (.long tk), .second, .val (.int wt), .val (.int fl), .val (.int (0 : Int32)), .val (.int pe), .val .null, .val (.ref b3), .val (.ref b_5)] [(.int (1 : Int32))]))
        refine OwnEnds.via (fun t k => XS.goto X7.here hx rfl (pc0 := 88) (pc' := 92) rfl (hb hby at_88) (by decide) (by decide) k) ?_
        show OwnEnds _ _ _ _ (T7.setTop (mkF m 92 #[.val (.long tk), .second, .val (.int wt), .val (.int fl), .val (.int (0 : Int32)), .val (.int pe), .val .null, .val (.ref b3), .val (.ref b_5)] [(.int (1 : Int32))]))
        obtain ⟨fs, hr, hrun, hended, hW, hsame⟩ := X7.leave (v := some (.int (1 : Int32))) (fun h => by rw [Bd.returns] at h; cases h)
        have hend := ReturnedEndW.of_narrow (o := .returned (some (.int (1 : Int32)))) ⟨_, rfl⟩ hW hsame
        refine ⟨_, _, ?_, hrun, hended, _, _, rfl, ?_, hend.1, hend.2.1, hend.2.2.1, hend.2.2.2.mono (by decide) (by decide)⟩
        · exact retN X7 hx (t := .boolean) Bd.returns (by simp) (hb hby at_92) hr
        · show Q0 Z tk wt fl en em h0 n0 _ T7.heap _
          rw [e7]
          exact ⟨rfl, N7⟩
      ·
        refine OwnEnds.via (fun t k => XS.ifYes X5.here hx rfl (pc0 := 76) (pc' := 93) rfl (hb hby at_76) rfl ((if0 _ _).trans (feq hc76_6).2) (by decide) (by decide) k) ?_
        show OwnEnds _ _ _ _ (T5.setTop (mkF m 93 #[.val (.long tk), .second, .val (.int wt), .val (.int fl), .val (.int (0 : Int32)), .val (.int pe), .val .null, .val (.ref b3), .val (.ref b_5)] []))
        refine OwnEnds.via (fun t k => XS.aload X5.here hx rfl (hb hby at_93) rfl rfl k) ?_
        show OwnEnds _ _ _ _ (T5.setTop (mkF m 95 #[.val (.long tk), .second, .val (.int wt), .val (.int fl), .val (.int (0 : Int32)), .val (.int pe), .val .null, .val (.ref b3), .val (.ref b_5)] [(.ref b_5)]))
        obtain ⟨cq8, kq8, q8a, q8b, q8c⟩ := isOf hZ e5 q5_0
        obtain ⟨_, _, ⟨T8, L8, k8, n8⟩, -, X8, ⟨Lc8, hQ8, l8, y8, z8⟩, st8⟩ := X5.virtualBack hx (y := (⟨"java/util/OptionalLong", "isPresent", "()Z"⟩ : MethodName)) (z := (⟨"java/util/OptionalLong", "isPresent", "()Z"⟩ : MethodName)) hown (mvT hZ (hw _ (List.mem_of_getElem? (i := 63) rfl))) (mvT hZ (hw _ (List.mem_of_getElem? (i := 64) rfl))) (notFace_of_selects (args := #[]) (mvT hZ (hw _ (List.mem_of_getElem? (i := 66) rfl)))) (mvT hZ (hw _ (List.mem_of_getElem? (i := 66) rfl))) (mvT hZ (hw _ (List.mem_of_getElem? (i := 65) rfl))) (by decide) (backOf (W := 0) (rm7 l Z a0 hw [] b_5 (if lcmpW tk (0 : Int64) = (0 : Int32) then (0 : Int32) else (1 : Int32)) h5 n0 Z5 q5_1) hZ (hw _ (List.mem_of_getElem? (i := 67) rfl)) (hw _ (List.mem_of_getElem? (i := 50) rfl)) (by decide) (by decide)) q8a q8c (g := (mkF m 95 #[.val (.long tk), .second, .val (.int wt), .val (.int fl), .val (.int (0 : Int32)), .val (.int pe), .val .null, .val (.ref b3), .val (.ref b_5)] [(.ref b_5)])) rfl (by rw [hml]; rfl) (Steps.refl _) (argsL := []) (rest := []) (lenOf pd_4 rfl) rfl (by show 2 * 0 + _ ≤ _; exact Nat.le_of_eq rfl) (hb hby at_95) (fun _ _ => ⟨rfl, e5, (by decide : 2 + 0 ≤ _), (by decide : 6 + 0 ≤ _)⟩)
        dsimp only [Pt.U, Pt.locs, Pt.cells, Pt.slots] at X8 l8 y8 z8 st8 hQ8
        subst l8 y8 z8
        obtain ⟨rfl, Nq8, e8⟩ := hQ8
        have N8 := Fr.app N5 Nq8
        refine OwnEnds.via (fun t k => st8.trans k) ?_
        show OwnEnds _ _ _ _ (T8.setTop (mkF m 98 #[.val (.long tk), .second, .val (.int wt), .val (.int fl), .val (.int (0 : Int32)), .val (.int pe), .val .null, .val (.ref b3), .val (.ref b_5)] [(.int (nar .boolean (if lcmpW tk (0 : Int64) = (0 : Int32) then (0 : Int32) else (1 : Int32))))]))
        refine OwnEnds.via (fun t k => XS.ifNo X8.here hx rfl (hb hby at_98) rfl ((if0 _ _).trans (feq (own_q hc76_6)).1) k) ?_
        show OwnEnds _ _ _ _ (T8.setTop (mkF m 101 #[.val (.long tk), .second, .val (.int wt), .val (.int fl), .val (.int (0 : Int32)), .val (.int pe), .val .null, .val (.ref b3), .val (.ref b_5)] []))
        refine OwnEnds.via (fun t k => XS.aload X8.here hx rfl (hb hby at_101) rfl rfl k) ?_
        show OwnEnds _ _ _ _ (T8.setTop (mkF m 103 #[.val (.long tk), .second, .val (.int wt), .val (.int fl), .val (.int (0 : Int32)), .val (.int pe), .val .null, .val (.ref b3), .val (.ref b_5)] [(.ref b_5)]))
        obtain ⟨cq9, kq9, q9a, q9b, q9c⟩ := isOf hZ e8 q5_0
        obtain ⟨_, _, ⟨T9, L9, k9, n9⟩, -, X9, ⟨Lc9, hQ9, l9, y9, z9⟩, st9⟩ := X8.virtualBack hx (y := (⟨"java/util/OptionalLong", "getAsLong", "()J"⟩ : MethodName)) (z := (⟨"java/util/OptionalLong", "getAsLong", "()J"⟩ : MethodName)) hown (mvT hZ (hw _ (List.mem_of_getElem? (i := 68) rfl))) (mvT hZ (hw _ (List.mem_of_getElem? (i := 69) rfl))) (notFace_of_selects (args := #[]) (mvT hZ (hw _ (List.mem_of_getElem? (i := 71) rfl)))) (mvT hZ (hw _ (List.mem_of_getElem? (i := 71) rfl))) (mvT hZ (hw _ (List.mem_of_getElem? (i := 70) rfl))) (by decide) (backOf (W := 0) (rm8 l Z a0 hw [] b_5 (if lcmpW tk (0 : Int64) = (0 : Int32) then (0 : Int32) else (1 : Int32)) tk h5 n0 Z5 q5_1 q5_2 (own_r hc76_6)) hZ (hw _ (List.mem_of_getElem? (i := 72) rfl)) (hw _ (List.mem_of_getElem? (i := 50) rfl)) (by decide) (by decide)) q9a q9c (g := (mkF m 103 #[.val (.long tk), .second, .val (.int wt), .val (.int fl), .val (.int (0 : Int32)), .val (.int pe), .val .null, .val (.ref b3), .val (.ref b_5)] [(.ref b_5)])) rfl (by rw [hml]; rfl) (Steps.refl _) (argsL := []) (rest := []) (lenOf pd_5 rfl) rfl (by show 2 * 0 + _ ≤ _; exact Nat.le_of_eq rfl) (hb hby at_103) (fun _ _ => ⟨rfl, e8, (by decide : 2 + 0 ≤ _), (by decide : 6 + 0 ≤ _)⟩)
        dsimp only [Pt.U, Pt.locs, Pt.cells, Pt.slots] at X9 l9 y9 z9 st9 hQ9
        subst l9 y9 z9
        obtain ⟨rfl, Nq9, e9⟩ := hQ9
        have N9 := Fr.app N8 Nq9
        refine OwnEnds.via (fun t k => st9.trans k) ?_
        show OwnEnds _ _ _ _ (T9.setTop (mkF m 106 #[.val (.long tk), .second, .val (.int wt), .val (.int fl), .val (.int (0 : Int32)), .val (.int pe), .val .null, .val (.ref b3), .val (.ref b_5)] [(.long tk)]))
        refine OwnEnds.via (fun t k => XS.lloadN X9.here hx rfl (hb hby at_106) rfl k) ?_
        show OwnEnds _ _ _ _ (T9.setTop (mkF m 107 #[.val (.long tk), .second, .val (.int wt), .val (.int fl), .val (.int (0 : Int32)), .val (.int pe), .val .null, .val (.ref b3), .val (.ref b_5)] [(.long tk), (.long tk)]))
        refine OwnEnds.via (fun t k => XS.lcmp X9.here hx rfl (hb hby at_107) rfl k) ?_
        show OwnEnds _ _ _ _ (T9.setTop (mkF m 108 #[.val (.long tk), .second, .val (.int wt), .val (.int fl), .val (.int (0 : Int32)), .val (.int pe), .val .null, .val (.ref b3), .val (.ref b_5)] [(.int (lcmpW tk tk))]))
        refine OwnEnds.via (fun t k => XS.ifNo X9.here hx rfl (hb hby at_108) rfl ((if0 _ _).trans (teq ((lw_eq _ _).mpr rfl)).2) k) ?_
        show OwnEnds _ _ _ _ (T9.setTop (mkF m 111 #[.val (.long tk), .second, .val (.int wt), .val (.int fl), .val (.int (0 : Int32)), .val (.int pe), .val .null, .val (.ref b3), .val (.ref b_5)] []))
        refine OwnEnds.via (fun t k => XS.iconst X9.here hx rfl (hb hby at_111) k) ?_
        show OwnEnds _ _ _ _ (T9.setTop (mkF m 112 #[.val (.long tk), .second, .val (.int wt), .val (.int fl), .val (.int (0 : Int32)), .val (.int pe), .val .null, .val (.ref b3), .val (.ref b_5)] [(.int (1 : Int32))]))
        refine OwnEnds.via (fun t k => XS.goto X9.here hx rfl (pc0 := 112) (pc' := 116) rfl (hb hby at_112) (by decide) (by decide) k) ?_
        show OwnEnds _ _ _ _ (T9.setTop (mkF m 116 #[.val (.long tk), .second, .val (.int wt), .val (.int fl), .val (.int (0 : Int32)), .val (.int pe), .val .null, .val (.ref b3), .val (.ref b_5)] [(.int (1 : Int32))]))
        obtain ⟨fs, hr, hrun, hended, hW, hsame⟩ := X9.leave (v := some (.int (1 : Int32))) (fun h => by rw [Bd.returns] at h; cases h)
        have hend := ReturnedEndW.of_narrow (o := .returned (some (.int (1 : Int32)))) ⟨_, rfl⟩ hW hsame
        refine ⟨_, _, ?_, hrun, hended, _, _, rfl, ?_, hend.1, hend.2.1, hend.2.2.1, hend.2.2.2.mono (by decide) (by decide)⟩
        · exact retN X9 hx (t := .boolean) Bd.returns (by simp) (hb hby at_116) hr
        · show Q0 Z tk wt fl en em h0 n0 _ T9.heap _
          rw [e9]
          exact ⟨rfl, N9⟩
    intro J2
    by_cases hc16_10 : (fl &&& (2 : Int32)) = (0 : Int32)
    ·
      refine OwnEnds.via (fun t k => XS.ifYes X0.here hx rfl (pc0 := 16) (pc' := 23) rfl (hb hby at_16) rfl ((if0 _ _).trans (teq hc16_10).1) (by decide) (by decide) k) ?_
      show OwnEnds _ _ _ _ (s₁.setTop (mkF m 23 #[.val (.long tk), .second, .val (.int wt), .val (.int fl), .val (.int (0 : Int32)), .unset, .unset, .unset, .unset] []))
      refine OwnEnds.via (fun t k => XS.iconst X0.here hx rfl (hb hby at_23) k) ?_
      exact J2 _ _ X0 e0 N0 (0 : Int32)
    ·
      refine OwnEnds.via (fun t k => XS.ifNo X0.here hx rfl (hb hby at_16) rfl ((if0 _ _).trans (feq hc16_10).1) k) ?_
      show OwnEnds _ _ _ _ (s₁.setTop (mkF m 19 #[.val (.long tk), .second, .val (.int wt), .val (.int fl), .val (.int (0 : Int32)), .unset, .unset, .unset, .unset] []))
      refine OwnEnds.via (fun t k => XS.iconst X0.here hx rfl (hb hby at_19) k) ?_
      show OwnEnds _ _ _ _ (s₁.setTop (mkF m 20 #[.val (.long tk), .second, .val (.int wt), .val (.int fl), .val (.int (0 : Int32)), .unset, .unset, .unset, .unset] [(.int (1 : Int32))]))
      refine OwnEnds.via (fun t k => XS.goto X0.here hx rfl (pc0 := 20) (pc' := 24) rfl (hb hby at_20) (by decide) (by decide) k) ?_
      exact J2 _ _ X0 e0 N0 (1 : Int32)
  ·
    refine OwnEnds.via (fun t k => XS.ifNo X0.here hx rfl (hb hby at_3) rfl ((if0 _ _).trans (feq hc3_1).1) k) ?_
    show OwnEnds _ _ _ _ (s₁.setTop (mkF m 6 #[.val (.long tk), .second, .val (.int wt), .val (.int fl), .unset, .unset, .unset, .unset, .unset] []))
    refine OwnEnds.via (fun t k => XS.iconst X0.here hx rfl (hb hby at_6) k) ?_
    show OwnEnds _ _ _ _ (s₁.setTop (mkF m 7 #[.val (.long tk), .second, .val (.int wt), .val (.int fl), .unset, .unset, .unset, .unset, .unset] [(.int (1 : Int32))]))
    refine OwnEnds.via (fun t k => XS.goto X0.here hx rfl (pc0 := 7) (pc' := 11) rfl (hb hby at_7) (by decide) (by decide) k) ?_
    show OwnEnds _ _ _ _ (s₁.setTop (mkF m 11 #[.val (.long tk), .second, .val (.int wt), .val (.int fl), .unset, .unset, .unset, .unset, .unset] [(.int (1 : Int32))]))
    refine OwnEnds.via (fun t k => XS.istore X0.here hx rfl (hb hby at_11) rfl (l' := #[.val (.long tk), .second, .val (.int wt), .val (.int fl), .val (.int (1 : Int32)), .unset, .unset, .unset, .unset]) rfl k) ?_
    show OwnEnds _ _ _ _ (s₁.setTop (mkF m 13 #[.val (.long tk), .second, .val (.int wt), .val (.int fl), .val (.int (1 : Int32)), .unset, .unset, .unset, .unset] []))
    refine OwnEnds.via (fun t k => XS.iloadN X0.here hx rfl (hb hby at_13) rfl k) ?_
    show OwnEnds _ _ _ _ (s₁.setTop (mkF m 14 #[.val (.long tk), .second, .val (.int wt), .val (.int fl), .val (.int (1 : Int32)), .unset, .unset, .unset, .unset] [(.int fl)]))
    refine OwnEnds.via (fun t k => XS.iconst X0.here hx rfl (hb hby at_14) k) ?_
    show OwnEnds _ _ _ _ (s₁.setTop (mkF m 15 #[.val (.long tk), .second, .val (.int wt), .val (.int fl), .val (.int (1 : Int32)), .unset, .unset, .unset, .unset] [(.int (2 : Int32)), (.int fl)]))
    refine OwnEnds.via (fun t k => XS.iand X0.here hx rfl (hb hby at_15) rfl k) ?_
    show OwnEnds _ _ _ _ (s₁.setTop (mkF m 16 #[.val (.long tk), .second, .val (.int wt), .val (.int fl), .val (.int (1 : Int32)), .unset, .unset, .unset, .unset] [(.int (fl &&& (2 : Int32)))]))
    refine OwnEnds.cut (fun G => ∀ (T11 : State) (lc11 : List Loc) (X11 : Stand p l e room_1 s m #[(.long tk), (.int wt), (.int fl)] below meth c T11 lc11 0 0) (e11 : T11.heap = h0) (N11 : Fr n0 lc11) (pe : Int32), G (T11.setTop (mkF m 24 #[.val (.long tk), .second, .val (.int wt), .val (.int fl), .val (.int (1 : Int32)), .unset, .unset, .unset, .unset] [(.int pe)]))) ?_ ?_
    · intro T11 lc11 X11 e11 N11 pe
      show OwnEnds _ _ _ _ (T11.setTop (mkF m 24 #[.val (.long tk), .second, .val (.int wt), .val (.int fl), .val (.int (1 : Int32)), .unset, .unset, .unset, .unset] [(.int pe)]))
      refine OwnEnds.via (fun t k => XS.istore X11.here hx rfl (hb hby at_24) rfl (l' := #[.val (.long tk), .second, .val (.int wt), .val (.int fl), .val (.int (1 : Int32)), .val (.int pe), .unset, .unset, .unset]) rfl k) ?_
      show OwnEnds _ _ _ _ (T11.setTop (mkF m 26 #[.val (.long tk), .second, .val (.int wt), .val (.int fl), .val (.int (1 : Int32)), .val (.int pe), .unset, .unset, .unset] []))
      refine OwnEnds.via (fun t k => XS.iload X11.here hx rfl (hb hby at_26) rfl k) ?_
      show OwnEnds _ _ _ _ (T11.setTop (mkF m 28 #[.val (.long tk), .second, .val (.int wt), .val (.int fl), .val (.int (1 : Int32)), .val (.int pe), .unset, .unset, .unset] [(.int (1 : Int32))]))
      refine OwnEnds.via (fun t k => XS.ifNo X11.here hx rfl (hb hby at_28) rfl ((if0 _ _).trans (feq (by decide)).1) k) ?_
      show OwnEnds _ _ _ _ (T11.setTop (mkF m 31 #[.val (.long tk), .second, .val (.int wt), .val (.int fl), .val (.int (1 : Int32)), .val (.int pe), .unset, .unset, .unset] []))
      obtain ⟨T12, h12, X12, e12, E12, A12, D12, -, st12⟩ := newO X11 hx hZ hown (hw _ (List.mem_of_getElem? (i := 0) rfl)) (hw _ (List.mem_of_getElem? (i := 1) rfl)) (hw _ (List.mem_of_getElem? (i := 2) rfl)) e11 (g := (mkF m 31 #[.val (.long tk), .second, .val (.int wt), .val (.int fl), .val (.int (1 : Int32)), .val (.int pe), .unset, .unset, .unset] [])) rfl (hb hby at_31) (by decide) (by decide)
      obtain ⟨b12, g12⟩ : ∃ z, z = h0.size := ⟨_, rfl⟩
      have ne_em_b12 : em ≠ b12 := Nat.ne_of_lt (Nat.lt_of_lt_of_le (OP2.ext O0.2).lt (Nat.le_of_eq g12.symm))
      have ge_b12 : n0 ≤ b12 := Nat.le_trans Z0 (Nat.le_of_eq g12.symm)
      have Z12 : n0 ≤ h12.size := Nat.le_trans Z0 E12.1
      have O12 : Old Z n0 h12 := O0.ext E12
      rw [← g12] at A12 D12 st12
      have F12_owner : Fld Z h12 b12 "com/example/careful_lock/carefullock/core/Grant" "owner" "Ljava/lang/String;" .null := D12 (Or.inr (hw _ (List.mem_of_getElem? (i := 21) rfl))) (ty := (.object "java/lang/String")) (by decide)
      have F12_token : Fld Z h12 b12 "com/example/careful_lock/carefullock/core/Grant" "token" "J" (.long (0 : Int64)) := D12 (Or.inr (hw _ (List.mem_of_getElem? (i := 23) rfl))) (ty := .long) (by decide)
      have F12_ttlMs : Fld Z h12 b12 "com/example/careful_lock/carefullock/core/Grant" "ttlMs" "J" (.long (0 : Int64)) := D12 (Or.inr (hw _ (List.mem_of_getElem? (i := 25) rfl))) (ty := .long) (by decide)
      have F12_previous : Fld Z h12 b12 "com/example/careful_lock/carefullock/core/Grant" "previous" "Lcom/example/careful_lock/carefullock/core/Ending;" .null := D12 (Or.inr (hw _ (List.mem_of_getElem? (i := 27) rfl))) (ty := (.object "com/example/careful_lock/carefullock/core/Ending")) (by decide)
      refine OwnEnds.via st12 ?_
      show OwnEnds _ _ _ _ (T12.setTop (mkF m 34 #[.val (.long tk), .second, .val (.int wt), .val (.int fl), .val (.int (1 : Int32)), .val (.int pe), .unset, .unset, .unset] [(.ref b12)]))
      refine OwnEnds.via (fun t k => XS.dup X12.here hx rfl (hb hby at_34) rfl rfl k) ?_
      show OwnEnds _ _ _ _ (T12.setTop (mkF m 35 #[.val (.long tk), .second, .val (.int wt), .val (.int fl), .val (.int (1 : Int32)), .val (.int pe), .unset, .unset, .unset] [(.ref b12), (.ref b12)]))
      obtain ⟨a13, T13, h13, k13, X13, e13, E13, hS13, HK13, hZ13, hown13, st13⟩ := ldcS (s := s) (vm0 := s.vm) X12 hx hZ hown (hw _ (List.mem_of_getElem? (i := 3) rfl)) (by intro d hd; simp only [Bundle.stringAtoms, Bundle.sN, List.mem_cons, List.not_mem_nil, or_false] at hd; rcases hd with rfl | rfl | rfl | rfl | rfl | rfl | rfl <;> first | exact hw _ (List.mem_of_getElem? (i := 4) rfl) | exact hw _ (List.mem_of_getElem? (i := 5) rfl) | exact hw _ (List.mem_of_getElem? (i := 6) rfl) | exact hw _ (List.mem_of_getElem? (i := 7) rfl) | exact hw _ (List.mem_of_getElem? (i := 8) rfl) | exact hw _ (List.mem_of_getElem? (i := 9) rfl) | exact hw _ (List.mem_of_getElem? (i := 10) rfl)) e12 ((State.WarmedH.refl s).since 0) (Nat.zero_le _) (g := (mkF m 35 #[.val (.long tk), .second, .val (.int wt), .val (.int fl), .val (.int (1 : Int32)), .val (.int pe), .unset, .unset, .unset] [(.ref b12), (.ref b12)])) rfl (hb hby at_35) (n := 4) (by decide) (by decide) (by decide) (by decide)
      have hZ := hZ13
      have hown := hown13
      have Z13 : n0 ≤ h13.size := Nat.le_trans Z12 E13.1
      have O13 : Old Z n0 h13 := O12.ext E13
      refine OwnEnds.via st13 ?_
      show OwnEnds _ _ _ _ (T13.setTop (mkF m 37 #[.val (.long tk), .second, .val (.int wt), .val (.int fl), .val (.int (1 : Int32)), .val (.int pe), .unset, .unset, .unset] [(.ref a13), (.ref b12), (.ref b12)]))
      refine OwnEnds.via (fun t k => XS.lloadN X13.here hx rfl (hb hby at_37) rfl k) ?_
      show OwnEnds _ _ _ _ (T13.setTop (mkF m 38 #[.val (.long tk), .second, .val (.int wt), .val (.int fl), .val (.int (1 : Int32)), .val (.int pe), .unset, .unset, .unset] [(.long tk), (.ref a13), (.ref b12), (.ref b12)]))
      refine OwnEnds.via (fun t k => XS.lconst X13.here hx rfl (hb hby at_38) k) ?_
      show OwnEnds _ _ _ _ (T13.setTop (mkF m 39 #[.val (.long tk), .second, .val (.int wt), .val (.int fl), .val (.int (1 : Int32)), .val (.int pe), .unset, .unset, .unset] [(.long (1 : Int64)), (.long tk), (.ref a13), (.ref b12), (.ref b12)]))
      obtain ⟨T14, X14, e14, st14⟩ := getS2 X13 hx hZ hown (host := "") (Or.inl (hw _ (List.mem_of_getElem? (i := 11) rfl))) Via.refl e13 (OP0.ext O13.2) (g := (mkF m 39 #[.val (.long tk), .second, .val (.int wt), .val (.int fl), .val (.int (1 : Int32)), .val (.int pe), .unset, .unset, .unset] [(.long (1 : Int64)), (.long tk), (.ref a13), (.ref b12), (.ref b12)])) rfl (hb hby at_39)
      refine OwnEnds.via st14 ?_
      show OwnEnds _ _ _ _ (T14.setTop (mkF m 42 #[.val (.long tk), .second, .val (.int wt), .val (.int fl), .val (.int (1 : Int32)), .val (.int pe), .unset, .unset, .unset] [(.ref en), (.long (1 : Int64)), (.long tk), (.ref a13), (.ref b12), (.ref b12)]))
      obtain ⟨_, _, ⟨T15, L15, k15, n15⟩, -, X15, ⟨Lc15, hQ15, l15, y15, z15⟩, st15⟩ := X14.specialBack hx (y := (⟨"com/example/careful_lock/carefullock/core/Grant", "<init>", "(Ljava/lang/String;JJLcom/example/careful_lock/carefullock/core/Ending;)V"⟩ : MethodName)) rfl hown (mvT hZ (hw _ (List.mem_of_getElem? (i := 14) rfl))) (mvT hZ (hw _ (List.mem_of_getElem? (i := 15) rfl))) (mvT hZ (hw _ (List.mem_of_getElem? (i := 16) rfl))) (by decide) (backOf (W := 1) (rm1 l Z a0 hw [] b12 a13 tk (1 : Int64) en h13 n0 Z13 (A12.ext E13) (F12_owner.ext E13) (F12_token.ext E13) (F12_ttlMs.ext E13) (F12_previous.ext E13) ge_b12) hZ (hw _ (List.mem_of_getElem? (i := 16) rfl)) (hw _ (List.mem_of_getElem? (i := 2) rfl)) (by decide) (by decide)) (g := (mkF m 42 #[.val (.long tk), .second, .val (.int wt), .val (.int fl), .val (.int (1 : Int32)), .val (.int pe), .unset, .unset, .unset] [(.ref en), (.long (1 : Int64)), (.long tk), (.ref a13), (.ref b12), (.ref b12)])) rfl (by rw [hml]; rfl) (Steps.refl _) (a := b12) (argsL := [(.ref a13), (.long tk), (.long (1 : Int64)), (.ref en)]) (rest := [(.ref b12)]) (lenOf pd_6 rfl) rfl (by show 2 * 0 + _ ≤ _; exact Nat.le_of_eq rfl) (hb hby at_42) (fun _ _ => ⟨rfl, e14, (by decide : 3 + 0 ≤ _), (by decide : 12 + 0 ≤ _)⟩)
      dsimp only [Pt.U, Pt.locs, Pt.cells, Pt.slots] at X15 l15 y15 z15 st15 hQ15
      subst l15 y15 z15
      obtain ⟨h15, e15⟩ : ∃ z, T15.heap = z := ⟨_, rfl⟩
      rw [e15] at hQ15
      obtain ⟨rfl, Nq15, Kq15, q15_0⟩ := hQ15
      have Z15 : n0 ≤ h15.size := Nat.le_trans Z13 Kq15.1
      have O15 : Old Z n0 h15 := O13.keep Kq15 (allS ge_b12 all0)
      have HK15 : k13 ≤ h15.size := Nat.le_trans HK13 Kq15.1
      have N15 := Fr.app N11 Nq15
      refine OwnEnds.via (fun t k => st15.trans k) ?_
      show OwnEnds _ _ _ _ (T15.setTop (mkF m 45 #[.val (.long tk), .second, .val (.int wt), .val (.int fl), .val (.int (1 : Int32)), .val (.int pe), .unset, .unset, .unset] [(.ref b12)]))
      refine OwnEnds.via (fun t k => XS.goto X15.here hx rfl (pc0 := 45) (pc' := 49) rfl (hb hby at_45) (by decide) (by decide) k) ?_
      show OwnEnds _ _ _ _ (T15.setTop (mkF m 49 #[.val (.long tk), .second, .val (.int wt), .val (.int fl), .val (.int (1 : Int32)), .val (.int pe), .unset, .unset, .unset] [(.ref b12)]))
      refine OwnEnds.via (fun t k => XS.astore X15.here hx rfl (hb hby at_49) rfl rfl (l' := #[.val (.long tk), .second, .val (.int wt), .val (.int fl), .val (.int (1 : Int32)), .val (.int pe), .val (.ref b12), .unset, .unset]) rfl k) ?_
      show OwnEnds _ _ _ _ (T15.setTop (mkF m 51 #[.val (.long tk), .second, .val (.int wt), .val (.int fl), .val (.int (1 : Int32)), .val (.int pe), .val (.ref b12), .unset, .unset] []))
      obtain ⟨T16, h16, X16, e16, E16, A16, D16, -, st16⟩ := newO X15 hx hZ hown (hw _ (List.mem_of_getElem? (i := 28) rfl)) (hw _ (List.mem_of_getElem? (i := 29) rfl)) (hw _ (List.mem_of_getElem? (i := 30) rfl)) e15 (g := (mkF m 51 #[.val (.long tk), .second, .val (.int wt), .val (.int fl), .val (.int (1 : Int32)), .val (.int pe), .val (.ref b12), .unset, .unset] [])) rfl (hb hby at_51) (by decide) (by decide)
      obtain ⟨b16, g16⟩ : ∃ z, z = h15.size := ⟨_, rfl⟩
      have ne_b12_b16 : b12 ≠ b16 := Nat.ne_of_lt (Nat.lt_of_lt_of_le q15_0.lt (Nat.le_of_eq g16.symm))
      have ne_em_b16 : em ≠ b16 := Nat.ne_of_lt (Nat.lt_of_lt_of_le (OP2.ext O15.2).lt (Nat.le_of_eq g16.symm))
      have ge_b16 : n0 ≤ b16 := Nat.le_trans Z15 (Nat.le_of_eq g16.symm)
      have Z16 : n0 ≤ h16.size := Nat.le_trans Z15 E16.1
      have O16 : Old Z n0 h16 := O15.ext E16
      have HK16 : k13 ≤ h16.size := Nat.le_trans HK15 E16.1
      rw [← g16] at A16 D16 st16
      have F16_holder : Fld Z h16 b16 "com/example/careful_lock/carefullock/core/LockStatus" "holder" "Lcom/example/careful_lock/carefullock/core/Grant;" .null := D16 (Or.inr (hw _ (List.mem_of_getElem? (i := 36) rfl))) (ty := (.object "com/example/careful_lock/carefullock/core/Grant")) (by decide)
      have F16_lastToken : Fld Z h16 b16 "com/example/careful_lock/carefullock/core/LockStatus" "lastToken" "J" (.long (0 : Int64)) := D16 (Or.inr (hw _ (List.mem_of_getElem? (i := 38) rfl))) (ty := .long) (by decide)
      have F16_waiters : Fld Z h16 b16 "com/example/careful_lock/carefullock/core/LockStatus" "waiters" "I" (.int (0 : Int32)) := D16 (Or.inr (hw _ (List.mem_of_getElem? (i := 40) rfl))) (ty := .int) (by decide)
      have F16_expiryPending : Fld Z h16 b16 "com/example/careful_lock/carefullock/core/LockStatus" "expiryPending" "Z" (.int (0 : Int32)) := D16 (Or.inr (hw _ (List.mem_of_getElem? (i := 42) rfl))) (ty := .boolean) (by decide)
      refine OwnEnds.via st16 ?_
      show OwnEnds _ _ _ _ (T16.setTop (mkF m 54 #[.val (.long tk), .second, .val (.int wt), .val (.int fl), .val (.int (1 : Int32)), .val (.int pe), .val (.ref b12), .unset, .unset] [(.ref b16)]))
      refine OwnEnds.via (fun t k => XS.dup X16.here hx rfl (hb hby at_54) rfl rfl k) ?_
      show OwnEnds _ _ _ _ (T16.setTop (mkF m 55 #[.val (.long tk), .second, .val (.int wt), .val (.int fl), .val (.int (1 : Int32)), .val (.int pe), .val (.ref b12), .unset, .unset] [(.ref b16), (.ref b16)]))
      refine OwnEnds.via (fun t k => XS.aload X16.here hx rfl (hb hby at_55) rfl rfl k) ?_
      show OwnEnds _ _ _ _ (T16.setTop (mkF m 57 #[.val (.long tk), .second, .val (.int wt), .val (.int fl), .val (.int (1 : Int32)), .val (.int pe), .val (.ref b12), .unset, .unset] [(.ref b12), (.ref b16), (.ref b16)]))
      refine OwnEnds.via (fun t k => XS.lloadN X16.here hx rfl (hb hby at_57) rfl k) ?_
      show OwnEnds _ _ _ _ (T16.setTop (mkF m 58 #[.val (.long tk), .second, .val (.int wt), .val (.int fl), .val (.int (1 : Int32)), .val (.int pe), .val (.ref b12), .unset, .unset] [(.long tk), (.ref b12), (.ref b16), (.ref b16)]))
      refine OwnEnds.via (fun t k => XS.iloadN X16.here hx rfl (hb hby at_58) rfl k) ?_
      show OwnEnds _ _ _ _ (T16.setTop (mkF m 59 #[.val (.long tk), .second, .val (.int wt), .val (.int fl), .val (.int (1 : Int32)), .val (.int pe), .val (.ref b12), .unset, .unset] [(.int wt), (.long tk), (.ref b12), (.ref b16), (.ref b16)]))
      refine OwnEnds.via (fun t k => XS.iload X16.here hx rfl (hb hby at_59) rfl k) ?_
      show OwnEnds _ _ _ _ (T16.setTop (mkF m 61 #[.val (.long tk), .second, .val (.int wt), .val (.int fl), .val (.int (1 : Int32)), .val (.int pe), .val (.ref b12), .unset, .unset] [(.int pe), (.int wt), (.long tk), (.ref b12), (.ref b16), (.ref b16)]))
      obtain ⟨_, _, ⟨T17, L17, k17, n17⟩, -, X17, ⟨Lc17, hQ17, l17, y17, z17⟩, st17⟩ := X16.specialBack hx (y := (⟨"com/example/careful_lock/carefullock/core/LockStatus", "<init>", "(Lcom/example/careful_lock/carefullock/core/Grant;JIZ)V"⟩ : MethodName)) rfl hown (mvT hZ (hw _ (List.mem_of_getElem? (i := 31) rfl))) (mvT hZ (hw _ (List.mem_of_getElem? (i := 32) rfl))) (mvT hZ (hw _ (List.mem_of_getElem? (i := 33) rfl))) (by decide) (backOf (W := 1) (rmLR l Z a0 hw [] b16 b12 tk wt pe h16 n0 Z16 A16 F16_holder F16_lastToken F16_waiters F16_expiryPending ge_b16) hZ (hw _ (List.mem_of_getElem? (i := 33) rfl)) (hw _ (List.mem_of_getElem? (i := 30) rfl)) (by decide) (by decide)) (g := (mkF m 61 #[.val (.long tk), .second, .val (.int wt), .val (.int fl), .val (.int (1 : Int32)), .val (.int pe), .val (.ref b12), .unset, .unset] [(.int pe), (.int wt), (.long tk), (.ref b12), (.ref b16), (.ref b16)])) rfl (by rw [hml]; rfl) (Steps.refl _) (a := b16) (argsL := [(.ref b12), (.long tk), (.int wt), (.int pe)]) (rest := [(.ref b16)]) (lenOf pd_3 rfl) rfl (by show 2 * 0 + _ ≤ _; exact Nat.le_of_eq rfl) (hb hby at_61) (fun _ _ => ⟨rfl, e16, (by decide : 4 + 0 ≤ _), (by decide : 16 + 0 ≤ _)⟩)
      dsimp only [Pt.U, Pt.locs, Pt.cells, Pt.slots] at X17 l17 y17 z17 st17 hQ17
      subst l17 y17 z17
      obtain ⟨h17, e17⟩ : ∃ z, T17.heap = z := ⟨_, rfl⟩
      rw [e17] at hQ17
      obtain ⟨rfl, Nq17, Kq17, q17_0, q17_1⟩ := hQ17
      have Z17 : n0 ≤ h17.size := Nat.le_trans Z16 Kq17.1
      have O17 : Old Z n0 h17 := O16.keep Kq17 (allS ge_b16 all0)
      have HK17 : k13 ≤ h17.size := Nat.le_trans HK16 Kq17.1
      have N17 := Fr.app N15 Nq17
      refine OwnEnds.via (fun t k => st17.trans k) ?_
      show OwnEnds _ _ _ _ (T17.setTop (mkF m 64 #[.val (.long tk), .second, .val (.int wt), .val (.int fl), .val (.int (1 : Int32)), .val (.int pe), .val (.ref b12), .unset, .unset] [(.ref b16)]))
      refine OwnEnds.via (fun t k => XS.astore X17.here hx rfl (hb hby at_64) rfl rfl (l' := #[.val (.long tk), .second, .val (.int wt), .val (.int fl), .val (.int (1 : Int32)), .val (.int pe), .val (.ref b12), .val (.ref b16), .unset]) rfl k) ?_
      show OwnEnds _ _ _ _ (T17.setTop (mkF m 66 #[.val (.long tk), .second, .val (.int wt), .val (.int fl), .val (.int (1 : Int32)), .val (.int pe), .val (.ref b12), .val (.ref b16), .unset] []))
      refine OwnEnds.via (fun t k => XS.aload X17.here hx rfl (hb hby at_66) rfl rfl k) ?_
      show OwnEnds _ _ _ _ (T17.setTop (mkF m 68 #[.val (.long tk), .second, .val (.int wt), .val (.int fl), .val (.int (1 : Int32)), .val (.int pe), .val (.ref b12), .val (.ref b16), .unset] [(.ref b16)]))
      obtain ⟨cq18, kq18, q18a, q18b, q18c⟩ := isOf hZ e17 q17_0
      obtain ⟨_, _, ⟨T18, L18, k18, n18⟩, -, X18, ⟨Lc18, hQ18, l18, y18, z18⟩, st18⟩ := X17.virtualBack hx (y := (⟨"com/example/careful_lock/carefullock/core/LockStatus", "lastToken", "()Ljava/util/OptionalLong;"⟩ : MethodName)) (z := (⟨"com/example/careful_lock/carefullock/core/LockStatus", "lastToken", "()Ljava/util/OptionalLong;"⟩ : MethodName)) hown (mvT hZ (hw _ (List.mem_of_getElem? (i := 43) rfl))) (mvT hZ (hw _ (List.mem_of_getElem? (i := 44) rfl))) (notFace_of_selects (args := #[]) (mvT hZ (hw _ (List.mem_of_getElem? (i := 46) rfl)))) (mvT hZ (hw _ (List.mem_of_getElem? (i := 46) rfl))) (mvT hZ (hw _ (List.mem_of_getElem? (i := 45) rfl))) (by decide) (backOf (W := 0) (rm4 l Z a0 hw [] b16 tk em h17 n0 Z17 O17 q17_1 OP1 OP2 OP3 OP4) hZ (hw _ (List.mem_of_getElem? (i := 47) rfl)) (hw _ (List.mem_of_getElem? (i := 30) rfl)) (by decide) (by decide)) q18a q18c (g := (mkF m 68 #[.val (.long tk), .second, .val (.int wt), .val (.int fl), .val (.int (1 : Int32)), .val (.int pe), .val (.ref b12), .val (.ref b16), .unset] [(.ref b16)])) rfl (by rw [hml]; rfl) (Steps.refl _) (argsL := []) (rest := []) (lenOf pd_1 rfl) rfl (by show 2 * 0 + _ ≤ _; exact Nat.le_of_eq rfl) (hb hby at_68) (fun _ _ => ⟨rfl, e17, (by decide : 4 + 1 ≤ _), (by decide : 16 + 2 ≤ _)⟩)
      dsimp only [Pt.U, Pt.locs, Pt.cells, Pt.slots] at X18 l18 y18 z18 st18 hQ18
      subst l18 y18 z18
      obtain ⟨h18, e18⟩ : ∃ z, T18.heap = z := ⟨_, rfl⟩
      rw [e18] at hQ18
      obtain ⟨b_18, rfl, Nq18, Kq18, q18_0, q18_1, q18_2⟩ := hQ18
      have Z18 : n0 ≤ h18.size := Nat.le_trans Z17 Kq18.1
      have O18 : Old Z n0 h18 := O17.keep Kq18 all0
      have HK18 : k13 ≤ h18.size := Nat.le_trans HK17 Kq18.1
      have N18 := Fr.app N17 Nq18
      refine OwnEnds.via (fun t k => st18.trans k) ?_
      show OwnEnds _ _ _ _ (T18.setTop (mkF m 71 #[.val (.long tk), .second, .val (.int wt), .val (.int fl), .val (.int (1 : Int32)), .val (.int pe), .val (.ref b12), .val (.ref b16), .unset] [(.ref b_18)]))
      refine OwnEnds.via (fun t k => XS.astore X18.here hx rfl (hb hby at_71) rfl rfl (l' := #[.val (.long tk), .second, .val (.int wt), .val (.int fl), .val (.int (1 : Int32)), .val (.int pe), .val (.ref b12), .val (.ref b16), .val (.ref b_18)]) rfl k) ?_
      show OwnEnds _ _ _ _ (T18.setTop (mkF m 73 #[.val (.long tk), .second, .val (.int wt), .val (.int fl), .val (.int (1 : Int32)), .val (.int pe), .val (.ref b12), .val (.ref b16), .val (.ref b_18)] []))
      refine OwnEnds.via (fun t k => XS.lloadN X18.here hx rfl (hb hby at_73) rfl k) ?_
      show OwnEnds _ _ _ _ (T18.setTop (mkF m 74 #[.val (.long tk), .second, .val (.int wt), .val (.int fl), .val (.int (1 : Int32)), .val (.int pe), .val (.ref b12), .val (.ref b16), .val (.ref b_18)] [(.long tk)]))
      refine OwnEnds.via (fun t k => XS.lconst X18.here hx rfl (hb hby at_74) k) ?_
      show OwnEnds _ _ _ _ (T18.setTop (mkF m 75 #[.val (.long tk), .second, .val (.int wt), .val (.int fl), .val (.int (1 : Int32)), .val (.int pe), .val (.ref b12), .val (.ref b16), .val (.ref b_18)] [(.long (0 : Int64)), (.long tk)]))
      refine OwnEnds.via (fun t k => XS.lcmp X18.here hx rfl (hb hby at_75) rfl k) ?_
      show OwnEnds _ _ _ _ (T18.setTop (mkF m 76 #[.val (.long tk), .second, .val (.int wt), .val (.int fl), .val (.int (1 : Int32)), .val (.int pe), .val (.ref b12), .val (.ref b16), .val (.ref b_18)] [(.int (lcmpW tk (0 : Int64)))]))
      by_cases hc76_19 : (lcmpW tk (0 : Int64)) = (0 : Int32)
      ·
        refine OwnEnds.via (fun t k => XS.ifNo X18.here hx rfl (hb hby at_76) rfl ((if0 _ _).trans (teq hc76_19).2) k) ?_
        show OwnEnds _ _ _ _ (T18.setTop (mkF m 79 #[.val (.long tk), .second, .val (.int wt), .val (.int fl), .val (.int (1 : Int32)), .val (.int pe), .val (.ref b12), .val (.ref b16), .val (.ref b_18)] []))
        refine OwnEnds.via (fun t k => XS.aload X18.here hx rfl (hb hby at_79) rfl rfl k) ?_
        show OwnEnds _ _ _ _ (T18.setTop (mkF m 81 #[.val (.long tk), .second, .val (.int wt), .val (.int fl), .val (.int (1 : Int32)), .val (.int pe), .val (.ref b12), .val (.ref b16), .val (.ref b_18)] [(.ref b_18)]))
        obtain ⟨cq20, kq20, q20a, q20b, q20c⟩ := isOf hZ e18 q18_0
        obtain ⟨_, _, ⟨T20, L20, k20, n20⟩, -, X20, ⟨Lc20, hQ20, l20, y20, z20⟩, st20⟩ := X18.virtualBack hx (y := (⟨"java/util/OptionalLong", "isPresent", "()Z"⟩ : MethodName)) (z := (⟨"java/util/OptionalLong", "isPresent", "()Z"⟩ : MethodName)) hown (mvT hZ (hw _ (List.mem_of_getElem? (i := 63) rfl))) (mvT hZ (hw _ (List.mem_of_getElem? (i := 64) rfl))) (notFace_of_selects (args := #[]) (mvT hZ (hw _ (List.mem_of_getElem? (i := 66) rfl)))) (mvT hZ (hw _ (List.mem_of_getElem? (i := 66) rfl))) (mvT hZ (hw _ (List.mem_of_getElem? (i := 65) rfl))) (by decide) (backOf (W := 0) (rm7 l Z a0 hw [] b_18 (if lcmpW tk (0 : Int64) = (0 : Int32) then (0 : Int32) else (1 : Int32)) h18 n0 Z18 q18_1) hZ (hw _ (List.mem_of_getElem? (i := 67) rfl)) (hw _ (List.mem_of_getElem? (i := 50) rfl)) (by decide) (by decide)) q20a q20c (g := (mkF m 81 #[.val (.long tk), .second, .val (.int wt), .val (.int fl), .val (.int (1 : Int32)), .val (.int pe), .val (.ref b12), .val (.ref b16), .val (.ref b_18)] [(.ref b_18)])) rfl (by rw [hml]; rfl) (Steps.refl _) (argsL := []) (rest := []) (lenOf pd_4 rfl) rfl (by show 2 * 0 + _ ≤ _; exact Nat.le_of_eq rfl) (hb hby at_81) (fun _ _ => ⟨rfl, e18, (by decide : 5 + 0 ≤ _), (by decide : 18 + 0 ≤ _)⟩)
        dsimp only [Pt.U, Pt.locs, Pt.cells, Pt.slots] at X20 l20 y20 z20 st20 hQ20
        subst l20 y20 z20
        obtain ⟨rfl, Nq20, e20⟩ := hQ20
        have N20 := Fr.app N18 Nq20
        refine OwnEnds.via (fun t k => st20.trans k) ?_
        show OwnEnds _ _ _ _ (T20.setTop (mkF m 84 #[.val (.long tk), .second, .val (.int wt), .val (.int fl), .val (.int (1 : Int32)), .val (.int pe), .val (.ref b12), .val (.ref b16), .val (.ref b_18)] [(.int (nar .boolean (if lcmpW tk (0 : Int64) = (0 : Int32) then (0 : Int32) else (1 : Int32))))]))
        refine OwnEnds.via (fun t k => XS.ifNo X20.here hx rfl (hb hby at_84) rfl ((if0 _ _).trans (teq (own_p hc76_19)).2) k) ?_
        show OwnEnds _ _ _ _ (T20.setTop (mkF m 87 #[.val (.long tk), .second, .val (.int wt), .val (.int fl), .val (.int (1 : Int32)), .val (.int pe), .val (.ref b12), .val (.ref b16), .val (.ref b_18)] []))
        refine OwnEnds.via (fun t k => XS.iconst X20.here hx rfl (hb hby at_87) k) ?_
        show OwnEnds _ _ _ _ (T20.setTop (mkF m 88 #[.val (.long tk), .second, .val (.int wt), .val (.int fl), .val (.int (1 : Int32)), .val (.int pe), .val (.ref b12), .val (.ref b16), .val (.ref b_18)] [(.int (1 : Int32))]))
        refine OwnEnds.via (fun t k => XS.goto X20.here hx rfl (pc0 := 88) (pc' := 92) rfl (hb hby at_88) (by decide) (by decide) k) ?_
        show OwnEnds _ _ _ _ (T20.setTop (mkF m 92 #[.val (.long tk), .second, .val (.int wt), .val (.int fl), .val (.int (1 : Int32)), .val (.int pe), .val (.ref b12), .val (.ref b16), .val (.ref b_18)] [(.int (1 : Int32))]))
        obtain ⟨fs, hr, hrun, hended, hend⟩ := X20.leaveW hS13 (by rw [e20]; exact HK18) (v := some (.int (1 : Int32))) (fun h => by rw [Bd.returns] at h; cases h)
        refine ⟨_, _, ?_, hrun, hended, _, _, rfl, ?_, hend.1, hend.2.1, hend.2.2.1, hend.2.2.2.mono (by decide) (by decide)⟩
        · exact retN X20 hx (t := .boolean) Bd.returns (by simp) (hb hby at_92) hr
        · show Q0 Z tk wt fl en em h0 n0 _ T20.heap _
          rw [e20]
          exact ⟨rfl, N20⟩
      ·
        refine OwnEnds.via (fun t k => XS.ifYes X18.here hx rfl (pc0 := 76) (pc' := 93) rfl (hb hby at_76) rfl ((if0 _ _).trans (feq hc76_19).2) (by decide) (by decide) k) ?_
        show OwnEnds _ _ _ _ (T18.setTop (mkF m 93 #[.val (.long tk), .second, .val (.int wt), .val (.int fl), .val (.int (1 : Int32)), .val (.int pe), .val (.ref b12), .val (.ref b16), .val (.ref b_18)] []))
        refine OwnEnds.via (fun t k => XS.aload X18.here hx rfl (hb hby at_93) rfl rfl k) ?_
        show OwnEnds _ _ _ _ (T18.setTop (mkF m 95 #[.val (.long tk), .second, .val (.int wt), .val (.int fl), .val (.int (1 : Int32)), .val (.int pe), .val (.ref b12), .val (.ref b16), .val (.ref b_18)] [(.ref b_18)]))
        obtain ⟨cq21, kq21, q21a, q21b, q21c⟩ := isOf hZ e18 q18_0
        obtain ⟨_, _, ⟨T21, L21, k21, n21⟩, -, X21, ⟨Lc21, hQ21, l21, y21, z21⟩, st21⟩ := X18.virtualBack hx (y := (⟨"java/util/OptionalLong", "isPresent", "()Z"⟩ : MethodName)) (z := (⟨"java/util/OptionalLong", "isPresent", "()Z"⟩ : MethodName)) hown (mvT hZ (hw _ (List.mem_of_getElem? (i := 63) rfl))) (mvT hZ (hw _ (List.mem_of_getElem? (i := 64) rfl))) (notFace_of_selects (args := #[]) (mvT hZ (hw _ (List.mem_of_getElem? (i := 66) rfl)))) (mvT hZ (hw _ (List.mem_of_getElem? (i := 66) rfl))) (mvT hZ (hw _ (List.mem_of_getElem? (i := 65) rfl))) (by decide) (backOf (W := 0) (rm7 l Z a0 hw [] b_18 (if lcmpW tk (0 : Int64) = (0 : Int32) then (0 : Int32) else (1 : Int32)) h18 n0 Z18 q18_1) hZ (hw _ (List.mem_of_getElem? (i := 67) rfl)) (hw _ (List.mem_of_getElem? (i := 50) rfl)) (by decide) (by decide)) q21a q21c (g := (mkF m 95 #[.val (.long tk), .second, .val (.int wt), .val (.int fl), .val (.int (1 : Int32)), .val (.int pe), .val (.ref b12), .val (.ref b16), .val (.ref b_18)] [(.ref b_18)])) rfl (by rw [hml]; rfl) (Steps.refl _) (argsL := []) (rest := []) (lenOf pd_4 rfl) rfl (by show 2 * 0 + _ ≤ _; exact Nat.le_of_eq rfl) (hb hby at_95) (fun _ _ => ⟨rfl, e18, (by decide : 5 + 0 ≤ _), (by decide : 18 + 0 ≤ _)⟩)
        dsimp only [Pt.U, Pt.locs, Pt.cells, Pt.slots] at X21 l21 y21 z21 st21 hQ21
        subst l21 y21 z21
        obtain ⟨rfl, Nq21, e21⟩ := hQ21
        have N21 := Fr.app N18 Nq21
        refine OwnEnds.via (fun t k => st21.trans k) ?_
        show OwnEnds _ _ _ _ (T21.setTop (mkF m 98 #[.val (.long tk), .second, .val (.int wt), .val (.int fl), .val (.int (1 : Int32)), .val (.int pe), .val (.ref b12), .val (.ref b16), .val (.ref b_18)] [(.int (nar .boolean (if lcmpW tk (0 : Int64) = (0 : Int32) then (0 : Int32) else (1 : Int32))))]))
        refine OwnEnds.via (fun t k => XS.ifNo X21.here hx rfl (hb hby at_98) rfl ((if0 _ _).trans (feq (own_q hc76_19)).1) k) ?_
        show OwnEnds _ _ _ _ (T21.setTop (mkF m 101 #[.val (.long tk), .second, .val (.int wt), .val (.int fl), .val (.int (1 : Int32)), .val (.int pe), .val (.ref b12), .val (.ref b16), .val (.ref b_18)] []))
        refine OwnEnds.via (fun t k => XS.aload X21.here hx rfl (hb hby at_101) rfl rfl k) ?_
        show OwnEnds _ _ _ _ (T21.setTop (mkF m 103 #[.val (.long tk), .second, .val (.int wt), .val (.int fl), .val (.int (1 : Int32)), .val (.int pe), .val (.ref b12), .val (.ref b16), .val (.ref b_18)] [(.ref b_18)]))
        obtain ⟨cq22, kq22, q22a, q22b, q22c⟩ := isOf hZ e21 q18_0
        obtain ⟨_, _, ⟨T22, L22, k22, n22⟩, -, X22, ⟨Lc22, hQ22, l22, y22, z22⟩, st22⟩ := X21.virtualBack hx (y := (⟨"java/util/OptionalLong", "getAsLong", "()J"⟩ : MethodName)) (z := (⟨"java/util/OptionalLong", "getAsLong", "()J"⟩ : MethodName)) hown (mvT hZ (hw _ (List.mem_of_getElem? (i := 68) rfl))) (mvT hZ (hw _ (List.mem_of_getElem? (i := 69) rfl))) (notFace_of_selects (args := #[]) (mvT hZ (hw _ (List.mem_of_getElem? (i := 71) rfl)))) (mvT hZ (hw _ (List.mem_of_getElem? (i := 71) rfl))) (mvT hZ (hw _ (List.mem_of_getElem? (i := 70) rfl))) (by decide) (backOf (W := 0) (rm8 l Z a0 hw [] b_18 (if lcmpW tk (0 : Int64) = (0 : Int32) then (0 : Int32) else (1 : Int32)) tk h18 n0 Z18 q18_1 q18_2 (own_r hc76_19)) hZ (hw _ (List.mem_of_getElem? (i := 72) rfl)) (hw _ (List.mem_of_getElem? (i := 50) rfl)) (by decide) (by decide)) q22a q22c (g := (mkF m 103 #[.val (.long tk), .second, .val (.int wt), .val (.int fl), .val (.int (1 : Int32)), .val (.int pe), .val (.ref b12), .val (.ref b16), .val (.ref b_18)] [(.ref b_18)])) rfl (by rw [hml]; rfl) (Steps.refl _) (argsL := []) (rest := []) (lenOf pd_5 rfl) rfl (by show 2 * 0 + _ ≤ _; exact Nat.le_of_eq rfl) (hb hby at_103) (fun _ _ => ⟨rfl, e21, (by decide : 5 + 0 ≤ _), (by decide : 18 + 0 ≤ _)⟩)
        dsimp only [Pt.U, Pt.locs, Pt.cells, Pt.slots] at X22 l22 y22 z22 st22 hQ22
        subst l22 y22 z22
        obtain ⟨rfl, Nq22, e22⟩ := hQ22
        have N22 := Fr.app N21 Nq22
        refine OwnEnds.via (fun t k => st22.trans k) ?_
        show OwnEnds _ _ _ _ (T22.setTop (mkF m 106 #[.val (.long tk), .second, .val (.int wt), .val (.int fl), .val (.int (1 : Int32)), .val (.int pe), .val (.ref b12), .val (.ref b16), .val (.ref b_18)] [(.long tk)]))
        refine OwnEnds.via (fun t k => XS.lloadN X22.here hx rfl (hb hby at_106) rfl k) ?_
        show OwnEnds _ _ _ _ (T22.setTop (mkF m 107 #[.val (.long tk), .second, .val (.int wt), .val (.int fl), .val (.int (1 : Int32)), .val (.int pe), .val (.ref b12), .val (.ref b16), .val (.ref b_18)] [(.long tk), (.long tk)]))
        refine OwnEnds.via (fun t k => XS.lcmp X22.here hx rfl (hb hby at_107) rfl k) ?_
        show OwnEnds _ _ _ _ (T22.setTop (mkF m 108 #[.val (.long tk), .second, .val (.int wt), .val (.int fl), .val (.int (1 : Int32)), .val (.int pe), .val (.ref b12), .val (.ref b16), .val (.ref b_18)] [(.int (lcmpW tk tk))]))
        refine OwnEnds.via (fun t k => XS.ifNo X22.here hx rfl (hb hby at_108) rfl ((if0 _ _).trans (teq ((lw_eq _ _).mpr rfl)).2) k) ?_
        show OwnEnds _ _ _ _ (T22.setTop (mkF m 111 #[.val (.long tk), .second, .val (.int wt), .val (.int fl), .val (.int (1 : Int32)), .val (.int pe), .val (.ref b12), .val (.ref b16), .val (.ref b_18)] []))
        refine OwnEnds.via (fun t k => XS.iconst X22.here hx rfl (hb hby at_111) k) ?_
        show OwnEnds _ _ _ _ (T22.setTop (mkF m 112 #[.val (.long tk), .second, .val (.int wt), .val (.int fl), .val (.int (1 : Int32)), .val (.int pe), .val (.ref b12), .val (.ref b16), .val (.ref b_18)] [(.int (1 : Int32))]))
        refine OwnEnds.via (fun t k => XS.goto X22.here hx rfl (pc0 := 112) (pc' := 116) rfl (hb hby at_112) (by decide) (by decide) k) ?_
        show OwnEnds _ _ _ _ (T22.setTop (mkF m 116 #[.val (.long tk), .second, .val (.int wt), .val (.int fl), .val (.int (1 : Int32)), .val (.int pe), .val (.ref b12), .val (.ref b16), .val (.ref b_18)] [(.int (1 : Int32))]))
        obtain ⟨fs, hr, hrun, hended, hend⟩ := X22.leaveW hS13 (by rw [e22]; exact HK18) (v := some (.int (1 : Int32))) (fun h => by rw [Bd.returns] at h; cases h)
        refine ⟨_, _, ?_, hrun, hended, _, _, rfl, ?_, hend.1, hend.2.1, hend.2.2.1, hend.2.2.2.mono (by decide) (by decide)⟩
        · exact retN X22 hx (t := .boolean) Bd.returns (by simp) (hb hby at_116) hr
        · show Q0 Z tk wt fl en em h0 n0 _ T22.heap _
          rw [e22]
          exact ⟨rfl, N22⟩
    intro J11
    by_cases hc16_23 : (fl &&& (2 : Int32)) = (0 : Int32)
    ·
      refine OwnEnds.via (fun t k => XS.ifYes X0.here hx rfl (pc0 := 16) (pc' := 23) rfl (hb hby at_16) rfl ((if0 _ _).trans (teq hc16_23).1) (by decide) (by decide) k) ?_
      show OwnEnds _ _ _ _ (s₁.setTop (mkF m 23 #[.val (.long tk), .second, .val (.int wt), .val (.int fl), .val (.int (1 : Int32)), .unset, .unset, .unset, .unset] []))
      refine OwnEnds.via (fun t k => XS.iconst X0.here hx rfl (hb hby at_23) k) ?_
      exact J11 _ _ X0 e0 N0 (0 : Int32)
    ·
      refine OwnEnds.via (fun t k => XS.ifNo X0.here hx rfl (hb hby at_16) rfl ((if0 _ _).trans (feq hc16_23).1) k) ?_
      show OwnEnds _ _ _ _ (s₁.setTop (mkF m 19 #[.val (.long tk), .second, .val (.int wt), .val (.int fl), .val (.int (1 : Int32)), .unset, .unset, .unset, .unset] []))
      refine OwnEnds.via (fun t k => XS.iconst X0.here hx rfl (hb hby at_19) k) ?_
      show OwnEnds _ _ _ _ (s₁.setTop (mkF m 20 #[.val (.long tk), .second, .val (.int wt), .val (.int fl), .val (.int (1 : Int32)), .unset, .unset, .unset, .unset] [(.int (1 : Int32))]))
      refine OwnEnds.via (fun t k => XS.goto X0.here hx rfl (pc0 := 20) (pc' := 24) rfl (hb hby at_20) (by decide) (by decide) k) ?_
      exact J11 _ _ X0 e0 N0 (1 : Int32)

set_option maxRecDepth 65536 in
set_option maxHeartbeats 40000000 in
theorem comes_1 {Post : Tables → Env → Array Value → State → Outcome → State → Prop} (hpost : ∀ tb e args s v u, (limb_1_1.after args s (.returned v) u = true ∧ limb_1_2.after args s (.returned v) u = true ∧ True) → FramedW s (.returned v) u (Jvm.fieldLocs frame_1_writes args s ++ Jvm.arrayLocs frame_1_arrays args s ++ Jvm.staticLocs frame_1_statics s) 16 1152 → Post tb e args s (.returned v) u) :
    ArmFor flags0 classFile x code maxLocals ret World_1 tables_1 room_1 Calls_1 rest_1 Pre_1 Post := by
  intro l hfl _ _ p e ha hc hk s m args below hf hA hF happ hP
  obtain ⟨hcalls, hrest, hpre⟩ := hP
  obtain ⟨-, -, -, hnamed, -, -, -, hat⟩ := (Spec.applies_iff hf).mp happ
  obtain ⟨hg, hn⟩ := and_e (Cond.before_iff.mp (show (Jvm.Cond.and given_1 narrow_1).before args s = true from hpre))
  obtain ⟨hg0, hh0⟩ := and_e hg
  obtain ⟨hg1, hh1⟩ := and_e hh0
  obtain ⟨hg2, hh2⟩ := and_e hh1
  obtain ⟨w0, w1, w2, rfl⟩ : ∃ w0 w1 w2 : Value, args = #[w0, w1, w2] := by
    have hs : args.size = 3 := by simpa [Cond.value, given_1] using hg0
    obtain ⟨L⟩ := args
    match L, hs with
    | [w0, w1, w2], _ => exact ⟨w0, w1, w2, rfl⟩
  have hw := fun d (hd : d ∈ tables_1) => atoms_spec (ws := Jvm.Cond.code x code maxLocals ret :: tables_1) hat d (List.mem_cons_of_mem _ hd)
  have hfit : Fit s := fun {y c} hc i hi => by
    obtain ⟨ha, rfl⟩ := Array.getElem?_eq_some_iff.mp hc
    have q := List.all_eq_true.mp ((Array.all_eq_true_iff_forall_mem.mp hF) _ (Array.getElem_mem ha)) i (List.mem_range.mpr hi)
    simpa [Array.getElem?_eq_getElem hi] using q
  obtain ⟨hsets, hown0⟩ := atoms_of _ (rest_1_c_eq ▸ (show rest_1_c.before _ s = true from hrest))
  have hr0 := Cond.before_iff.mp hown0
  obtain ⟨i0, ei0⟩ := isL_v hg1
  obtain rfl : w0 = (.long i0) := Option.some.inj ei0
  obtain ⟨i1, ei1⟩ := is_v hg2
  obtain rfl : w1 = (.int i1) := Option.some.inj ei1
  obtain ⟨i2, ei2⟩ := is_v hh2
  obtain rfl : w2 = (.int i2) := Option.some.inj ei2
  obtain ⟨en, ev_en⟩ := exa_v hn
  have E_en : Exa s s.heap en "com/example/careful_lock/carefullock/core/Ending" := Exa.start ev_en hn
  have S_en : Sta s s.heap "com/example/careful_lock/carefullock/core/Ending" "NONE" "Lcom/example/careful_lock/carefullock/core/Ending;" (.ref en) := Sta.start ev_en (Or.inr ⟨(hw _ (List.mem_of_getElem? (i := 12) rfl)), (hw _ (List.mem_of_getElem? (i := 13) rfl))⟩)
  obtain ⟨em, ev_em⟩ := exa_v (Cond.before_iff.mp (hsets _ (List.mem_of_getElem? (i := 2) rfl)))
  have E_em : Exa s s.heap em "java/util/OptionalLong" := Exa.start ev_em (Cond.before_iff.mp (hsets _ (List.mem_of_getElem? (i := 2) rfl)))
  have S_em : Sta s s.heap "java/util/OptionalLong" "EMPTY" "Ljava/util/OptionalLong;" (.ref em) := Sta.start ev_em (Or.inl (hsets _ (List.mem_of_getElem? (i := 1) rfl)))
  have F_ip : Fld s s.heap em "java/util/OptionalLong" "isPresent" "Z" (.int (0 : Int32)) := Fld.start ((fld_at ev_em).symm.trans (eqv_i (Term.int_eval _) (Cond.before_iff.mp (hsets _ (List.mem_of_getElem? (i := 3) rfl)))))
  have F_vl : Fld s s.heap em "java/util/OptionalLong" "value" "J" (.long (0 : Int64)) := Fld.start ((fld_at ev_em).symm.trans (eqv_l (show (Term.long _).eval _ _ _ _ _ = _ from rfl) (Cond.before_iff.mp (hsets _ (List.mem_of_getElem? (i := 4) rfl)))))
  obtain ⟨n, o, h1, h2, h3, _, L, rfl, ⟨rfl, N⟩, hq⟩ := rm0 l s _ hw tables_1 i0 i1 i2 en em s.heap s.heap.size (Nat.le_refl _) (Old.start s) S_en S_em E_em F_ip F_vl p e ha hc hk s m _ below hf ((Spec.applies_iff_loose hf).mp happ).1 ⟨rfl, State.Warmed39.refl s, rfl⟩ trivial
  refine ⟨n, _, h1, h2, h3, hpost _ _ _ _ _ _ ⟨Cond.after_iff.mpr rfl, Cond.after_iff.mpr (eq_i res_at (Term.int_eval (1)) rfl), trivial⟩ ⟨hq.1, hq.2.1, hq.2.2.1, (hq.2.2.2.sift fun y hy => Or.inr (N y hy)).mono (by decide) (by decide)⟩⟩
theorem main_1_1 : Claimed_1_1 := comes_1 fun _ _ _ _ _ _ h hF => ⟨h.1, hF⟩
theorem main_1_2 : Claimed_1_2 := comes_1 fun _ _ _ _ _ _ h hF => ⟨h.2.1, hF⟩
end Jvm.Pilot.@@N@@
namespace Jvm.Pilot.@@N@@
open Jvm Jvm.ClassFile Sem Op Lib Jvm.Free Jvm.Stand Jvm.Pilot.@@N@@.Jvm.D
/-! MADE BY PROGRAM (witnessworld.py) out of the Statement's table words and the real class files: 18 classes; the members and pool entries that the words name. The judged class is class 1, her method 1. -/
namespace start1
open Jvm.ClassFile
def u (s : String) : CpInfo := .utf8 (stringToUtf16 s)
/-- a pool by its gaps: so many unusable entries, then the entry; so many at the end -/
def gap : Nat → List CpInfo → List CpInfo
  | 0, r => r
  | n + 1, r => .unusable :: gap n r
def poolList (es : List (Nat × CpInfo)) (last : Nat) : List CpInfo := es.foldr (fun e r => gap e.1 (e.2 :: r)) (gap last [])
def pool (es : List (Nat × CpInfo)) (last : Nat) : Array CpInfo := ⟨poolList es last⟩
def fileOf (pool : Array CpInfo) (this : Nat) (attrs : Array Attribute := #[]) (ms : Array MethodInfo := #[]) (fl : Nat := 33) (sup : Nat := 0) (ifs : Array Nat := #[]) (fds : Array FieldInfo := #[]) : ClassFile where
  minorVersion := 0
  majorVersion := 65
  constantPool := pool
  accessFlags := fl
  thisClass := this
  superClass := sup
  interfaces := ifs
  fields := fds
  methods := ms
  attributes := attrs
def plain (name : String) (sup : Option ClassId) : Class where
  name := name
  kind := .ordinary
  loader := none
  accessFlags := 33
  super := sup
  interfaces := #[]
  cf := none
  fields := #[]
  methods := #[]
  instanceTypes := #[]
  staticTypes := #[]
  resolved := #[]
  callSites := []
  init := .initialized
  statics := none
  mirror := none

def pool0 : Array CpInfo := pool [(5, u "<init>"), (0, u "()V"), (1, .class_ 10), (1, u "java/lang/Object")] 113

def k0c0 : Code := { maxStack := 0, maxLocals := 1, code := object_method_1_code, exceptionTable := #[], attributes := #[] }
def k0m0 : Method := { name := "<init>", desc := "()V", sig := { parameters := [], returnType := none }, accessFlags := 1, code := some k0c0 }
/-- java/lang/Object -/
def k0 : Class := { plain "java/lang/Object" none with
  accessFlags := 33
  interfaces := #[]
  cf := some (fileOf pool0 8 #[] #[{ accessFlags := 1, nameIndex := 5, descriptorIndex := 6, attributes := #[] }] 33 0 #[] #[])
  fields := #[]
  methods := #[k0m0]
  instanceTypes := #[]
  staticTypes := #[]
  resolved := Array.replicate 124 none
  statics := none }

def pool1 : Array CpInfo := pool [(2, .class_ 4), (1, u "java/lang/Object"), (0, u "<init>"), (0, u "()V"), (0, .class_ 8), (0, u "com/example/careful_lock/carefullock/core/Grant"), (0, .string 10), (0, u "a"), (0, .fieldref 12 13), (0, .class_ 14), (0, .nameAndType 15 16), (0, u "com/example/careful_lock/carefullock/core/Ending"), (0, u "NONE"), (0, u "Lcom/example/careful_lock/carefullock/core/Ending;"), (0, .methodref 7 18), (0, .nameAndType 5 19), (0, u "(Ljava/lang/String;JJLcom/example/careful_lock/carefullock/core/Ending;)V"), (0, .class_ 21), (0, u "com/example/careful_lock/carefullock/core/LockStatus"), (0, .methodref 20 23), (0, .nameAndType 5 24), (0, u "(Lcom/example/careful_lock/carefullock/core/Grant;JIZ)V"), (0, .methodref 20 26), (0, .nameAndType 27 28), (0, u "lastToken"), (0, u "()Ljava/util/OptionalLong;"), (0, .methodref 30 31), (0, .class_ 32), (0, .nameAndType 33 34), (0, u "java/util/OptionalLong"), (0, u "isPresent"), (0, u "()Z"), (0, .methodref 30 36), (0, .nameAndType 37 38), (0, u "getAsLong"), (0, u "()J"), (0, .class_ 40), (0, u "com/example/careful_lock/carefullock/core/LockStatusLastTokenPinLaw"), (2, u "law"), (0, u "(JII)Z")] 3

def k1m0 : Method := { name := "<init>", desc := "()V", sig := { parameters := [], returnType := none }, accessFlags := 1, code := none }
def k1c1 : Code := { maxStack := 8, maxLocals := 9, code := code, exceptionTable := #[], attributes := #[] }
def k1m1 : Method := { name := "law", desc := "(JII)Z", sig := { parameters := [.long, .int, .int], returnType := some .boolean }, accessFlags := 9, code := some k1c1 }
/-- com/example/careful_lock/carefullock/core/LockStatusLastTokenPinLaw -/
def k1 : Class := { plain "com/example/careful_lock/carefullock/core/LockStatusLastTokenPinLaw" (some 0) with
  accessFlags := 49
  interfaces := #[]
  cf := some (fileOf pool1 39 #[] #[{ accessFlags := 1, nameIndex := 5, descriptorIndex := 6, attributes := #[] }, { accessFlags := 9, nameIndex := 43, descriptorIndex := 44, attributes := #[] }] 49 2 #[] #[])
  fields := #[]
  methods := #[k1m0, k1m1]
  instanceTypes := #[]
  staticTypes := #[]
  resolved := Array.replicate 48 none
  statics := none }

def pool2 : Array CpInfo := pool [(1, .methodref 2 3), (0, .class_ 4), (0, .nameAndType 5 6), (0, u "java/lang/Object"), (0, u "<init>"), (0, u "()V"), (0, .fieldref 8 9), (0, .class_ 10), (0, .nameAndType 11 12), (0, u "com/example/careful_lock/carefullock/core/Grant"), (0, u "owner"), (0, u "Ljava/lang/String;"), (0, .fieldref 8 14), (0, .nameAndType 15 16), (0, u "token"), (0, u "J"), (0, .fieldref 8 18), (0, .nameAndType 19 16), (0, u "ttlMs"), (0, .fieldref 8 21), (0, .nameAndType 22 23), (0, u "previous"), (0, u "Lcom/example/careful_lock/carefullock/core/Ending;"), (0, u "(Ljava/lang/String;JJLcom/example/careful_lock/carefullock/core/Ending;)V")] 7

def k2c0 : Code := { maxStack := 3, maxLocals := 7, code := prog_20_method_1_code, exceptionTable := #[], attributes := #[] }
def k2m0 : Method := { name := "<init>", desc := "(Ljava/lang/String;JJLcom/example/careful_lock/carefullock/core/Ending;)V", sig := { parameters := [(.object "java/lang/String"), .long, .long, (.object "com/example/careful_lock/carefullock/core/Ending")], returnType := none }, accessFlags := 0, code := some k2c0 }
/-- com/example/careful_lock/carefullock/core/Grant -/
def k2 : Class := { plain "com/example/careful_lock/carefullock/core/Grant" (some 0) with
  accessFlags := 49
  interfaces := #[]
  cf := some (fileOf pool2 8 #[] #[{ accessFlags := 0, nameIndex := 5, descriptorIndex := 24, attributes := #[] }] 49 2 #[] #[{ accessFlags := 18, nameIndex := 11, descriptorIndex := 12, attributes := #[] }, { accessFlags := 18, nameIndex := 15, descriptorIndex := 16, attributes := #[] }, { accessFlags := 18, nameIndex := 19, descriptorIndex := 16, attributes := #[] }, { accessFlags := 18, nameIndex := 22, descriptorIndex := 23, attributes := #[] }])
  fields := #[{ name := "owner", type := (.object "java/lang/String"), accessFlags := 18, slot := 0, constantValue := 0 }, { name := "token", type := .long, accessFlags := 18, slot := 1, constantValue := 0 }, { name := "ttlMs", type := .long, accessFlags := 18, slot := 2, constantValue := 0 }, { name := "previous", type := (.object "com/example/careful_lock/carefullock/core/Ending"), accessFlags := 18, slot := 3, constantValue := 0 }]
  methods := #[k2m0]
  instanceTypes := #[(.object "java/lang/String"), .long, .long, (.object "com/example/careful_lock/carefullock/core/Ending")]
  staticTypes := #[]
  resolved := Array.replicate 32 none
  statics := none }

def pool3 : Array CpInfo := pool [(1, .class_ 2), (0, u "java/io/Serializable"), (0, .class_ 4), (0, u "java/lang/Object")] 2

/-- java/io/Serializable -/
def k3 : Class := { plain "java/io/Serializable" (some 0) with
  accessFlags := 1537
  interfaces := #[]
  cf := some (fileOf pool3 1 #[] #[] 1537 3 #[] #[])
  fields := #[]
  methods := #[]
  instanceTypes := #[]
  staticTypes := #[]
  resolved := Array.replicate 7 none
  statics := none }

def pool4 : Array CpInfo := pool [(1, .class_ 2), (0, u "java/lang/Comparable"), (0, .class_ 4), (0, u "java/lang/Object")] 7

/-- java/lang/Comparable -/
def k4 : Class := { plain "java/lang/Comparable" (some 0) with
  accessFlags := 1537
  interfaces := #[]
  cf := some (fileOf pool4 1 #[] #[] 1537 3 #[] #[])
  fields := #[]
  methods := #[]
  instanceTypes := #[]
  staticTypes := #[]
  resolved := Array.replicate 12 none
  statics := none }

def pool5 : Array CpInfo := pool [(2, .class_ 4), (1, u "java/lang/CharSequence"), (42, .class_ 48), (0, u "java/lang/CharSequence$1CodePointIterator"), (10, .class_ 60), (0, u "java/lang/CharSequence$1CharIterator"), (5, .class_ 67), (0, u "java/lang/Object")] 63

/-- java/lang/CharSequence -/
def k5 : Class := { plain "java/lang/CharSequence" (some 0) with
  accessFlags := 1537
  interfaces := #[]
  cf := some (fileOf pool5 2 #[.nestMembers #[47, 59]] #[] 1537 66 #[] #[])
  fields := #[]
  methods := #[]
  instanceTypes := #[]
  staticTypes := #[]
  resolved := Array.replicate 131 none
  statics := none }

def pool6 : Array CpInfo := pool [(1, .class_ 2), (0, u "java/lang/constant/Constable"), (0, .class_ 4), (0, u "java/lang/Object")] 6

/-- java/lang/constant/Constable -/
def k6 : Class := { plain "java/lang/constant/Constable" (some 0) with
  accessFlags := 1537
  interfaces := #[]
  cf := some (fileOf pool6 1 #[] #[] 1537 3 #[] #[])
  fields := #[]
  methods := #[]
  instanceTypes := #[]
  staticTypes := #[]
  resolved := Array.replicate 11 none
  statics := none }

def pool7 : Array CpInfo := pool [(1, .class_ 2), (0, u "java/lang/constant/ConstantDesc"), (0, .class_ 4), (0, u "java/lang/Object")] 32

/-- java/lang/constant/ConstantDesc -/
def k7 : Class := { plain "java/lang/constant/ConstantDesc" (some 0) with
  accessFlags := 1537
  interfaces := #[]
  cf := some (fileOf pool7 1 #[] #[] 1537 3 #[] #[])
  fields := #[]
  methods := #[]
  instanceTypes := #[]
  staticTypes := #[]
  resolved := Array.replicate 37 none
  statics := none }

def pool8 : Array CpInfo := pool [(2, .class_ 4), (1, u "java/lang/Object"), (0, u "<init>"), (0, u "()V"), (3, .class_ 12), (1, u "java/lang/String"), (0, u "value"), (0, u "[B"), (2, u "coder"), (0, u "B"), (2, u "hash"), (0, u "I"), (2, u "hashIsZero"), (0, u "Z"), (13, u "COMPACT_STRINGS"), (534, .class_ 576), (0, u "java/lang/CharSequence"), (22, u "CASE_INSENSITIVE_ORDER"), (0, u "Ljava/util/Comparator;"), (500, u "serialPersistentFields"), (0, u "[Ljava/io/ObjectStreamField;"), (0, .class_ 1104), (0, u "java/lang/String$CaseInsensitiveComparator"), (1, .class_ 1107), (0, u "java/io/Serializable"), (0, .class_ 1109), (0, u "java/lang/Comparable"), (0, .class_ 1111), (0, u "java/lang/constant/Constable"), (0, .class_ 1113), (0, u "java/lang/constant/ConstantDesc"), (2, u "serialVersionUID"), (0, u "J"), (3, u "REPL"), (0, u "C"), (2, u "LATIN1"), (1, u "UTF16")] 323

def k8m0 : Method := { name := "<init>", desc := "()V", sig := { parameters := [], returnType := none }, accessFlags := 1, code := none }
/-- java/lang/String -/
def k8 : Class := { plain "java/lang/String" (some 0) with
  accessFlags := 49
  interfaces := #[3, 4, 5, 6, 7]
  cf := some (fileOf pool8 10 #[.nestMembers #[1103]] #[{ accessFlags := 1, nameIndex := 5, descriptorIndex := 6, attributes := #[] }] 49 2 #[1106, 1108, 575, 1110, 1112] #[{ accessFlags := 18, nameIndex := 13, descriptorIndex := 14, attributes := #[] }, { accessFlags := 18, nameIndex := 17, descriptorIndex := 18, attributes := #[] }, { accessFlags := 2, nameIndex := 21, descriptorIndex := 22, attributes := #[] }, { accessFlags := 2, nameIndex := 25, descriptorIndex := 26, attributes := #[] }, { accessFlags := 26, nameIndex := 1116, descriptorIndex := 1117, attributes := #[] }, { accessFlags := 24, nameIndex := 40, descriptorIndex := 26, attributes := #[] }, { accessFlags := 26, nameIndex := 1101, descriptorIndex := 1102, attributes := #[] }, { accessFlags := 26, nameIndex := 1121, descriptorIndex := 1122, attributes := #[] }, { accessFlags := 25, nameIndex := 599, descriptorIndex := 600, attributes := #[] }, { accessFlags := 24, nameIndex := 1125, descriptorIndex := 18, attributes := #[] }, { accessFlags := 24, nameIndex := 1127, descriptorIndex := 18, attributes := #[] }])
  fields := #[{ name := "value", type := (.array .byte), accessFlags := 18, slot := 0, constantValue := 0 }, { name := "coder", type := .byte, accessFlags := 18, slot := 1, constantValue := 0 }, { name := "hash", type := .int, accessFlags := 2, slot := 2, constantValue := 0 }, { name := "hashIsZero", type := .boolean, accessFlags := 2, slot := 3, constantValue := 0 }, { name := "serialVersionUID", type := .long, accessFlags := 26, slot := 0, constantValue := 0 }, { name := "COMPACT_STRINGS", type := .boolean, accessFlags := 24, slot := 1, constantValue := 0 }, { name := "serialPersistentFields", type := (.array (.object "java/io/ObjectStreamField")), accessFlags := 26, slot := 2, constantValue := 0 }, { name := "REPL", type := .char, accessFlags := 26, slot := 3, constantValue := 0 }, { name := "CASE_INSENSITIVE_ORDER", type := (.object "java/util/Comparator"), accessFlags := 25, slot := 4, constantValue := 0 }, { name := "LATIN1", type := .byte, accessFlags := 24, slot := 5, constantValue := 0 }, { name := "UTF16", type := .byte, accessFlags := 24, slot := 6, constantValue := 0 }]
  methods := #[k8m0]
  instanceTypes := #[(.array .byte), .byte, .int, .boolean]
  staticTypes := #[.long, .boolean, (.array (.object "java/io/ObjectStreamField")), .char, (.object "java/util/Comparator"), .byte, .byte]
  resolved := Array.replicate 1451 none
  statics := none }

def pool9 : Array CpInfo := pool [(2, .class_ 4), (1, u "java/lang/Enum"), (0, u "name"), (0, u "Ljava/lang/String;"), (2, u "ordinal"), (0, u "I"), (1, .class_ 14), (1, u "java/lang/Object"), (4, u "hash"), (86, .class_ 108), (1, u "java/lang/Enum$EnumDesc"), (2, .class_ 112), (0, u "java/lang/constant/Constable"), (0, .class_ 114), (0, u "java/lang/Comparable"), (0, .class_ 116), (0, u "java/io/Serializable")] 87

/-- java/lang/Enum -/
def k9 : Class := { plain "java/lang/Enum" (some 0) with
  accessFlags := 1057
  interfaces := #[6, 4, 3]
  cf := some (fileOf pool9 2 #[.nestMembers #[106]] #[] 1057 12 #[111, 113, 115] #[{ accessFlags := 18, nameIndex := 5, descriptorIndex := 6, attributes := #[] }, { accessFlags := 18, nameIndex := 9, descriptorIndex := 10, attributes := #[] }, { accessFlags := 2, nameIndex := 19, descriptorIndex := 10, attributes := #[] }])
  fields := #[{ name := "name", type := (.object "java/lang/String"), accessFlags := 18, slot := 0, constantValue := 0 }, { name := "ordinal", type := .int, accessFlags := 18, slot := 1, constantValue := 0 }, { name := "hash", type := .int, accessFlags := 2, slot := 2, constantValue := 0 }]
  methods := #[]
  instanceTypes := #[(.object "java/lang/String"), .int, .int]
  staticTypes := #[]
  resolved := Array.replicate 204 none
  statics := none }

def pool10 : Array CpInfo := pool [(1, .class_ 2), (0, u "com/example/careful_lock/carefullock/core/Ending"), (2, u "NONE"), (0, u "Lcom/example/careful_lock/carefullock/core/Ending;"), (2, u "RELEASED"), (2, u "EXPIRED"), (2, u "$VALUES"), (0, u "[Lcom/example/careful_lock/carefullock/core/Ending;"), (6, .class_ 25), (1, u "java/lang/Enum")] 25

/-- com/example/careful_lock/carefullock/core/Ending -/
def k10 : Class := { plain "com/example/careful_lock/carefullock/core/Ending" (some 9) with
  accessFlags := 16433
  interfaces := #[]
  cf := some (fileOf pool10 1 #[] #[] 16433 23 #[] #[{ accessFlags := 16409, nameIndex := 5, descriptorIndex := 6, attributes := #[] }, { accessFlags := 16409, nameIndex := 9, descriptorIndex := 6, attributes := #[] }, { accessFlags := 16409, nameIndex := 12, descriptorIndex := 6, attributes := #[] }, { accessFlags := 4122, nameIndex := 15, descriptorIndex := 16, attributes := #[] }])
  fields := #[{ name := "NONE", type := (.object "com/example/careful_lock/carefullock/core/Ending"), accessFlags := 16409, slot := 0, constantValue := 0 }, { name := "RELEASED", type := (.object "com/example/careful_lock/carefullock/core/Ending"), accessFlags := 16409, slot := 1, constantValue := 0 }, { name := "EXPIRED", type := (.object "com/example/careful_lock/carefullock/core/Ending"), accessFlags := 16409, slot := 2, constantValue := 0 }, { name := "$VALUES", type := (.array (.object "com/example/careful_lock/carefullock/core/Ending")), accessFlags := 4122, slot := 3, constantValue := 0 }]
  methods := #[]
  instanceTypes := #[(.object "java/lang/String"), .int, .int]
  staticTypes := #[(.object "com/example/careful_lock/carefullock/core/Ending"), (.object "com/example/careful_lock/carefullock/core/Ending"), (.object "com/example/careful_lock/carefullock/core/Ending"), (.array (.object "com/example/careful_lock/carefullock/core/Ending"))]
  resolved := Array.replicate 51 none
  statics := some 0 }

def pool11 : Array CpInfo := pool [(1, .methodref 2 3), (0, .class_ 4), (0, .nameAndType 5 6), (0, u "java/lang/Object"), (0, u "<init>"), (0, u "()V"), (0, .fieldref 8 9), (0, .class_ 10), (0, .nameAndType 11 12), (0, u "com/example/careful_lock/carefullock/core/LockStatus"), (0, u "holder"), (0, u "Lcom/example/careful_lock/carefullock/core/Grant;"), (0, .fieldref 8 14), (0, .nameAndType 15 16), (0, u "lastToken"), (0, u "J"), (0, .fieldref 8 18), (0, .nameAndType 19 20), (0, u "waiters"), (0, u "I"), (0, .fieldref 8 22), (0, .nameAndType 23 24), (0, u "expiryPending"), (0, u "Z"), (6, .methodref 32 33), (0, .class_ 34), (0, .nameAndType 35 36), (0, u "java/util/OptionalLong"), (0, u "empty"), (0, u "()Ljava/util/OptionalLong;"), (0, .methodref 32 38), (0, .nameAndType 39 40), (0, u "of"), (0, u "(J)Ljava/util/OptionalLong;"), (0, u "(Lcom/example/careful_lock/carefullock/core/Grant;JIZ)V")] 11

def k11c0 : Code := { maxStack := 3, maxLocals := 6, code := prog_23_method_1_code, exceptionTable := #[], attributes := #[] }
def k11m0 : Method := { name := "<init>", desc := "(Lcom/example/careful_lock/carefullock/core/Grant;JIZ)V", sig := { parameters := [(.object "com/example/careful_lock/carefullock/core/Grant"), .long, .int, .boolean], returnType := none }, accessFlags := 0, code := some k11c0 }
def k11c1 : Code := { maxStack := 4, maxLocals := 1, code := prog_23_method_3_code, exceptionTable := #[], attributes := #[] }
def k11m1 : Method := { name := "lastToken", desc := "()Ljava/util/OptionalLong;", sig := { parameters := [], returnType := some (.object "java/util/OptionalLong") }, accessFlags := 1, code := some k11c1 }
/-- com/example/careful_lock/carefullock/core/LockStatus -/
def k11 : Class := { plain "com/example/careful_lock/carefullock/core/LockStatus" (some 0) with
  accessFlags := 49
  interfaces := #[]
  cf := some (fileOf pool11 8 #[] #[{ accessFlags := 0, nameIndex := 5, descriptorIndex := 41, attributes := #[] }, { accessFlags := 1, nameIndex := 15, descriptorIndex := 36, attributes := #[] }] 49 2 #[] #[{ accessFlags := 18, nameIndex := 11, descriptorIndex := 12, attributes := #[] }, { accessFlags := 18, nameIndex := 15, descriptorIndex := 16, attributes := #[] }, { accessFlags := 18, nameIndex := 19, descriptorIndex := 20, attributes := #[] }, { accessFlags := 18, nameIndex := 23, descriptorIndex := 24, attributes := #[] }])
  fields := #[{ name := "holder", type := (.object "com/example/careful_lock/carefullock/core/Grant"), accessFlags := 18, slot := 0, constantValue := 0 }, { name := "lastToken", type := .long, accessFlags := 18, slot := 1, constantValue := 0 }, { name := "waiters", type := .int, accessFlags := 18, slot := 2, constantValue := 0 }, { name := "expiryPending", type := .boolean, accessFlags := 18, slot := 3, constantValue := 0 }]
  methods := #[k11m0, k11m1]
  instanceTypes := #[(.object "com/example/careful_lock/carefullock/core/Grant"), .long, .int, .boolean]
  staticTypes := #[]
  resolved := Array.replicate 53 none
  statics := none }

def pool12 : Array CpInfo := pool [(1, .methodref 2 3), (0, .class_ 4), (0, .nameAndType 5 6), (0, u "java/lang/Object"), (0, u "<init>"), (0, u "()V"), (0, .fieldref 8 9), (0, .class_ 10), (0, .nameAndType 11 12), (0, u "java/util/OptionalLong"), (0, u "isPresent"), (0, u "Z"), (0, .fieldref 8 14), (0, .nameAndType 15 16), (0, u "value"), (0, u "J"), (0, .fieldref 8 18), (0, .nameAndType 19 20), (0, u "EMPTY"), (0, u "Ljava/util/OptionalLong;"), (0, .methodref 8 22), (0, .nameAndType 5 23), (0, u "(J)V"), (21, u "of"), (3, u "empty"), (5, u "getAsLong"), (0, u "()J"), (39, u "()Ljava/util/OptionalLong;"), (0, u "(J)Ljava/util/OptionalLong;"), (1, u "()Z")] 38

def k12m0 : Method := { name := "<init>", desc := "()V", sig := { parameters := [], returnType := none }, accessFlags := 2, code := none }
def k12c1 : Code := { maxStack := 1, maxLocals := 0, code := jdk_2650_method_2_code, exceptionTable := #[], attributes := #[] }
def k12m1 : Method := { name := "empty", desc := "()Ljava/util/OptionalLong;", sig := { parameters := [], returnType := some (.object "java/util/OptionalLong") }, accessFlags := 9, code := some k12c1 }
def k12c2 : Code := { maxStack := 3, maxLocals := 3, code := jdk_2650_method_3_code, exceptionTable := #[], attributes := #[] }
def k12m2 : Method := { name := "<init>", desc := "(J)V", sig := { parameters := [.long], returnType := none }, accessFlags := 2, code := some k12c2 }
def k12c3 : Code := { maxStack := 4, maxLocals := 2, code := jdk_2650_method_4_code, exceptionTable := #[], attributes := #[] }
def k12m3 : Method := { name := "of", desc := "(J)Ljava/util/OptionalLong;", sig := { parameters := [.long], returnType := some (.object "java/util/OptionalLong") }, accessFlags := 9, code := some k12c3 }
def k12c4 : Code := { maxStack := 3, maxLocals := 1, code := jdk_2650_method_5_code, exceptionTable := #[], attributes := #[] }
def k12m4 : Method := { name := "getAsLong", desc := "()J", sig := { parameters := [], returnType := some .long }, accessFlags := 1, code := some k12c4 }
def k12c5 : Code := { maxStack := 1, maxLocals := 1, code := jdk_2650_method_6_code, exceptionTable := #[], attributes := #[] }
def k12m5 : Method := { name := "isPresent", desc := "()Z", sig := { parameters := [], returnType := some .boolean }, accessFlags := 1, code := some k12c5 }
/-- java/util/OptionalLong -/
def k12 : Class := { plain "java/util/OptionalLong" (some 0) with
  accessFlags := 49
  interfaces := #[]
  cf := some (fileOf pool12 8 #[] #[{ accessFlags := 2, nameIndex := 5, descriptorIndex := 6, attributes := #[] }, { accessFlags := 9, nameIndex := 49, descriptorIndex := 96, attributes := #[] }, { accessFlags := 2, nameIndex := 5, descriptorIndex := 23, attributes := #[] }, { accessFlags := 9, nameIndex := 45, descriptorIndex := 97, attributes := #[] }, { accessFlags := 1, nameIndex := 55, descriptorIndex := 56, attributes := #[] }, { accessFlags := 1, nameIndex := 11, descriptorIndex := 99, attributes := #[] }] 49 2 #[] #[{ accessFlags := 26, nameIndex := 19, descriptorIndex := 20, attributes := #[] }, { accessFlags := 18, nameIndex := 11, descriptorIndex := 12, attributes := #[] }, { accessFlags := 18, nameIndex := 15, descriptorIndex := 16, attributes := #[] }])
  fields := #[{ name := "EMPTY", type := (.object "java/util/OptionalLong"), accessFlags := 26, slot := 0, constantValue := 0 }, { name := "isPresent", type := .boolean, accessFlags := 18, slot := 0, constantValue := 0 }, { name := "value", type := .long, accessFlags := 18, slot := 1, constantValue := 0 }]
  methods := #[k12m0, k12m1, k12m2, k12m3, k12m4, k12m5]
  instanceTypes := #[.boolean, .long]
  staticTypes := #[(.object "java/util/OptionalLong")]
  resolved := Array.replicate 138 none
  statics := some 1 }

def pool13 : Array CpInfo := pool [(1, u "java/lang/Cloneable"), (0, .class_ 1), (0, u "java/lang/Object"), (0, .class_ 3)] 3

/-- java/lang/Cloneable -/
def k13 : Class := { plain "java/lang/Cloneable" (some 0) with
  accessFlags := 1537
  interfaces := #[]
  cf := some (fileOf pool13 2 #[] #[] 1537 4 #[] #[])
  fields := #[]
  methods := #[]
  instanceTypes := #[]
  staticTypes := #[]
  resolved := Array.replicate 8 none
  statics := none }

/-- the primitive byte -/
def k14 : Class := { plain "byte" none with kind := .primitive 'B', accessFlags := 0x411 }
/-- [B -/
def k15 : Class := { plain "[B" (some 0) with kind := .array 14 .byte, interfaces := #[13, 3], accessFlags := 1041 }

/-- the primitive int -/
def k16 : Class := { plain "int" none with kind := .primitive 'I', accessFlags := 0x411 }
/-- [I -/
def k17 : Class := { plain "[I" (some 0) with kind := .array 16 .int, interfaces := #[13, 3], accessFlags := 1041 }

def heap : Heap := #[{ cls := 10, slots := #[.ref 2, .null, .null, .null], vm := .statics 10 },
  { cls := 12, slots := #[.ref 3], vm := .statics 12 },
  { cls := 10, slots := #[.null, .int 0, .int 0], vm := .none },
  { cls := 12, slots := #[.int 0, .long 0], vm := .none }]
def classes : Array Class := #[k0, k1, k2, k3, k4, k5, k6, k7, k8, k9, k10, k11, k12, k13, k14, k15, k16, k17]
def interned : List (Array UInt16 × Addr) := []
def slotsUsed : Nat := 10
def theMethod : MethodId := ⟨1, 1⟩
def args0 : Array Value := #[.long 5, .int 2, .int 3]
def aboutOver (below : List Frame) : State where
  vm := { classes := classes, interned := interned.toArray }
  heap := heap
  slotsUsed := slotsUsed
  threads := #[{ frames := .invoking theMethod args0 :: below }]
def below0 : List Frame := [.native { method := ⟨0, 0⟩, args := #[] }]
def about1 : State := aboutOver below0
def p0 : Program := .bare "" "" ""
def e0 : Env := launch0.env 0 0 0
theorem w_frames : about1.frames = Frame.invoking theMethod args0 :: below0 := rfl
set_option maxRecDepth 65536 in
theorem w_args : argsFit about1.vm theMethod args0 = true := by decide +kernel
set_option maxRecDepth 65536 in
theorem w_heap : heapFits about1 = true := by decide +kernel
set_option maxRecDepth 65536 in
theorem w_runnable : about1.curStatus? = some .runnable := by decide +kernel
set_option maxRecDepth 65536 in
theorem w_alone : about1.alone = true := by decide +kernel
set_option maxRecDepth 65536 in
theorem w_named : about1.methodNamed? x = some theMethod := by decide +kernel
set_option maxRecDepth 65536 in
theorem w_hears : about1.hears theMethod below0 = true := by decide +kernel
set_option maxRecDepth 65536 in
theorem w_ripe : about1.ripe theMethod args0 below0 = true := by decide +kernel
theorem w_running : about1.status = .running := rfl
set_option maxRecDepth 65536 in
theorem w_room : about1.hasRoom e0.platform room_1 = true :=
  launch0.hasRoom_least _ room_1 (by decide +kernel) (by decide +kernel) (by decide +kernel) (by decide +kernel) (by decide +kernel) (by decide +kernel)
theorem allAtoms_all (ts : List Jvm.Cond) (a : Array Jvm.Value) (st : Jvm.State) : (allAtoms ts).before a st = ts.all (fun c => c.before a st) := by
  induction ts with
  | nil => rfl
  | cons c t ih =>
    show (Jvm.Cond.and c (allAtoms t)).before a st = _
    rw [Jvm.Cond.before_and, ih, List.all_cons]
def words1 : List Jvm.Cond := Jvm.Cond.code x code maxLocals ret :: tables_1
/-- a 'code' word, met by the world's own term for the bytes: nothing is compared byte by byte -/
theorem code_word {y : MethodName} {bytes : ByteArray} {mx : Nat} {rt : Option FieldType} {a : Array Value} {s : State} {m : MethodId} {meth : Method} {c : Code} (h1 : s.methodNamed? y = some m) (h2 : s.vm.method? m = some meth) (h3 : meth.code = some c) (h4 : c.code = bytes)
    (h5 : (c.maxLocals == mx && c.exceptionTable.isEmpty && decide (c.maxStack ≤ mostOperands) && decide (meth.sig.returnType = rt) && !meth.locks && decide (parseMethodDescriptor y.desc = some meth.sig)) = true) : (Jvm.Cond.code y bytes mx rt).before a s = true := by
  simp only [Bool.and_eq_true, beq_iff_eq, Bool.not_eq_true', decide_eq_true_eq] at h5
  obtain ⟨⟨⟨⟨⟨g1, g2⟩, g3⟩, g4⟩, g5⟩, g6⟩ := h5
  simp [Cond.before, Cond.holds, Cond.value, h1, h2, h3, h4, g1, g2, g3, g4, g5, g6]
def isCode : Jvm.Cond → Bool
  | .code _ _ _ _ => true
  | _ => false
theorem all_split {L : List Jvm.Cond} {P : Jvm.Cond → Bool} (h1 : L.all (fun c => isCode c || P c) = true) (h2 : ∀ c ∈ L.filter isCode, P c = true) : L.all P = true := by
  refine List.all_eq_true.mpr fun c hc => ?_
  have h := List.all_eq_true.mp h1 c hc
  rcases Bool.eq_false_or_eq_true (isCode c) with hi | hi
  · exact h2 c (List.mem_filter.mpr ⟨hc, hi⟩)
  · simpa [hi] using h
set_option maxRecDepth 65536 in
theorem w_c0 : (Jvm.Cond.code x code maxLocals ret).before args0 about1 = true := code_word (m := ⟨1, 1⟩) (meth := k1m1) (c := k1c1) (by decide +kernel) rfl rfl rfl (by decide +kernel)
set_option maxRecDepth 65536 in
theorem w_c1 : (Jvm.Cond.code ({ cls := "com/example/careful_lock/carefullock/core/Grant", name := "<init>", desc := "(Ljava/lang/String;JJLcom/example/careful_lock/carefullock/core/Ending;)V" } : Jvm.MethodName) prog_20_method_1_code (7 : Nat) (Option.none : Option Jvm.ClassFile.FieldType)).before args0 about1 = true := code_word (m := ⟨2, 0⟩) (meth := k2m0) (c := k2c0) (by decide +kernel) rfl rfl rfl (by decide +kernel)
set_option maxRecDepth 65536 in
theorem w_c2 : (Jvm.Cond.code ({ cls := "java/lang/Object", name := "<init>", desc := "()V" } : Jvm.MethodName) object_method_1_code (1 : Nat) (Option.none : Option Jvm.ClassFile.FieldType)).before args0 about1 = true := code_word (m := ⟨0, 0⟩) (meth := k0m0) (c := k0c0) (by decide +kernel) rfl rfl rfl (by decide +kernel)
set_option maxRecDepth 65536 in
theorem w_c3 : (Jvm.Cond.code ({ cls := "com/example/careful_lock/carefullock/core/LockStatus", name := "<init>", desc := "(Lcom/example/careful_lock/carefullock/core/Grant;JIZ)V" } : Jvm.MethodName) prog_23_method_1_code (6 : Nat) (Option.none : Option Jvm.ClassFile.FieldType)).before args0 about1 = true := code_word (m := ⟨11, 0⟩) (meth := k11m0) (c := k11c0) (by decide +kernel) rfl rfl rfl (by decide +kernel)
set_option maxRecDepth 65536 in
theorem w_c4 : (Jvm.Cond.code ({ cls := "com/example/careful_lock/carefullock/core/LockStatus", name := "lastToken", desc := "()Ljava/util/OptionalLong;" } : Jvm.MethodName) prog_23_method_3_code (1 : Nat) (Option.some (Jvm.ClassFile.FieldType.object "java/util/OptionalLong"))).before args0 about1 = true := code_word (m := ⟨11, 1⟩) (meth := k11m1) (c := k11c1) (by decide +kernel) rfl rfl rfl (by decide +kernel)
set_option maxRecDepth 65536 in
theorem w_c5 : (Jvm.Cond.code ({ cls := "java/util/OptionalLong", name := "of", desc := "(J)Ljava/util/OptionalLong;" } : Jvm.MethodName) jdk_2650_method_4_code (2 : Nat) (Option.some (Jvm.ClassFile.FieldType.object "java/util/OptionalLong"))).before args0 about1 = true := code_word (m := ⟨12, 3⟩) (meth := k12m3) (c := k12c3) (by decide +kernel) rfl rfl rfl (by decide +kernel)
set_option maxRecDepth 65536 in
theorem w_c6 : (Jvm.Cond.code ({ cls := "java/util/OptionalLong", name := "<init>", desc := "(J)V" } : Jvm.MethodName) jdk_2650_method_3_code (3 : Nat) (Option.none : Option Jvm.ClassFile.FieldType)).before args0 about1 = true := code_word (m := ⟨12, 2⟩) (meth := k12m2) (c := k12c2) (by decide +kernel) rfl rfl rfl (by decide +kernel)
set_option maxRecDepth 65536 in
theorem w_c7 : (Jvm.Cond.code ({ cls := "java/util/OptionalLong", name := "isPresent", desc := "()Z" } : Jvm.MethodName) jdk_2650_method_6_code (1 : Nat) (Option.some Jvm.ClassFile.FieldType.boolean)).before args0 about1 = true := code_word (m := ⟨12, 5⟩) (meth := k12m5) (c := k12c5) (by decide +kernel) rfl rfl rfl (by decide +kernel)
set_option maxRecDepth 65536 in
theorem w_c8 : (Jvm.Cond.code ({ cls := "java/util/OptionalLong", name := "getAsLong", desc := "()J" } : Jvm.MethodName) jdk_2650_method_5_code (1 : Nat) (Option.some Jvm.ClassFile.FieldType.long)).before args0 about1 = true := code_word (m := ⟨12, 4⟩) (meth := k12m4) (c := k12c4) (by decide +kernel) rfl rfl rfl (by decide +kernel)
set_option maxRecDepth 65536 in
theorem w_c9 : (Jvm.Cond.code ({ cls := "java/util/OptionalLong", name := "empty", desc := "()Ljava/util/OptionalLong;" } : Jvm.MethodName) jdk_2650_method_2_code (0 : Nat) (Option.some (Jvm.ClassFile.FieldType.object "java/util/OptionalLong"))).before args0 about1 = true := code_word (m := ⟨12, 1⟩) (meth := k12m1) (c := k12c1) (by decide +kernel) rfl rfl rfl (by decide +kernel)
def codes1 : List Jvm.Cond := [Jvm.Cond.code x code maxLocals ret, Jvm.Cond.code ({ cls := "com/example/careful_lock/carefullock/core/Grant", name := "<init>", desc := "(Ljava/lang/String;JJLcom/example/careful_lock/carefullock/core/Ending;)V" } : Jvm.MethodName) prog_20_method_1_code (7 : Nat) (Option.none : Option Jvm.ClassFile.FieldType), Jvm.Cond.code ({ cls := "java/lang/Object", name := "<init>", desc := "()V" } : Jvm.MethodName) object_method_1_code (1 : Nat) (Option.none : Option Jvm.ClassFile.FieldType), Jvm.Cond.code ({ cls := "com/example/careful_lock/carefullock/core/LockStatus", name := "<init>", desc := "(Lcom/example/careful_lock/carefullock/core/Grant;JIZ)V" } : Jvm.MethodName) prog_23_method_1_code (6 : Nat) (Option.none : Option Jvm.ClassFile.FieldType), Jvm.Cond.code ({ cls := "com/example/careful_lock/carefullock/core/LockStatus", name := "lastToken", desc := "()Ljava/util/OptionalLong;" } : Jvm.MethodName) prog_23_method_3_code (1 : Nat) (Option.some (Jvm.ClassFile.FieldType.object "java/util/OptionalLong")), Jvm.Cond.code ({ cls := "java/util/OptionalLong", name := "of", desc := "(J)Ljava/util/OptionalLong;" } : Jvm.MethodName) jdk_2650_method_4_code (2 : Nat) (Option.some (Jvm.ClassFile.FieldType.object "java/util/OptionalLong")), Jvm.Cond.code ({ cls := "java/util/OptionalLong", name := "<init>", desc := "(J)V" } : Jvm.MethodName) jdk_2650_method_3_code (3 : Nat) (Option.none : Option Jvm.ClassFile.FieldType), Jvm.Cond.code ({ cls := "java/util/OptionalLong", name := "isPresent", desc := "()Z" } : Jvm.MethodName) jdk_2650_method_6_code (1 : Nat) (Option.some Jvm.ClassFile.FieldType.boolean), Jvm.Cond.code ({ cls := "java/util/OptionalLong", name := "getAsLong", desc := "()J" } : Jvm.MethodName) jdk_2650_method_5_code (1 : Nat) (Option.some Jvm.ClassFile.FieldType.long), Jvm.Cond.code ({ cls := "java/util/OptionalLong", name := "empty", desc := "()Ljava/util/OptionalLong;" } : Jvm.MethodName) jdk_2650_method_2_code (0 : Nat) (Option.some (Jvm.ClassFile.FieldType.object "java/util/OptionalLong"))]
set_option maxRecDepth 65536 in
theorem codes_eq : words1.filter isCode = codes1 := rfl
theorem w_codes : ∀ c ∈ words1.filter isCode, c.before args0 about1 = true := by
  rw [codes_eq]
  intro c hc
  simp only [codes1, List.mem_cons, List.not_mem_nil, or_false] at hc
  rcases hc with rfl | rfl | rfl | rfl | rfl | rfl | rfl | rfl | rfl | rfl
  · exact w_c0
  · exact w_c1
  · exact w_c2
  · exact w_c3
  · exact w_c4
  · exact w_c5
  · exact w_c6
  · exact w_c7
  · exact w_c8
  · exact w_c9
set_option maxRecDepth 65536 in
theorem w_t1 : (words1.take 24).all (fun c => isCode c || c.before args0 about1) = true := by decide +kernel
set_option maxRecDepth 65536 in
theorem w_t2 : ((words1.drop 24).take 24).all (fun c => isCode c || c.before args0 about1) = true := by decide +kernel
set_option maxRecDepth 65536 in
theorem w_t3 : (((words1.drop 24).drop 24).take 24).all (fun c => isCode c || c.before args0 about1) = true := by decide +kernel
set_option maxRecDepth 65536 in
theorem w_t4 : (((words1.drop 24).drop 24).drop 24).all (fun c => isCode c || c.before args0 about1) = true := by decide +kernel
theorem w_tables : (allAtoms (Jvm.Cond.code x code maxLocals ret :: tables_1)).before args0 about1 = true := by
  rw [allAtoms_all]
  show words1.all (fun c => c.before args0 about1) = true
  refine all_split ?_ w_codes
  rw [← List.take_append_drop 24 words1, List.all_append, w_t1, ← List.take_append_drop 24 (words1.drop 24), List.all_append, w_t2, ← List.take_append_drop 24 ((words1.drop 24).drop 24), List.all_append, w_t3, w_t4]
  rfl
set_option maxRecDepth 65536 in
theorem w_rest : rest_1_c.before args0 about1 = true := by decide +kernel
set_option maxRecDepth 65536 in
theorem w_case : (Jvm.Cond.and given_1 narrow_1).before args0 about1 = true := by decide +kernel
theorem w_applies : (headSpec (Jvm.Cond.code x code maxLocals ret :: tables_1) room_1).applies x e0.platform about1 = true :=
  (Spec.applies_iff w_frames).mpr ⟨w_running, w_runnable, w_alone, w_named, w_hears, w_ripe, w_room, w_tables⟩
theorem atStart : AtStart classFile x code maxLocals ret World_1 tables_1 room_1 Calls_1 rest_1 Pre_1 launch0 p0 e0 about1 theMethod args0 below0 :=
  ⟨lists_1, trivial, launch0.admits_env _ _ _, launch0.least_env, fairChoices_fair.cas, fairChoices_fair.clock, w_frames, w_args, w_heap, w_applies, trivial, w_rest, w_case⟩
end start1
theorem witness_1 : WitnessClaimed_1 := ⟨start1.p0, start1.e0, start1.about1, start1.theMethod, start1.args0, start1.below0, start1.atStart⟩
end Jvm.Pilot.@@N@@
