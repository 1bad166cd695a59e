import JvmDerived
import JvmDerived.Pilot.@@N@@Statement
import JvmDerived.Pilot.@@N@@Code
set_option linter.unusedVariables false
set_option linter.unusedSimpArgs false
namespace Jvm.RoadKit
open Sem ClassFile Op Lib Jvm.Stand Jvm.Free Jvm.LawKit
section New
variable {p : Program} {l : Launch} {e : Env} {R : Room} {s : State} {m : MethodId} {args : Array Value} {below : List Frame} {meth : Method} {c : Code} {T : State} {locs : List Loc} {cells slots : Nat}
theorem retI (X : Stand p l e R s m args below meth c T locs cells slots) (hx : p.tables.exec = Jvm.exec) {pc : Nat} {Ls : Array Slot} {z : Int32} {rest : List Value} (hret : meth.sig.returnType = some .int) (hd : decode c.code pc = .ok (.ireturn, 1)) {fs : List Frame}
    (hl : ∀ (f : JFrame) (acts : List Action), f.method = m → f.locked = none → f.entered = [] → (doReturn e (T.setTop f) acts (some (.int z))).1 = T.setFrames fs) : Steps p.tables e below (T.setTop (mkF m pc Ls (.int z :: rest))) (T.setFrames fs) := by
  have hm' : T.vm.method? m = some meth := X.method'
  have hn : narrow .int (.int z) = .int z := rfl
  show Steps p.tables e below (T.setTop { method := m, pc := pc, locals := Ls, stack := _ :: rest, locked := none }) _
  jvm_step X.here [X.here.top, hx, hd, hm', hret, hn]
  first | (intro acts; rw [hl _ acts rfl rfl rfl]) | rw [hl _ _ rfl rfl rfl]
  exact Steps.refl _
end New
/-- from W the run comes to a state and an outcome of which K holds -/
def OwnEnds (tb : Tables) (e : Env) (below : List Frame) (K : State → Outcome → Prop) (W : State) : Prop := ∃ t o, Steps tb e below W t ∧ K t o
theorem OwnEnds.via {tb : Tables} {e : Env} {below : List Frame} {K : State → Outcome → Prop} {W W' : State} (f : ∀ t, Steps tb e below W' t → Steps tb e below W t) (h : OwnEnds tb e below K W') : OwnEnds tb e below K W := by
  obtain ⟨t, o, h1, h2⟩ := h
  exact ⟨t, o, f t h1, h2⟩
theorem OwnEnds.cut {tb : Tables} {e : Env} {below : List Frame} {K : State → Outcome → Prop} {W : State} (A : (State → Prop) → Prop) (h1 : A (OwnEnds tb e below K)) (h2 : A (OwnEnds tb e below K) → OwnEnds tb e below K W) : OwnEnds tb e below K W := h2 h1
end Jvm.RoadKit
namespace Jvm.Pilot.@@N@@
open Jvm Jvm.ClassFile Sem Op Lib Jvm.Free Jvm.Stand Jvm.LawKit Jvm.RoadKit Bundle Jvm.Pilot.@@N@@.Jvm.D
theorem own_root {Z : State} {a0 : Array Value} {O K : String} {n : Nat} (w : (Cond.noSuperclass O).before a0 Z = true) (wk : (Cond.instantiable K n).before a0 Z = true) (hn : O ≠ K) : NS Z O K := by
  obtain ⟨c, k, h1, h2, h3, -, -⟩ := Cond.noSuperclass_spec w
  obtain ⟨t, kt, g1, -⟩ := Cond.instantiable_spec wk
  have ne := ids_ne h1 g1 hn
  refine ⟨c, t, h1, g1, fun fuel => ?_⟩
  cases fuel with
  | zero => rfl
  | succ f => simp [Vm.isSubclassAux, ne, h2, h3]
theorem own_no {Z : State} {a0 : Array Value} {C S K : String} {n : Nat} (w : (Cond.superclass C S).before a0 Z = true) (wk : (Cond.instantiable K n).before a0 Z = true) (q : NS Z C K) (hn : C ≠ K) : ∃ c t, Z.vm.findClass C = some c ∧ Z.vm.findClass K = some t ∧ Z.vm.assignable c t = false := by
  obtain ⟨c, t, h0, g0, n3⟩ := q
  obtain ⟨p, k, kp, h1, h2, h3, h4, h5, -, h7⟩ := Cond.superclass_spec h0 w
  obtain ⟨t', kt, g1, g2, g3, g4, -⟩ := Cond.instantiable_spec wk
  cases g0.symm.trans g1
  have ne := ids_ne h0 g0 hn
  have g5 : kt.isInterface = false := (Bool.or_eq_false_iff.mp g4).1
  refine ⟨c, t, h0, g0, ?_⟩
  show Z.vm.assignableAux (255 + 1) c t = false
  simp [Vm.assignableAux, ne, h2, g2, h5, g3, g5, Vm.isSubclass, n3]
theorem own_len {args : Array Value} {first s : State} {o : Option Outcome} {idx : List Nat} {t : Term} {x : Addr} {cl : Cell} {k : Int32} (ht : t.eval args first o idx s = some (.ref x)) (ha : s.arrayAt? x = some cl) (h : (Term.length t).eval args first o idx s = some (.int k)) : cl.slots.size < 2 ^ 31 ∧ cl.slots.size.toInt32 = k := by
  by_cases hl : cl.slots.size < 2 ^ 31
  · rw [len_f ht ha hl] at h
    exact ⟨hl, Value.int.inj (Option.some.inj h)⟩
  · simp [Term.eval, ht, ha, hl] at h
theorem own_idx (p : Int32) (h1 : ¬ p < (-128 : Int32)) (h2 : ¬ (127 : Int32) < p) : ¬ (p + (128 : Int32)) < 0 ∧ (p + (128 : Int32)) < (256 : Int32) := by
  rw [Int32.lt_iff_toInt_lt] at *
  rw [Int32.lt_iff_toInt_lt]
  have a := c_iadd p 128
  have r := rng32 p
  have r2 := rng32 (p + 128)
  have z1 : (-128 : Int32).toInt = -128 := by decide
  have z2 : (127 : Int32).toInt = 127 := by decide
  have z3 : (128 : Int32).toInt = 128 := by decide
  have z4 : (256 : Int32).toInt = 256 := by decide
  have z5 : (0 : Int32).toInt = 0 := by decide
  omega

theorem d8_0 : decode jdk_18_method_1_code 0 = .ok (.aload_n 0, 1) := by decide +kernel
theorem d8_1 : decode jdk_18_method_1_code 1 = .ok (.invokespecial 1, 3) := by decide +kernel
theorem d8_4 : decode jdk_18_method_1_code 4 = .ok (.return_, 1) := by decide +kernel
theorem pn_rm8 : plainName "java/lang/Number" = true := by first | (simp [plainName, overriddenIn]; done) | decide +kernel
theorem ef_rm8 (m : MethodId) (a : Addr) : entryFrame m #[(.ref a)] 1 = mkF m 0 #[.val (.ref a)] [] := by first | (simp [entryFrame, mkF, argsToLocals, Value.category]; done) | rfl
def Q8 (Z : State) (a : Addr) (h0 : Heap) (n0 : Nat) (v : Option Value) (h : Heap) (L : List Loc) : Prop := v = none ∧ Fr n0 L ∧ h = h0
set_option maxRecDepth 65536 in
set_option maxHeartbeats 40000000 in
theorem rm8 (l : Launch) (Z : State) (a0 : Array Value) (hw : ∀ d ∈ tables_1, d.before a0 Z = true) (ws : List Jvm.Cond) (a : Addr) (h0 : Heap) (n0 : Nat) (Z0 : n0 ≤ h0.size)  :
    MetFree l (⟨"java/lang/Number", "<init>", "()V"⟩ : MethodName) (head1 (Jvm.Cond.code (⟨"java/lang/Number", "<init>", "()V"⟩ : MethodName) jdk_18_method_1_code 1 none :: ws) ({ frames := 1, cells := 0, slots := 0, locals := 12 } : Room)) (fun aa U => aa = #[(.ref a)] ∧ Z.Warmed39 U.vm ∧ U.heap = h0) (fun _ _ _ _ _ => True) (fun _ U o U' => ∃ v L, o = .returned v ∧ Q8 Z a h0 n0 v U'.heap L ∧ FrameEnd U o U' L ({ frames := 1, cells := 0, slots := 0, locals := 12 } : Room).cells ({ frames := 1, cells := 0, slots := 0, locals := 12 } : Room).slots) := by
  refine MetFree.of_bodySF (plainFor_of_name pn_rm8) hisR ?_
  intro p e s m args below meth c s₁ Bd hml0 hP hK
  obtain ⟨rfl, hZ, hh⟩ := hP
  have hx := Bd.exec
  have hby := Bd.bytes
  have hml : c.maxLocals = 1 := hml0
  have hown : s.vm.findClass "java/lang/Number" = some m.cls := findClass_of_methodNamed Bd.named
  have hnm := (name_of_methodNamed Bd.named Bd.method).1
  have X0 : Stand p l e ({ frames := 1, cells := 0, slots := 0, locals := 12 } : Room) s m #[(.ref a)] below meth c s₁ [] 0 0 := Stand.of_body Bd
  have e0 : s₁.heap = h0 := by rw [← hh, Bd.state]; rfl
  have N0 := Fr.nil n0
  change OwnEnds p.tables e below _ _
  refine OwnEnds.via (fun t k => castTop (ef_rm8 m a) k) ?_
  show OwnEnds _ _ _ _ (s₁.setTop (mkF m 0 #[.val (.ref a)] []))
  refine OwnEnds.via (fun t k => XS.aloadN X0.here hx rfl (hb hby d8_0) rfl rfl k) ?_
  show OwnEnds _ _ _ _ (s₁.setTop (mkF m 1 #[.val (.ref a)] [(.ref a)]))
  obtain ⟨T1, X1, e1, st1⟩ := initO X0 hx hZ hown (hw _ (List.mem_of_getElem? (i := 56) rfl)) (hw _ (List.mem_of_getElem? (i := 10) rfl)) (hw _ (List.mem_of_getElem? (i := 11) rfl)) e0 (g := (mkF m 1 #[.val (.ref a)] [(.ref a)])) rfl (by rw [hml]; rfl) rfl (hb hby d8_1) (by decide) (W := 0) (by show 2 * 0 + _ ≤ _; exact Nat.le_of_eq rfl) (by decide)
  refine OwnEnds.via st1 ?_
  show OwnEnds _ _ _ _ (T1.setTop (mkF m 4 #[.val (.ref a)] []))
  obtain ⟨fs, hr, hrun, hended, hW, hsame⟩ := X1.leave (v := none) (fun _ => rfl)
  refine ⟨_, _, ?_, hrun, hended, _, _, rfl, ?_, ⟨_, rfl⟩, hW, hsame.mono (by decide) (by decide)⟩
  · exact X1.returnOut hx Bd.returns (hb hby d8_4) hr
  · show Q8 Z a h0 n0 _ T1.heap _
    rw [e1]
    exact ⟨rfl, N0, rfl⟩

theorem d7_0 : decode jdk_33_method_23_code 0 = .ok (.aload_n 0, 1) := by decide +kernel
theorem d7_1 : decode jdk_33_method_23_code 1 = .ok (.invokespecial 202, 3) := by decide +kernel
theorem d7_4 : decode jdk_33_method_23_code 4 = .ok (.aload_n 0, 1) := by decide +kernel
theorem d7_5 : decode jdk_33_method_23_code 5 = .ok (.iload_n 1, 1) := by decide +kernel
theorem d7_6 : decode jdk_33_method_23_code 6 = .ok (.putfield 205, 3) := by decide +kernel
theorem d7_9 : decode jdk_33_method_23_code 9 = .ok (.return_, 1) := by decide +kernel
theorem pn_rm7 : plainName "java/lang/Integer" = true := by first | (simp [plainName, overriddenIn]; done) | decide +kernel
theorem pd_0 : parseMethodDescriptor "()V" = some ⟨[], none⟩ := by decide +kernel
theorem ef_rm7 (m : MethodId) (a : Addr) (ip : Int32) : entryFrame m #[(.ref a), (.int ip)] 2 = mkF m 0 #[.val (.ref a), .val (.int ip)] [] := by first | (simp [entryFrame, mkF, argsToLocals, Value.category]; done) | rfl
def Q7 (Z : State) (a : Addr) (ip : Int32) (h0 : Heap) (n0 : Nat) (v : Option Value) (h : Heap) (L : List Loc) : Prop := v = none ∧ Fr n0 L ∧ Keep h0 h [a] ∧ Exa Z h a "java/lang/Integer" ∧ Fld Z h a "java/lang/Integer" "value" "I" (.int ip)
set_option maxRecDepth 65536 in
set_option maxHeartbeats 40000000 in
theorem rm7 (l : Launch) (Z : State) (a0 : Array Value) (hw : ∀ d ∈ tables_1, d.before a0 Z = true) (ws : List Jvm.Cond) (a : Addr) (ip : Int32) (h0 : Heap) (n0 : Nat) (Z0 : n0 ≤ h0.size) (P0 : Exa Z h0 a "java/lang/Integer") (P1 : Fld Z h0 a "java/lang/Integer" "value" "I" (.int (0 : Int32))) (P2 : n0 ≤ a) :
    MetFree l (⟨"java/lang/Integer", "<init>", "(I)V"⟩ : MethodName) (head1 (Jvm.Cond.code (⟨"java/lang/Integer", "<init>", "(I)V"⟩ : MethodName) jdk_33_method_23_code 2 none :: ws) ({ frames := 2, cells := 0, slots := 0, locals := 24 } : Room)) (fun aa U => aa = #[(.ref a), (.int ip)] ∧ Z.Warmed39 U.vm ∧ U.heap = h0) (fun _ _ _ _ _ => True) (fun _ U o U' => ∃ v L, o = .returned v ∧ Q7 Z a ip h0 n0 v U'.heap L ∧ FrameEnd U o U' L ({ frames := 2, cells := 0, slots := 0, locals := 24 } : Room).cells ({ frames := 2, cells := 0, slots := 0, locals := 24 } : Room).slots) := by
  refine MetFree.of_bodySF (plainFor_of_name pn_rm7) hisR ?_
  intro p e s m args below meth c s₁ Bd hml0 hP hK
  obtain ⟨rfl, hZ, hh⟩ := hP
  have hx := Bd.exec
  have hby := Bd.bytes
  have hml : c.maxLocals = 2 := hml0
  have hown : s.vm.findClass "java/lang/Integer" = some m.cls := findClass_of_methodNamed Bd.named
  have hnm := (name_of_methodNamed Bd.named Bd.method).1
  have X0 : Stand p l e ({ frames := 2, cells := 0, slots := 0, locals := 24 } : Room) s m #[(.ref a), (.int ip)] below meth c s₁ [] 0 0 := Stand.of_body Bd
  have e0 : s₁.heap = h0 := by rw [← hh, Bd.state]; rfl
  have N0 := Fr.nil n0
  change OwnEnds p.tables e below _ _
  refine OwnEnds.via (fun t k => castTop (ef_rm7 m a ip) k) ?_
  show OwnEnds _ _ _ _ (s₁.setTop (mkF m 0 #[.val (.ref a), .val (.int ip)] []))
  refine OwnEnds.via (fun t k => XS.aloadN X0.here hx rfl (hb hby d7_0) rfl rfl k) ?_
  show OwnEnds _ _ _ _ (s₁.setTop (mkF m 1 #[.val (.ref a), .val (.int ip)] [(.ref a)]))
  obtain ⟨_, _, ⟨T1, L1, k1, n1⟩, -, X1, ⟨Lc1, hQ1, l1, y1, z1⟩, st1⟩ := X0.specialBack hx (y := (⟨"java/lang/Number", "<init>", "()V"⟩ : MethodName)) rfl hown (mvT hZ (hw _ (List.mem_of_getElem? (i := 50) rfl))) (mvT hZ (hw _ (List.mem_of_getElem? (i := 51) rfl))) (mvT hZ (hw _ (List.mem_of_getElem? (i := 55) rfl))) (by decide) (backOf (W := 0) (rm8 l Z a0 hw [] a h0 n0 Z0 ) hZ (hw _ (List.mem_of_getElem? (i := 55) rfl)) (hw _ (List.mem_of_getElem? (i := 54) rfl)) (by decide) (by decide)) (g := (mkF m 1 #[.val (.ref a), .val (.int ip)] [(.ref a)])) rfl (by rw [hml]; rfl) (Steps.refl _) (a := a) (argsL := []) (rest := []) (lenOf pd_0 rfl) rfl (by show 2 * 0 + _ ≤ _; exact Nat.le_of_eq rfl) (hb hby d7_1) (fun _ _ => ⟨rfl, e0, (by decide : 0 + 0 ≤ _), (by decide : 0 + 0 ≤ _)⟩)
  dsimp only [Pt.U, Pt.locs, Pt.cells, Pt.slots] at X1 l1 y1 z1 st1 hQ1
  subst l1 y1 z1
  obtain ⟨rfl, Nq1, e1⟩ := hQ1
  have N1 := Fr.app N0 Nq1
  refine OwnEnds.via (fun t k => st1.trans k) ?_
  show OwnEnds _ _ _ _ (T1.setTop (mkF m 4 #[.val (.ref a), .val (.int ip)] []))
  refine OwnEnds.via (fun t k => XS.aloadN X1.here hx rfl (hb hby d7_4) rfl rfl k) ?_
  show OwnEnds _ _ _ _ (T1.setTop (mkF m 5 #[.val (.ref a), .val (.int ip)] [(.ref a)]))
  refine OwnEnds.via (fun t k => XS.iloadN X1.here hx rfl (hb hby d7_5) rfl k) ?_
  show OwnEnds _ _ _ _ (T1.setTop (mkF m 6 #[.val (.ref a), .val (.int ip)] [(.int ip), (.ref a)]))
  obtain ⟨T2, h2, X2, e2, W2, st2⟩ := putF X1 hx hZ hown (host := "") (Or.inl (hw _ (List.mem_of_getElem? (i := 57) rfl))) Via.refl e1 P1 P0 (Or.inr ⟨(hw _ (List.mem_of_getElem? (i := 58) rfl)), rfl, hnm⟩) (hw _ (List.mem_of_getElem? (i := 45) rfl)) (ty := .int) (by decide) rfl rfl (g := (mkF m 6 #[.val (.ref a), .val (.int ip)] [(.int ip), (.ref a)])) rfl rfl (hb hby d7_6)
  have Fw2 : Fld Z h2 a "java/lang/Integer" "value" "I" (.int ip) := P1.same W2
  have N2 := Fr.snoc X2 N1 P2
  have Z2 : n0 ≤ h2.size := Nat.le_trans Z0 (Nat.le_of_eq W2.size.symm)
  have K2 : Keep h0 h2 [a] := (Keep.refl h0 [a]).wr W2 (Or.inl (by simp))
  refine OwnEnds.via st2 ?_
  show OwnEnds _ _ _ _ (T2.setTop (mkF m 9 #[.val (.ref a), .val (.int ip)] []))
  obtain ⟨fs, hr, hrun, hended, hW, hsame⟩ := X2.leave (v := none) (fun _ => rfl)
  refine ⟨_, _, ?_, hrun, hended, _, _, rfl, ?_, ⟨_, rfl⟩, hW, hsame.mono (by decide) (by decide)⟩
  · exact X2.returnOut hx Bd.returns (hb hby d7_9) hr
  · show Q7 Z a ip h0 n0 _ T2.heap _
    rw [e2]
    exact ⟨rfl, N2, K2, (P0.wr W2), Fw2⟩

theorem d6_0 : decode jdk_33_method_22_code 0 = .ok (.iload_n 0, 1) := by decide +kernel
theorem d6_1 : decode jdk_33_method_22_code 1 = .ok (.bipush (-128), 2) := by decide +kernel
theorem d6_3 : decode jdk_33_method_22_code 3 = .ok (.if_icmp .lt 20, 3) := by decide +kernel
theorem d6_6 : decode jdk_33_method_22_code 6 = .ok (.iload_n 0, 1) := by decide +kernel
theorem d6_7 : decode jdk_33_method_22_code 7 = .ok (.getstatic 191, 3) := by decide +kernel
theorem d6_10 : decode jdk_33_method_22_code 10 = .ok (.if_icmp .gt 13, 3) := by decide +kernel
theorem d6_13 : decode jdk_33_method_22_code 13 = .ok (.getstatic 195, 3) := by decide +kernel
theorem d6_16 : decode jdk_33_method_22_code 16 = .ok (.iload_n 0, 1) := by decide +kernel
theorem d6_17 : decode jdk_33_method_22_code 17 = .ok (.sipush 128, 3) := by decide +kernel
theorem d6_20 : decode jdk_33_method_22_code 20 = .ok (.iadd, 1) := by decide +kernel
theorem d6_21 : decode jdk_33_method_22_code 21 = .ok (.aaload, 1) := by decide +kernel
theorem d6_22 : decode jdk_33_method_22_code 22 = .ok (.areturn, 1) := by decide +kernel
theorem d6_23 : decode jdk_33_method_22_code 23 = .ok (.new 1, 3) := by decide +kernel
theorem d6_26 : decode jdk_33_method_22_code 26 = .ok (.dup, 1) := by decide +kernel
theorem d6_27 : decode jdk_33_method_22_code 27 = .ok (.iload_n 0, 1) := by decide +kernel
theorem d6_28 : decode jdk_33_method_22_code 28 = .ok (.invokespecial 199, 3) := by decide +kernel
theorem d6_31 : decode jdk_33_method_22_code 31 = .ok (.areturn, 1) := by decide +kernel
theorem pn_rm6 : plainName "java/lang/Integer" = true := by first | (simp [plainName, overriddenIn]; done) | decide +kernel
theorem pd_1 : parseMethodDescriptor "(I)V" = some ⟨[.int], none⟩ := by decide +kernel
theorem ef_rm6 (m : MethodId) (ip : Int32) : entryFrame m #[(.int ip)] 1 = mkF m 0 #[.val (.int ip)] [] := by first | (simp [entryFrame, mkF, argsToLocals, Value.category]; done) | rfl
def Q6 (Z : State) (ip : Int32) (cc : Addr) (cb : Cell) (vb : Int32 → Value) (h0 : Heap) (n0 : Nat) (v : Option Value) (h : Heap) (L : List Loc) : Prop := ∃ b : Addr, v = some (.ref b) ∧ Fr n0 L ∧ Keep h0 h [] ∧ Exa Z h b "java/lang/Integer"
set_option maxRecDepth 65536 in
set_option maxHeartbeats 40000000 in
theorem rm6 (l : Launch) (Z : State) (a0 : Array Value) (hw : ∀ d ∈ tables_1, d.before a0 Z = true) (ws : List Jvm.Cond) (ip : Int32) (cc : Addr) (cb : Cell) (vb : Int32 → Value) (h0 : Heap) (n0 : Nat) (Z0 : n0 ≤ h0.size) (O0 : Old Z n0 h0) (P0 : Bxs Z cc cb "java/lang/Integer" "I" (256 : Int32) vb) (OP0 : Sta Z Z.heap "java/lang/Integer$IntegerCache" "high" "I" (.int (127 : Int32))) (OP1 : Sta Z Z.heap "java/lang/Integer$IntegerCache" "cache" "[Ljava/lang/Integer;" (.ref cc)) :
    MetFree l (⟨"java/lang/Integer", "valueOf", "(I)Ljava/lang/Integer;"⟩ : MethodName) (head1 (Jvm.Cond.code (⟨"java/lang/Integer", "valueOf", "(I)Ljava/lang/Integer;"⟩ : MethodName) jdk_33_method_22_code 1 (some (.object "java/lang/Integer")) :: ws) ({ frames := 3, cells := 1, slots := 1, locals := 38 } : Room)) (fun aa U => aa = #[(.int ip)] ∧ Z.Warmed39 U.vm ∧ U.heap = h0) (fun _ _ _ _ _ => True) (fun _ U o U' => ∃ v L, o = .returned v ∧ Q6 Z ip cc cb vb h0 n0 v U'.heap L ∧ FrameEnd U o U' L ({ frames := 3, cells := 1, slots := 1, locals := 38 } : Room).cells ({ frames := 3, cells := 1, slots := 1, locals := 38 } : Room).slots) := by
  refine MetFree.of_bodySF (plainFor_of_name pn_rm6) hisR ?_
  intro p e s m args below meth c s₁ Bd hml0 hP hK
  obtain ⟨rfl, hZ, hh⟩ := hP
  have hx := Bd.exec
  have hby := Bd.bytes
  have hml : c.maxLocals = 1 := hml0
  have hown : s.vm.findClass "java/lang/Integer" = some m.cls := findClass_of_methodNamed Bd.named
  have hnm := (name_of_methodNamed Bd.named Bd.method).1
  have X0 : Stand p l e ({ frames := 3, cells := 1, slots := 1, locals := 38 } : Room) s m #[(.int ip)] below meth c s₁ [] 0 0 := Stand.of_body Bd
  have e0 : s₁.heap = h0 := by rw [← hh, Bd.state]; rfl
  have N0 := Fr.nil n0
  change OwnEnds p.tables e below _ _
  refine OwnEnds.via (fun t k => castTop (ef_rm6 m ip) k) ?_
  show OwnEnds _ _ _ _ (s₁.setTop (mkF m 0 #[.val (.int ip)] []))
  refine OwnEnds.via (fun t k => XS.iloadN X0.here hx rfl (hb hby d6_0) rfl k) ?_
  show OwnEnds _ _ _ _ (s₁.setTop (mkF m 1 #[.val (.int ip)] [(.int ip)]))
  refine OwnEnds.via (fun t k => XS.bipush X0.here hx rfl (hb hby d6_1) k) ?_
  show OwnEnds _ _ _ _ (s₁.setTop (mkF m 3 #[.val (.int ip)] [(.int (-128 : Int32)), (.int ip)]))
  by_cases hc3_1 : ip < (-128 : Int32)
  ·
    refine OwnEnds.via (fun t k => XS.icmpYes X0.here hx rfl (pc0 := 3) (pc' := 23) rfl (hb hby d6_3) rfl (tlt hc3_1).1 (by decide) (by decide) k) ?_
    show OwnEnds _ _ _ _ (s₁.setTop (mkF m 23 #[.val (.int ip)] []))
    obtain ⟨T2, h2, X2, e2, E2, A2, D2, -, st2⟩ := newO X0 hx hZ hown (hw _ (List.mem_of_getElem? (i := 44) rfl)) (hw _ (List.mem_of_getElem? (i := 45) rfl)) (hw _ (List.mem_of_getElem? (i := 36) rfl)) e0 (g := (mkF m 23 #[.val (.int ip)] [])) rfl (hb hby d6_23) (by decide) (by decide)
    obtain ⟨b2, g2⟩ : ∃ z, z = h0.size := ⟨_, rfl⟩
    have ge_b2 : n0 ≤ b2 := Nat.le_trans Z0 (Nat.le_of_eq g2.symm)
    have sz_b2 : h0.size ≤ b2 := Nat.le_trans (Keep.refl h0 []).1 (Nat.le_of_eq g2.symm)
    have Z2 : n0 ≤ h2.size := Nat.le_trans Z0 E2.1
    have K2 : Keep h0 h2 [] := (Keep.refl h0 []).ext E2
    have O2 : Old Z n0 h2 := O0.ext E2
    rw [← g2] at A2 D2 st2
    have F2_value : Fld Z h2 b2 "java/lang/Integer" "value" "I" (.int (0 : Int32)) := D2 (Or.inr (hw _ (List.mem_of_getElem? (i := 58) rfl))) (ty := .int) (by decide)
    refine OwnEnds.via st2 ?_
    show OwnEnds _ _ _ _ (T2.setTop (mkF m 26 #[.val (.int ip)] [(.ref b2)]))
    refine OwnEnds.via (fun t k => XS.dup X2.here hx rfl (hb hby d6_26) rfl rfl k) ?_
    show OwnEnds _ _ _ _ (T2.setTop (mkF m 27 #[.val (.int ip)] [(.ref b2), (.ref b2)]))
    refine OwnEnds.via (fun t k => XS.iloadN X2.here hx rfl (hb hby d6_27) rfl k) ?_
    show OwnEnds _ _ _ _ (T2.setTop (mkF m 28 #[.val (.int ip)] [(.int ip), (.ref b2), (.ref b2)]))
    obtain ⟨_, _, ⟨T3, L3, k3, n3⟩, -, X3, ⟨Lc3, hQ3, l3, y3, z3⟩, st3⟩ := X2.specialBack hx (y := (⟨"java/lang/Integer", "<init>", "(I)V"⟩ : MethodName)) rfl hown (mvT hZ (hw _ (List.mem_of_getElem? (i := 46) rfl))) (mvT hZ (hw _ (List.mem_of_getElem? (i := 47) rfl))) (mvT hZ (hw _ (List.mem_of_getElem? (i := 49) rfl))) (by decide) (backOf (W := 1) (rm7 l Z a0 hw [] b2 ip h2 n0 Z2 A2 F2_value ge_b2) hZ (hw _ (List.mem_of_getElem? (i := 49) rfl)) (hw _ (List.mem_of_getElem? (i := 36) rfl)) (by decide) (by decide)) (g := (mkF m 28 #[.val (.int ip)] [(.int ip), (.ref b2), (.ref b2)])) rfl (by rw [hml]; rfl) (Steps.refl _) (a := b2) (argsL := [(.int ip)]) (rest := [(.ref b2)]) (lenOf pd_1 rfl) rfl (by show 2 * 0 + _ ≤ _; exact Nat.le_of_eq rfl) (hb hby d6_28) (fun _ _ => ⟨rfl, e2, (by decide : 1 + 0 ≤ _), (by decide : 1 + 0 ≤ _)⟩)
    dsimp only [Pt.U, Pt.locs, Pt.cells, Pt.slots] at X3 l3 y3 z3 st3 hQ3
    subst l3 y3 z3
    obtain ⟨h3, e3⟩ : ∃ z, T3.heap = z := ⟨_, rfl⟩
    rw [e3] at hQ3
    obtain ⟨rfl, Nq3, Kq3, q3_0, q3_1⟩ := hQ3
    have Z3 : n0 ≤ h3.size := Nat.le_trans Z2 Kq3.1
    have K3 : Keep h0 h3 [] := K2.trans Kq3 (allS (Or.inr sz_b2) all0)
    have O3 : Old Z n0 h3 := O2.keep Kq3 (allS ge_b2 all0)
    have N3 := Fr.app N0 Nq3
    refine OwnEnds.via (fun t k => st3.trans k) ?_
    show OwnEnds _ _ _ _ (T3.setTop (mkF m 31 #[.val (.int ip)] [(.ref b2)]))
    obtain ⟨fs, hr, hrun, hended, hW, hsame⟩ := X3.leave (v := some (.ref b2)) (fun h => by rw [Bd.returns] at h; cases h)
    refine ⟨_, _, ?_, hrun, hended, _, _, rfl, ?_, ⟨_, rfl⟩, hW, hsame.mono (by decide) (by decide)⟩
    · jvm_step X3.here [X3.here.top, hx, (hb hby d6_31), X3.method', Bd.returns, Value.isRef, FieldType.isReference]
      first | (intro acts; rw [hr _ acts rfl rfl rfl]) | rw [hr _ _ rfl rfl rfl]
      exact Steps.refl _
    · show Q6 Z ip cc cb vb h0 n0 _ T3.heap _
      rw [e3]
      exact ⟨b2, rfl, N3, K3, q3_0⟩
  ·
    refine OwnEnds.via (fun t k => XS.icmpNo X0.here hx rfl (hb hby d6_3) rfl (flt hc3_1).1 k) ?_
    show OwnEnds _ _ _ _ (s₁.setTop (mkF m 6 #[.val (.int ip)] []))
    refine OwnEnds.via (fun t k => XS.iloadN X0.here hx rfl (hb hby d6_6) rfl k) ?_
    show OwnEnds _ _ _ _ (s₁.setTop (mkF m 7 #[.val (.int ip)] [(.int ip)]))
    obtain ⟨T4, X4, e4, st4⟩ := getS2 X0 hx hZ hown (host := "") (Or.inl (hw _ (List.mem_of_getElem? (i := 38) rfl))) Via.refl e0 (OP0.ext O0.2) (g := (mkF m 7 #[.val (.int ip)] [(.int ip)])) rfl (hb hby d6_7)
    refine OwnEnds.via st4 ?_
    show OwnEnds _ _ _ _ (T4.setTop (mkF m 10 #[.val (.int ip)] [(.int (127 : Int32)), (.int ip)]))
    by_cases hc10_5 : (127 : Int32) < ip
    ·
      refine OwnEnds.via (fun t k => XS.icmpYes X4.here hx rfl (pc0 := 10) (pc' := 23) rfl (hb hby d6_10) rfl (tlt hc10_5).2.2.1 (by decide) (by decide) k) ?_
      show OwnEnds _ _ _ _ (T4.setTop (mkF m 23 #[.val (.int ip)] []))
      obtain ⟨T6, h6, X6, e6, E6, A6, D6, -, st6⟩ := newO X4 hx hZ hown (hw _ (List.mem_of_getElem? (i := 44) rfl)) (hw _ (List.mem_of_getElem? (i := 45) rfl)) (hw _ (List.mem_of_getElem? (i := 36) rfl)) e4 (g := (mkF m 23 #[.val (.int ip)] [])) rfl (hb hby d6_23) (by decide) (by decide)
      obtain ⟨b6, g6⟩ : ∃ z, z = h0.size := ⟨_, rfl⟩
      have ge_b6 : n0 ≤ b6 := Nat.le_trans Z0 (Nat.le_of_eq g6.symm)
      have sz_b6 : h0.size ≤ b6 := Nat.le_trans (Keep.refl h0 []).1 (Nat.le_of_eq g6.symm)
      have Z6 : n0 ≤ h6.size := Nat.le_trans Z0 E6.1
      have K6 : Keep h0 h6 [] := (Keep.refl h0 []).ext E6
      have O6 : Old Z n0 h6 := O0.ext E6
      rw [← g6] at A6 D6 st6
      have F6_value : Fld Z h6 b6 "java/lang/Integer" "value" "I" (.int (0 : Int32)) := D6 (Or.inr (hw _ (List.mem_of_getElem? (i := 58) rfl))) (ty := .int) (by decide)
      refine OwnEnds.via st6 ?_
      show OwnEnds _ _ _ _ (T6.setTop (mkF m 26 #[.val (.int ip)] [(.ref b6)]))
      refine OwnEnds.via (fun t k => XS.dup X6.here hx rfl (hb hby d6_26) rfl rfl k) ?_
      show OwnEnds _ _ _ _ (T6.setTop (mkF m 27 #[.val (.int ip)] [(.ref b6), (.ref b6)]))
      refine OwnEnds.via (fun t k => XS.iloadN X6.here hx rfl (hb hby d6_27) rfl k) ?_
      show OwnEnds _ _ _ _ (T6.setTop (mkF m 28 #[.val (.int ip)] [(.int ip), (.ref b6), (.ref b6)]))
      obtain ⟨_, _, ⟨T7, L7, k7, n7⟩, -, X7, ⟨Lc7, hQ7, l7, y7, z7⟩, st7⟩ := X6.specialBack hx (y := (⟨"java/lang/Integer", "<init>", "(I)V"⟩ : MethodName)) rfl hown (mvT hZ (hw _ (List.mem_of_getElem? (i := 46) rfl))) (mvT hZ (hw _ (List.mem_of_getElem? (i := 47) rfl))) (mvT hZ (hw _ (List.mem_of_getElem? (i := 49) rfl))) (by decide) (backOf (W := 1) (rm7 l Z a0 hw [] b6 ip h6 n0 Z6 A6 F6_value ge_b6) hZ (hw _ (List.mem_of_getElem? (i := 49) rfl)) (hw _ (List.mem_of_getElem? (i := 36) rfl)) (by decide) (by decide)) (g := (mkF m 28 #[.val (.int ip)] [(.int ip), (.ref b6), (.ref b6)])) rfl (by rw [hml]; rfl) (Steps.refl _) (a := b6) (argsL := [(.int ip)]) (rest := [(.ref b6)]) (lenOf pd_1 rfl) rfl (by show 2 * 0 + _ ≤ _; exact Nat.le_of_eq rfl) (hb hby d6_28) (fun _ _ => ⟨rfl, e6, (by decide : 1 + 0 ≤ _), (by decide : 1 + 0 ≤ _)⟩)
      dsimp only [Pt.U, Pt.locs, Pt.cells, Pt.slots] at X7 l7 y7 z7 st7 hQ7
      subst l7 y7 z7
      obtain ⟨h7, e7⟩ : ∃ z, T7.heap = z := ⟨_, rfl⟩
      rw [e7] at hQ7
      obtain ⟨rfl, Nq7, Kq7, q7_0, q7_1⟩ := hQ7
      have Z7 : n0 ≤ h7.size := Nat.le_trans Z6 Kq7.1
      have K7 : Keep h0 h7 [] := K6.trans Kq7 (allS (Or.inr sz_b6) all0)
      have O7 : Old Z n0 h7 := O6.keep Kq7 (allS ge_b6 all0)
      have N7 := Fr.app N0 Nq7
      refine OwnEnds.via (fun t k => st7.trans k) ?_
      show OwnEnds _ _ _ _ (T7.setTop (mkF m 31 #[.val (.int ip)] [(.ref b6)]))
      obtain ⟨fs, hr, hrun, hended, hW, hsame⟩ := X7.leave (v := some (.ref b6)) (fun h => by rw [Bd.returns] at h; cases h)
      refine ⟨_, _, ?_, hrun, hended, _, _, rfl, ?_, ⟨_, rfl⟩, hW, hsame.mono (by decide) (by decide)⟩
      · jvm_step X7.here [X7.here.top, hx, (hb hby d6_31), X7.method', Bd.returns, Value.isRef, FieldType.isReference]
        first | (intro acts; rw [hr _ acts rfl rfl rfl]) | rw [hr _ _ rfl rfl rfl]
        exact Steps.refl _
      · show Q6 Z ip cc cb vb h0 n0 _ T7.heap _
        rw [e7]
        exact ⟨b6, rfl, N7, K7, q7_0⟩
    ·
      refine OwnEnds.via (fun t k => XS.icmpNo X4.here hx rfl (hb hby d6_10) rfl (flt hc10_5).2.2.1 k) ?_
      show OwnEnds _ _ _ _ (T4.setTop (mkF m 13 #[.val (.int ip)] []))
      obtain ⟨T8, X8, e8, st8⟩ := getS2 X4 hx hZ hown (host := "") (Or.inl (hw _ (List.mem_of_getElem? (i := 40) rfl))) Via.refl e4 (OP1.ext O0.2) (g := (mkF m 13 #[.val (.int ip)] [])) rfl (hb hby d6_13)
      refine OwnEnds.via st8 ?_
      show OwnEnds _ _ _ _ (T8.setTop (mkF m 16 #[.val (.int ip)] [(.ref cc)]))
      refine OwnEnds.via (fun t k => XS.iloadN X8.here hx rfl (hb hby d6_16) rfl k) ?_
      show OwnEnds _ _ _ _ (T8.setTop (mkF m 17 #[.val (.int ip)] [(.int ip), (.ref cc)]))
      refine OwnEnds.via (fun t k => XS.sipush X8.here hx rfl (hb hby d6_17) k) ?_
      show OwnEnds _ _ _ _ (T8.setTop (mkF m 20 #[.val (.int ip)] [(.int (128 : Int32)), (.int ip), (.ref cc)]))
      refine OwnEnds.via (fun t k => XS.iadd X8.here hx rfl (hb hby d6_20) rfl k) ?_
      obtain ⟨bA9, bS9, bN9⟩ := P0.ext O0.2
      have hin9 := inb_of bS9 (own_idx ip hc3_1 hc10_5)
      obtain ⟨b9, hat9, Eb9, Fb9⟩ := P0.2.2.2 _ hin9
      refine OwnEnds.via (X8.aaload hx (j := (ip + (128 : Int32))) (v := .ref b9) (by rw [e8]; exact bA9.1) (State.isArrayOf_alike hZ.alike bA9.2.1) rfl bA9.2.2 hin9 hat9 (g := (mkF m 21 #[.val (.int ip)] [(.int (ip + (128 : Int32))), (.ref cc)])) rfl rfl (hb hby d6_21)) ?_
      show OwnEnds _ _ _ _ (T8.setTop (mkF m 22 #[.val (.int ip)] [(.ref b9)]))
      obtain ⟨fs, hr, hrun, hended, hW, hsame⟩ := X8.leave (v := some (.ref b9)) (fun h => by rw [Bd.returns] at h; cases h)
      refine ⟨_, _, ?_, hrun, hended, _, _, rfl, ?_, ⟨_, rfl⟩, hW, hsame.mono (by decide) (by decide)⟩
      · jvm_step X8.here [X8.here.top, hx, (hb hby d6_22), X8.method', Bd.returns, Value.isRef, FieldType.isReference]
        first | (intro acts; rw [hr _ acts rfl rfl rfl]) | rw [hr _ _ rfl rfl rfl]
        exact Steps.refl _
      · show Q6 Z ip cc cb vb h0 n0 _ T8.heap _
        rw [e8]
        exact ⟨b9, rfl, N0, (Keep.refl h0 []), (Eb9.ext O0.2)⟩

theorem d4_0 : decode jdk_31_method_10_code 0 = .ok (.aload_n 0, 1) := by decide +kernel
theorem d4_1 : decode jdk_31_method_10_code 1 = .ok (.ifnonnull 11, 3) := by decide +kernel
theorem d4_12 : decode jdk_31_method_10_code 12 = .ok (.aload_n 0, 1) := by decide +kernel
theorem d4_13 : decode jdk_31_method_10_code 13 = .ok (.areturn, 1) := by decide +kernel
theorem pn_rm4 : plainName "java/util/Objects" = true := by first | (simp [plainName, overriddenIn]; done) | decide +kernel
theorem ef_rm4 (m : MethodId) (a : Addr) : entryFrame m #[(.ref a)] 1 = mkF m 0 #[.val (.ref a)] [] := by first | (simp [entryFrame, mkF, argsToLocals, Value.category]; done) | rfl
def Q4 (Z : State) (a : Addr) (h0 : Heap) (n0 : Nat) (v : Option Value) (h : Heap) (L : List Loc) : Prop := v = some (.ref a) ∧ Fr n0 L ∧ h = h0
set_option maxRecDepth 65536 in
set_option maxHeartbeats 40000000 in
theorem rm4 (l : Launch) (Z : State) (a0 : Array Value) (hw : ∀ d ∈ tables_1, d.before a0 Z = true) (ws : List Jvm.Cond) (a : Addr) (h0 : Heap) (n0 : Nat) (Z0 : n0 ≤ h0.size)  :
    MetFree l (⟨"java/util/Objects", "requireNonNull", "(Ljava/lang/Object;)Ljava/lang/Object;"⟩ : MethodName) (head1 (Jvm.Cond.code (⟨"java/util/Objects", "requireNonNull", "(Ljava/lang/Object;)Ljava/lang/Object;"⟩ : MethodName) jdk_31_method_10_code 1 (some (.object "java/lang/Object")) :: ws) ({ frames := 0, cells := 0, slots := 0, locals := 0 } : Room)) (fun aa U => aa = #[(.ref a)] ∧ Z.Warmed39 U.vm ∧ U.heap = h0) (fun _ _ _ _ _ => True) (fun _ U o U' => ∃ v L, o = .returned v ∧ Q4 Z a h0 n0 v U'.heap L ∧ FrameEnd U o U' L ({ frames := 0, cells := 0, slots := 0, locals := 0 } : Room).cells ({ frames := 0, cells := 0, slots := 0, locals := 0 } : Room).slots) := by
  refine MetFree.of_bodySF (plainFor_of_name pn_rm4) hisR ?_
  intro p e s m args below meth c s₁ Bd hml0 hP hK
  obtain ⟨rfl, hZ, hh⟩ := hP
  have hx := Bd.exec
  have hby := Bd.bytes
  have hml : c.maxLocals = 1 := hml0
  have hown : s.vm.findClass "java/util/Objects" = some m.cls := findClass_of_methodNamed Bd.named
  have hnm := (name_of_methodNamed Bd.named Bd.method).1
  have X0 : Stand p l e ({ frames := 0, cells := 0, slots := 0, locals := 0 } : Room) s m #[(.ref a)] below meth c s₁ [] 0 0 := Stand.of_body Bd
  have e0 : s₁.heap = h0 := by rw [← hh, Bd.state]; rfl
  have N0 := Fr.nil n0
  change OwnEnds p.tables e below _ _
  refine OwnEnds.via (fun t k => castTop (ef_rm4 m a) k) ?_
  show OwnEnds _ _ _ _ (s₁.setTop (mkF m 0 #[.val (.ref a)] []))
  refine OwnEnds.via (fun t k => XS.aloadN X0.here hx rfl (hb hby d4_0) rfl rfl k) ?_
  show OwnEnds _ _ _ _ (s₁.setTop (mkF m 1 #[.val (.ref a)] [(.ref a)]))
  refine OwnEnds.via (fun t k => XS.ifnonnullYes X0.here hx rfl (pc0 := 1) (pc' := 12) rfl (hb hby d4_1) rfl (by decide) (by decide) k) ?_
  show OwnEnds _ _ _ _ (s₁.setTop (mkF m 12 #[.val (.ref a)] []))
  refine OwnEnds.via (fun t k => XS.aloadN X0.here hx rfl (hb hby d4_12) rfl rfl k) ?_
  show OwnEnds _ _ _ _ (s₁.setTop (mkF m 13 #[.val (.ref a)] [(.ref a)]))
  obtain ⟨fs, hr, hrun, hended, hW, hsame⟩ := X0.leave (v := some (.ref a)) (fun h => by rw [Bd.returns] at h; cases h)
  refine ⟨_, _, ?_, hrun, hended, _, _, rfl, ?_, ⟨_, rfl⟩, hW, hsame.mono (by decide) (by decide)⟩
  · jvm_step X0.here [X0.here.top, hx, (hb hby d4_13), X0.method', Bd.returns, Value.isRef, FieldType.isReference]
    first | (intro acts; rw [hr _ acts rfl rfl rfl]) | rw [hr _ _ rfl rfl rfl]
    exact Steps.refl _
  · show Q4 Z a h0 n0 _ s₁.heap _
    rw [e0]
    exact ⟨rfl, N0, rfl⟩

theorem d3_0 : decode prog_26_method_3_code 0 = .ok (.aload_n 0, 1) := by decide +kernel
theorem d3_1 : decode prog_26_method_3_code 1 = .ok (.invokestatic 30, 3) := by decide +kernel
theorem d3_4 : decode prog_26_method_3_code 4 = .ok (.pop, 1) := by decide +kernel
theorem d3_5 : decode prog_26_method_3_code 5 = .ok (.aload_n 0, 1) := by decide +kernel
theorem d3_6 : decode prog_26_method_3_code 6 = .ok (.getstatic 36, 3) := by decide +kernel
theorem d3_9 : decode prog_26_method_3_code 9 = .ok (.if_acmp .eq 27, 3) := by decide +kernel
theorem d3_12 : decode prog_26_method_3_code 12 = .ok (.aload_n 0, 1) := by decide +kernel
theorem d3_13 : decode prog_26_method_3_code 13 = .ok (.getstatic 39, 3) := by decide +kernel
theorem d3_16 : decode prog_26_method_3_code 16 = .ok (.if_acmp .eq 20, 3) := by decide +kernel
theorem d3_36 : decode prog_26_method_3_code 36 = .ok (.return_, 1) := by decide +kernel
theorem pn_rm3 : plainName "com/example/tagwire/tagwire/HalfFloat" = true := by first | (simp [plainName, overriddenIn]; done) | decide +kernel
theorem pd_2 : parseMethodDescriptor "(Ljava/lang/Object;)Ljava/lang/Object;" = some ⟨[(.object "java/lang/Object")], some (.object "java/lang/Object")⟩ := by decide +kernel
theorem ef_rm3 (m : MethodId) (t1 : Addr) : entryFrame m #[(.ref t1)] 1 = mkF m 0 #[.val (.ref t1)] [] := by first | (simp [entryFrame, mkF, argsToLocals, Value.category]; done) | rfl
def Q3 (Z : State) (t1 : Addr) (nf : Addr) (nb : Addr) (h0 : Heap) (n0 : Nat) (v : Option Value) (h : Heap) (L : List Loc) : Prop := v = none ∧ Fr n0 L ∧ h = h0
set_option maxRecDepth 65536 in
set_option maxHeartbeats 40000000 in
theorem rm3 (l : Launch) (Z : State) (a0 : Array Value) (hw : ∀ d ∈ tables_1, d.before a0 Z = true) (ws : List Jvm.Cond) (t1 : Addr) (nf : Addr) (nb : Addr) (h0 : Heap) (n0 : Nat) (Z0 : n0 ≤ h0.size) (O0 : Old Z n0 h0) (P0 : t1 = nb ∨ t1 = nf) (OP0 : Sta Z Z.heap "com/example/tagwire/tagwire/NumberType" "FLOAT16" "Lcom/example/tagwire/tagwire/NumberType;" (.ref nf)) (OP1 : Sta Z Z.heap "com/example/tagwire/tagwire/NumberType" "BFLOAT16" "Lcom/example/tagwire/tagwire/NumberType;" (.ref nb)) :
    MetFree l (⟨"com/example/tagwire/tagwire/HalfFloat", "checkType", "(Lcom/example/tagwire/tagwire/NumberType;)V"⟩ : MethodName) (head1 (Jvm.Cond.code (⟨"com/example/tagwire/tagwire/HalfFloat", "checkType", "(Lcom/example/tagwire/tagwire/NumberType;)V"⟩ : MethodName) prog_26_method_3_code 1 none :: ws) ({ frames := 1, cells := 0, slots := 0, locals := 12 } : Room)) (fun aa U => aa = #[(.ref t1)] ∧ Z.Warmed39 U.vm ∧ U.heap = h0) (fun _ _ _ _ _ => True) (fun _ U o U' => ∃ v L, o = .returned v ∧ Q3 Z t1 nf nb h0 n0 v U'.heap L ∧ FrameEnd U o U' L ({ frames := 1, cells := 0, slots := 0, locals := 12 } : Room).cells ({ frames := 1, cells := 0, slots := 0, locals := 12 } : Room).slots) := by
  refine MetFree.of_bodySF (plainFor_of_name pn_rm3) hisR ?_
  intro p e s m args below meth c s₁ Bd hml0 hP hK
  obtain ⟨rfl, hZ, hh⟩ := hP
  have hx := Bd.exec
  have hby := Bd.bytes
  have hml : c.maxLocals = 1 := hml0
  have hown : s.vm.findClass "com/example/tagwire/tagwire/HalfFloat" = some m.cls := findClass_of_methodNamed Bd.named
  have hnm := (name_of_methodNamed Bd.named Bd.method).1
  have X0 : Stand p l e ({ frames := 1, cells := 0, slots := 0, locals := 12 } : Room) s m #[(.ref t1)] below meth c s₁ [] 0 0 := Stand.of_body Bd
  have e0 : s₁.heap = h0 := by rw [← hh, Bd.state]; rfl
  have N0 := Fr.nil n0
  change OwnEnds p.tables e below _ _
  refine OwnEnds.via (fun t k => castTop (ef_rm3 m t1) k) ?_
  show OwnEnds _ _ _ _ (s₁.setTop (mkF m 0 #[.val (.ref t1)] []))
  refine OwnEnds.via (fun t k => XS.aloadN X0.here hx rfl (hb hby d3_0) rfl rfl k) ?_
  show OwnEnds _ _ _ _ (s₁.setTop (mkF m 1 #[.val (.ref t1)] [(.ref t1)]))
  obtain ⟨_, _, ⟨T1, L1, k1, n1⟩, -, X1, ⟨Lc1, hQ1, l1, y1, z1⟩, st1⟩ := Jvm.LawKit.callS X0 hx (y := (⟨"java/util/Objects", "requireNonNull", "(Ljava/lang/Object;)Ljava/lang/Object;"⟩ : MethodName)) hown (mvT hZ (hw _ (List.mem_of_getElem? (i := 15) rfl))) (mvT hZ (hw _ (List.mem_of_getElem? (i := 16) rfl))) (mvT hZ (hw _ (List.mem_of_getElem? (i := 17) rfl))) (mvT hZ (hw _ (List.mem_of_getElem? (i := 18) rfl))) (by decide) (backOf (W := 0) (rm4 l Z a0 hw [] t1 h0 n0 Z0 ) hZ (hw _ (List.mem_of_getElem? (i := 18) rfl)) (hw _ (List.mem_of_getElem? (i := 17) rfl)) (by decide) (by decide)) (g := (mkF m 1 #[.val (.ref t1)] [(.ref t1)])) rfl (by rw [hml]; rfl) (argsL := [(.ref t1)]) (rest := []) (lenOf pd_2 rfl) rfl (by show 2 * 0 + _ ≤ _; exact Nat.le_of_eq rfl) (hb hby d3_1) (fun _ _ => ⟨rfl, e0, (by decide : 0 + 0 ≤ _), (by decide : 0 + 0 ≤ _)⟩)
  dsimp only [Pt.U, Pt.locs, Pt.cells, Pt.slots] at X1 l1 y1 z1 st1 hQ1
  subst l1 y1 z1
  obtain ⟨rfl, Nq1, e1⟩ := hQ1
  have N1 := Fr.app N0 Nq1
  refine OwnEnds.via st1 ?_
  show OwnEnds _ _ _ _ (T1.setTop (mkF m 4 #[.val (.ref t1)] [(.ref t1)]))
  refine OwnEnds.via (fun t k => XS.pop X1.here hx rfl (hb hby d3_4) rfl rfl k) ?_
  show OwnEnds _ _ _ _ (T1.setTop (mkF m 5 #[.val (.ref t1)] []))
  refine OwnEnds.via (fun t k => XS.aloadN X1.here hx rfl (hb hby d3_5) rfl rfl k) ?_
  show OwnEnds _ _ _ _ (T1.setTop (mkF m 6 #[.val (.ref t1)] [(.ref t1)]))
  obtain ⟨T2, X2, e2, st2⟩ := getS2 X1 hx hZ hown (host := "") (Or.inl (hw _ (List.mem_of_getElem? (i := 19) rfl))) Via.refl e1 (OP0.ext O0.2) (g := (mkF m 6 #[.val (.ref t1)] [(.ref t1)])) rfl (hb hby d3_6)
  refine OwnEnds.via st2 ?_
  show OwnEnds _ _ _ _ (T2.setTop (mkF m 9 #[.val (.ref t1)] [(.ref nf), (.ref t1)]))
  by_cases ha9_3 : t1 = nf
  ·
    refine OwnEnds.via (fun t k => Jvm.RoadKit.acmp (g := (mkF m 9 #[.val (.ref t1)] [(.ref nf), (.ref t1)])) X2 hx rfl rfl rfl (pc0 := 9) (pc' := 36) (same := true) rfl (hb hby d3_9) rfl (decide_eq_true (congrArg Value.ref ha9_3)) (by decide) (by decide) k) ?_
    show OwnEnds _ _ _ _ (T2.setTop (mkF m 36 #[.val (.ref t1)] []))
    obtain ⟨fs, hr, hrun, hended, hW, hsame⟩ := X2.leave (v := none) (fun _ => rfl)
    refine ⟨_, _, ?_, hrun, hended, _, _, rfl, ?_, ⟨_, rfl⟩, hW, hsame.mono (by decide) (by decide)⟩
    · exact X2.returnOut hx Bd.returns (hb hby d3_36) hr
    · show Q3 Z t1 nf nb h0 n0 _ T2.heap _
      rw [e2]
      exact ⟨rfl, N1, rfl⟩
  ·
    refine OwnEnds.via (fun t k => Jvm.RoadKit.acmp (g := (mkF m 9 #[.val (.ref t1)] [(.ref nf), (.ref t1)])) X2 hx rfl rfl rfl (pc0 := 9) (pc' := 12) (same := false) rfl (hb hby d3_9) rfl (decide_eq_false fun q => ha9_3 (Value.ref.inj q)) (by decide) (by decide) k) ?_
    show OwnEnds _ _ _ _ (T2.setTop (mkF m 12 #[.val (.ref t1)] []))
    refine OwnEnds.via (fun t k => XS.aloadN X2.here hx rfl (hb hby d3_12) rfl rfl k) ?_
    show OwnEnds _ _ _ _ (T2.setTop (mkF m 13 #[.val (.ref t1)] [(.ref t1)]))
    obtain ⟨T4, X4, e4, st4⟩ := getS2 X2 hx hZ hown (host := "") (Or.inl (hw _ (List.mem_of_getElem? (i := 33) rfl))) Via.refl e2 (OP1.ext O0.2) (g := (mkF m 13 #[.val (.ref t1)] [(.ref t1)])) rfl (hb hby d3_13)
    refine OwnEnds.via st4 ?_
    show OwnEnds _ _ _ _ (T4.setTop (mkF m 16 #[.val (.ref t1)] [(.ref nb), (.ref t1)]))
    refine OwnEnds.via (fun t k => Jvm.RoadKit.acmp (g := (mkF m 16 #[.val (.ref t1)] [(.ref nb), (.ref t1)])) X4 hx rfl rfl rfl (pc0 := 16) (pc' := 36) (same := true) rfl (hb hby d3_16) rfl (decide_eq_true (congrArg Value.ref (P0.resolve_right ha9_3))) (by decide) (by decide) k) ?_
    show OwnEnds _ _ _ _ (T4.setTop (mkF m 36 #[.val (.ref t1)] []))
    obtain ⟨fs, hr, hrun, hended, hW, hsame⟩ := X4.leave (v := none) (fun _ => rfl)
    refine ⟨_, _, ?_, hrun, hended, _, _, rfl, ?_, ⟨_, rfl⟩, hW, hsame.mono (by decide) (by decide)⟩
    · exact X4.returnOut hx Bd.returns (hb hby d3_36) hr
    · show Q3 Z t1 nf nb h0 n0 _ T4.heap _
      rw [e4]
      exact ⟨rfl, N1, rfl⟩

theorem d1_0 : decode prog_26_method_1_code 0 = .ok (.aload_n 0, 1) := by decide +kernel
theorem d1_1 : decode prog_26_method_1_code 1 = .ok (.invokespecial 1, 3) := by decide +kernel
theorem d1_4 : decode prog_26_method_1_code 4 = .ok (.aload_n 1, 1) := by decide +kernel
theorem d1_5 : decode prog_26_method_1_code 5 = .ok (.invokestatic 7, 3) := by decide +kernel
theorem d1_8 : decode prog_26_method_1_code 8 = .ok (.aload_n 0, 1) := by decide +kernel
theorem d1_9 : decode prog_26_method_1_code 9 = .ok (.aload_n 1, 1) := by decide +kernel
theorem d1_10 : decode prog_26_method_1_code 10 = .ok (.putfield 13, 3) := by decide +kernel
theorem d1_13 : decode prog_26_method_1_code 13 = .ok (.aload_n 0, 1) := by decide +kernel
theorem d1_14 : decode prog_26_method_1_code 14 = .ok (.iload_n 2, 1) := by decide +kernel
theorem d1_15 : decode prog_26_method_1_code 15 = .ok (.putfield 17, 3) := by decide +kernel
theorem d1_18 : decode prog_26_method_1_code 18 = .ok (.return_, 1) := by decide +kernel
theorem pn_rm1 : plainName "com/example/tagwire/tagwire/HalfFloat" = true := by first | (simp [plainName, overriddenIn]; done) | decide +kernel
theorem pd_3 : parseMethodDescriptor "(Lcom/example/tagwire/tagwire/NumberType;)V" = some ⟨[(.object "com/example/tagwire/tagwire/NumberType")], none⟩ := by decide +kernel
theorem ef_rm1 (m : MethodId) (a : Addr) (t1 : Addr) (s1 : Int32) : entryFrame m #[(.ref a), (.ref t1), (.int s1)] 3 = mkF m 0 #[.val (.ref a), .val (.ref t1), .val (.int s1)] [] := by first | (simp [entryFrame, mkF, argsToLocals, Value.category]; done) | rfl
def Q1 (Z : State) (a : Addr) (t1 : Addr) (s1 : Int32) (nf : Addr) (nb : Addr) (h0 : Heap) (n0 : Nat) (v : Option Value) (h : Heap) (L : List Loc) : Prop := v = none ∧ Fr n0 L ∧ Keep h0 h [a] ∧ Exa Z h a "com/example/tagwire/tagwire/HalfFloat" ∧ Fld Z h a "com/example/tagwire/tagwire/HalfFloat" "type" "Lcom/example/tagwire/tagwire/NumberType;" (.ref t1) ∧ Fld Z h a "com/example/tagwire/tagwire/HalfFloat" "bits" "S" (.int (nar .short s1))
set_option maxRecDepth 65536 in
set_option maxHeartbeats 40000000 in
theorem rm1 (l : Launch) (Z : State) (a0 : Array Value) (hw : ∀ d ∈ tables_1, d.before a0 Z = true) (ws : List Jvm.Cond) (a : Addr) (t1 : Addr) (s1 : Int32) (nf : Addr) (nb : Addr) (h0 : Heap) (n0 : Nat) (Z0 : n0 ≤ h0.size) (O0 : Old Z n0 h0) (P0 : t1 = nb ∨ t1 = nf) (P1 : Exa Z h0 a "com/example/tagwire/tagwire/HalfFloat") (P2 : Fld Z h0 a "com/example/tagwire/tagwire/HalfFloat" "type" "Lcom/example/tagwire/tagwire/NumberType;" .null) (P3 : Fld Z h0 a "com/example/tagwire/tagwire/HalfFloat" "bits" "S" (.int (0 : Int32))) (P4 : n0 ≤ a) (OP0 : Sta Z Z.heap "com/example/tagwire/tagwire/NumberType" "FLOAT16" "Lcom/example/tagwire/tagwire/NumberType;" (.ref nf)) (OP1 : Sta Z Z.heap "com/example/tagwire/tagwire/NumberType" "BFLOAT16" "Lcom/example/tagwire/tagwire/NumberType;" (.ref nb)) :
    MetFree l (⟨"com/example/tagwire/tagwire/HalfFloat", "<init>", "(Lcom/example/tagwire/tagwire/NumberType;S)V"⟩ : MethodName) (head1 (Jvm.Cond.code (⟨"com/example/tagwire/tagwire/HalfFloat", "<init>", "(Lcom/example/tagwire/tagwire/NumberType;S)V"⟩ : MethodName) prog_26_method_1_code 3 none :: ws) ({ frames := 2, cells := 0, slots := 0, locals := 24 } : Room)) (fun aa U => aa = #[(.ref a), (.ref t1), (.int s1)] ∧ Z.Warmed39 U.vm ∧ U.heap = h0) (fun _ _ _ _ _ => True) (fun _ U o U' => ∃ v L, o = .returned v ∧ Q1 Z a t1 s1 nf nb h0 n0 v U'.heap L ∧ FrameEnd U o U' L ({ frames := 2, cells := 0, slots := 0, locals := 24 } : Room).cells ({ frames := 2, cells := 0, slots := 0, locals := 24 } : Room).slots) := by
  refine MetFree.of_bodySF (plainFor_of_name pn_rm1) hisR ?_
  intro p e s m args below meth c s₁ Bd hml0 hP hK
  obtain ⟨rfl, hZ, hh⟩ := hP
  have hx := Bd.exec
  have hby := Bd.bytes
  have hml : c.maxLocals = 3 := hml0
  have hown : s.vm.findClass "com/example/tagwire/tagwire/HalfFloat" = some m.cls := findClass_of_methodNamed Bd.named
  have hnm := (name_of_methodNamed Bd.named Bd.method).1
  have X0 : Stand p l e ({ frames := 2, cells := 0, slots := 0, locals := 24 } : Room) s m #[(.ref a), (.ref t1), (.int s1)] below meth c s₁ [] 0 0 := Stand.of_body Bd
  have e0 : s₁.heap = h0 := by rw [← hh, Bd.state]; rfl
  have N0 := Fr.nil n0
  change OwnEnds p.tables e below _ _
  refine OwnEnds.via (fun t k => castTop (ef_rm1 m a t1 s1) k) ?_
  show OwnEnds _ _ _ _ (s₁.setTop (mkF m 0 #[.val (.ref a), .val (.ref t1), .val (.int s1)] []))
  refine OwnEnds.via (fun t k => XS.aloadN X0.here hx rfl (hb hby d1_0) rfl rfl k) ?_
  show OwnEnds _ _ _ _ (s₁.setTop (mkF m 1 #[.val (.ref a), .val (.ref t1), .val (.int s1)] [(.ref a)]))
  obtain ⟨T1, X1, e1, st1⟩ := initO X0 hx hZ hown (hw _ (List.mem_of_getElem? (i := 9) rfl)) (hw _ (List.mem_of_getElem? (i := 10) rfl)) (hw _ (List.mem_of_getElem? (i := 11) rfl)) e0 (g := (mkF m 1 #[.val (.ref a), .val (.ref t1), .val (.int s1)] [(.ref a)])) rfl (by rw [hml]; rfl) rfl (hb hby d1_1) (by decide) (W := 0) (by show 2 * 0 + _ ≤ _; exact Nat.le_of_eq rfl) (by decide)
  refine OwnEnds.via st1 ?_
  show OwnEnds _ _ _ _ (T1.setTop (mkF m 4 #[.val (.ref a), .val (.ref t1), .val (.int s1)] []))
  refine OwnEnds.via (fun t k => XS.aloadN X1.here hx rfl (hb hby d1_4) rfl rfl k) ?_
  show OwnEnds _ _ _ _ (T1.setTop (mkF m 5 #[.val (.ref a), .val (.ref t1), .val (.int s1)] [(.ref t1)]))
  obtain ⟨_, _, ⟨T2, L2, k2, n2⟩, -, X2, ⟨Lc2, hQ2, l2, y2, z2⟩, st2⟩ := Jvm.LawKit.callS X1 hx (y := (⟨"com/example/tagwire/tagwire/HalfFloat", "checkType", "(Lcom/example/tagwire/tagwire/NumberType;)V"⟩ : MethodName)) hown (mvT hZ (hw _ (List.mem_of_getElem? (i := 12) rfl))) (mvT hZ (hw _ (List.mem_of_getElem? (i := 13) rfl))) (mvT hZ (hw _ (List.mem_of_getElem? (i := 5) rfl))) (mvT hZ (hw _ (List.mem_of_getElem? (i := 14) rfl))) (by decide) (backOf (W := 0) (rm3 l Z a0 hw [] t1 nf nb h0 n0 Z0 O0 P0 OP0 OP1) hZ (hw _ (List.mem_of_getElem? (i := 14) rfl)) (hw _ (List.mem_of_getElem? (i := 5) rfl)) (by decide) (by decide)) (g := (mkF m 5 #[.val (.ref a), .val (.ref t1), .val (.int s1)] [(.ref t1)])) rfl (by rw [hml]; rfl) (argsL := [(.ref t1)]) (rest := []) (lenOf pd_3 rfl) rfl (by show 2 * 0 + _ ≤ _; exact Nat.le_of_eq rfl) (hb hby d1_5) (fun _ _ => ⟨rfl, e1, (by decide : 0 + 0 ≤ _), (by decide : 0 + 0 ≤ _)⟩)
  dsimp only [Pt.U, Pt.locs, Pt.cells, Pt.slots] at X2 l2 y2 z2 st2 hQ2
  subst l2 y2 z2
  obtain ⟨rfl, Nq2, e2⟩ := hQ2
  have N2 := Fr.app N0 Nq2
  refine OwnEnds.via st2 ?_
  show OwnEnds _ _ _ _ (T2.setTop (mkF m 8 #[.val (.ref a), .val (.ref t1), .val (.int s1)] []))
  refine OwnEnds.via (fun t k => XS.aloadN X2.here hx rfl (hb hby d1_8) rfl rfl k) ?_
  show OwnEnds _ _ _ _ (T2.setTop (mkF m 9 #[.val (.ref a), .val (.ref t1), .val (.int s1)] [(.ref a)]))
  refine OwnEnds.via (fun t k => XS.aloadN X2.here hx rfl (hb hby d1_9) rfl rfl k) ?_
  show OwnEnds _ _ _ _ (T2.setTop (mkF m 10 #[.val (.ref a), .val (.ref t1), .val (.int s1)] [(.ref t1), (.ref a)]))
  obtain ⟨T3, h3, X3, e3, W3, st3⟩ := putF X2 hx hZ hown (host := "") (Or.inl (hw _ (List.mem_of_getElem? (i := 20) rfl))) Via.refl e2 P2 P1 (Or.inr ⟨(hw _ (List.mem_of_getElem? (i := 21) rfl)), rfl, hnm⟩) (hw _ (List.mem_of_getElem? (i := 4) rfl)) (ty := (.object "com/example/tagwire/tagwire/NumberType")) (by decide) rfl rfl (g := (mkF m 10 #[.val (.ref a), .val (.ref t1), .val (.int s1)] [(.ref t1), (.ref a)])) rfl rfl (hb hby d1_10)
  have Fw3 : Fld Z h3 a "com/example/tagwire/tagwire/HalfFloat" "type" "Lcom/example/tagwire/tagwire/NumberType;" (.ref t1) := P2.same W3
  have N3 := Fr.snoc X3 N2 P4
  have Z3 : n0 ≤ h3.size := Nat.le_trans Z0 (Nat.le_of_eq W3.size.symm)
  have K3 : Keep h0 h3 [a] := (Keep.refl h0 [a]).wr W3 (Or.inl (by simp))
  have O3 : Old Z n0 h3 := O0.wr W3 P4
  refine OwnEnds.via st3 ?_
  show OwnEnds _ _ _ _ (T3.setTop (mkF m 13 #[.val (.ref a), .val (.ref t1), .val (.int s1)] []))
  refine OwnEnds.via (fun t k => XS.aloadN X3.here hx rfl (hb hby d1_13) rfl rfl k) ?_
  show OwnEnds _ _ _ _ (T3.setTop (mkF m 14 #[.val (.ref a), .val (.ref t1), .val (.int s1)] [(.ref a)]))
  refine OwnEnds.via (fun t k => XS.iloadN X3.here hx rfl (hb hby d1_14) rfl k) ?_
  show OwnEnds _ _ _ _ (T3.setTop (mkF m 15 #[.val (.ref a), .val (.ref t1), .val (.int s1)] [(.int s1), (.ref a)]))
  obtain ⟨T4, h4, X4, e4, W4, st4⟩ := putFN X3 hx hZ hown (hw _ (List.mem_of_getElem? (i := 22) rfl)) Via.refl e3 (P3.other W3 (Or.inr (slot_ne (Or.inr (hw _ (List.mem_of_getElem? (i := 23) rfl))) (Or.inr (hw _ (List.mem_of_getElem? (i := 21) rfl))) (by decide) (t := .short) (t' := (.object "com/example/tagwire/tagwire/NumberType")) (by decide) (by decide)))) (P1.wr W3) (Or.inr ⟨(hw _ (List.mem_of_getElem? (i := 23) rfl)), rfl, hnm⟩) (hw _ (List.mem_of_getElem? (i := 4) rfl)) (ty := .short) (v' := (.int (nar .short s1))) (by decide) rfl (fits_nar_short _) (g := (mkF m 15 #[.val (.ref a), .val (.ref t1), .val (.int s1)] [(.int s1), (.ref a)])) rfl rfl (hb hby d1_15)
  have Fw4 : Fld Z h4 a "com/example/tagwire/tagwire/HalfFloat" "bits" "S" (.int (nar .short s1)) := (P3.other W3 (Or.inr (slot_ne (Or.inr (hw _ (List.mem_of_getElem? (i := 23) rfl))) (Or.inr (hw _ (List.mem_of_getElem? (i := 21) rfl))) (by decide) (t := .short) (t' := (.object "com/example/tagwire/tagwire/NumberType")) (by decide) (by decide)))).same W4
  have N4 := Fr.snoc X4 N3 P4
  have Z4 : n0 ≤ h4.size := Nat.le_trans Z3 (Nat.le_of_eq W4.size.symm)
  have K4 : Keep h0 h4 [a] := K3.wr W4 (Or.inl (by simp))
  have O4 : Old Z n0 h4 := O3.wr W4 P4
  refine OwnEnds.via st4 ?_
  show OwnEnds _ _ _ _ (T4.setTop (mkF m 18 #[.val (.ref a), .val (.ref t1), .val (.int s1)] []))
  obtain ⟨fs, hr, hrun, hended, hW, hsame⟩ := X4.leave (v := none) (fun _ => rfl)
  refine ⟨_, _, ?_, hrun, hended, _, _, rfl, ?_, ⟨_, rfl⟩, hW, hsame.mono (by decide) (by decide)⟩
  · exact X4.returnOut hx Bd.returns (hb hby d1_18) hr
  · show Q1 Z a t1 s1 nf nb h0 n0 _ T4.heap _
    rw [e4]
    exact ⟨rfl, N4, K4, ((P1.wr W3).wr W4), (Fw3.other W4 (Or.inr (slot_ne (Or.inr (hw _ (List.mem_of_getElem? (i := 21) rfl))) (Or.inr (hw _ (List.mem_of_getElem? (i := 23) rfl))) (by decide) (t := (.object "com/example/tagwire/tagwire/NumberType")) (t' := .short) (by decide) (by decide)))), Fw4⟩

theorem d5_0 : decode prog_26_method_9_code 0 = .ok (.aload_n 1, 1) := by decide +kernel
theorem d5_1 : decode prog_26_method_9_code 1 = .ok (.instanceof 8, 3) := by decide +kernel
theorem d5_4 : decode prog_26_method_9_code 4 = .ok (.ifCond .eq 35, 3) := by decide +kernel
theorem d5_7 : decode prog_26_method_9_code 7 = .ok (.aload_n 1, 1) := by decide +kernel
theorem d5_8 : decode prog_26_method_9_code 8 = .ok (.checkcast 8, 3) := by decide +kernel
theorem d5_11 : decode prog_26_method_9_code 11 = .ok (.getfield 13, 3) := by decide +kernel
theorem d5_14 : decode prog_26_method_9_code 14 = .ok (.aload_n 0, 1) := by decide +kernel
theorem d5_15 : decode prog_26_method_9_code 15 = .ok (.getfield 13, 3) := by decide +kernel
theorem d5_18 : decode prog_26_method_9_code 18 = .ok (.if_acmp .ne 21, 3) := by decide +kernel
theorem d5_21 : decode prog_26_method_9_code 21 = .ok (.aload_n 1, 1) := by decide +kernel
theorem d5_22 : decode prog_26_method_9_code 22 = .ok (.checkcast 8, 3) := by decide +kernel
theorem d5_25 : decode prog_26_method_9_code 25 = .ok (.getfield 17, 3) := by decide +kernel
theorem d5_28 : decode prog_26_method_9_code 28 = .ok (.aload_n 0, 1) := by decide +kernel
theorem d5_29 : decode prog_26_method_9_code 29 = .ok (.getfield 17, 3) := by decide +kernel
theorem d5_32 : decode prog_26_method_9_code 32 = .ok (.if_icmp .ne 7, 3) := by decide +kernel
theorem d5_35 : decode prog_26_method_9_code 35 = .ok (.iconst 1, 1) := by decide +kernel
theorem d5_36 : decode prog_26_method_9_code 36 = .ok (.goto 4, 3) := by decide +kernel
theorem d5_39 : decode prog_26_method_9_code 39 = .ok (.iconst 0, 1) := by decide +kernel
theorem d5_40 : decode prog_26_method_9_code 40 = .ok (.ireturn, 1) := by decide +kernel
theorem pn_rmF : plainName "com/example/tagwire/tagwire/HalfFloat" = true := by first | (simp [plainName, overriddenIn]; done) | decide +kernel
theorem ef_rmF (m : MethodId) (a : Addr) (b : Addr) : entryFrame m #[(.ref a), (.ref b)] 2 = mkF m 0 #[.val (.ref a), .val (.ref b)] [] := by first | (simp [entryFrame, mkF, argsToLocals, Value.category]; done) | rfl
def QF (Z : State) (a : Addr) (b : Addr) (t1 : Addr) (t2 : Addr) (s1 : Int32) (s2 : Int32) (h0 : Heap) (n0 : Nat) (v : Option Value) (h : Heap) (L : List Loc) : Prop := v = some (.int (if t2 = t1 ∧ s2 = s1 then (1 : Int32) else (0 : Int32))) ∧ Fr n0 L ∧ h = h0
set_option maxRecDepth 65536 in
set_option maxHeartbeats 40000000 in
theorem rmF (l : Launch) (Z : State) (a0 : Array Value) (hw : ∀ d ∈ tables_1, d.before a0 Z = true) (ws : List Jvm.Cond) (a : Addr) (b : Addr) (t1 : Addr) (t2 : Addr) (s1 : Int32) (s2 : Int32) (h0 : Heap) (n0 : Nat) (Z0 : n0 ≤ h0.size) (P0 : Exa Z h0 b "com/example/tagwire/tagwire/HalfFloat") (P1 : Fld Z h0 a "com/example/tagwire/tagwire/HalfFloat" "type" "Lcom/example/tagwire/tagwire/NumberType;" (.ref t1)) (P2 : Fld Z h0 a "com/example/tagwire/tagwire/HalfFloat" "bits" "S" (.int s1)) (P3 : Fld Z h0 b "com/example/tagwire/tagwire/HalfFloat" "type" "Lcom/example/tagwire/tagwire/NumberType;" (.ref t2)) (P4 : Fld Z h0 b "com/example/tagwire/tagwire/HalfFloat" "bits" "S" (.int s2)) :
    MetFree l (⟨"com/example/tagwire/tagwire/HalfFloat", "equals", "(Ljava/lang/Object;)Z"⟩ : MethodName) (head1 (Jvm.Cond.code (⟨"com/example/tagwire/tagwire/HalfFloat", "equals", "(Ljava/lang/Object;)Z"⟩ : MethodName) prog_26_method_9_code 2 (some .boolean) :: ws) ({ frames := 0, cells := 0, slots := 0, locals := 0 } : Room)) (fun aa U => aa = #[(.ref a), (.ref b)] ∧ Z.Warmed39 U.vm ∧ U.heap = h0) (fun _ _ _ _ _ => True) (fun _ U o U' => ∃ v L, o = .returned v ∧ QF Z a b t1 t2 s1 s2 h0 n0 v U'.heap L ∧ FrameEnd U o U' L ({ frames := 0, cells := 0, slots := 0, locals := 0 } : Room).cells ({ frames := 0, cells := 0, slots := 0, locals := 0 } : Room).slots) := by
  refine MetFree.of_bodySF (plainFor_of_name pn_rmF) hisR ?_
  intro p e s m args below meth c s₁ Bd hml0 hP hK
  obtain ⟨rfl, hZ, hh⟩ := hP
  have hx := Bd.exec
  have hby := Bd.bytes
  have hml : c.maxLocals = 2 := hml0
  have hown : s.vm.findClass "com/example/tagwire/tagwire/HalfFloat" = some m.cls := findClass_of_methodNamed Bd.named
  have hnm := (name_of_methodNamed Bd.named Bd.method).1
  have X0 : Stand p l e ({ frames := 0, cells := 0, slots := 0, locals := 0 } : Room) s m #[(.ref a), (.ref b)] below meth c s₁ [] 0 0 := Stand.of_body Bd
  have e0 : s₁.heap = h0 := by rw [← hh, Bd.state]; rfl
  have N0 := Fr.nil n0
  change OwnEnds p.tables e below _ _
  refine OwnEnds.via (fun t k => castTop (ef_rmF m a b) k) ?_
  show OwnEnds _ _ _ _ (s₁.setTop (mkF m 0 #[.val (.ref a), .val (.ref b)] []))
  refine OwnEnds.via (fun t k => XS.aloadN X0.here hx rfl (hb hby d5_0) rfl rfl k) ?_
  show OwnEnds _ _ _ _ (s₁.setTop (mkF m 1 #[.val (.ref a), .val (.ref b)] [(.ref b)]))
  obtain ⟨T1, X1, e1, st1⟩ := instY X0 hx hZ hown (hw _ (List.mem_of_getElem? (i := 29) rfl)) e0 (Ins.self P0) (g := (mkF m 1 #[.val (.ref a), .val (.ref b)] [(.ref b)])) rfl rfl (hb hby d5_1)
  refine OwnEnds.via st1 ?_
  show OwnEnds _ _ _ _ (T1.setTop (mkF m 4 #[.val (.ref a), .val (.ref b)] [(.int (1 : Int32))]))
  refine OwnEnds.via (fun t k => XS.ifNo X1.here hx rfl (hb hby d5_4) rfl ((if0 _ _).trans (feq (by decide)).1) k) ?_
  show OwnEnds _ _ _ _ (T1.setTop (mkF m 7 #[.val (.ref a), .val (.ref b)] []))
  refine OwnEnds.via (fun t k => XS.aloadN X1.here hx rfl (hb hby d5_7) rfl rfl k) ?_
  show OwnEnds _ _ _ _ (T1.setTop (mkF m 8 #[.val (.ref a), .val (.ref b)] [(.ref b)]))
  obtain ⟨T2, X2, e2, st2⟩ := castY X1 hx hZ hown (hw _ (List.mem_of_getElem? (i := 29) rfl)) e1 (Ins.self P0) (g := (mkF m 8 #[.val (.ref a), .val (.ref b)] [(.ref b)])) rfl rfl (hb hby d5_8)
  refine OwnEnds.via st2 ?_
  show OwnEnds _ _ _ _ (T2.setTop (mkF m 11 #[.val (.ref a), .val (.ref b)] [(.ref b)]))
  obtain ⟨T3, X3, e3, st3⟩ := getF X2 hx hZ hown (host := "") (Or.inl (hw _ (List.mem_of_getElem? (i := 20) rfl))) Via.refl e2 P3 (g := (mkF m 11 #[.val (.ref a), .val (.ref b)] [(.ref b)])) rfl rfl (hb hby d5_11)
  refine OwnEnds.via st3 ?_
  show OwnEnds _ _ _ _ (T3.setTop (mkF m 14 #[.val (.ref a), .val (.ref b)] [(.ref t2)]))
  refine OwnEnds.via (fun t k => XS.aloadN X3.here hx rfl (hb hby d5_14) rfl rfl k) ?_
  show OwnEnds _ _ _ _ (T3.setTop (mkF m 15 #[.val (.ref a), .val (.ref b)] [(.ref a), (.ref t2)]))
  obtain ⟨T4, X4, e4, st4⟩ := getF X3 hx hZ hown (host := "") (Or.inl (hw _ (List.mem_of_getElem? (i := 20) rfl))) Via.refl e3 P1 (g := (mkF m 15 #[.val (.ref a), .val (.ref b)] [(.ref a), (.ref t2)])) rfl rfl (hb hby d5_15)
  refine OwnEnds.via st4 ?_
  show OwnEnds _ _ _ _ (T4.setTop (mkF m 18 #[.val (.ref a), .val (.ref b)] [(.ref t1), (.ref t2)]))
  by_cases ha18_5 : t2 = t1
  ·
    refine OwnEnds.via (fun t k => Jvm.RoadKit.acmp (g := (mkF m 18 #[.val (.ref a), .val (.ref b)] [(.ref t1), (.ref t2)])) X4 hx rfl rfl rfl (pc0 := 18) (pc' := 21) (same := true) rfl (hb hby d5_18) rfl (decide_eq_true (congrArg Value.ref ha18_5)) (by decide) (by decide) k) ?_
    show OwnEnds _ _ _ _ (T4.setTop (mkF m 21 #[.val (.ref a), .val (.ref b)] []))
    refine OwnEnds.via (fun t k => XS.aloadN X4.here hx rfl (hb hby d5_21) rfl rfl k) ?_
    show OwnEnds _ _ _ _ (T4.setTop (mkF m 22 #[.val (.ref a), .val (.ref b)] [(.ref b)]))
    obtain ⟨T6, X6, e6, st6⟩ := castY X4 hx hZ hown (hw _ (List.mem_of_getElem? (i := 29) rfl)) e4 (Ins.self P0) (g := (mkF m 22 #[.val (.ref a), .val (.ref b)] [(.ref b)])) rfl rfl (hb hby d5_22)
    refine OwnEnds.via st6 ?_
    show OwnEnds _ _ _ _ (T6.setTop (mkF m 25 #[.val (.ref a), .val (.ref b)] [(.ref b)]))
    obtain ⟨T7, X7, e7, st7⟩ := getF X6 hx hZ hown (host := "") (Or.inl (hw _ (List.mem_of_getElem? (i := 22) rfl))) Via.refl e6 P4 (g := (mkF m 25 #[.val (.ref a), .val (.ref b)] [(.ref b)])) rfl rfl (hb hby d5_25)
    refine OwnEnds.via st7 ?_
    show OwnEnds _ _ _ _ (T7.setTop (mkF m 28 #[.val (.ref a), .val (.ref b)] [(.int s2)]))
    refine OwnEnds.via (fun t k => XS.aloadN X7.here hx rfl (hb hby d5_28) rfl rfl k) ?_
    show OwnEnds _ _ _ _ (T7.setTop (mkF m 29 #[.val (.ref a), .val (.ref b)] [(.ref a), (.int s2)]))
    obtain ⟨T8, X8, e8, st8⟩ := getF X7 hx hZ hown (host := "") (Or.inl (hw _ (List.mem_of_getElem? (i := 22) rfl))) Via.refl e7 P2 (g := (mkF m 29 #[.val (.ref a), .val (.ref b)] [(.ref a), (.int s2)])) rfl rfl (hb hby d5_29)
    refine OwnEnds.via st8 ?_
    show OwnEnds _ _ _ _ (T8.setTop (mkF m 32 #[.val (.ref a), .val (.ref b)] [(.int s1), (.int s2)]))
    by_cases hc32_9 : s2 = s1
    ·
      refine OwnEnds.via (fun t k => XS.icmpNo X8.here hx rfl (hb hby d5_32) rfl (teq hc32_9).2 k) ?_
      show OwnEnds _ _ _ _ (T8.setTop (mkF m 35 #[.val (.ref a), .val (.ref b)] []))
      refine OwnEnds.via (fun t k => XS.iconst X8.here hx rfl (hb hby d5_35) k) ?_
      show OwnEnds _ _ _ _ (T8.setTop (mkF m 36 #[.val (.ref a), .val (.ref b)] [(.int (1 : Int32))]))
      refine OwnEnds.via (fun t k => XS.goto X8.here hx rfl (pc0 := 36) (pc' := 40) rfl (hb hby d5_36) (by decide) (by decide) k) ?_
      show OwnEnds _ _ _ _ (T8.setTop (mkF m 40 #[.val (.ref a), .val (.ref b)] [(.int (1 : Int32))]))
      obtain ⟨fs, hr, hrun, hended, hW, hsame⟩ := X8.leave (v := some (.int (1 : Int32))) (fun h => by rw [Bd.returns] at h; cases h)
      refine ⟨_, _, ?_, hrun, hended, _, _, rfl, ?_, ⟨_, rfl⟩, hW, hsame.mono (by decide) (by decide)⟩
      · exact retN X8 hx (t := .boolean) Bd.returns (by simp) (hb hby d5_40) hr
      · show QF Z a b t1 t2 s1 s2 h0 n0 _ T8.heap _
        rw [e8]
        exact ⟨(by rw [if_pos ⟨ha18_5, hc32_9⟩]), N0, rfl⟩
    ·
      refine OwnEnds.via (fun t k => XS.icmpYes X8.here hx rfl (pc0 := 32) (pc' := 39) rfl (hb hby d5_32) rfl (feq hc32_9).2 (by decide) (by decide) k) ?_
      show OwnEnds _ _ _ _ (T8.setTop (mkF m 39 #[.val (.ref a), .val (.ref b)] []))
      refine OwnEnds.via (fun t k => XS.iconst X8.here hx rfl (hb hby d5_39) k) ?_
      show OwnEnds _ _ _ _ (T8.setTop (mkF m 40 #[.val (.ref a), .val (.ref b)] [(.int (0 : Int32))]))
      obtain ⟨fs, hr, hrun, hended, hW, hsame⟩ := X8.leave (v := some (.int (0 : Int32))) (fun h => by rw [Bd.returns] at h; cases h)
      refine ⟨_, _, ?_, hrun, hended, _, _, rfl, ?_, ⟨_, rfl⟩, hW, hsame.mono (by decide) (by decide)⟩
      · exact retN X8 hx (t := .boolean) Bd.returns (by simp) (hb hby d5_40) hr
      · show QF Z a b t1 t2 s1 s2 h0 n0 _ T8.heap _
        rw [e8]
        exact ⟨(by rw [if_neg fun z => hc32_9 z.2]), N0, rfl⟩
  ·
    refine OwnEnds.via (fun t k => Jvm.RoadKit.acmp (g := (mkF m 18 #[.val (.ref a), .val (.ref b)] [(.ref t1), (.ref t2)])) X4 hx rfl rfl rfl (pc0 := 18) (pc' := 39) (same := false) rfl (hb hby d5_18) rfl (decide_eq_false fun q => ha18_5 (Value.ref.inj q)) (by decide) (by decide) k) ?_
    show OwnEnds _ _ _ _ (T4.setTop (mkF m 39 #[.val (.ref a), .val (.ref b)] []))
    refine OwnEnds.via (fun t k => XS.iconst X4.here hx rfl (hb hby d5_39) k) ?_
    show OwnEnds _ _ _ _ (T4.setTop (mkF m 40 #[.val (.ref a), .val (.ref b)] [(.int (0 : Int32))]))
    obtain ⟨fs, hr, hrun, hended, hW, hsame⟩ := X4.leave (v := some (.int (0 : Int32))) (fun h => by rw [Bd.returns] at h; cases h)
    refine ⟨_, _, ?_, hrun, hended, _, _, rfl, ?_, ⟨_, rfl⟩, hW, hsame.mono (by decide) (by decide)⟩
    · exact retN X4 hx (t := .boolean) Bd.returns (by simp) (hb hby d5_40) hr
    · show QF Z a b t1 t2 s1 s2 h0 n0 _ T4.heap _
      rw [e4]
      exact ⟨(by rw [if_neg fun z => ha18_5 z.1]), N0, rfl⟩

theorem pn_rmN : plainName "com/example/tagwire/tagwire/HalfFloat" = true := by first | (simp [plainName, overriddenIn]; done) | decide +kernel
theorem ef_rmN (m : MethodId) (a : Addr) : entryFrame m #[(.ref a), .null] 2 = mkF m 0 #[.val (.ref a), .val .null] [] := by first | (simp [entryFrame, mkF, argsToLocals, Value.category]; done) | rfl
def QN (Z : State) (a : Addr) (h0 : Heap) (n0 : Nat) (v : Option Value) (h : Heap) (L : List Loc) : Prop := v = some (.int (0 : Int32)) ∧ Fr n0 L ∧ h = h0
set_option maxRecDepth 65536 in
set_option maxHeartbeats 40000000 in
theorem rmN (l : Launch) (Z : State) (a0 : Array Value) (hw : ∀ d ∈ tables_1, d.before a0 Z = true) (ws : List Jvm.Cond) (a : Addr) (h0 : Heap) (n0 : Nat) (Z0 : n0 ≤ h0.size)  :
    MetFree l (⟨"com/example/tagwire/tagwire/HalfFloat", "equals", "(Ljava/lang/Object;)Z"⟩ : MethodName) (head1 (Jvm.Cond.code (⟨"com/example/tagwire/tagwire/HalfFloat", "equals", "(Ljava/lang/Object;)Z"⟩ : MethodName) prog_26_method_9_code 2 (some .boolean) :: ws) ({ frames := 0, cells := 0, slots := 0, locals := 0 } : Room)) (fun aa U => aa = #[(.ref a), .null] ∧ Z.Warmed39 U.vm ∧ U.heap = h0) (fun _ _ _ _ _ => True) (fun _ U o U' => ∃ v L, o = .returned v ∧ QN Z a h0 n0 v U'.heap L ∧ FrameEnd U o U' L ({ frames := 0, cells := 0, slots := 0, locals := 0 } : Room).cells ({ frames := 0, cells := 0, slots := 0, locals := 0 } : Room).slots) := by
  refine MetFree.of_bodySF (plainFor_of_name pn_rmN) hisR ?_
  intro p e s m args below meth c s₁ Bd hml0 hP hK
  obtain ⟨rfl, hZ, hh⟩ := hP
  have hx := Bd.exec
  have hby := Bd.bytes
  have hml : c.maxLocals = 2 := hml0
  have hown : s.vm.findClass "com/example/tagwire/tagwire/HalfFloat" = some m.cls := findClass_of_methodNamed Bd.named
  have hnm := (name_of_methodNamed Bd.named Bd.method).1
  have X0 : Stand p l e ({ frames := 0, cells := 0, slots := 0, locals := 0 } : Room) s m #[(.ref a), .null] below meth c s₁ [] 0 0 := Stand.of_body Bd
  have e0 : s₁.heap = h0 := by rw [← hh, Bd.state]; rfl
  have N0 := Fr.nil n0
  change OwnEnds p.tables e below _ _
  refine OwnEnds.via (fun t k => castTop (ef_rmN m a) k) ?_
  show OwnEnds _ _ _ _ (s₁.setTop (mkF m 0 #[.val (.ref a), .val .null] []))
  refine OwnEnds.via (fun t k => XS.aloadN X0.here hx rfl (hb hby d5_0) rfl rfl k) ?_
  show OwnEnds _ _ _ _ (s₁.setTop (mkF m 1 #[.val (.ref a), .val .null] [.null]))
  refine OwnEnds.via (X0.instanceofNull hx (g := (mkF m 1 #[.val (.ref a), .val .null] [.null])) rfl rfl (hb hby d5_1)) ?_
  show OwnEnds _ _ _ _ (s₁.setTop (mkF m 4 #[.val (.ref a), .val .null] [(.int (0 : Int32))]))
  refine OwnEnds.via (fun t k => XS.ifYes X0.here hx rfl (pc0 := 4) (pc' := 39) rfl (hb hby d5_4) rfl ((if0 _ _).trans (teq (by decide)).1) (by decide) (by decide) k) ?_
  show OwnEnds _ _ _ _ (s₁.setTop (mkF m 39 #[.val (.ref a), .val .null] []))
  refine OwnEnds.via (fun t k => XS.iconst X0.here hx rfl (hb hby d5_39) k) ?_
  show OwnEnds _ _ _ _ (s₁.setTop (mkF m 40 #[.val (.ref a), .val .null] [(.int (0 : Int32))]))
  obtain ⟨fs, hr, hrun, hended, hW, hsame⟩ := X0.leave (v := some (.int (0 : Int32))) (fun h => by rw [Bd.returns] at h; cases h)
  refine ⟨_, _, ?_, hrun, hended, _, _, rfl, ?_, ⟨_, rfl⟩, hW, hsame.mono (by decide) (by decide)⟩
  · exact retN X0 hx (t := .boolean) Bd.returns (by simp) (hb hby d5_40) hr
  · show QN Z a h0 n0 _ s₁.heap _
    rw [e0]
    exact ⟨rfl, N0, rfl⟩

theorem pn_rmI : plainName "com/example/tagwire/tagwire/HalfFloat" = true := by first | (simp [plainName, overriddenIn]; done) | decide +kernel
theorem ef_rmI (m : MethodId) (a : Addr) (b : Addr) : entryFrame m #[(.ref a), (.ref b)] 2 = mkF m 0 #[.val (.ref a), .val (.ref b)] [] := by first | (simp [entryFrame, mkF, argsToLocals, Value.category]; done) | rfl
def QI (Z : State) (a : Addr) (b : Addr) (h0 : Heap) (n0 : Nat) (v : Option Value) (h : Heap) (L : List Loc) : Prop := v = some (.int (0 : Int32)) ∧ Fr n0 L ∧ h = h0
set_option maxRecDepth 65536 in
set_option maxHeartbeats 40000000 in
theorem rmI (l : Launch) (Z : State) (a0 : Array Value) (hw : ∀ d ∈ tables_1, d.before a0 Z = true) (ws : List Jvm.Cond) (a : Addr) (b : Addr) (h0 : Heap) (n0 : Nat) (Z0 : n0 ≤ h0.size) (P0 : Exa Z h0 b "java/lang/Integer") :
    MetFree l (⟨"com/example/tagwire/tagwire/HalfFloat", "equals", "(Ljava/lang/Object;)Z"⟩ : MethodName) (head1 (Jvm.Cond.code (⟨"com/example/tagwire/tagwire/HalfFloat", "equals", "(Ljava/lang/Object;)Z"⟩ : MethodName) prog_26_method_9_code 2 (some .boolean) :: ws) ({ frames := 0, cells := 0, slots := 0, locals := 0 } : Room)) (fun aa U => aa = #[(.ref a), (.ref b)] ∧ Z.Warmed39 U.vm ∧ U.heap = h0) (fun _ _ _ _ _ => True) (fun _ U o U' => ∃ v L, o = .returned v ∧ QI Z a b h0 n0 v U'.heap L ∧ FrameEnd U o U' L ({ frames := 0, cells := 0, slots := 0, locals := 0 } : Room).cells ({ frames := 0, cells := 0, slots := 0, locals := 0 } : Room).slots) := by
  refine MetFree.of_bodySF (plainFor_of_name pn_rmI) hisR ?_
  intro p e s m args below meth c s₁ Bd hml0 hP hK
  obtain ⟨rfl, hZ, hh⟩ := hP
  have hx := Bd.exec
  have hby := Bd.bytes
  have hml : c.maxLocals = 2 := hml0
  have hown : s.vm.findClass "com/example/tagwire/tagwire/HalfFloat" = some m.cls := findClass_of_methodNamed Bd.named
  have hnm := (name_of_methodNamed Bd.named Bd.method).1
  have X0 : Stand p l e ({ frames := 0, cells := 0, slots := 0, locals := 0 } : Room) s m #[(.ref a), (.ref b)] below meth c s₁ [] 0 0 := Stand.of_body Bd
  have e0 : s₁.heap = h0 := by rw [← hh, Bd.state]; rfl
  have N0 := Fr.nil n0
  change OwnEnds p.tables e below _ _
  refine OwnEnds.via (fun t k => castTop (ef_rmI m a b) k) ?_
  show OwnEnds _ _ _ _ (s₁.setTop (mkF m 0 #[.val (.ref a), .val (.ref b)] []))
  refine OwnEnds.via (fun t k => XS.aloadN X0.here hx rfl (hb hby d5_0) rfl rfl k) ?_
  show OwnEnds _ _ _ _ (s₁.setTop (mkF m 1 #[.val (.ref a), .val (.ref b)] [(.ref b)]))
  obtain ⟨T1, X1, e1, st1⟩ := instNo X0 hx hZ hown (hw _ (List.mem_of_getElem? (i := 29) rfl)) e0 P0 (own_no (hw _ (List.mem_of_getElem? (i := 41) rfl)) (hw _ (List.mem_of_getElem? (i := 4) rfl)) (NS.step (hw _ (List.mem_of_getElem? (i := 41) rfl)) (NS.step (hw _ (List.mem_of_getElem? (i := 42) rfl)) (own_root (hw _ (List.mem_of_getElem? (i := 43) rfl)) (hw _ (List.mem_of_getElem? (i := 4) rfl)) (by decide)) (by decide)) (by decide)) (by decide)) (g := (mkF m 1 #[.val (.ref a), .val (.ref b)] [(.ref b)])) rfl rfl (hb hby d5_1)
  refine OwnEnds.via st1 ?_
  show OwnEnds _ _ _ _ (T1.setTop (mkF m 4 #[.val (.ref a), .val (.ref b)] [(.int (0 : Int32))]))
  refine OwnEnds.via (fun t k => XS.ifYes X1.here hx rfl (pc0 := 4) (pc' := 39) rfl (hb hby d5_4) rfl ((if0 _ _).trans (teq (by decide)).1) (by decide) (by decide) k) ?_
  show OwnEnds _ _ _ _ (T1.setTop (mkF m 39 #[.val (.ref a), .val (.ref b)] []))
  refine OwnEnds.via (fun t k => XS.iconst X1.here hx rfl (hb hby d5_39) k) ?_
  show OwnEnds _ _ _ _ (T1.setTop (mkF m 40 #[.val (.ref a), .val (.ref b)] [(.int (0 : Int32))]))
  obtain ⟨fs, hr, hrun, hended, hW, hsame⟩ := X1.leave (v := some (.int (0 : Int32))) (fun h => by rw [Bd.returns] at h; cases h)
  refine ⟨_, _, ?_, hrun, hended, _, _, rfl, ?_, ⟨_, rfl⟩, hW, hsame.mono (by decide) (by decide)⟩
  · exact retN X1 hx (t := .boolean) Bd.returns (by simp) (hb hby d5_40) hr
  · show QI Z a b h0 n0 _ T1.heap _
    rw [e1]
    exact ⟨rfl, N0, rfl⟩

theorem own_nar (x : Int32) : nar .short (x.toInt16.toInt32) = x.toInt16.toInt32 := by
  show (x.toInt16.toInt32).toInt16.toInt32 = _
  rw [Int16.toInt16_toInt32]
theorem own_eq {t1 t2 : Addr} {s1 s2 ex : Int32} (h1 : nar .short s1 = s1) (h2 : nar .short s2 = s2) (hx : ex = if t1 = t2 ∧ s1 = s2 then (1 : Int32) else (0 : Int32)) : (if t2 = t1 ∧ nar .short s2 = nar .short s1 then (1 : Int32) else (0 : Int32)) = ex := by
  rw [h1, h2, hx]
  simp only [eq_comm]
theorem own_eq' {t1 t2 : Addr} {s1 s2 ex : Int32} (h1 : nar .short s1 = s1) (h2 : nar .short s2 = s2) (hx : ex = if t1 = t2 ∧ s1 = s2 then (1 : Int32) else (0 : Int32)) : (if t1 = t2 ∧ nar .short s1 = nar .short s2 then (1 : Int32) else (0 : Int32)) = ex := by
  rw [h1, h2, hx]
theorem own_self (a : Addr) (b : Int32) : ¬ (if a = a ∧ b = b then (1 : Int32) else (0 : Int32)) = (0 : Int32) := by simp

theorem pn_rm0 : plainName "com/example/tagwire/tagwire/HalfFloatEqualsPinLaw" = true := by first | (simp [plainName, overriddenIn]; done) | decide +kernel
theorem pd_4 : parseMethodDescriptor "(Lcom/example/tagwire/tagwire/NumberType;S)V" = some ⟨[(.object "com/example/tagwire/tagwire/NumberType"), .short], none⟩ := by decide +kernel
theorem pd_5 : parseMethodDescriptor "(Ljava/lang/Object;)Z" = some ⟨[(.object "java/lang/Object")], some .boolean⟩ := by decide +kernel
theorem pd_6 : parseMethodDescriptor "(I)Ljava/lang/Integer;" = some ⟨[.int], some (.object "java/lang/Integer")⟩ := by decide +kernel
theorem ef_rm0 (m : MethodId) (sel : Int32) (pa : Int32) (pb : Int32) : entryFrame m #[(.int sel), (.int pa), (.int pb)] maxLocals = mkF m 0 #[.val (.int sel), .val (.int pa), .val (.int pb), .unset, .unset, .unset, .unset, .unset, .unset, .unset, .unset] [] := by first | (simp [entryFrame, mkF, argsToLocals, Value.category, maxLocals]; done) | rfl
def Q0 (Z : State) (sel : Int32) (pa : Int32) (pb : Int32) (cc : Addr) (cb : Cell) (vb : Int32 → Value) (nf : Addr) (nb : Addr) (h0 : Heap) (n0 : Nat) (v : Option Value) (h : Heap) (L : List Loc) : Prop := v = some (.int (1 : Int32)) ∧ Fr n0 L
set_option maxRecDepth 65536 in
set_option maxHeartbeats 40000000 in
theorem rm0 (l : Launch) (Z : State) (a0 : Array Value) (hw : ∀ d ∈ tables_1, d.before a0 Z = true) (ws : List Jvm.Cond) (sel : Int32) (pa : Int32) (pb : Int32) (cc : Addr) (cb : Cell) (vb : Int32 → Value) (nf : Addr) (nb : Addr) (h0 : Heap) (n0 : Nat) (Z0 : n0 ≤ h0.size) (O0 : Old Z n0 h0) (P0 : Bxs Z cc cb "java/lang/Integer" "I" (256 : Int32) vb) (OP0 : Sta Z Z.heap "java/lang/Integer$IntegerCache" "high" "I" (.int (127 : Int32))) (OP1 : Sta Z Z.heap "java/lang/Integer$IntegerCache" "cache" "[Ljava/lang/Integer;" (.ref cc)) (OP2 : Sta Z Z.heap "com/example/tagwire/tagwire/NumberType" "FLOAT16" "Lcom/example/tagwire/tagwire/NumberType;" (.ref nf)) (OP3 : Sta Z Z.heap "com/example/tagwire/tagwire/NumberType" "BFLOAT16" "Lcom/example/tagwire/tagwire/NumberType;" (.ref nb)) :
    MetFree l x (head1 (Jvm.Cond.code x code maxLocals ret :: ws) room_1) (fun aa U => aa = #[(.int sel), (.int pa), (.int pb)] ∧ Z.Warmed39 U.vm ∧ U.heap = h0) (fun _ _ _ _ _ => True) (fun _ U o U' => ∃ v L, o = .returned v ∧ Q0 Z sel pa pb cc cb vb nf nb h0 n0 v U'.heap L ∧ FrameEnd U o U' L room_1.cells room_1.slots) := by
  refine MetFree.of_bodySF (plainFor_of_name pn_rm0) hisR ?_
  intro p e s m args below meth c s₁ Bd hml0 hP hK
  obtain ⟨rfl, hZ, hh⟩ := hP
  have hx := Bd.exec
  have hby := Bd.bytes
  have hml : c.maxLocals = 11 := hml0
  have hown : s.vm.findClass "com/example/tagwire/tagwire/HalfFloatEqualsPinLaw" = some m.cls := findClass_of_methodNamed Bd.named
  have hnm := (name_of_methodNamed Bd.named Bd.method).1
  have X0 : Stand p l e room_1 s m #[(.int sel), (.int pa), (.int pb)] below meth c s₁ [] 0 0 := Stand.of_body Bd
  have e0 : s₁.heap = h0 := by rw [← hh, Bd.state]; rfl
  have N0 := Fr.nil n0
  change OwnEnds p.tables e below _ _
  refine OwnEnds.via (fun t k => castTop (ef_rm0 m sel pa pb) k) ?_
  show OwnEnds _ _ _ _ (s₁.setTop (mkF m 0 #[.val (.int sel), .val (.int pa), .val (.int pb), .unset, .unset, .unset, .unset, .unset, .unset, .unset, .unset] []))
  refine OwnEnds.via (fun t k => XS.iloadN X0.here hx rfl (hb hby at_0) rfl k) ?_
  show OwnEnds _ _ _ _ (s₁.setTop (mkF m 1 #[.val (.int sel), .val (.int pa), .val (.int pb), .unset, .unset, .unset, .unset, .unset, .unset, .unset, .unset] [(.int sel)]))
  refine OwnEnds.via (fun t k => XS.iconst X0.here hx rfl (hb hby at_1) k) ?_
  show OwnEnds _ _ _ _ (s₁.setTop (mkF m 2 #[.val (.int sel), .val (.int pa), .val (.int pb), .unset, .unset, .unset, .unset, .unset, .unset, .unset, .unset] [(.int (1 : Int32)), (.int sel)]))
  refine OwnEnds.via (fun t k => XS.iand X0.here hx rfl (hb hby at_2) rfl k) ?_
  show OwnEnds _ _ _ _ (s₁.setTop (mkF m 3 #[.val (.int sel), .val (.int pa), .val (.int pb), .unset, .unset, .unset, .unset, .unset, .unset, .unset, .unset] [(.int (sel &&& (1 : Int32)))]))
  refine OwnEnds.cut (fun G => ∀ (T1 : State) (lc1 : List Loc) (X1 : Stand p l e room_1 s m #[(.int sel), (.int pa), (.int pb)] below meth c T1 lc1 0 0) (e1 : T1.heap = h0) (N1 : Fr n0 lc1) (t1 : Addr) (hj1_0 : t1 = nb ∨ t1 = nf), G (T1.setTop (mkF m 15 #[.val (.int sel), .val (.int pa), .val (.int pb), .unset, .unset, .unset, .unset, .unset, .unset, .unset, .unset] [(.ref t1)]))) ?_ ?_
  · intro T1 lc1 X1 e1 N1 t1 hj1_0
    show OwnEnds _ _ _ _ (T1.setTop (mkF m 15 #[.val (.int sel), .val (.int pa), .val (.int pb), .unset, .unset, .unset, .unset, .unset, .unset, .unset, .unset] [(.ref t1)]))
    refine OwnEnds.via (fun t k => XS.astoreN X1.here hx rfl (hb hby at_15) rfl rfl (l' := #[.val (.int sel), .val (.int pa), .val (.int pb), .val (.ref t1), .unset, .unset, .unset, .unset, .unset, .unset, .unset]) rfl k) ?_
    show OwnEnds _ _ _ _ (T1.setTop (mkF m 16 #[.val (.int sel), .val (.int pa), .val (.int pb), .val (.ref t1), .unset, .unset, .unset, .unset, .unset, .unset, .unset] []))
    refine OwnEnds.via (fun t k => XS.iloadN X1.here hx rfl (hb hby at_16) rfl k) ?_
    show OwnEnds _ _ _ _ (T1.setTop (mkF m 17 #[.val (.int sel), .val (.int pa), .val (.int pb), .val (.ref t1), .unset, .unset, .unset, .unset, .unset, .unset, .unset] [(.int sel)]))
    refine OwnEnds.via (fun t k => XS.iconst X1.here hx rfl (hb hby at_17) k) ?_
    show OwnEnds _ _ _ _ (T1.setTop (mkF m 18 #[.val (.int sel), .val (.int pa), .val (.int pb), .val (.ref t1), .unset, .unset, .unset, .unset, .unset, .unset, .unset] [(.int (2 : Int32)), (.int sel)]))
    refine OwnEnds.via (fun t k => XS.iand X1.here hx rfl (hb hby at_18) rfl k) ?_
    show OwnEnds _ _ _ _ (T1.setTop (mkF m 19 #[.val (.int sel), .val (.int pa), .val (.int pb), .val (.ref t1), .unset, .unset, .unset, .unset, .unset, .unset, .unset] [(.int (sel &&& (2 : Int32)))]))
    refine OwnEnds.cut (fun G => ∀ (T2 : State) (lc2 : List Loc) (X2 : Stand p l e room_1 s m #[(.int sel), (.int pa), (.int pb)] below meth c T2 lc2 0 0) (e2 : T2.heap = h0) (N2 : Fr n0 lc2) (t2 : Addr) (hj2_0 : t2 = nb ∨ t2 = nf), G (T2.setTop (mkF m 31 #[.val (.int sel), .val (.int pa), .val (.int pb), .val (.ref t1), .unset, .unset, .unset, .unset, .unset, .unset, .unset] [(.ref t2)]))) ?_ ?_
    · intro T2 lc2 X2 e2 N2 t2 hj2_0
      show OwnEnds _ _ _ _ (T2.setTop (mkF m 31 #[.val (.int sel), .val (.int pa), .val (.int pb), .val (.ref t1), .unset, .unset, .unset, .unset, .unset, .unset, .unset] [(.ref t2)]))
      refine OwnEnds.via (fun t k => XS.astore X2.here hx rfl (hb hby at_31) rfl rfl (l' := #[.val (.int sel), .val (.int pa), .val (.int pb), .val (.ref t1), .val (.ref t2), .unset, .unset, .unset, .unset, .unset, .unset]) rfl k) ?_
      show OwnEnds _ _ _ _ (T2.setTop (mkF m 33 #[.val (.int sel), .val (.int pa), .val (.int pb), .val (.ref t1), .val (.ref t2), .unset, .unset, .unset, .unset, .unset, .unset] []))
      refine OwnEnds.via (fun t k => XS.iloadN X2.here hx rfl (hb hby at_33) rfl k) ?_
      show OwnEnds _ _ _ _ (T2.setTop (mkF m 34 #[.val (.int sel), .val (.int pa), .val (.int pb), .val (.ref t1), .val (.ref t2), .unset, .unset, .unset, .unset, .unset, .unset] [(.int pa)]))
      refine OwnEnds.via (fun t k => XS.i2s X2.here hx rfl (hb hby at_34) rfl k) ?_
      show OwnEnds _ _ _ _ (T2.setTop (mkF m 35 #[.val (.int sel), .val (.int pa), .val (.int pb), .val (.ref t1), .val (.ref t2), .unset, .unset, .unset, .unset, .unset, .unset] [(.int (pa.toInt16.toInt32))]))
      refine OwnEnds.via (fun t k => XS.istore X2.here hx rfl (hb hby at_35) rfl (l' := #[.val (.int sel), .val (.int pa), .val (.int pb), .val (.ref t1), .val (.ref t2), .val (.int (pa.toInt16.toInt32)), .unset, .unset, .unset, .unset, .unset]) rfl k) ?_
      show OwnEnds _ _ _ _ (T2.setTop (mkF m 37 #[.val (.int sel), .val (.int pa), .val (.int pb), .val (.ref t1), .val (.ref t2), .val (.int (pa.toInt16.toInt32)), .unset, .unset, .unset, .unset, .unset] []))
      refine OwnEnds.via (fun t k => XS.iloadN X2.here hx rfl (hb hby at_37) rfl k) ?_
      show OwnEnds _ _ _ _ (T2.setTop (mkF m 38 #[.val (.int sel), .val (.int pa), .val (.int pb), .val (.ref t1), .val (.ref t2), .val (.int (pa.toInt16.toInt32)), .unset, .unset, .unset, .unset, .unset] [(.int sel)]))
      refine OwnEnds.via (fun t k => XS.iconst X2.here hx rfl (hb hby at_38) k) ?_
      show OwnEnds _ _ _ _ (T2.setTop (mkF m 39 #[.val (.int sel), .val (.int pa), .val (.int pb), .val (.ref t1), .val (.ref t2), .val (.int (pa.toInt16.toInt32)), .unset, .unset, .unset, .unset, .unset] [(.int (4 : Int32)), (.int sel)]))
      refine OwnEnds.via (fun t k => XS.iand X2.here hx rfl (hb hby at_39) rfl k) ?_
      show OwnEnds _ _ _ _ (T2.setTop (mkF m 40 #[.val (.int sel), .val (.int pa), .val (.int pb), .val (.ref t1), .val (.ref t2), .val (.int (pa.toInt16.toInt32)), .unset, .unset, .unset, .unset, .unset] [(.int (sel &&& (4 : Int32)))]))
      refine OwnEnds.cut (fun G => ∀ (T3 : State) (lc3 : List Loc) (X3 : Stand p l e room_1 s m #[(.int sel), (.int pa), (.int pb)] below meth c T3 lc3 0 0) (e3 : T3.heap = h0) (N3 : Fr n0 lc3) (s2 : Int32) (hj3_0 : nar .short s2 = s2), G (T3.setTop (mkF m 50 #[.val (.int sel), .val (.int pa), .val (.int pb), .val (.ref t1), .val (.ref t2), .val (.int (pa.toInt16.toInt32)), .unset, .unset, .unset, .unset, .unset] [(.int s2)]))) ?_ ?_
      · intro T3 lc3 X3 e3 N3 s2 hj3_0
        show OwnEnds _ _ _ _ (T3.setTop (mkF m 50 #[.val (.int sel), .val (.int pa), .val (.int pb), .val (.ref t1), .val (.ref t2), .val (.int (pa.toInt16.toInt32)), .unset, .unset, .unset, .unset, .unset] [(.int s2)]))
        refine OwnEnds.via (fun t k => XS.istore X3.here hx rfl (hb hby at_50) rfl (l' := #[.val (.int sel), .val (.int pa), .val (.int pb), .val (.ref t1), .val (.ref t2), .val (.int (pa.toInt16.toInt32)), .val (.int s2), .unset, .unset, .unset, .unset]) rfl k) ?_
        show OwnEnds _ _ _ _ (T3.setTop (mkF m 52 #[.val (.int sel), .val (.int pa), .val (.int pb), .val (.ref t1), .val (.ref t2), .val (.int (pa.toInt16.toInt32)), .val (.int s2), .unset, .unset, .unset, .unset] []))
        obtain ⟨T4, h4, X4, e4, E4, A4, D4, -, st4⟩ := newO X3 hx hZ hown (hw _ (List.mem_of_getElem? (i := 3) rfl)) (hw _ (List.mem_of_getElem? (i := 4) rfl)) (hw _ (List.mem_of_getElem? (i := 5) rfl)) e3 (g := (mkF m 52 #[.val (.int sel), .val (.int pa), .val (.int pb), .val (.ref t1), .val (.ref t2), .val (.int (pa.toInt16.toInt32)), .val (.int s2), .unset, .unset, .unset, .unset] [])) rfl (hb hby at_52) (by decide) (by decide)
        obtain ⟨b4, g4⟩ : ∃ z, z = h0.size := ⟨_, rfl⟩
        have ge_b4 : n0 ≤ b4 := Nat.le_trans Z0 (Nat.le_of_eq g4.symm)
        have Z4 : n0 ≤ h4.size := Nat.le_trans Z0 E4.1
        have O4 : Old Z n0 h4 := O0.ext E4
        rw [← g4] at A4 D4 st4
        have F4_type : Fld Z h4 b4 "com/example/tagwire/tagwire/HalfFloat" "type" "Lcom/example/tagwire/tagwire/NumberType;" .null := D4 (Or.inr (hw _ (List.mem_of_getElem? (i := 21) rfl))) (ty := (.object "com/example/tagwire/tagwire/NumberType")) (by decide)
        have F4_bits : Fld Z h4 b4 "com/example/tagwire/tagwire/HalfFloat" "bits" "S" (.int (0 : Int32)) := D4 (Or.inr (hw _ (List.mem_of_getElem? (i := 23) rfl))) (ty := .short) (by decide)
        refine OwnEnds.via st4 ?_
        show OwnEnds _ _ _ _ (T4.setTop (mkF m 55 #[.val (.int sel), .val (.int pa), .val (.int pb), .val (.ref t1), .val (.ref t2), .val (.int (pa.toInt16.toInt32)), .val (.int s2), .unset, .unset, .unset, .unset] [(.ref b4)]))
        refine OwnEnds.via (fun t k => XS.dup X4.here hx rfl (hb hby at_55) rfl rfl k) ?_
        show OwnEnds _ _ _ _ (T4.setTop (mkF m 56 #[.val (.int sel), .val (.int pa), .val (.int pb), .val (.ref t1), .val (.ref t2), .val (.int (pa.toInt16.toInt32)), .val (.int s2), .unset, .unset, .unset, .unset] [(.ref b4), (.ref b4)]))
        refine OwnEnds.via (fun t k => XS.aloadN X4.here hx rfl (hb hby at_56) rfl rfl k) ?_
        show OwnEnds _ _ _ _ (T4.setTop (mkF m 57 #[.val (.int sel), .val (.int pa), .val (.int pb), .val (.ref t1), .val (.ref t2), .val (.int (pa.toInt16.toInt32)), .val (.int s2), .unset, .unset, .unset, .unset] [(.ref t1), (.ref b4), (.ref b4)]))
        refine OwnEnds.via (fun t k => XS.iload X4.here hx rfl (hb hby at_57) rfl k) ?_
        show OwnEnds _ _ _ _ (T4.setTop (mkF m 59 #[.val (.int sel), .val (.int pa), .val (.int pb), .val (.ref t1), .val (.ref t2), .val (.int (pa.toInt16.toInt32)), .val (.int s2), .unset, .unset, .unset, .unset] [(.int (pa.toInt16.toInt32)), (.ref t1), (.ref b4), (.ref b4)]))
        obtain ⟨_, _, ⟨T5, L5, k5, n5⟩, -, X5, ⟨Lc5, hQ5, l5, y5, z5⟩, st5⟩ := X4.specialBack hx (y := (⟨"com/example/tagwire/tagwire/HalfFloat", "<init>", "(Lcom/example/tagwire/tagwire/NumberType;S)V"⟩ : MethodName)) rfl hown (mvT hZ (hw _ (List.mem_of_getElem? (i := 6) rfl))) (mvT hZ (hw _ (List.mem_of_getElem? (i := 7) rfl))) (mvT hZ (hw _ (List.mem_of_getElem? (i := 8) rfl))) (by decide) (backOf (W := 1) (rm1 l Z a0 hw [] b4 t1 (pa.toInt16.toInt32) nf nb h4 n0 Z4 O4 hj1_0 A4 F4_type F4_bits ge_b4 OP2 OP3) hZ (hw _ (List.mem_of_getElem? (i := 8) rfl)) (hw _ (List.mem_of_getElem? (i := 5) rfl)) (by decide) (by decide)) (g := (mkF m 59 #[.val (.int sel), .val (.int pa), .val (.int pb), .val (.ref t1), .val (.ref t2), .val (.int (pa.toInt16.toInt32)), .val (.int s2), .unset, .unset, .unset, .unset] [(.int (pa.toInt16.toInt32)), (.ref t1), (.ref b4), (.ref b4)])) rfl (by rw [hml]; rfl) (Steps.refl _) (a := b4) (argsL := [(.ref t1), (.int (pa.toInt16.toInt32))]) (rest := [(.ref b4)]) (lenOf pd_4 rfl) rfl (by show 2 * 0 + _ ≤ _; exact Nat.le_of_eq rfl) (hb hby at_59) (fun _ _ => ⟨rfl, e4, (by decide : 1 + 0 ≤ _), (by decide : 2 + 0 ≤ _)⟩)
        dsimp only [Pt.U, Pt.locs, Pt.cells, Pt.slots] at X5 l5 y5 z5 st5 hQ5
        subst l5 y5 z5
        obtain ⟨h5, e5⟩ : ∃ z, T5.heap = z := ⟨_, rfl⟩
        rw [e5] at hQ5
        obtain ⟨rfl, Nq5, Kq5, q5_0, q5_1, q5_2⟩ := hQ5
        have Z5 : n0 ≤ h5.size := Nat.le_trans Z4 Kq5.1
        have O5 : Old Z n0 h5 := O4.keep Kq5 (allS ge_b4 all0)
        have N5 := Fr.app N3 Nq5
        refine OwnEnds.via (fun t k => st5.trans k) ?_
        show OwnEnds _ _ _ _ (T5.setTop (mkF m 62 #[.val (.int sel), .val (.int pa), .val (.int pb), .val (.ref t1), .val (.ref t2), .val (.int (pa.toInt16.toInt32)), .val (.int s2), .unset, .unset, .unset, .unset] [(.ref b4)]))
        refine OwnEnds.via (fun t k => XS.astore X5.here hx rfl (hb hby at_62) rfl rfl (l' := #[.val (.int sel), .val (.int pa), .val (.int pb), .val (.ref t1), .val (.ref t2), .val (.int (pa.toInt16.toInt32)), .val (.int s2), .val (.ref b4), .unset, .unset, .unset]) rfl k) ?_
        show OwnEnds _ _ _ _ (T5.setTop (mkF m 64 #[.val (.int sel), .val (.int pa), .val (.int pb), .val (.ref t1), .val (.ref t2), .val (.int (pa.toInt16.toInt32)), .val (.int s2), .val (.ref b4), .unset, .unset, .unset] []))
        refine OwnEnds.via (fun t k => XS.iloadN X5.here hx rfl (hb hby at_64) rfl k) ?_
        show OwnEnds _ _ _ _ (T5.setTop (mkF m 65 #[.val (.int sel), .val (.int pa), .val (.int pb), .val (.ref t1), .val (.ref t2), .val (.int (pa.toInt16.toInt32)), .val (.int s2), .val (.ref b4), .unset, .unset, .unset] [(.int sel)]))
        refine OwnEnds.via (fun t k => XS.iconst X5.here hx rfl (hb hby at_65) k) ?_
        show OwnEnds _ _ _ _ (T5.setTop (mkF m 66 #[.val (.int sel), .val (.int pa), .val (.int pb), .val (.ref t1), .val (.ref t2), .val (.int (pa.toInt16.toInt32)), .val (.int s2), .val (.ref b4), .unset, .unset, .unset] [(.int (3 : Int32)), (.int sel)]))
        refine OwnEnds.via (fun t k => XS.iushr X5.here hx rfl (hb hby at_66) rfl k) ?_
        show OwnEnds _ _ _ _ (T5.setTop (mkF m 67 #[.val (.int sel), .val (.int pa), .val (.int pb), .val (.ref t1), .val (.ref t2), .val (.int (pa.toInt16.toInt32)), .val (.int s2), .val (.ref b4), .unset, .unset, .unset] [(.int ((sel.toUInt32 >>> ((3 : Int32) &&& 31).toUInt32).toInt32))]))
        refine OwnEnds.via (fun t k => XS.iconst X5.here hx rfl (hb hby at_67) k) ?_
        show OwnEnds _ _ _ _ (T5.setTop (mkF m 68 #[.val (.int sel), .val (.int pa), .val (.int pb), .val (.ref t1), .val (.ref t2), .val (.int (pa.toInt16.toInt32)), .val (.int s2), .val (.ref b4), .unset, .unset, .unset] [(.int (3 : Int32)), (.int ((sel.toUInt32 >>> ((3 : Int32) &&& 31).toUInt32).toInt32))]))
        refine OwnEnds.via (fun t k => XS.iand X5.here hx rfl (hb hby at_68) rfl k) ?_
        show OwnEnds _ _ _ _ (T5.setTop (mkF m 69 #[.val (.int sel), .val (.int pa), .val (.int pb), .val (.ref t1), .val (.ref t2), .val (.int (pa.toInt16.toInt32)), .val (.int s2), .val (.ref b4), .unset, .unset, .unset] [(.int (((sel.toUInt32 >>> ((3 : Int32) &&& 31).toUInt32).toInt32) &&& (3 : Int32)))]))
        refine OwnEnds.via (fun t k => XS.istore X5.here hx rfl (hb hby at_69) rfl (l' := #[.val (.int sel), .val (.int pa), .val (.int pb), .val (.ref t1), .val (.ref t2), .val (.int (pa.toInt16.toInt32)), .val (.int s2), .val (.ref b4), .val (.int (((sel.toUInt32 >>> ((3 : Int32) &&& 31).toUInt32).toInt32) &&& (3 : Int32))), .unset, .unset]) rfl k) ?_
        show OwnEnds _ _ _ _ (T5.setTop (mkF m 71 #[.val (.int sel), .val (.int pa), .val (.int pb), .val (.ref t1), .val (.ref t2), .val (.int (pa.toInt16.toInt32)), .val (.int s2), .val (.ref b4), .val (.int (((sel.toUInt32 >>> ((3 : Int32) &&& 31).toUInt32).toInt32) &&& (3 : Int32))), .unset, .unset] []))
        refine OwnEnds.via (fun t k => XS.iload X5.here hx rfl (hb hby at_71) rfl k) ?_
        show OwnEnds _ _ _ _ (T5.setTop (mkF m 73 #[.val (.int sel), .val (.int pa), .val (.int pb), .val (.ref t1), .val (.ref t2), .val (.int (pa.toInt16.toInt32)), .val (.int s2), .val (.ref b4), .val (.int (((sel.toUInt32 >>> ((3 : Int32) &&& 31).toUInt32).toInt32) &&& (3 : Int32))), .unset, .unset] [(.int (((sel.toUInt32 >>> ((3 : Int32) &&& 31).toUInt32).toInt32) &&& (3 : Int32)))]))
        refine OwnEnds.via (fun t k => XS.iconst X5.here hx rfl (hb hby at_73) k) ?_
        show OwnEnds _ _ _ _ (T5.setTop (mkF m 74 #[.val (.int sel), .val (.int pa), .val (.int pb), .val (.ref t1), .val (.ref t2), .val (.int (pa.toInt16.toInt32)), .val (.int s2), .val (.ref b4), .val (.int (((sel.toUInt32 >>> ((3 : Int32) &&& 31).toUInt32).toInt32) &&& (3 : Int32))), .unset, .unset] [(.int (2 : Int32)), (.int (((sel.toUInt32 >>> ((3 : Int32) &&& 31).toUInt32).toInt32) &&& (3 : Int32)))]))
        by_cases hc74_6 : (((sel.toUInt32 >>> ((3 : Int32) &&& 31).toUInt32).toInt32) &&& (3 : Int32)) = (2 : Int32)
        ·
          refine OwnEnds.via (fun t k => XS.icmpNo X5.here hx rfl (hb hby at_74) rfl (teq hc74_6).2 k) ?_
          show OwnEnds _ _ _ _ (T5.setTop (mkF m 77 #[.val (.int sel), .val (.int pa), .val (.int pb), .val (.ref t1), .val (.ref t2), .val (.int (pa.toInt16.toInt32)), .val (.int s2), .val (.ref b4), .val (.int (((sel.toUInt32 >>> ((3 : Int32) &&& 31).toUInt32).toInt32) &&& (3 : Int32))), .unset, .unset] []))
          refine OwnEnds.via (fun t k => XS.aload X5.here hx rfl (hb hby at_77) rfl rfl k) ?_
          show OwnEnds _ _ _ _ (T5.setTop (mkF m 79 #[.val (.int sel), .val (.int pa), .val (.int pb), .val (.ref t1), .val (.ref t2), .val (.int (pa.toInt16.toInt32)), .val (.int s2), .val (.ref b4), .val (.int (((sel.toUInt32 >>> ((3 : Int32) &&& 31).toUInt32).toInt32) &&& (3 : Int32))), .unset, .unset] [(.ref b4)]))
          refine OwnEnds.via (fun t k => XS.aconstNull X5.here hx rfl (hb hby at_79) k) ?_
          show OwnEnds _ _ _ _ (T5.setTop (mkF m 80 #[.val (.int sel), .val (.int pa), .val (.int pb), .val (.ref t1), .val (.ref t2), .val (.int (pa.toInt16.toInt32)), .val (.int s2), .val (.ref b4), .val (.int (((sel.toUInt32 >>> ((3 : Int32) &&& 31).toUInt32).toInt32) &&& (3 : Int32))), .unset, .unset] [.null, (.ref b4)]))
          obtain ⟨cq7, kq7, q7a, q7b, q7c⟩ := isOf hZ e5 q5_0
          obtain ⟨_, _, ⟨T7, L7, k7, n7⟩, -, X7, ⟨Lc7, hQ7, l7, y7, z7⟩, st7⟩ := X5.virtualBack hx (y := (⟨"com/example/tagwire/tagwire/HalfFloat", "equals", "(Ljava/lang/Object;)Z"⟩ : MethodName)) (z := (⟨"com/example/tagwire/tagwire/HalfFloat", "equals", "(Ljava/lang/Object;)Z"⟩ : MethodName)) hown (mvT hZ (hw _ (List.mem_of_getElem? (i := 24) rfl))) (mvT hZ (hw _ (List.mem_of_getElem? (i := 25) rfl))) (notFace_of_selects (args := #[]) (mvT hZ (hw _ (List.mem_of_getElem? (i := 27) rfl)))) (mvT hZ (hw _ (List.mem_of_getElem? (i := 27) rfl))) (mvT hZ (hw _ (List.mem_of_getElem? (i := 26) rfl))) (by decide) (backOf (W := 0) (rmN l Z a0 hw [] b4 h5 n0 Z5 ) hZ (hw _ (List.mem_of_getElem? (i := 28) rfl)) (hw _ (List.mem_of_getElem? (i := 5) rfl)) (by decide) (by decide)) q7a q7c (g := (mkF m 80 #[.val (.int sel), .val (.int pa), .val (.int pb), .val (.ref t1), .val (.ref t2), .val (.int (pa.toInt16.toInt32)), .val (.int s2), .val (.ref b4), .val (.int (((sel.toUInt32 >>> ((3 : Int32) &&& 31).toUInt32).toInt32) &&& (3 : Int32))), .unset, .unset] [.null, (.ref b4)])) rfl (by rw [hml]; rfl) (Steps.refl _) (argsL := [.null]) (rest := []) (lenOf pd_5 rfl) rfl (by show 2 * 0 + _ ≤ _; exact Nat.le_of_eq rfl) (hb hby at_80) (fun _ _ => ⟨rfl, e5, (by decide : 1 + 0 ≤ _), (by decide : 2 + 0 ≤ _)⟩)
          dsimp only [Pt.U, Pt.locs, Pt.cells, Pt.slots] at X7 l7 y7 z7 st7 hQ7
          subst l7 y7 z7
          obtain ⟨rfl, Nq7, e7⟩ := hQ7
          have N7 := Fr.app N5 Nq7
          refine OwnEnds.via (fun t k => st7.trans k) ?_
          show OwnEnds _ _ _ _ (T7.setTop (mkF m 83 #[.val (.int sel), .val (.int pa), .val (.int pb), .val (.ref t1), .val (.ref t2), .val (.int (pa.toInt16.toInt32)), .val (.int s2), .val (.ref b4), .val (.int (((sel.toUInt32 >>> ((3 : Int32) &&& 31).toUInt32).toInt32) &&& (3 : Int32))), .unset, .unset] [(.int (0 : Int32))]))
          refine OwnEnds.via (fun t k => XS.ifNo X7.here hx rfl (hb hby at_83) rfl ((if0 _ _).trans (teq (by decide)).2) k) ?_
          show OwnEnds _ _ _ _ (T7.setTop (mkF m 86 #[.val (.int sel), .val (.int pa), .val (.int pb), .val (.ref t1), .val (.ref t2), .val (.int (pa.toInt16.toInt32)), .val (.int s2), .val (.ref b4), .val (.int (((sel.toUInt32 >>> ((3 : Int32) &&& 31).toUInt32).toInt32) &&& (3 : Int32))), .unset, .unset] []))
          refine OwnEnds.via (fun t k => XS.iconst X7.here hx rfl (hb hby at_86) k) ?_
          show OwnEnds _ _ _ _ (T7.setTop (mkF m 87 #[.val (.int sel), .val (.int pa), .val (.int pb), .val (.ref t1), .val (.ref t2), .val (.int (pa.toInt16.toInt32)), .val (.int s2), .val (.ref b4), .val (.int (((sel.toUInt32 >>> ((3 : Int32) &&& 31).toUInt32).toInt32) &&& (3 : Int32))), .unset, .unset] [(.int (1 : Int32))]))
          refine OwnEnds.via (fun t k => XS.goto X7.here hx rfl (pc0 := 87) (pc' := 91) rfl (hb hby at_87) (by decide) (by decide) k) ?_
          show OwnEnds _ _ _ _ (T7.setTop (mkF m 91 #[.val (.int sel), .val (.int pa), .val (.int pb), .val (.ref t1), .val (.ref t2), .val (.int (pa.toInt16.toInt32)), .val (.int s2), .val (.ref b4), .val (.int (((sel.toUInt32 >>> ((3 : Int32) &&& 31).toUInt32).toInt32) &&& (3 : Int32))), .unset, .unset] [(.int (1 : Int32))]))
          obtain ⟨fs, hr, hrun, hended, hW, hsame⟩ := X7.leave (v := some (.int (1 : Int32))) (fun h => by rw [Bd.returns] at h; cases h)
          refine ⟨_, _, ?_, hrun, hended, _, _, rfl, ?_, ⟨_, rfl⟩, hW, hsame.mono (by decide) (by decide)⟩
          · exact retN X7 hx (t := .boolean) Bd.returns (by simp) (hb hby at_91) hr
          · show Q0 Z sel pa pb cc cb vb nf nb h0 n0 _ T7.heap _
            rw [e7]
            exact ⟨rfl, N7⟩
        ·
          refine OwnEnds.via (fun t k => XS.icmpYes X5.here hx rfl (pc0 := 74) (pc' := 92) rfl (hb hby at_74) rfl (feq hc74_6).2 (by decide) (by decide) k) ?_
          show OwnEnds _ _ _ _ (T5.setTop (mkF m 92 #[.val (.int sel), .val (.int pa), .val (.int pb), .val (.ref t1), .val (.ref t2), .val (.int (pa.toInt16.toInt32)), .val (.int s2), .val (.ref b4), .val (.int (((sel.toUInt32 >>> ((3 : Int32) &&& 31).toUInt32).toInt32) &&& (3 : Int32))), .unset, .unset] []))
          refine OwnEnds.via (fun t k => XS.iload X5.here hx rfl (hb hby at_92) rfl k) ?_
          show OwnEnds _ _ _ _ (T5.setTop (mkF m 94 #[.val (.int sel), .val (.int pa), .val (.int pb), .val (.ref t1), .val (.ref t2), .val (.int (pa.toInt16.toInt32)), .val (.int s2), .val (.ref b4), .val (.int (((sel.toUInt32 >>> ((3 : Int32) &&& 31).toUInt32).toInt32) &&& (3 : Int32))), .unset, .unset] [(.int (((sel.toUInt32 >>> ((3 : Int32) &&& 31).toUInt32).toInt32) &&& (3 : Int32)))]))
          refine OwnEnds.via (fun t k => XS.iconst X5.here hx rfl (hb hby at_94) k) ?_
          show OwnEnds _ _ _ _ (T5.setTop (mkF m 95 #[.val (.int sel), .val (.int pa), .val (.int pb), .val (.ref t1), .val (.ref t2), .val (.int (pa.toInt16.toInt32)), .val (.int s2), .val (.ref b4), .val (.int (((sel.toUInt32 >>> ((3 : Int32) &&& 31).toUInt32).toInt32) &&& (3 : Int32))), .unset, .unset] [(.int (3 : Int32)), (.int (((sel.toUInt32 >>> ((3 : Int32) &&& 31).toUInt32).toInt32) &&& (3 : Int32)))]))
          by_cases hc95_8 : (((sel.toUInt32 >>> ((3 : Int32) &&& 31).toUInt32).toInt32) &&& (3 : Int32)) = (3 : Int32)
          ·
            refine OwnEnds.via (fun t k => XS.icmpNo X5.here hx rfl (hb hby at_95) rfl (teq hc95_8).2 k) ?_
            show OwnEnds _ _ _ _ (T5.setTop (mkF m 98 #[.val (.int sel), .val (.int pa), .val (.int pb), .val (.ref t1), .val (.ref t2), .val (.int (pa.toInt16.toInt32)), .val (.int s2), .val (.ref b4), .val (.int (((sel.toUInt32 >>> ((3 : Int32) &&& 31).toUInt32).toInt32) &&& (3 : Int32))), .unset, .unset] []))
            refine OwnEnds.via (fun t k => XS.aload X5.here hx rfl (hb hby at_98) rfl rfl k) ?_
            show OwnEnds _ _ _ _ (T5.setTop (mkF m 100 #[.val (.int sel), .val (.int pa), .val (.int pb), .val (.ref t1), .val (.ref t2), .val (.int (pa.toInt16.toInt32)), .val (.int s2), .val (.ref b4), .val (.int (((sel.toUInt32 >>> ((3 : Int32) &&& 31).toUInt32).toInt32) &&& (3 : Int32))), .unset, .unset] [(.ref b4)]))
            refine OwnEnds.via (fun t k => XS.iloadN X5.here hx rfl (hb hby at_100) rfl k) ?_
            show OwnEnds _ _ _ _ (T5.setTop (mkF m 101 #[.val (.int sel), .val (.int pa), .val (.int pb), .val (.ref t1), .val (.ref t2), .val (.int (pa.toInt16.toInt32)), .val (.int s2), .val (.ref b4), .val (.int (((sel.toUInt32 >>> ((3 : Int32) &&& 31).toUInt32).toInt32) &&& (3 : Int32))), .unset, .unset] [(.int pa), (.ref b4)]))
            obtain ⟨_, _, ⟨T9, L9, k9, n9⟩, -, X9, ⟨Lc9, hQ9, l9, y9, z9⟩, st9⟩ := Jvm.LawKit.callS X5 hx (y := (⟨"java/lang/Integer", "valueOf", "(I)Ljava/lang/Integer;"⟩ : MethodName)) hown (mvT hZ (hw _ (List.mem_of_getElem? (i := 34) rfl))) (mvT hZ (hw _ (List.mem_of_getElem? (i := 35) rfl))) (mvT hZ (hw _ (List.mem_of_getElem? (i := 36) rfl))) (mvT hZ (hw _ (List.mem_of_getElem? (i := 37) rfl))) (by decide) (backOf (W := 1) (rm6 l Z a0 hw [] pa cc cb vb h5 n0 Z5 O5 P0 OP0 OP1) hZ (hw _ (List.mem_of_getElem? (i := 37) rfl)) (hw _ (List.mem_of_getElem? (i := 36) rfl)) (by decide) (by decide)) (g := (mkF m 101 #[.val (.int sel), .val (.int pa), .val (.int pb), .val (.ref t1), .val (.ref t2), .val (.int (pa.toInt16.toInt32)), .val (.int s2), .val (.ref b4), .val (.int (((sel.toUInt32 >>> ((3 : Int32) &&& 31).toUInt32).toInt32) &&& (3 : Int32))), .unset, .unset] [(.int pa), (.ref b4)])) rfl (by rw [hml]; rfl) (argsL := [(.int pa)]) (rest := [(.ref b4)]) (lenOf pd_6 rfl) rfl (by show 2 * 0 + _ ≤ _; exact Nat.le_of_eq rfl) (hb hby at_101) (fun _ _ => ⟨rfl, e5, (by decide : 1 + 1 ≤ _), (by decide : 2 + 1 ≤ _)⟩)
            dsimp only [Pt.U, Pt.locs, Pt.cells, Pt.slots] at X9 l9 y9 z9 st9 hQ9
            subst l9 y9 z9
            obtain ⟨h9, e9⟩ : ∃ z, T9.heap = z := ⟨_, rfl⟩
            rw [e9] at hQ9
            obtain ⟨b_9, rfl, Nq9, Kq9, q9_0⟩ := hQ9
            have Z9 : n0 ≤ h9.size := Nat.le_trans Z5 Kq9.1
            have O9 : Old Z n0 h9 := O5.keep Kq9 all0
            have N9 := Fr.app N5 Nq9
            refine OwnEnds.via st9 ?_
            show OwnEnds _ _ _ _ (T9.setTop (mkF m 104 #[.val (.int sel), .val (.int pa), .val (.int pb), .val (.ref t1), .val (.ref t2), .val (.int (pa.toInt16.toInt32)), .val (.int s2), .val (.ref b4), .val (.int (((sel.toUInt32 >>> ((3 : Int32) &&& 31).toUInt32).toInt32) &&& (3 : Int32))), .unset, .unset] [(.ref b_9), (.ref b4)]))
            obtain ⟨cq10, kq10, q10a, q10b, q10c⟩ := isOf hZ e9 (q5_0.keep Kq9)
            obtain ⟨_, _, ⟨T10, L10, k10, n10⟩, -, X10, ⟨Lc10, hQ10, l10, y10, z10⟩, st10⟩ := X9.virtualBack hx (y := (⟨"com/example/tagwire/tagwire/HalfFloat", "equals", "(Ljava/lang/Object;)Z"⟩ : MethodName)) (z := (⟨"com/example/tagwire/tagwire/HalfFloat", "equals", "(Ljava/lang/Object;)Z"⟩ : MethodName)) hown (mvT hZ (hw _ (List.mem_of_getElem? (i := 24) rfl))) (mvT hZ (hw _ (List.mem_of_getElem? (i := 25) rfl))) (notFace_of_selects (args := #[]) (mvT hZ (hw _ (List.mem_of_getElem? (i := 27) rfl)))) (mvT hZ (hw _ (List.mem_of_getElem? (i := 27) rfl))) (mvT hZ (hw _ (List.mem_of_getElem? (i := 26) rfl))) (by decide) (backOf (W := 0) (rmI l Z a0 hw [] b4 b_9 h9 n0 Z9 q9_0) hZ (hw _ (List.mem_of_getElem? (i := 28) rfl)) (hw _ (List.mem_of_getElem? (i := 5) rfl)) (by decide) (by decide)) q10a q10c (g := (mkF m 104 #[.val (.int sel), .val (.int pa), .val (.int pb), .val (.ref t1), .val (.ref t2), .val (.int (pa.toInt16.toInt32)), .val (.int s2), .val (.ref b4), .val (.int (((sel.toUInt32 >>> ((3 : Int32) &&& 31).toUInt32).toInt32) &&& (3 : Int32))), .unset, .unset] [(.ref b_9), (.ref b4)])) rfl (by rw [hml]; rfl) (Steps.refl _) (argsL := [(.ref b_9)]) (rest := []) (lenOf pd_5 rfl) rfl (by show 2 * 0 + _ ≤ _; exact Nat.le_of_eq rfl) (hb hby at_104) (fun _ _ => ⟨rfl, e9, (by decide : 2 + 0 ≤ _), (by decide : 3 + 0 ≤ _)⟩)
            dsimp only [Pt.U, Pt.locs, Pt.cells, Pt.slots] at X10 l10 y10 z10 st10 hQ10
            subst l10 y10 z10
            obtain ⟨rfl, Nq10, e10⟩ := hQ10
            have N10 := Fr.app N9 Nq10
            refine OwnEnds.via (fun t k => st10.trans k) ?_
            show OwnEnds _ _ _ _ (T10.setTop (mkF m 107 #[.val (.int sel), .val (.int pa), .val (.int pb), .val (.ref t1), .val (.ref t2), .val (.int (pa.toInt16.toInt32)), .val (.int s2), .val (.ref b4), .val (.int (((sel.toUInt32 >>> ((3 : Int32) &&& 31).toUInt32).toInt32) &&& (3 : Int32))), .unset, .unset] [(.int (0 : Int32))]))
            refine OwnEnds.via (fun t k => XS.ifNo X10.here hx rfl (hb hby at_107) rfl ((if0 _ _).trans (teq (by decide)).2) k) ?_
            show OwnEnds _ _ _ _ (T10.setTop (mkF m 110 #[.val (.int sel), .val (.int pa), .val (.int pb), .val (.ref t1), .val (.ref t2), .val (.int (pa.toInt16.toInt32)), .val (.int s2), .val (.ref b4), .val (.int (((sel.toUInt32 >>> ((3 : Int32) &&& 31).toUInt32).toInt32) &&& (3 : Int32))), .unset, .unset] []))
            refine OwnEnds.via (fun t k => XS.iconst X10.here hx rfl (hb hby at_110) k) ?_
            show OwnEnds _ _ _ _ (T10.setTop (mkF m 111 #[.val (.int sel), .val (.int pa), .val (.int pb), .val (.ref t1), .val (.ref t2), .val (.int (pa.toInt16.toInt32)), .val (.int s2), .val (.ref b4), .val (.int (((sel.toUInt32 >>> ((3 : Int32) &&& 31).toUInt32).toInt32) &&& (3 : Int32))), .unset, .unset] [(.int (1 : Int32))]))
            refine OwnEnds.via (fun t k => XS.goto X10.here hx rfl (pc0 := 111) (pc' := 115) rfl (hb hby at_111) (by decide) (by decide) k) ?_
            show OwnEnds _ _ _ _ (T10.setTop (mkF m 115 #[.val (.int sel), .val (.int pa), .val (.int pb), .val (.ref t1), .val (.ref t2), .val (.int (pa.toInt16.toInt32)), .val (.int s2), .val (.ref b4), .val (.int (((sel.toUInt32 >>> ((3 : Int32) &&& 31).toUInt32).toInt32) &&& (3 : Int32))), .unset, .unset] [(.int (1 : Int32))]))
            obtain ⟨fs, hr, hrun, hended, hW, hsame⟩ := X10.leave (v := some (.int (1 : Int32))) (fun h => by rw [Bd.returns] at h; cases h)
            refine ⟨_, _, ?_, hrun, hended, _, _, rfl, ?_, ⟨_, rfl⟩, hW, hsame.mono (by decide) (by decide)⟩
            · exact retN X10 hx (t := .boolean) Bd.returns (by simp) (hb hby at_115) hr
            · show Q0 Z sel pa pb cc cb vb nf nb h0 n0 _ T10.heap _
              rw [e10]
              exact ⟨rfl, N10⟩
          ·
            refine OwnEnds.via (fun t k => XS.icmpYes X5.here hx rfl (pc0 := 95) (pc' := 116) rfl (hb hby at_95) rfl (feq hc95_8).2 (by decide) (by decide) k) ?_
            show OwnEnds _ _ _ _ (T5.setTop (mkF m 116 #[.val (.int sel), .val (.int pa), .val (.int pb), .val (.ref t1), .val (.ref t2), .val (.int (pa.toInt16.toInt32)), .val (.int s2), .val (.ref b4), .val (.int (((sel.toUInt32 >>> ((3 : Int32) &&& 31).toUInt32).toInt32) &&& (3 : Int32))), .unset, .unset] []))
            obtain ⟨T11, h11, X11, e11, E11, A11, D11, -, st11⟩ := newO X5 hx hZ hown (hw _ (List.mem_of_getElem? (i := 3) rfl)) (hw _ (List.mem_of_getElem? (i := 4) rfl)) (hw _ (List.mem_of_getElem? (i := 5) rfl)) e5 (g := (mkF m 116 #[.val (.int sel), .val (.int pa), .val (.int pb), .val (.ref t1), .val (.ref t2), .val (.int (pa.toInt16.toInt32)), .val (.int s2), .val (.ref b4), .val (.int (((sel.toUInt32 >>> ((3 : Int32) &&& 31).toUInt32).toInt32) &&& (3 : Int32))), .unset, .unset] [])) rfl (hb hby at_116) (by decide) (by decide)
            obtain ⟨b11, g11⟩ : ∃ z, z = h5.size := ⟨_, rfl⟩
            have ne_b4_b11 : b4 ≠ b11 := Nat.ne_of_lt (Nat.lt_of_lt_of_le q5_0.lt (Nat.le_of_eq g11.symm))
            have ge_b11 : n0 ≤ b11 := Nat.le_trans Z5 (Nat.le_of_eq g11.symm)
            have Z11 : n0 ≤ h11.size := Nat.le_trans Z5 E11.1
            have O11 : Old Z n0 h11 := O5.ext E11
            rw [← g11] at A11 D11 st11
            have F11_type : Fld Z h11 b11 "com/example/tagwire/tagwire/HalfFloat" "type" "Lcom/example/tagwire/tagwire/NumberType;" .null := D11 (Or.inr (hw _ (List.mem_of_getElem? (i := 21) rfl))) (ty := (.object "com/example/tagwire/tagwire/NumberType")) (by decide)
            have F11_bits : Fld Z h11 b11 "com/example/tagwire/tagwire/HalfFloat" "bits" "S" (.int (0 : Int32)) := D11 (Or.inr (hw _ (List.mem_of_getElem? (i := 23) rfl))) (ty := .short) (by decide)
            refine OwnEnds.via st11 ?_
            show OwnEnds _ _ _ _ (T11.setTop (mkF m 119 #[.val (.int sel), .val (.int pa), .val (.int pb), .val (.ref t1), .val (.ref t2), .val (.int (pa.toInt16.toInt32)), .val (.int s2), .val (.ref b4), .val (.int (((sel.toUInt32 >>> ((3 : Int32) &&& 31).toUInt32).toInt32) &&& (3 : Int32))), .unset, .unset] [(.ref b11)]))
            refine OwnEnds.via (fun t k => XS.dup X11.here hx rfl (hb hby at_119) rfl rfl k) ?_
            show OwnEnds _ _ _ _ (T11.setTop (mkF m 120 #[.val (.int sel), .val (.int pa), .val (.int pb), .val (.ref t1), .val (.ref t2), .val (.int (pa.toInt16.toInt32)), .val (.int s2), .val (.ref b4), .val (.int (((sel.toUInt32 >>> ((3 : Int32) &&& 31).toUInt32).toInt32) &&& (3 : Int32))), .unset, .unset] [(.ref b11), (.ref b11)]))
            refine OwnEnds.via (fun t k => XS.aload X11.here hx rfl (hb hby at_120) rfl rfl k) ?_
            show OwnEnds _ _ _ _ (T11.setTop (mkF m 122 #[.val (.int sel), .val (.int pa), .val (.int pb), .val (.ref t1), .val (.ref t2), .val (.int (pa.toInt16.toInt32)), .val (.int s2), .val (.ref b4), .val (.int (((sel.toUInt32 >>> ((3 : Int32) &&& 31).toUInt32).toInt32) &&& (3 : Int32))), .unset, .unset] [(.ref t2), (.ref b11), (.ref b11)]))
            refine OwnEnds.via (fun t k => XS.iload X11.here hx rfl (hb hby at_122) rfl k) ?_
            show OwnEnds _ _ _ _ (T11.setTop (mkF m 124 #[.val (.int sel), .val (.int pa), .val (.int pb), .val (.ref t1), .val (.ref t2), .val (.int (pa.toInt16.toInt32)), .val (.int s2), .val (.ref b4), .val (.int (((sel.toUInt32 >>> ((3 : Int32) &&& 31).toUInt32).toInt32) &&& (3 : Int32))), .unset, .unset] [(.int s2), (.ref t2), (.ref b11), (.ref b11)]))
            obtain ⟨_, _, ⟨T12, L12, k12, n12⟩, -, X12, ⟨Lc12, hQ12, l12, y12, z12⟩, st12⟩ := X11.specialBack hx (y := (⟨"com/example/tagwire/tagwire/HalfFloat", "<init>", "(Lcom/example/tagwire/tagwire/NumberType;S)V"⟩ : MethodName)) rfl hown (mvT hZ (hw _ (List.mem_of_getElem? (i := 6) rfl))) (mvT hZ (hw _ (List.mem_of_getElem? (i := 7) rfl))) (mvT hZ (hw _ (List.mem_of_getElem? (i := 8) rfl))) (by decide) (backOf (W := 1) (rm1 l Z a0 hw [] b11 t2 s2 nf nb h11 n0 Z11 O11 hj2_0 A11 F11_type F11_bits ge_b11 OP2 OP3) hZ (hw _ (List.mem_of_getElem? (i := 8) rfl)) (hw _ (List.mem_of_getElem? (i := 5) rfl)) (by decide) (by decide)) (g := (mkF m 124 #[.val (.int sel), .val (.int pa), .val (.int pb), .val (.ref t1), .val (.ref t2), .val (.int (pa.toInt16.toInt32)), .val (.int s2), .val (.ref b4), .val (.int (((sel.toUInt32 >>> ((3 : Int32) &&& 31).toUInt32).toInt32) &&& (3 : Int32))), .unset, .unset] [(.int s2), (.ref t2), (.ref b11), (.ref b11)])) rfl (by rw [hml]; rfl) (Steps.refl _) (a := b11) (argsL := [(.ref t2), (.int s2)]) (rest := [(.ref b11)]) (lenOf pd_4 rfl) rfl (by show 2 * 0 + _ ≤ _; exact Nat.le_of_eq rfl) (hb hby at_124) (fun _ _ => ⟨rfl, e11, (by decide : 2 + 0 ≤ _), (by decide : 4 + 0 ≤ _)⟩)
            dsimp only [Pt.U, Pt.locs, Pt.cells, Pt.slots] at X12 l12 y12 z12 st12 hQ12
            subst l12 y12 z12
            obtain ⟨h12, e12⟩ : ∃ z, T12.heap = z := ⟨_, rfl⟩
            rw [e12] at hQ12
            obtain ⟨rfl, Nq12, Kq12, q12_0, q12_1, q12_2⟩ := hQ12
            have Z12 : n0 ≤ h12.size := Nat.le_trans Z11 Kq12.1
            have O12 : Old Z n0 h12 := O11.keep Kq12 (allS ge_b11 all0)
            have N12 := Fr.app N5 Nq12
            refine OwnEnds.via (fun t k => st12.trans k) ?_
            show OwnEnds _ _ _ _ (T12.setTop (mkF m 127 #[.val (.int sel), .val (.int pa), .val (.int pb), .val (.ref t1), .val (.ref t2), .val (.int (pa.toInt16.toInt32)), .val (.int s2), .val (.ref b4), .val (.int (((sel.toUInt32 >>> ((3 : Int32) &&& 31).toUInt32).toInt32) &&& (3 : Int32))), .unset, .unset] [(.ref b11)]))
            refine OwnEnds.via (fun t k => XS.astore X12.here hx rfl (hb hby at_127) rfl rfl (l' := #[.val (.int sel), .val (.int pa), .val (.int pb), .val (.ref t1), .val (.ref t2), .val (.int (pa.toInt16.toInt32)), .val (.int s2), .val (.ref b4), .val (.int (((sel.toUInt32 >>> ((3 : Int32) &&& 31).toUInt32).toInt32) &&& (3 : Int32))), .val (.ref b11), .unset]) rfl k) ?_
            show OwnEnds _ _ _ _ (T12.setTop (mkF m 129 #[.val (.int sel), .val (.int pa), .val (.int pb), .val (.ref t1), .val (.ref t2), .val (.int (pa.toInt16.toInt32)), .val (.int s2), .val (.ref b4), .val (.int (((sel.toUInt32 >>> ((3 : Int32) &&& 31).toUInt32).toInt32) &&& (3 : Int32))), .val (.ref b11), .unset] []))
            refine OwnEnds.via (fun t k => XS.aloadN X12.here hx rfl (hb hby at_129) rfl rfl k) ?_
            show OwnEnds _ _ _ _ (T12.setTop (mkF m 130 #[.val (.int sel), .val (.int pa), .val (.int pb), .val (.ref t1), .val (.ref t2), .val (.int (pa.toInt16.toInt32)), .val (.int s2), .val (.ref b4), .val (.int (((sel.toUInt32 >>> ((3 : Int32) &&& 31).toUInt32).toInt32) &&& (3 : Int32))), .val (.ref b11), .unset] [(.ref t1)]))
            refine OwnEnds.via (fun t k => XS.aload X12.here hx rfl (hb hby at_130) rfl rfl k) ?_
            show OwnEnds _ _ _ _ (T12.setTop (mkF m 132 #[.val (.int sel), .val (.int pa), .val (.int pb), .val (.ref t1), .val (.ref t2), .val (.int (pa.toInt16.toInt32)), .val (.int s2), .val (.ref b4), .val (.int (((sel.toUInt32 >>> ((3 : Int32) &&& 31).toUInt32).toInt32) &&& (3 : Int32))), .val (.ref b11), .unset] [(.ref t2), (.ref t1)]))
            refine OwnEnds.cut (fun G => ∀ (T13 : State) (lc13 : List Loc) (X13 : Stand p l e room_1 s m #[(.int sel), (.int pa), (.int pb)] below meth c T13 lc13 2 4) (e13 : T13.heap = h12) (N13 : Fr n0 lc13) (ex : Int32) (hj13_0 : ex = if t1 = t2 ∧ (pa.toInt16.toInt32) = s2 then (1 : Int32) else (0 : Int32)), G (T13.setTop (mkF m 147 #[.val (.int sel), .val (.int pa), .val (.int pb), .val (.ref t1), .val (.ref t2), .val (.int (pa.toInt16.toInt32)), .val (.int s2), .val (.ref b4), .val (.int (((sel.toUInt32 >>> ((3 : Int32) &&& 31).toUInt32).toInt32) &&& (3 : Int32))), .val (.ref b11), .unset] [(.int ex)]))) ?_ ?_
            · intro T13 lc13 X13 e13 N13 ex hj13_0
              show OwnEnds _ _ _ _ (T13.setTop (mkF m 147 #[.val (.int sel), .val (.int pa), .val (.int pb), .val (.ref t1), .val (.ref t2), .val (.int (pa.toInt16.toInt32)), .val (.int s2), .val (.ref b4), .val (.int (((sel.toUInt32 >>> ((3 : Int32) &&& 31).toUInt32).toInt32) &&& (3 : Int32))), .val (.ref b11), .unset] [(.int ex)]))
              refine OwnEnds.via (fun t k => XS.istore X13.here hx rfl (hb hby at_147) rfl (l' := #[.val (.int sel), .val (.int pa), .val (.int pb), .val (.ref t1), .val (.ref t2), .val (.int (pa.toInt16.toInt32)), .val (.int s2), .val (.ref b4), .val (.int (((sel.toUInt32 >>> ((3 : Int32) &&& 31).toUInt32).toInt32) &&& (3 : Int32))), .val (.ref b11), .val (.int ex)]) rfl k) ?_
              show OwnEnds _ _ _ _ (T13.setTop (mkF m 149 #[.val (.int sel), .val (.int pa), .val (.int pb), .val (.ref t1), .val (.ref t2), .val (.int (pa.toInt16.toInt32)), .val (.int s2), .val (.ref b4), .val (.int (((sel.toUInt32 >>> ((3 : Int32) &&& 31).toUInt32).toInt32) &&& (3 : Int32))), .val (.ref b11), .val (.int ex)] []))
              refine OwnEnds.via (fun t k => XS.aload X13.here hx rfl (hb hby at_149) rfl rfl k) ?_
              show OwnEnds _ _ _ _ (T13.setTop (mkF m 151 #[.val (.int sel), .val (.int pa), .val (.int pb), .val (.ref t1), .val (.ref t2), .val (.int (pa.toInt16.toInt32)), .val (.int s2), .val (.ref b4), .val (.int (((sel.toUInt32 >>> ((3 : Int32) &&& 31).toUInt32).toInt32) &&& (3 : Int32))), .val (.ref b11), .val (.int ex)] [(.ref b4)]))
              refine OwnEnds.via (fun t k => XS.aload X13.here hx rfl (hb hby at_151) rfl rfl k) ?_
              show OwnEnds _ _ _ _ (T13.setTop (mkF m 153 #[.val (.int sel), .val (.int pa), .val (.int pb), .val (.ref t1), .val (.ref t2), .val (.int (pa.toInt16.toInt32)), .val (.int s2), .val (.ref b4), .val (.int (((sel.toUInt32 >>> ((3 : Int32) &&& 31).toUInt32).toInt32) &&& (3 : Int32))), .val (.ref b11), .val (.int ex)] [(.ref b11), (.ref b4)]))
              obtain ⟨cq14, kq14, q14a, q14b, q14c⟩ := isOf hZ e13 ((q5_0.ext E11).keep Kq12)
              obtain ⟨_, _, ⟨T14, L14, k14, n14⟩, -, X14, ⟨Lc14, hQ14, l14, y14, z14⟩, st14⟩ := X13.virtualBack hx (y := (⟨"com/example/tagwire/tagwire/HalfFloat", "equals", "(Ljava/lang/Object;)Z"⟩ : MethodName)) (z := (⟨"com/example/tagwire/tagwire/HalfFloat", "equals", "(Ljava/lang/Object;)Z"⟩ : MethodName)) hown (mvT hZ (hw _ (List.mem_of_getElem? (i := 24) rfl))) (mvT hZ (hw _ (List.mem_of_getElem? (i := 25) rfl))) (notFace_of_selects (args := #[]) (mvT hZ (hw _ (List.mem_of_getElem? (i := 27) rfl)))) (mvT hZ (hw _ (List.mem_of_getElem? (i := 27) rfl))) (mvT hZ (hw _ (List.mem_of_getElem? (i := 26) rfl))) (by decide) (backOf (W := 0) (rmF l Z a0 hw [] b4 b11 t1 t2 (nar .short (pa.toInt16.toInt32)) (nar .short s2) h12 n0 Z12 q12_0 ((q5_1.ext E11).keep Kq12 (ninS ne_b4_b11 nin0)) ((q5_2.ext E11).keep Kq12 (ninS ne_b4_b11 nin0)) q12_1 q12_2) hZ (hw _ (List.mem_of_getElem? (i := 28) rfl)) (hw _ (List.mem_of_getElem? (i := 5) rfl)) (by decide) (by decide)) q14a q14c (g := (mkF m 153 #[.val (.int sel), .val (.int pa), .val (.int pb), .val (.ref t1), .val (.ref t2), .val (.int (pa.toInt16.toInt32)), .val (.int s2), .val (.ref b4), .val (.int (((sel.toUInt32 >>> ((3 : Int32) &&& 31).toUInt32).toInt32) &&& (3 : Int32))), .val (.ref b11), .val (.int ex)] [(.ref b11), (.ref b4)])) rfl (by rw [hml]; rfl) (Steps.refl _) (argsL := [(.ref b11)]) (rest := []) (lenOf pd_5 rfl) rfl (by show 2 * 0 + _ ≤ _; exact Nat.le_of_eq rfl) (hb hby at_153) (fun _ _ => ⟨rfl, e13, (by decide : 2 + 0 ≤ _), (by decide : 4 + 0 ≤ _)⟩)
              dsimp only [Pt.U, Pt.locs, Pt.cells, Pt.slots] at X14 l14 y14 z14 st14 hQ14
              subst l14 y14 z14
              obtain ⟨rfl, Nq14, e14⟩ := hQ14
              have N14 := Fr.app N13 Nq14
              refine OwnEnds.via (fun t k => st14.trans k) ?_
              show OwnEnds _ _ _ _ (T14.setTop (mkF m 156 #[.val (.int sel), .val (.int pa), .val (.int pb), .val (.ref t1), .val (.ref t2), .val (.int (pa.toInt16.toInt32)), .val (.int s2), .val (.ref b4), .val (.int (((sel.toUInt32 >>> ((3 : Int32) &&& 31).toUInt32).toInt32) &&& (3 : Int32))), .val (.ref b11), .val (.int ex)] [(.int (if t2 = t1 ∧ (nar .short s2) = (nar .short (pa.toInt16.toInt32)) then (1 : Int32) else (0 : Int32)))]))
              refine OwnEnds.via (fun t k => XS.iload X14.here hx rfl (hb hby at_156) rfl k) ?_
              show OwnEnds _ _ _ _ (T14.setTop (mkF m 158 #[.val (.int sel), .val (.int pa), .val (.int pb), .val (.ref t1), .val (.ref t2), .val (.int (pa.toInt16.toInt32)), .val (.int s2), .val (.ref b4), .val (.int (((sel.toUInt32 >>> ((3 : Int32) &&& 31).toUInt32).toInt32) &&& (3 : Int32))), .val (.ref b11), .val (.int ex)] [(.int ex), (.int (if t2 = t1 ∧ (nar .short s2) = (nar .short (pa.toInt16.toInt32)) then (1 : Int32) else (0 : Int32)))]))
              refine OwnEnds.via (fun t k => XS.icmpNo X14.here hx rfl (hb hby at_158) rfl (teq (own_eq (own_nar _) hj3_0 hj13_0)).2 k) ?_
              show OwnEnds _ _ _ _ (T14.setTop (mkF m 161 #[.val (.int sel), .val (.int pa), .val (.int pb), .val (.ref t1), .val (.ref t2), .val (.int (pa.toInt16.toInt32)), .val (.int s2), .val (.ref b4), .val (.int (((sel.toUInt32 >>> ((3 : Int32) &&& 31).toUInt32).toInt32) &&& (3 : Int32))), .val (.ref b11), .val (.int ex)] []))
              refine OwnEnds.via (fun t k => XS.aload X14.here hx rfl (hb hby at_161) rfl rfl k) ?_
              show OwnEnds _ _ _ _ (T14.setTop (mkF m 163 #[.val (.int sel), .val (.int pa), .val (.int pb), .val (.ref t1), .val (.ref t2), .val (.int (pa.toInt16.toInt32)), .val (.int s2), .val (.ref b4), .val (.int (((sel.toUInt32 >>> ((3 : Int32) &&& 31).toUInt32).toInt32) &&& (3 : Int32))), .val (.ref b11), .val (.int ex)] [(.ref b11)]))
              refine OwnEnds.via (fun t k => XS.aload X14.here hx rfl (hb hby at_163) rfl rfl k) ?_
              show OwnEnds _ _ _ _ (T14.setTop (mkF m 165 #[.val (.int sel), .val (.int pa), .val (.int pb), .val (.ref t1), .val (.ref t2), .val (.int (pa.toInt16.toInt32)), .val (.int s2), .val (.ref b4), .val (.int (((sel.toUInt32 >>> ((3 : Int32) &&& 31).toUInt32).toInt32) &&& (3 : Int32))), .val (.ref b11), .val (.int ex)] [(.ref b4), (.ref b11)]))
              obtain ⟨cq15, kq15, q15a, q15b, q15c⟩ := isOf hZ e14 q12_0
              obtain ⟨_, _, ⟨T15, L15, k15, n15⟩, -, X15, ⟨Lc15, hQ15, l15, y15, z15⟩, st15⟩ := X14.virtualBack hx (y := (⟨"com/example/tagwire/tagwire/HalfFloat", "equals", "(Ljava/lang/Object;)Z"⟩ : MethodName)) (z := (⟨"com/example/tagwire/tagwire/HalfFloat", "equals", "(Ljava/lang/Object;)Z"⟩ : MethodName)) hown (mvT hZ (hw _ (List.mem_of_getElem? (i := 24) rfl))) (mvT hZ (hw _ (List.mem_of_getElem? (i := 25) rfl))) (notFace_of_selects (args := #[]) (mvT hZ (hw _ (List.mem_of_getElem? (i := 27) rfl)))) (mvT hZ (hw _ (List.mem_of_getElem? (i := 27) rfl))) (mvT hZ (hw _ (List.mem_of_getElem? (i := 26) rfl))) (by decide) (backOf (W := 0) (rmF l Z a0 hw [] b11 b4 t2 t1 (nar .short s2) (nar .short (pa.toInt16.toInt32)) h12 n0 Z12 ((q5_0.ext E11).keep Kq12) q12_1 q12_2 ((q5_1.ext E11).keep Kq12 (ninS ne_b4_b11 nin0)) ((q5_2.ext E11).keep Kq12 (ninS ne_b4_b11 nin0))) hZ (hw _ (List.mem_of_getElem? (i := 28) rfl)) (hw _ (List.mem_of_getElem? (i := 5) rfl)) (by decide) (by decide)) q15a q15c (g := (mkF m 165 #[.val (.int sel), .val (.int pa), .val (.int pb), .val (.ref t1), .val (.ref t2), .val (.int (pa.toInt16.toInt32)), .val (.int s2), .val (.ref b4), .val (.int (((sel.toUInt32 >>> ((3 : Int32) &&& 31).toUInt32).toInt32) &&& (3 : Int32))), .val (.ref b11), .val (.int ex)] [(.ref b4), (.ref b11)])) rfl (by rw [hml]; rfl) (Steps.refl _) (argsL := [(.ref b4)]) (rest := []) (lenOf pd_5 rfl) rfl (by show 2 * 0 + _ ≤ _; exact Nat.le_of_eq rfl) (hb hby at_165) (fun _ _ => ⟨rfl, e14, (by decide : 2 + 0 ≤ _), (by decide : 4 + 0 ≤ _)⟩)
              dsimp only [Pt.U, Pt.locs, Pt.cells, Pt.slots] at X15 l15 y15 z15 st15 hQ15
              subst l15 y15 z15
              obtain ⟨rfl, Nq15, e15⟩ := hQ15
              have N15 := Fr.app N14 Nq15
              refine OwnEnds.via (fun t k => st15.trans k) ?_
              show OwnEnds _ _ _ _ (T15.setTop (mkF m 168 #[.val (.int sel), .val (.int pa), .val (.int pb), .val (.ref t1), .val (.ref t2), .val (.int (pa.toInt16.toInt32)), .val (.int s2), .val (.ref b4), .val (.int (((sel.toUInt32 >>> ((3 : Int32) &&& 31).toUInt32).toInt32) &&& (3 : Int32))), .val (.ref b11), .val (.int ex)] [(.int (if t1 = t2 ∧ (nar .short (pa.toInt16.toInt32)) = (nar .short s2) then (1 : Int32) else (0 : Int32)))]))
              refine OwnEnds.via (fun t k => XS.iload X15.here hx rfl (hb hby at_168) rfl k) ?_
              show OwnEnds _ _ _ _ (T15.setTop (mkF m 170 #[.val (.int sel), .val (.int pa), .val (.int pb), .val (.ref t1), .val (.ref t2), .val (.int (pa.toInt16.toInt32)), .val (.int s2), .val (.ref b4), .val (.int (((sel.toUInt32 >>> ((3 : Int32) &&& 31).toUInt32).toInt32) &&& (3 : Int32))), .val (.ref b11), .val (.int ex)] [(.int ex), (.int (if t1 = t2 ∧ (nar .short (pa.toInt16.toInt32)) = (nar .short s2) then (1 : Int32) else (0 : Int32)))]))
              refine OwnEnds.via (fun t k => XS.icmpNo X15.here hx rfl (hb hby at_170) rfl (teq (own_eq' (own_nar _) hj3_0 hj13_0)).2 k) ?_
              show OwnEnds _ _ _ _ (T15.setTop (mkF m 173 #[.val (.int sel), .val (.int pa), .val (.int pb), .val (.ref t1), .val (.ref t2), .val (.int (pa.toInt16.toInt32)), .val (.int s2), .val (.ref b4), .val (.int (((sel.toUInt32 >>> ((3 : Int32) &&& 31).toUInt32).toInt32) &&& (3 : Int32))), .val (.ref b11), .val (.int ex)] []))
              refine OwnEnds.via (fun t k => XS.aload X15.here hx rfl (hb hby at_173) rfl rfl k) ?_
              show OwnEnds _ _ _ _ (T15.setTop (mkF m 175 #[.val (.int sel), .val (.int pa), .val (.int pb), .val (.ref t1), .val (.ref t2), .val (.int (pa.toInt16.toInt32)), .val (.int s2), .val (.ref b4), .val (.int (((sel.toUInt32 >>> ((3 : Int32) &&& 31).toUInt32).toInt32) &&& (3 : Int32))), .val (.ref b11), .val (.int ex)] [(.ref b4)]))
              refine OwnEnds.via (fun t k => XS.aload X15.here hx rfl (hb hby at_175) rfl rfl k) ?_
              show OwnEnds _ _ _ _ (T15.setTop (mkF m 177 #[.val (.int sel), .val (.int pa), .val (.int pb), .val (.ref t1), .val (.ref t2), .val (.int (pa.toInt16.toInt32)), .val (.int s2), .val (.ref b4), .val (.int (((sel.toUInt32 >>> ((3 : Int32) &&& 31).toUInt32).toInt32) &&& (3 : Int32))), .val (.ref b11), .val (.int ex)] [(.ref b4), (.ref b4)]))
              obtain ⟨cq16, kq16, q16a, q16b, q16c⟩ := isOf hZ e15 ((q5_0.ext E11).keep Kq12)
              obtain ⟨_, _, ⟨T16, L16, k16, n16⟩, -, X16, ⟨Lc16, hQ16, l16, y16, z16⟩, st16⟩ := X15.virtualBack hx (y := (⟨"com/example/tagwire/tagwire/HalfFloat", "equals", "(Ljava/lang/Object;)Z"⟩ : MethodName)) (z := (⟨"com/example/tagwire/tagwire/HalfFloat", "equals", "(Ljava/lang/Object;)Z"⟩ : MethodName)) hown (mvT hZ (hw _ (List.mem_of_getElem? (i := 24) rfl))) (mvT hZ (hw _ (List.mem_of_getElem? (i := 25) rfl))) (notFace_of_selects (args := #[]) (mvT hZ (hw _ (List.mem_of_getElem? (i := 27) rfl)))) (mvT hZ (hw _ (List.mem_of_getElem? (i := 27) rfl))) (mvT hZ (hw _ (List.mem_of_getElem? (i := 26) rfl))) (by decide) (backOf (W := 0) (rmF l Z a0 hw [] b4 b4 t1 t1 (nar .short (pa.toInt16.toInt32)) (nar .short (pa.toInt16.toInt32)) h12 n0 Z12 ((q5_0.ext E11).keep Kq12) ((q5_1.ext E11).keep Kq12 (ninS ne_b4_b11 nin0)) ((q5_2.ext E11).keep Kq12 (ninS ne_b4_b11 nin0)) ((q5_1.ext E11).keep Kq12 (ninS ne_b4_b11 nin0)) ((q5_2.ext E11).keep Kq12 (ninS ne_b4_b11 nin0))) hZ (hw _ (List.mem_of_getElem? (i := 28) rfl)) (hw _ (List.mem_of_getElem? (i := 5) rfl)) (by decide) (by decide)) q16a q16c (g := (mkF m 177 #[.val (.int sel), .val (.int pa), .val (.int pb), .val (.ref t1), .val (.ref t2), .val (.int (pa.toInt16.toInt32)), .val (.int s2), .val (.ref b4), .val (.int (((sel.toUInt32 >>> ((3 : Int32) &&& 31).toUInt32).toInt32) &&& (3 : Int32))), .val (.ref b11), .val (.int ex)] [(.ref b4), (.ref b4)])) rfl (by rw [hml]; rfl) (Steps.refl _) (argsL := [(.ref b4)]) (rest := []) (lenOf pd_5 rfl) rfl (by show 2 * 0 + _ ≤ _; exact Nat.le_of_eq rfl) (hb hby at_177) (fun _ _ => ⟨rfl, e15, (by decide : 2 + 0 ≤ _), (by decide : 4 + 0 ≤ _)⟩)
              dsimp only [Pt.U, Pt.locs, Pt.cells, Pt.slots] at X16 l16 y16 z16 st16 hQ16
              subst l16 y16 z16
              obtain ⟨rfl, Nq16, e16⟩ := hQ16
              have N16 := Fr.app N15 Nq16
              refine OwnEnds.via (fun t k => st16.trans k) ?_
              show OwnEnds _ _ _ _ (T16.setTop (mkF m 180 #[.val (.int sel), .val (.int pa), .val (.int pb), .val (.ref t1), .val (.ref t2), .val (.int (pa.toInt16.toInt32)), .val (.int s2), .val (.ref b4), .val (.int (((sel.toUInt32 >>> ((3 : Int32) &&& 31).toUInt32).toInt32) &&& (3 : Int32))), .val (.ref b11), .val (.int ex)] [(.int (if t1 = t1 ∧ (nar .short (pa.toInt16.toInt32)) = (nar .short (pa.toInt16.toInt32)) then (1 : Int32) else (0 : Int32)))]))
              refine OwnEnds.via (fun t k => XS.ifNo X16.here hx rfl (hb hby at_180) rfl ((if0 _ _).trans (feq (own_self _ _)).1) k) ?_
              show OwnEnds _ _ _ _ (T16.setTop (mkF m 183 #[.val (.int sel), .val (.int pa), .val (.int pb), .val (.ref t1), .val (.ref t2), .val (.int (pa.toInt16.toInt32)), .val (.int s2), .val (.ref b4), .val (.int (((sel.toUInt32 >>> ((3 : Int32) &&& 31).toUInt32).toInt32) &&& (3 : Int32))), .val (.ref b11), .val (.int ex)] []))
              refine OwnEnds.via (fun t k => XS.iconst X16.here hx rfl (hb hby at_183) k) ?_
              show OwnEnds _ _ _ _ (T16.setTop (mkF m 184 #[.val (.int sel), .val (.int pa), .val (.int pb), .val (.ref t1), .val (.ref t2), .val (.int (pa.toInt16.toInt32)), .val (.int s2), .val (.ref b4), .val (.int (((sel.toUInt32 >>> ((3 : Int32) &&& 31).toUInt32).toInt32) &&& (3 : Int32))), .val (.ref b11), .val (.int ex)] [(.int (1 : Int32))]))
              refine OwnEnds.via (fun t k => XS.goto X16.here hx rfl (pc0 := 184) (pc' := 188) rfl (hb hby at_184) (by decide) (by decide) k) ?_
              show OwnEnds _ _ _ _ (T16.setTop (mkF m 188 #[.val (.int sel), .val (.int pa), .val (.int pb), .val (.ref t1), .val (.ref t2), .val (.int (pa.toInt16.toInt32)), .val (.int s2), .val (.ref b4), .val (.int (((sel.toUInt32 >>> ((3 : Int32) &&& 31).toUInt32).toInt32) &&& (3 : Int32))), .val (.ref b11), .val (.int ex)] [(.int (1 : Int32))]))
              obtain ⟨fs, hr, hrun, hended, hW, hsame⟩ := X16.leave (v := some (.int (1 : Int32))) (fun h => by rw [Bd.returns] at h; cases h)
              refine ⟨_, _, ?_, hrun, hended, _, _, rfl, ?_, ⟨_, rfl⟩, hW, hsame.mono (by decide) (by decide)⟩
              · exact retN X16 hx (t := .boolean) Bd.returns (by simp) (hb hby at_188) hr
              · show Q0 Z sel pa pb cc cb vb nf nb h0 n0 _ T16.heap _
                rw [e16]
                exact ⟨rfl, N16⟩
            intro J13
            by_cases ha132_17 : t1 = t2
            ·
              refine OwnEnds.via (fun t k => Jvm.RoadKit.acmp (g := (mkF m 132 #[.val (.int sel), .val (.int pa), .val (.int pb), .val (.ref t1), .val (.ref t2), .val (.int (pa.toInt16.toInt32)), .val (.int s2), .val (.ref b4), .val (.int (((sel.toUInt32 >>> ((3 : Int32) &&& 31).toUInt32).toInt32) &&& (3 : Int32))), .val (.ref b11), .unset] [(.ref t2), (.ref t1)])) X12 hx rfl rfl rfl (pc0 := 132) (pc' := 135) (same := true) rfl (hb hby at_132) rfl (decide_eq_true (congrArg Value.ref ha132_17)) (by decide) (by decide) k) ?_
              show OwnEnds _ _ _ _ (T12.setTop (mkF m 135 #[.val (.int sel), .val (.int pa), .val (.int pb), .val (.ref t1), .val (.ref t2), .val (.int (pa.toInt16.toInt32)), .val (.int s2), .val (.ref b4), .val (.int (((sel.toUInt32 >>> ((3 : Int32) &&& 31).toUInt32).toInt32) &&& (3 : Int32))), .val (.ref b11), .unset] []))
              refine OwnEnds.via (fun t k => XS.iload X12.here hx rfl (hb hby at_135) rfl k) ?_
              show OwnEnds _ _ _ _ (T12.setTop (mkF m 137 #[.val (.int sel), .val (.int pa), .val (.int pb), .val (.ref t1), .val (.ref t2), .val (.int (pa.toInt16.toInt32)), .val (.int s2), .val (.ref b4), .val (.int (((sel.toUInt32 >>> ((3 : Int32) &&& 31).toUInt32).toInt32) &&& (3 : Int32))), .val (.ref b11), .unset] [(.int (pa.toInt16.toInt32))]))
              refine OwnEnds.via (fun t k => XS.iload X12.here hx rfl (hb hby at_137) rfl k) ?_
              show OwnEnds _ _ _ _ (T12.setTop (mkF m 139 #[.val (.int sel), .val (.int pa), .val (.int pb), .val (.ref t1), .val (.ref t2), .val (.int (pa.toInt16.toInt32)), .val (.int s2), .val (.ref b4), .val (.int (((sel.toUInt32 >>> ((3 : Int32) &&& 31).toUInt32).toInt32) &&& (3 : Int32))), .val (.ref b11), .unset] [(.int s2), (.int (pa.toInt16.toInt32))]))
              by_cases hc139_18 : (pa.toInt16.toInt32) = s2
              ·
                refine OwnEnds.via (fun t k => XS.icmpNo X12.here hx rfl (hb hby at_139) rfl (teq hc139_18).2 k) ?_
                show OwnEnds _ _ _ _ (T12.setTop (mkF m 142 #[.val (.int sel), .val (.int pa), .val (.int pb), .val (.ref t1), .val (.ref t2), .val (.int (pa.toInt16.toInt32)), .val (.int s2), .val (.ref b4), .val (.int (((sel.toUInt32 >>> ((3 : Int32) &&& 31).toUInt32).toInt32) &&& (3 : Int32))), .val (.ref b11), .unset] []))
                refine OwnEnds.via (fun t k => XS.iconst X12.here hx rfl (hb hby at_142) k) ?_
                show OwnEnds _ _ _ _ (T12.setTop (mkF m 143 #[.val (.int sel), .val (.int pa), .val (.int pb), .val (.ref t1), .val (.ref t2), .val (.int (pa.toInt16.toInt32)), .val (.int s2), .val (.ref b4), .val (.int (((sel.toUInt32 >>> ((3 : Int32) &&& 31).toUInt32).toInt32) &&& (3 : Int32))), .val (.ref b11), .unset] [(.int (1 : Int32))]))
                refine OwnEnds.via (fun t k => XS.goto X12.here hx rfl (pc0 := 143) (pc' := 147) rfl (hb hby at_143) (by decide) (by decide) k) ?_
                exact J13 _ _ X12 e12 N12 (1 : Int32) (by rw [if_pos ⟨ha132_17, hc139_18⟩])
              ·
                refine OwnEnds.via (fun t k => XS.icmpYes X12.here hx rfl (pc0 := 139) (pc' := 146) rfl (hb hby at_139) rfl (feq hc139_18).2 (by decide) (by decide) k) ?_
                show OwnEnds _ _ _ _ (T12.setTop (mkF m 146 #[.val (.int sel), .val (.int pa), .val (.int pb), .val (.ref t1), .val (.ref t2), .val (.int (pa.toInt16.toInt32)), .val (.int s2), .val (.ref b4), .val (.int (((sel.toUInt32 >>> ((3 : Int32) &&& 31).toUInt32).toInt32) &&& (3 : Int32))), .val (.ref b11), .unset] []))
                refine OwnEnds.via (fun t k => XS.iconst X12.here hx rfl (hb hby at_146) k) ?_
                exact J13 _ _ X12 e12 N12 (0 : Int32) (by rw [if_neg fun z => hc139_18 z.2])
            ·
              refine OwnEnds.via (fun t k => Jvm.RoadKit.acmp (g := (mkF m 132 #[.val (.int sel), .val (.int pa), .val (.int pb), .val (.ref t1), .val (.ref t2), .val (.int (pa.toInt16.toInt32)), .val (.int s2), .val (.ref b4), .val (.int (((sel.toUInt32 >>> ((3 : Int32) &&& 31).toUInt32).toInt32) &&& (3 : Int32))), .val (.ref b11), .unset] [(.ref t2), (.ref t1)])) X12 hx rfl rfl rfl (pc0 := 132) (pc' := 146) (same := false) rfl (hb hby at_132) rfl (decide_eq_false fun q => ha132_17 (Value.ref.inj q)) (by decide) (by decide) k) ?_
              show OwnEnds _ _ _ _ (T12.setTop (mkF m 146 #[.val (.int sel), .val (.int pa), .val (.int pb), .val (.ref t1), .val (.ref t2), .val (.int (pa.toInt16.toInt32)), .val (.int s2), .val (.ref b4), .val (.int (((sel.toUInt32 >>> ((3 : Int32) &&& 31).toUInt32).toInt32) &&& (3 : Int32))), .val (.ref b11), .unset] []))
              refine OwnEnds.via (fun t k => XS.iconst X12.here hx rfl (hb hby at_146) k) ?_
              exact J13 _ _ X12 e12 N12 (0 : Int32) (by rw [if_neg fun z => ha132_17 z.1])
      intro J3
      by_cases hc40_19 : (sel &&& (4 : Int32)) = (0 : Int32)
      ·
        refine OwnEnds.via (fun t k => XS.ifYes X2.here hx rfl (pc0 := 40) (pc' := 48) rfl (hb hby at_40) rfl ((if0 _ _).trans (teq hc40_19).1) (by decide) (by decide) k) ?_
        show OwnEnds _ _ _ _ (T2.setTop (mkF m 48 #[.val (.int sel), .val (.int pa), .val (.int pb), .val (.ref t1), .val (.ref t2), .val (.int (pa.toInt16.toInt32)), .unset, .unset, .unset, .unset, .unset] []))
        refine OwnEnds.via (fun t k => XS.iloadN X2.here hx rfl (hb hby at_48) rfl k) ?_
        show OwnEnds _ _ _ _ (T2.setTop (mkF m 49 #[.val (.int sel), .val (.int pa), .val (.int pb), .val (.ref t1), .val (.ref t2), .val (.int (pa.toInt16.toInt32)), .unset, .unset, .unset, .unset, .unset] [(.int pb)]))
        refine OwnEnds.via (fun t k => XS.i2s X2.here hx rfl (hb hby at_49) rfl k) ?_
        exact J3 _ _ X2 e2 N2 (pb.toInt16.toInt32) (own_nar _)
      ·
        refine OwnEnds.via (fun t k => XS.ifNo X2.here hx rfl (hb hby at_40) rfl ((if0 _ _).trans (feq hc40_19).1) k) ?_
        show OwnEnds _ _ _ _ (T2.setTop (mkF m 43 #[.val (.int sel), .val (.int pa), .val (.int pb), .val (.ref t1), .val (.ref t2), .val (.int (pa.toInt16.toInt32)), .unset, .unset, .unset, .unset, .unset] []))
        refine OwnEnds.via (fun t k => XS.iload X2.here hx rfl (hb hby at_43) rfl k) ?_
        show OwnEnds _ _ _ _ (T2.setTop (mkF m 45 #[.val (.int sel), .val (.int pa), .val (.int pb), .val (.ref t1), .val (.ref t2), .val (.int (pa.toInt16.toInt32)), .unset, .unset, .unset, .unset, .unset] [(.int (pa.toInt16.toInt32))]))
        refine OwnEnds.via (fun t k => XS.goto X2.here hx rfl (pc0 := 45) (pc' := 50) rfl (hb hby at_45) (by decide) (by decide) k) ?_
        exact J3 _ _ X2 e2 N2 (pa.toInt16.toInt32) (own_nar _)
    intro J2
    by_cases hc19_20 : (sel &&& (2 : Int32)) = (0 : Int32)
    ·
      refine OwnEnds.via (fun t k => XS.ifYes X1.here hx rfl (pc0 := 19) (pc' := 28) rfl (hb hby at_19) rfl ((if0 _ _).trans (teq hc19_20).1) (by decide) (by decide) k) ?_
      show OwnEnds _ _ _ _ (T1.setTop (mkF m 28 #[.val (.int sel), .val (.int pa), .val (.int pb), .val (.ref t1), .unset, .unset, .unset, .unset, .unset, .unset, .unset] []))
      obtain ⟨T21, X21, e21, st21⟩ := getS2 X1 hx hZ hown (host := "") (Or.inl (hw _ (List.mem_of_getElem? (i := 0) rfl))) Via.refl e1 (OP2.ext O0.2) (g := (mkF m 28 #[.val (.int sel), .val (.int pa), .val (.int pb), .val (.ref t1), .unset, .unset, .unset, .unset, .unset, .unset, .unset] [])) rfl (hb hby at_28)
      refine OwnEnds.via st21 ?_
      exact J2 _ _ X21 e21 N1 nf (Or.inr rfl)
    ·
      refine OwnEnds.via (fun t k => XS.ifNo X1.here hx rfl (hb hby at_19) rfl ((if0 _ _).trans (feq hc19_20).1) k) ?_
      show OwnEnds _ _ _ _ (T1.setTop (mkF m 22 #[.val (.int sel), .val (.int pa), .val (.int pb), .val (.ref t1), .unset, .unset, .unset, .unset, .unset, .unset, .unset] []))
      obtain ⟨T22, X22, e22, st22⟩ := getS2 X1 hx hZ hown (host := "") (Or.inl (hw _ (List.mem_of_getElem? (i := 31) rfl))) Via.refl e1 (OP3.ext O0.2) (g := (mkF m 22 #[.val (.int sel), .val (.int pa), .val (.int pb), .val (.ref t1), .unset, .unset, .unset, .unset, .unset, .unset, .unset] [])) rfl (hb hby at_22)
      refine OwnEnds.via st22 ?_
      show OwnEnds _ _ _ _ (T22.setTop (mkF m 25 #[.val (.int sel), .val (.int pa), .val (.int pb), .val (.ref t1), .unset, .unset, .unset, .unset, .unset, .unset, .unset] [(.ref nb)]))
      refine OwnEnds.via (fun t k => XS.goto X22.here hx rfl (pc0 := 25) (pc' := 31) rfl (hb hby at_25) (by decide) (by decide) k) ?_
      exact J2 _ _ X22 e22 N1 nb (Or.inl rfl)
  intro J1
  by_cases hc3_23 : (sel &&& (1 : Int32)) = (0 : Int32)
  ·
    refine OwnEnds.via (fun t k => XS.ifYes X0.here hx rfl (pc0 := 3) (pc' := 12) rfl (hb hby at_3) rfl ((if0 _ _).trans (teq hc3_23).1) (by decide) (by decide) k) ?_
    show OwnEnds _ _ _ _ (s₁.setTop (mkF m 12 #[.val (.int sel), .val (.int pa), .val (.int pb), .unset, .unset, .unset, .unset, .unset, .unset, .unset, .unset] []))
    obtain ⟨T24, X24, e24, st24⟩ := getS2 X0 hx hZ hown (host := "") (Or.inl (hw _ (List.mem_of_getElem? (i := 0) rfl))) Via.refl e0 (OP2.ext O0.2) (g := (mkF m 12 #[.val (.int sel), .val (.int pa), .val (.int pb), .unset, .unset, .unset, .unset, .unset, .unset, .unset, .unset] [])) rfl (hb hby at_12)
    refine OwnEnds.via st24 ?_
    exact J1 _ _ X24 e24 N0 nf (Or.inr rfl)
  ·
    refine OwnEnds.via (fun t k => XS.ifNo X0.here hx rfl (hb hby at_3) rfl ((if0 _ _).trans (feq hc3_23).1) k) ?_
    show OwnEnds _ _ _ _ (s₁.setTop (mkF m 6 #[.val (.int sel), .val (.int pa), .val (.int pb), .unset, .unset, .unset, .unset, .unset, .unset, .unset, .unset] []))
    obtain ⟨T25, X25, e25, st25⟩ := getS2 X0 hx hZ hown (host := "") (Or.inl (hw _ (List.mem_of_getElem? (i := 31) rfl))) Via.refl e0 (OP3.ext O0.2) (g := (mkF m 6 #[.val (.int sel), .val (.int pa), .val (.int pb), .unset, .unset, .unset, .unset, .unset, .unset, .unset, .unset] [])) rfl (hb hby at_6)
    refine OwnEnds.via st25 ?_
    show OwnEnds _ _ _ _ (T25.setTop (mkF m 9 #[.val (.int sel), .val (.int pa), .val (.int pb), .unset, .unset, .unset, .unset, .unset, .unset, .unset, .unset] [(.ref nb)]))
    refine OwnEnds.via (fun t k => XS.goto X25.here hx rfl (pc0 := 9) (pc' := 15) rfl (hb hby at_9) (by decide) (by decide) k) ?_
    exact J1 _ _ X25 e25 N0 nb (Or.inl rfl)

set_option maxRecDepth 65536 in
set_option maxHeartbeats 40000000 in
theorem comes_1 {Post : Tables → Env → Array Value → State → Outcome → State → Prop} (hpost : ∀ tb e args s v u, (limb_1_1.after args s (.returned v) u = true ∧ limb_1_2.after args s (.returned v) u = true ∧ True) → FrameEnd s (.returned v) u (Jvm.fieldLocs frame_1_writes args s ++ Jvm.arrayLocs frame_1_arrays args s ++ Jvm.staticLocs frame_1_statics s) 16 128 → Post tb e args s (.returned v) u) :
    ArmFor flags0 classFile x code maxLocals ret World_1 tables_1 room_1 Calls_1 rest_1 Pre_1 Post := by
  intro l hfl _ _ p e ha hc hk s m args below hf hA hF happ hP
  obtain ⟨hcalls, hrest, hpre⟩ := hP
  obtain ⟨-, -, -, hnamed, -, -, -, hat⟩ := (Spec.applies_iff hf).mp happ
  obtain ⟨hg, hn⟩ := and_e (Cond.before_iff.mp (show (Jvm.Cond.and given_1 narrow_1).before args s = true from hpre))
  obtain ⟨hg0, hh0⟩ := and_e hg
  obtain ⟨hg1, hh1⟩ := and_e hh0
  obtain ⟨hg2, hh2⟩ := and_e hh1
  obtain ⟨w0, w1, w2, rfl⟩ : ∃ w0 w1 w2 : Value, args = #[w0, w1, w2] := by
    have hs : args.size = 3 := by simpa [Cond.value, given_1] using hg0
    obtain ⟨L⟩ := args
    match L, hs with
    | [w0, w1, w2], _ => exact ⟨w0, w1, w2, rfl⟩
  have hw := fun d (hd : d ∈ tables_1) => atoms_spec (ws := Jvm.Cond.code x code maxLocals ret :: tables_1) hat d (List.mem_cons_of_mem _ hd)
  have hfit : Fit s := fun {y c} hc i hi => by
    obtain ⟨ha, rfl⟩ := Array.getElem?_eq_some_iff.mp hc
    have q := List.all_eq_true.mp ((Array.all_eq_true_iff_forall_mem.mp hF) _ (Array.getElem_mem ha)) i (List.mem_range.mpr hi)
    simpa [Array.getElem?_eq_getElem hi] using q
  obtain ⟨hsets, hown0⟩ := atoms_of _ (rest_1_c_eq ▸ (show rest_1_c.before _ s = true from hrest))
  have hr0 := Cond.before_iff.mp hown0
  obtain ⟨i0, ei0⟩ := is_v hg1
  obtain rfl : w0 = (.int i0) := Option.some.inj ei0
  obtain ⟨i1, ei1⟩ := is_v hg2
  obtain rfl : w1 = (.int i1) := Option.some.inj ei1
  obtain ⟨i2, ei2⟩ := is_v hh2
  obtain rfl : w2 = (.int i2) := Option.some.inj ei2
  obtain ⟨c0_hn, r0_hn⟩ := and_e hn
  obtain ⟨c1_hn, r1_hn⟩ := and_e r0_hn
  obtain ⟨c2_hn, r2_hn⟩ := and_e r1_hn
  obtain ⟨nf, ev_nf⟩ := exa_v c0_hn
  have E_nf : Exa s s.heap nf "com/example/tagwire/tagwire/NumberType" := Exa.start ev_nf c0_hn
  have S_nf : Sta s s.heap "com/example/tagwire/tagwire/NumberType" "FLOAT16" "Lcom/example/tagwire/tagwire/NumberType;" (.ref nf) := Sta.start ev_nf (Or.inr ⟨(hw _ (List.mem_of_getElem? (i := 1) rfl)), (hw _ (List.mem_of_getElem? (i := 2) rfl))⟩)
  obtain ⟨nb, ev_nb⟩ := exa_v c1_hn
  have E_nb : Exa s s.heap nb "com/example/tagwire/tagwire/NumberType" := Exa.start ev_nb c1_hn
  have S_nb : Sta s s.heap "com/example/tagwire/tagwire/NumberType" "BFLOAT16" "Lcom/example/tagwire/tagwire/NumberType;" (.ref nb) := Sta.start ev_nb (Or.inr ⟨(hw _ (List.mem_of_getElem? (i := 1) rfl)), (hw _ (List.mem_of_getElem? (i := 32) rfl))⟩)
  have ev_hi := eqv_i (Term.int_eval _) (Cond.before_iff.mp (hsets _ (List.mem_of_getElem? (i := 3) rfl)))
  have S_hi : Sta s s.heap "java/lang/Integer$IntegerCache" "high" "I" (.int (127 : Int32)) := Sta.start ev_hi (Or.inl (hsets _ (List.mem_of_getElem? (i := 1) rfl)))
  obtain ⟨cc, ev_cc⟩ := arr_v (Cond.before_iff.mp (hsets _ (List.mem_of_getElem? (i := 4) rfl)))
  have S_cc : Sta s s.heap "java/lang/Integer$IntegerCache" "cache" "[Ljava/lang/Integer;" (.ref cc) := Sta.start ev_cc (Or.inr ⟨(hw _ (List.mem_of_getElem? (i := 39) rfl)), (hsets _ (List.mem_of_getElem? (i := 2) rfl))⟩)
  obtain ⟨cb, A_cc⟩ := Arr.start ev_cc (Cond.before_iff.mp (hsets _ (List.mem_of_getElem? (i := 4) rfl)))
  obtain ⟨len_q, len_e⟩ := own_len ev_cc (A_cc.fin (Vm.Alike.refl _)) (eqv_i (Term.int_eval _) (Cond.before_iff.mp (hsets _ (List.mem_of_getElem? (i := 6) rfl))))
  have B_cc : Bxs s cc cb "java/lang/Integer" "I" (256 : Int32) (fun j => .int (j - 128)) := Bxs.start (fun _ => ev_cc) A_cc len_q len_e (by decide) (Cond.before_iff.mp (hsets _ (List.mem_of_getElem? (i := 7) rfl))) (fun X j nn h => eqv_i (by simp [Term.eval, idx_at nn, (back32 nn).1]) h)
  obtain ⟨n, o, h1, h2, h3, _, L, rfl, ⟨rfl, N⟩, hq⟩ := rm0 l s _ hw tables_1 i0 i1 i2 cc cb _ nf nb s.heap s.heap.size (Nat.le_refl _) (Old.start s) B_cc S_hi S_cc S_nf S_nb p e ha hc hk s m _ below hf ((Spec.applies_iff_loose hf).mp happ).1 ⟨rfl, State.Warmed39.refl s, rfl⟩ trivial
  refine ⟨n, _, h1, h2, h3, hpost _ _ _ _ _ _ ⟨Cond.after_iff.mpr rfl, Cond.after_iff.mpr (eq_i res_at (Term.int_eval (1)) rfl), trivial⟩ ⟨hq.1, hq.2.1, (hq.2.2.sift fun y hy => Or.inr (N y hy)).mono (by decide) (by decide)⟩⟩
theorem main_1_1 : Claimed_1_1 := comes_1 fun _ _ _ _ _ _ h hF => ⟨h.1, hF⟩
theorem main_1_2 : Claimed_1_2 := comes_1 fun _ _ _ _ _ _ h hF => ⟨h.2.1, hF⟩
end Jvm.Pilot.@@N@@
namespace Jvm.Pilot.@@N@@
open Jvm Jvm.ClassFile Sem Op Lib Jvm.Free Jvm.Stand Jvm.Pilot.@@N@@.Jvm.D
/-! MADE BY PROGRAM (witnessworld.py) out of the Statement's table words and the real class files: 19 classes; the members and pool entries that the words name. The judged class is class 1, her method 1. -/
namespace start1
open Jvm.ClassFile
def u (s : String) : CpInfo := .utf8 (stringToUtf16 s)
/-- a pool by its gaps: so many unusable entries, then the entry; so many at the end -/
def gap : Nat → List CpInfo → List CpInfo
  | 0, r => r
  | n + 1, r => .unusable :: gap n r
def poolList (es : List (Nat × CpInfo)) (last : Nat) : List CpInfo := es.foldr (fun e r => gap e.1 (e.2 :: r)) (gap last [])
def pool (es : List (Nat × CpInfo)) (last : Nat) : Array CpInfo := ⟨poolList es last⟩
def fileOf (pool : Array CpInfo) (this : Nat) (attrs : Array Attribute := #[]) (ms : Array MethodInfo := #[]) (fl : Nat := 33) (sup : Nat := 0) (ifs : Array Nat := #[]) (fds : Array FieldInfo := #[]) : ClassFile where
  minorVersion := 0
  majorVersion := 65
  constantPool := pool
  accessFlags := fl
  thisClass := this
  superClass := sup
  interfaces := ifs
  fields := fds
  methods := ms
  attributes := attrs
def plain (name : String) (sup : Option ClassId) : Class where
  name := name
  kind := .ordinary
  loader := none
  accessFlags := 33
  super := sup
  interfaces := #[]
  cf := none
  fields := #[]
  methods := #[]
  instanceTypes := #[]
  staticTypes := #[]
  resolved := #[]
  callSites := []
  init := .initialized
  statics := none
  mirror := none

def pool0 : Array CpInfo := pool [(5, u "<init>"), (0, u "()V"), (1, .class_ 10), (1, u "java/lang/Object")] 113

def k0c0 : Code := { maxStack := 0, maxLocals := 1, code := object_method_1_code, exceptionTable := #[], attributes := #[] }
def k0m0 : Method := { name := "<init>", desc := "()V", sig := { parameters := [], returnType := none }, accessFlags := 1, code := some k0c0 }
/-- java/lang/Object -/
def k0 : Class := { plain "java/lang/Object" none with
  accessFlags := 33
  interfaces := #[]
  cf := some (fileOf pool0 8 #[] #[{ accessFlags := 1, nameIndex := 5, descriptorIndex := 6, attributes := #[] }] 33 0 #[] #[])
  fields := #[]
  methods := #[k0m0]
  instanceTypes := #[]
  staticTypes := #[]
  resolved := Array.replicate 124 none
  statics := none }

def pool1 : Array CpInfo := pool [(2, .class_ 4), (1, u "java/lang/Object"), (0, u "<init>"), (0, u "()V"), (0, .fieldref 8 9), (0, .class_ 10), (0, .nameAndType 11 12), (0, u "com/example/tagwire/tagwire/NumberType"), (0, u "BFLOAT16"), (0, u "Lcom/example/tagwire/tagwire/NumberType;"), (0, .fieldref 8 14), (0, .nameAndType 15 12), (0, u "FLOAT16"), (0, .class_ 17), (0, u "com/example/tagwire/tagwire/HalfFloat"), (0, .methodref 16 19), (0, .nameAndType 5 20), (0, u "(Lcom/example/tagwire/tagwire/NumberType;S)V"), (0, .methodref 16 22), (0, .nameAndType 23 24), (0, u "equals"), (0, u "(Ljava/lang/Object;)Z"), (0, .methodref 26 27), (0, .class_ 28), (0, .nameAndType 29 30), (0, u "java/lang/Integer"), (0, u "valueOf"), (0, u "(I)Ljava/lang/Integer;"), (0, .class_ 32), (0, u "com/example/tagwire/tagwire/HalfFloatEqualsPinLaw"), (2, u "law"), (0, u "(III)Z")] 3

def k1m0 : Method := { name := "<init>", desc := "()V", sig := { parameters := [], returnType := none }, accessFlags := 1, code := none }
def k1c1 : Code := { maxStack := 4, maxLocals := 11, code := code, exceptionTable := #[], attributes := #[] }
def k1m1 : Method := { name := "law", desc := "(III)Z", sig := { parameters := [.int, .int, .int], returnType := some .boolean }, accessFlags := 9, code := some k1c1 }
/-- com/example/tagwire/tagwire/HalfFloatEqualsPinLaw -/
def k1 : Class := { plain "com/example/tagwire/tagwire/HalfFloatEqualsPinLaw" (some 0) with
  accessFlags := 49
  interfaces := #[]
  cf := some (fileOf pool1 31 #[] #[{ accessFlags := 1, nameIndex := 5, descriptorIndex := 6, attributes := #[] }, { accessFlags := 9, nameIndex := 35, descriptorIndex := 36, attributes := #[] }] 49 2 #[] #[])
  fields := #[]
  methods := #[k1m0, k1m1]
  instanceTypes := #[]
  staticTypes := #[]
  resolved := Array.replicate 40 none
  statics := none }

def pool2 : Array CpInfo := pool [(1, .class_ 2), (0, u "java/lang/constant/Constable"), (0, .class_ 4), (0, u "java/lang/Object")] 6

/-- java/lang/constant/Constable -/
def k2 : Class := { plain "java/lang/constant/Constable" (some 0) with
  accessFlags := 1537
  interfaces := #[]
  cf := some (fileOf pool2 1 #[] #[] 1537 3 #[] #[])
  fields := #[]
  methods := #[]
  instanceTypes := #[]
  staticTypes := #[]
  resolved := Array.replicate 11 none
  statics := none }

def pool3 : Array CpInfo := pool [(1, .class_ 2), (0, u "java/lang/Comparable"), (0, .class_ 4), (0, u "java/lang/Object")] 7

/-- java/lang/Comparable -/
def k3 : Class := { plain "java/lang/Comparable" (some 0) with
  accessFlags := 1537
  interfaces := #[]
  cf := some (fileOf pool3 1 #[] #[] 1537 3 #[] #[])
  fields := #[]
  methods := #[]
  instanceTypes := #[]
  staticTypes := #[]
  resolved := Array.replicate 12 none
  statics := none }

def pool4 : Array CpInfo := pool [(1, .class_ 2), (0, u "java/io/Serializable"), (0, .class_ 4), (0, u "java/lang/Object")] 2

/-- java/io/Serializable -/
def k4 : Class := { plain "java/io/Serializable" (some 0) with
  accessFlags := 1537
  interfaces := #[]
  cf := some (fileOf pool4 1 #[] #[] 1537 3 #[] #[])
  fields := #[]
  methods := #[]
  instanceTypes := #[]
  staticTypes := #[]
  resolved := Array.replicate 7 none
  statics := none }

def pool5 : Array CpInfo := pool [(2, .class_ 4), (1, u "java/lang/Enum"), (0, u "name"), (0, u "Ljava/lang/String;"), (2, u "ordinal"), (0, u "I"), (1, .class_ 14), (1, u "java/lang/Object"), (4, u "hash"), (86, .class_ 108), (1, u "java/lang/Enum$EnumDesc"), (2, .class_ 112), (0, u "java/lang/constant/Constable"), (0, .class_ 114), (0, u "java/lang/Comparable"), (0, .class_ 116), (0, u "java/io/Serializable")] 87

/-- java/lang/Enum -/
def k5 : Class := { plain "java/lang/Enum" (some 0) with
  accessFlags := 1057
  interfaces := #[2, 3, 4]
  cf := some (fileOf pool5 2 #[.nestMembers #[106]] #[] 1057 12 #[111, 113, 115] #[{ accessFlags := 18, nameIndex := 5, descriptorIndex := 6, attributes := #[] }, { accessFlags := 18, nameIndex := 9, descriptorIndex := 10, attributes := #[] }, { accessFlags := 2, nameIndex := 19, descriptorIndex := 10, attributes := #[] }])
  fields := #[{ name := "name", type := (.object "java/lang/String"), accessFlags := 18, slot := 0, constantValue := 0 }, { name := "ordinal", type := .int, accessFlags := 18, slot := 1, constantValue := 0 }, { name := "hash", type := .int, accessFlags := 2, slot := 2, constantValue := 0 }]
  methods := #[]
  instanceTypes := #[(.object "java/lang/String"), .int, .int]
  staticTypes := #[]
  resolved := Array.replicate 204 none
  statics := none }

def pool6 : Array CpInfo := pool [(5, .class_ 6), (0, u "com/example/tagwire/tagwire/NumberType"), (2, u "BFLOAT16"), (0, u "Lcom/example/tagwire/tagwire/NumberType;"), (2, u "FLOAT16"), (2, u "FLOAT32"), (2, u "FLOAT64"), (2, u "FLOAT128"), (2, u "INT8"), (2, u "INT16"), (2, u "INT32"), (2, u "INT64"), (2, u "INT128"), (2, u "UINT8"), (2, u "UINT16"), (2, u "UINT32"), (2, u "UINT64"), (2, u "UINT128"), (2, u "$VALUES"), (0, u "[Lcom/example/tagwire/tagwire/NumberType;"), (6, .class_ 65), (1, u "java/lang/Enum"), (8, u "kind"), (0, u "Lcom/example/tagwire/tagwire/NumberType$Kind;"), (2, u "byteCount"), (0, u "I"), (6, u "byteCountBits"), (2, u "BY_CODE"), (0, u "[[Lcom/example/tagwire/tagwire/NumberType;"), (7, .class_ 100), (1, u "com/example/tagwire/tagwire/NumberType$Kind"), (172, u "FLOAT16_FRACTION_BITS"), (2, u "FLOAT16_EXPONENT_MASK"), (1, u "FLOAT16_BIAS"), (1, u "FLOAT16_LEAST_SUBNORMAL"), (1, u "FLOAT32_FRACTION_BITS"), (1, u "FLOAT32_EXPONENT_MASK"), (1, u "FLOAT32_BIAS"), (1, u "FLOAT16_SIGN"), (0, u "FLOAT32_SIGN"), (1, u "FLOAT16_INFINITY"), (1, u "FLOAT32_INFINITY"), (0, u "FLOAT32_QUIET_BIT")] 47

/-- com/example/tagwire/tagwire/NumberType -/
def k6 : Class := { plain "com/example/tagwire/tagwire/NumberType" (some 5) with
  accessFlags := 16433
  interfaces := #[]
  cf := some (fileOf pool6 5 #[.nestMembers #[98]] #[] 16433 63 #[] #[{ accessFlags := 16409, nameIndex := 9, descriptorIndex := 10, attributes := #[] }, { accessFlags := 16409, nameIndex := 13, descriptorIndex := 10, attributes := #[] }, { accessFlags := 16409, nameIndex := 16, descriptorIndex := 10, attributes := #[] }, { accessFlags := 16409, nameIndex := 19, descriptorIndex := 10, attributes := #[] }, { accessFlags := 16409, nameIndex := 22, descriptorIndex := 10, attributes := #[] }, { accessFlags := 16409, nameIndex := 25, descriptorIndex := 10, attributes := #[] }, { accessFlags := 16409, nameIndex := 28, descriptorIndex := 10, attributes := #[] }, { accessFlags := 16409, nameIndex := 31, descriptorIndex := 10, attributes := #[] }, { accessFlags := 16409, nameIndex := 34, descriptorIndex := 10, attributes := #[] }, { accessFlags := 16409, nameIndex := 37, descriptorIndex := 10, attributes := #[] }, { accessFlags := 16409, nameIndex := 40, descriptorIndex := 10, attributes := #[] }, { accessFlags := 16409, nameIndex := 43, descriptorIndex := 10, attributes := #[] }, { accessFlags := 16409, nameIndex := 46, descriptorIndex := 10, attributes := #[] }, { accessFlags := 16409, nameIndex := 49, descriptorIndex := 10, attributes := #[] }, { accessFlags := 16409, nameIndex := 52, descriptorIndex := 10, attributes := #[] }, { accessFlags := 26, nameIndex := 89, descriptorIndex := 90, attributes := #[] }, { accessFlags := 26, nameIndex := 273, descriptorIndex := 79, attributes := #[] }, { accessFlags := 26, nameIndex := 276, descriptorIndex := 79, attributes := #[] }, { accessFlags := 26, nameIndex := 278, descriptorIndex := 79, attributes := #[] }, { accessFlags := 26, nameIndex := 280, descriptorIndex := 79, attributes := #[] }, { accessFlags := 26, nameIndex := 282, descriptorIndex := 79, attributes := #[] }, { accessFlags := 26, nameIndex := 284, descriptorIndex := 79, attributes := #[] }, { accessFlags := 26, nameIndex := 286, descriptorIndex := 79, attributes := #[] }, { accessFlags := 26, nameIndex := 288, descriptorIndex := 79, attributes := #[] }, { accessFlags := 26, nameIndex := 289, descriptorIndex := 79, attributes := #[] }, { accessFlags := 26, nameIndex := 291, descriptorIndex := 79, attributes := #[] }, { accessFlags := 26, nameIndex := 293, descriptorIndex := 79, attributes := #[] }, { accessFlags := 26, nameIndex := 294, descriptorIndex := 79, attributes := #[] }, { accessFlags := 18, nameIndex := 74, descriptorIndex := 75, attributes := #[] }, { accessFlags := 18, nameIndex := 78, descriptorIndex := 79, attributes := #[] }, { accessFlags := 18, nameIndex := 86, descriptorIndex := 79, attributes := #[] }, { accessFlags := 4122, nameIndex := 55, descriptorIndex := 56, attributes := #[] }])
  fields := #[{ name := "BFLOAT16", type := (.object "com/example/tagwire/tagwire/NumberType"), accessFlags := 16409, slot := 0, constantValue := 0 }, { name := "FLOAT16", type := (.object "com/example/tagwire/tagwire/NumberType"), accessFlags := 16409, slot := 1, constantValue := 0 }, { name := "FLOAT32", type := (.object "com/example/tagwire/tagwire/NumberType"), accessFlags := 16409, slot := 2, constantValue := 0 }, { name := "FLOAT64", type := (.object "com/example/tagwire/tagwire/NumberType"), accessFlags := 16409, slot := 3, constantValue := 0 }, { name := "FLOAT128", type := (.object "com/example/tagwire/tagwire/NumberType"), accessFlags := 16409, slot := 4, constantValue := 0 }, { name := "INT8", type := (.object "com/example/tagwire/tagwire/NumberType"), accessFlags := 16409, slot := 5, constantValue := 0 }, { name := "INT16", type := (.object "com/example/tagwire/tagwire/NumberType"), accessFlags := 16409, slot := 6, constantValue := 0 }, { name := "INT32", type := (.object "com/example/tagwire/tagwire/NumberType"), accessFlags := 16409, slot := 7, constantValue := 0 }, { name := "INT64", type := (.object "com/example/tagwire/tagwire/NumberType"), accessFlags := 16409, slot := 8, constantValue := 0 }, { name := "INT128", type := (.object "com/example/tagwire/tagwire/NumberType"), accessFlags := 16409, slot := 9, constantValue := 0 }, { name := "UINT8", type := (.object "com/example/tagwire/tagwire/NumberType"), accessFlags := 16409, slot := 10, constantValue := 0 }, { name := "UINT16", type := (.object "com/example/tagwire/tagwire/NumberType"), accessFlags := 16409, slot := 11, constantValue := 0 }, { name := "UINT32", type := (.object "com/example/tagwire/tagwire/NumberType"), accessFlags := 16409, slot := 12, constantValue := 0 }, { name := "UINT64", type := (.object "com/example/tagwire/tagwire/NumberType"), accessFlags := 16409, slot := 13, constantValue := 0 }, { name := "UINT128", type := (.object "com/example/tagwire/tagwire/NumberType"), accessFlags := 16409, slot := 14, constantValue := 0 }, { name := "BY_CODE", type := (.array (.array (.object "com/example/tagwire/tagwire/NumberType"))), accessFlags := 26, slot := 15, constantValue := 0 }, { name := "FLOAT16_FRACTION_BITS", type := .int, accessFlags := 26, slot := 16, constantValue := 0 }, { name := "FLOAT16_EXPONENT_MASK", type := .int, accessFlags := 26, slot := 17, constantValue := 0 }, { name := "FLOAT16_BIAS", type := .int, accessFlags := 26, slot := 18, constantValue := 0 }, { name := "FLOAT16_LEAST_SUBNORMAL", type := .int, accessFlags := 26, slot := 19, constantValue := 0 }, { name := "FLOAT32_FRACTION_BITS", type := .int, accessFlags := 26, slot := 20, constantValue := 0 }, { name := "FLOAT32_EXPONENT_MASK", type := .int, accessFlags := 26, slot := 21, constantValue := 0 }, { name := "FLOAT32_BIAS", type := .int, accessFlags := 26, slot := 22, constantValue := 0 }, { name := "FLOAT16_SIGN", type := .int, accessFlags := 26, slot := 23, constantValue := 0 }, { name := "FLOAT32_SIGN", type := .int, accessFlags := 26, slot := 24, constantValue := 0 }, { name := "FLOAT16_INFINITY", type := .int, accessFlags := 26, slot := 25, constantValue := 0 }, { name := "FLOAT32_INFINITY", type := .int, accessFlags := 26, slot := 26, constantValue := 0 }, { name := "FLOAT32_QUIET_BIT", type := .int, accessFlags := 26, slot := 27, constantValue := 0 }, { name := "kind", type := (.object "com/example/tagwire/tagwire/NumberType$Kind"), accessFlags := 18, slot := 3, constantValue := 0 }, { name := "byteCount", type := .int, accessFlags := 18, slot := 4, constantValue := 0 }, { name := "byteCountBits", type := .int, accessFlags := 18, slot := 5, constantValue := 0 }, { name := "$VALUES", type := (.array (.object "com/example/tagwire/tagwire/NumberType")), accessFlags := 4122, slot := 28, constantValue := 0 }]
  methods := #[]
  instanceTypes := #[(.object "java/lang/String"), .int, .int, (.object "com/example/tagwire/tagwire/NumberType$Kind"), .int, .int]
  staticTypes := #[(.object "com/example/tagwire/tagwire/NumberType"), (.object "com/example/tagwire/tagwire/NumberType"), (.object "com/example/tagwire/tagwire/NumberType"), (.object "com/example/tagwire/tagwire/NumberType"), (.object "com/example/tagwire/tagwire/NumberType"), (.object "com/example/tagwire/tagwire/NumberType"), (.object "com/example/tagwire/tagwire/NumberType"), (.object "com/example/tagwire/tagwire/NumberType"), (.object "com/example/tagwire/tagwire/NumberType"), (.object "com/example/tagwire/tagwire/NumberType"), (.object "com/example/tagwire/tagwire/NumberType"), (.object "com/example/tagwire/tagwire/NumberType"), (.object "com/example/tagwire/tagwire/NumberType"), (.object "com/example/tagwire/tagwire/NumberType"), (.object "com/example/tagwire/tagwire/NumberType"), (.array (.array (.object "com/example/tagwire/tagwire/NumberType"))), .int, .int, .int, .int, .int, .int, .int, .int, .int, .int, .int, .int, (.array (.object "com/example/tagwire/tagwire/NumberType"))]
  resolved := Array.replicate 342 none
  statics := some 0 }

def pool7 : Array CpInfo := pool [(1, .methodref 2 3), (0, .class_ 4), (0, .nameAndType 5 6), (0, u "java/lang/Object"), (0, u "<init>"), (0, u "()V"), (0, .methodref 8 9), (0, .class_ 10), (0, .nameAndType 11 12), (0, u "com/example/tagwire/tagwire/HalfFloat"), (0, u "checkType"), (0, u "(Lcom/example/tagwire/tagwire/NumberType;)V"), (0, .fieldref 8 14), (0, .nameAndType 15 16), (0, u "type"), (0, u "Lcom/example/tagwire/tagwire/NumberType;"), (0, .fieldref 8 18), (0, .nameAndType 19 20), (0, u "bits"), (0, u "S"), (1, .class_ 24), (1, u "com/example/tagwire/tagwire/NumberType"), (4, u "(Lcom/example/tagwire/tagwire/NumberType;S)V"), (0, .methodref 31 32), (0, .class_ 33), (0, .nameAndType 34 35), (0, u "java/util/Objects"), (0, u "requireNonNull"), (0, u "(Ljava/lang/Object;)Ljava/lang/Object;"), (0, .fieldref 22 37), (0, .nameAndType 38 16), (0, u "FLOAT16"), (0, .fieldref 22 40), (0, .nameAndType 41 16), (0, u "BFLOAT16"), (57, u "equals"), (0, u "(Ljava/lang/Object;)Z")] 19

def k7c0 : Code := { maxStack := 2, maxLocals := 3, code := prog_26_method_1_code, exceptionTable := #[], attributes := #[] }
def k7m0 : Method := { name := "<init>", desc := "(Lcom/example/tagwire/tagwire/NumberType;S)V", sig := { parameters := [(.object "com/example/tagwire/tagwire/NumberType"), .short], returnType := none }, accessFlags := 1, code := some k7c0 }
def k7c1 : Code := { maxStack := 3, maxLocals := 1, code := prog_26_method_3_code, exceptionTable := #[], attributes := #[] }
def k7m1 : Method := { name := "checkType", desc := "(Lcom/example/tagwire/tagwire/NumberType;)V", sig := { parameters := [(.object "com/example/tagwire/tagwire/NumberType")], returnType := none }, accessFlags := 8, code := some k7c1 }
def k7c2 : Code := { maxStack := 2, maxLocals := 2, code := prog_26_method_9_code, exceptionTable := #[], attributes := #[] }
def k7m2 : Method := { name := "equals", desc := "(Ljava/lang/Object;)Z", sig := { parameters := [(.object "java/lang/Object")], returnType := some .boolean }, accessFlags := 1, code := some k7c2 }
/-- com/example/tagwire/tagwire/HalfFloat -/
def k7 : Class := { plain "com/example/tagwire/tagwire/HalfFloat" (some 0) with
  accessFlags := 49
  interfaces := #[]
  cf := some (fileOf pool7 8 #[] #[{ accessFlags := 1, nameIndex := 5, descriptorIndex := 29, attributes := #[] }, { accessFlags := 8, nameIndex := 11, descriptorIndex := 12, attributes := #[] }, { accessFlags := 1, nameIndex := 99, descriptorIndex := 100, attributes := #[] }] 49 2 #[] #[{ accessFlags := 18, nameIndex := 15, descriptorIndex := 16, attributes := #[] }, { accessFlags := 18, nameIndex := 19, descriptorIndex := 20, attributes := #[] }])
  fields := #[{ name := "type", type := (.object "com/example/tagwire/tagwire/NumberType"), accessFlags := 18, slot := 0, constantValue := 0 }, { name := "bits", type := .short, accessFlags := 18, slot := 1, constantValue := 0 }]
  methods := #[k7m0, k7m1, k7m2]
  instanceTypes := #[(.object "com/example/tagwire/tagwire/NumberType"), .short]
  staticTypes := #[]
  resolved := Array.replicate 120 none
  statics := none }

def pool8 : Array CpInfo := pool [(2, .class_ 4), (1, u "java/lang/Object"), (0, u "<init>"), (0, u "()V"), (35, .class_ 44), (1, u "java/util/Objects"), (0, u "requireNonNull"), (0, u "(Ljava/lang/Object;)Ljava/lang/Object;")] 137

def k8m0 : Method := { name := "<init>", desc := "()V", sig := { parameters := [], returnType := none }, accessFlags := 2, code := none }
def k8c1 : Code := { maxStack := 2, maxLocals := 1, code := jdk_31_method_10_code, exceptionTable := #[], attributes := #[] }
def k8m1 : Method := { name := "requireNonNull", desc := "(Ljava/lang/Object;)Ljava/lang/Object;", sig := { parameters := [(.object "java/lang/Object")], returnType := some (.object "java/lang/Object") }, accessFlags := 9, code := some k8c1 }
/-- java/util/Objects -/
def k8 : Class := { plain "java/util/Objects" (some 0) with
  accessFlags := 49
  interfaces := #[]
  cf := some (fileOf pool8 42 #[] #[{ accessFlags := 2, nameIndex := 5, descriptorIndex := 6, attributes := #[] }, { accessFlags := 9, nameIndex := 45, descriptorIndex := 46, attributes := #[] }] 49 2 #[] #[])
  fields := #[]
  methods := #[k8m0, k8m1]
  instanceTypes := #[]
  staticTypes := #[]
  resolved := Array.replicate 184 none
  statics := none }

def pool9 : Array CpInfo := pool [(1, .methodref 2 3), (0, .class_ 4), (0, .nameAndType 5 6), (0, u "java/lang/Object"), (0, u "<init>"), (0, u "()V"), (1, .class_ 10), (1, u "java/lang/Number"), (2, .class_ 14), (0, u "java/io/Serializable"), (0, u "serialVersionUID"), (0, u "J")] 20

def k9c0 : Code := { maxStack := 1, maxLocals := 1, code := jdk_18_method_1_code, exceptionTable := #[], attributes := #[] }
def k9m0 : Method := { name := "<init>", desc := "()V", sig := { parameters := [], returnType := none }, accessFlags := 1, code := some k9c0 }
/-- java/lang/Number -/
def k9 : Class := { plain "java/lang/Number" (some 0) with
  accessFlags := 1057
  interfaces := #[4]
  cf := some (fileOf pool9 8 #[] #[{ accessFlags := 1, nameIndex := 5, descriptorIndex := 6, attributes := #[] }] 1057 2 #[13] #[{ accessFlags := 26, nameIndex := 15, descriptorIndex := 16, attributes := #[] }])
  fields := #[{ name := "serialVersionUID", type := .long, accessFlags := 26, slot := 0, constantValue := 0 }]
  methods := #[k9m0]
  instanceTypes := #[]
  staticTypes := #[.long]
  resolved := Array.replicate 37 none
  statics := none }

def pool10 : Array CpInfo := pool [(1, .class_ 2), (0, u "java/lang/constant/ConstantDesc"), (0, .class_ 4), (0, u "java/lang/Object")] 32

/-- java/lang/constant/ConstantDesc -/
def k10 : Class := { plain "java/lang/constant/ConstantDesc" (some 0) with
  accessFlags := 1537
  interfaces := #[]
  cf := some (fileOf pool10 1 #[] #[] 1537 3 #[] #[])
  fields := #[]
  methods := #[]
  instanceTypes := #[]
  staticTypes := #[]
  resolved := Array.replicate 37 none
  statics := none }

def pool11 : Array CpInfo := pool [(1, .class_ 2), (0, u "java/lang/Integer"), (16, u "digits"), (0, u "[C"), (46, u "<init>"), (17, u "DigitOnes"), (0, u "[B"), (2, u "DigitTens"), (10, .nameAndType 67 101), (0, u "()V"), (85, u "valueOf"), (0, u "(I)Ljava/lang/Integer;"), (0, .class_ 190), (0, u "java/lang/Integer$IntegerCache"), (0, .fieldref 189 192), (0, .nameAndType 193 194), (0, u "high"), (0, u "I"), (0, .fieldref 189 196), (0, .nameAndType 197 198), (0, u "cache"), (0, u "[Ljava/lang/Integer;"), (0, .methodref 1 200), (0, .nameAndType 67 201), (0, u "(I)V"), (0, .methodref 203 100), (0, .class_ 204), (0, u "java/lang/Number"), (0, .fieldref 1 206), (0, .nameAndType 207 194), (0, u "value"), (94, u "TYPE"), (0, u "Ljava/lang/Class;"), (0, .class_ 305), (0, u "java/lang/Comparable"), (0, .class_ 307), (0, u "java/lang/constant/Constable"), (0, .class_ 309), (0, u "java/lang/constant/ConstantDesc"), (0, u "MIN_VALUE"), (1, u "MAX_VALUE"), (3, u "SIZE"), (1, u "BYTES"), (1, u "serialVersionUID"), (0, u "J")] 131

def k11c0 : Code := { maxStack := 3, maxLocals := 1, code := jdk_33_method_22_code, exceptionTable := #[], attributes := #[] }
def k11m0 : Method := { name := "valueOf", desc := "(I)Ljava/lang/Integer;", sig := { parameters := [.int], returnType := some (.object "java/lang/Integer") }, accessFlags := 9, code := some k11c0 }
def k11c1 : Code := { maxStack := 2, maxLocals := 2, code := jdk_33_method_23_code, exceptionTable := #[], attributes := #[] }
def k11m1 : Method := { name := "<init>", desc := "(I)V", sig := { parameters := [.int], returnType := none }, accessFlags := 1, code := some k11c1 }
/-- java/lang/Integer -/
def k11 : Class := { plain "java/lang/Integer" (some 9) with
  accessFlags := 49
  interfaces := #[3, 2, 10]
  cf := some (fileOf pool11 1 #[.nestMembers #[189]] #[{ accessFlags := 9, nameIndex := 187, descriptorIndex := 188, attributes := #[] }, { accessFlags := 1, nameIndex := 67, descriptorIndex := 201, attributes := #[] }] 49 203 #[304, 306, 308] #[{ accessFlags := 25, nameIndex := 310, descriptorIndex := 194, attributes := #[] }, { accessFlags := 25, nameIndex := 312, descriptorIndex := 194, attributes := #[] }, { accessFlags := 25, nameIndex := 302, descriptorIndex := 303, attributes := #[] }, { accessFlags := 24, nameIndex := 19, descriptorIndex := 20, attributes := #[] }, { accessFlags := 24, nameIndex := 89, descriptorIndex := 86, attributes := #[] }, { accessFlags := 24, nameIndex := 85, descriptorIndex := 86, attributes := #[] }, { accessFlags := 18, nameIndex := 207, descriptorIndex := 194, attributes := #[] }, { accessFlags := 25, nameIndex := 316, descriptorIndex := 194, attributes := #[] }, { accessFlags := 25, nameIndex := 318, descriptorIndex := 194, attributes := #[] }, { accessFlags := 26, nameIndex := 320, descriptorIndex := 321, attributes := #[] }])
  fields := #[{ name := "MIN_VALUE", type := .int, accessFlags := 25, slot := 0, constantValue := 0 }, { name := "MAX_VALUE", type := .int, accessFlags := 25, slot := 1, constantValue := 0 }, { name := "TYPE", type := (.object "java/lang/Class"), accessFlags := 25, slot := 2, constantValue := 0 }, { name := "digits", type := (.array .char), accessFlags := 24, slot := 3, constantValue := 0 }, { name := "DigitTens", type := (.array .byte), accessFlags := 24, slot := 4, constantValue := 0 }, { name := "DigitOnes", type := (.array .byte), accessFlags := 24, slot := 5, constantValue := 0 }, { name := "value", type := .int, accessFlags := 18, slot := 0, constantValue := 0 }, { name := "SIZE", type := .int, accessFlags := 25, slot := 6, constantValue := 0 }, { name := "BYTES", type := .int, accessFlags := 25, slot := 7, constantValue := 0 }, { name := "serialVersionUID", type := .long, accessFlags := 26, slot := 8, constantValue := 0 }]
  methods := #[k11m0, k11m1]
  instanceTypes := #[.int]
  staticTypes := #[.int, .int, (.object "java/lang/Class"), (.array .char), (.array .byte), (.array .byte), .int, .int, .long]
  resolved := Array.replicate 453 none
  statics := none }

def pool12 : Array CpInfo := pool [(2, .class_ 4), (1, u "java/lang/Object"), (0, u "<init>"), (0, u "()V"), (0, .class_ 8), (0, u "java/lang/Integer"), (7, .class_ 18), (1, u "java/lang/Integer$IntegerCache"), (0, u "$assertionsDisabled"), (0, u "Z"), (26, u "high"), (0, u "I"), (8, u "archivedCache"), (0, u "[Ljava/lang/Integer;"), (12, u "cache"), (0, u "low")] 27

def k12m0 : Method := { name := "<init>", desc := "()V", sig := { parameters := [], returnType := none }, accessFlags := 2, code := none }
/-- java/lang/Integer$IntegerCache -/
def k12 : Class := { plain "java/lang/Integer$IntegerCache" (some 0) with
  accessFlags := 48
  interfaces := #[]
  cf := some (fileOf pool12 16 #[.nestHost 7] #[{ accessFlags := 2, nameIndex := 5, descriptorIndex := 6, attributes := #[] }] 48 2 #[] #[{ accessFlags := 24, nameIndex := 72, descriptorIndex := 48, attributes := #[] }, { accessFlags := 24, nameIndex := 47, descriptorIndex := 48, attributes := #[] }, { accessFlags := 24, nameIndex := 71, descriptorIndex := 58, attributes := #[] }, { accessFlags := 8, nameIndex := 57, descriptorIndex := 58, attributes := #[] }, { accessFlags := 4120, nameIndex := 19, descriptorIndex := 20, attributes := #[] }])
  fields := #[{ name := "low", type := .int, accessFlags := 24, slot := 0, constantValue := 0 }, { name := "high", type := .int, accessFlags := 24, slot := 1, constantValue := 0 }, { name := "cache", type := (.array (.object "java/lang/Integer")), accessFlags := 24, slot := 2, constantValue := 0 }, { name := "archivedCache", type := (.array (.object "java/lang/Integer")), accessFlags := 8, slot := 3, constantValue := 0 }, { name := "$assertionsDisabled", type := .boolean, accessFlags := 4120, slot := 4, constantValue := 0 }]
  methods := #[k12m0]
  instanceTypes := #[]
  staticTypes := #[.int, .int, (.array (.object "java/lang/Integer")), (.array (.object "java/lang/Integer")), .boolean]
  resolved := Array.replicate 100 none
  statics := some 1 }

def pool13 : Array CpInfo := pool [(1, u "java/lang/Cloneable"), (0, .class_ 1), (0, u "java/lang/Object"), (0, .class_ 3)] 3

/-- java/lang/Cloneable -/
def k13 : Class := { plain "java/lang/Cloneable" (some 0) with
  accessFlags := 1537
  interfaces := #[]
  cf := some (fileOf pool13 2 #[] #[] 1537 4 #[] #[])
  fields := #[]
  methods := #[]
  instanceTypes := #[]
  staticTypes := #[]
  resolved := Array.replicate 8 none
  statics := none }

/-- the primitive byte -/
def k14 : Class := { plain "byte" none with kind := .primitive 'B', accessFlags := 0x411 }
/-- [B -/
def k15 : Class := { plain "[B" (some 0) with kind := .array 14 .byte, interfaces := #[13, 4], accessFlags := 1041 }

/-- the primitive int -/
def k16 : Class := { plain "int" none with kind := .primitive 'I', accessFlags := 0x411 }
/-- [I -/
def k17 : Class := { plain "[I" (some 0) with kind := .array 16 .int, interfaces := #[13, 4], accessFlags := 1041 }

/-- [Ljava/lang/Integer; -/
def k18 : Class := { plain "[Ljava/lang/Integer;" (some 0) with kind := .array 11 (.object "java/lang/Integer"), interfaces := #[13, 4], accessFlags := 1041 }

def heap : Heap := #[{ cls := 6, slots := #[.ref 260, .ref 259, .null, .null, .null, .null, .null, .null, .null, .null, .null, .null, .null, .null, .null, .null, .int 0, .int 0, .int 0, .int 0, .int 0, .int 0, .int 0, .int 0, .int 0, .int 0, .int 0, .int 0, .null], vm := .statics 6 },
  { cls := 12, slots := #[.int 0, .int 127, .ref 2, .null, .int 0], vm := .statics 12 },
  { cls := 18, slots := #[.ref 3, .ref 4, .ref 5, .ref 6, .ref 7, .ref 8, .ref 9, .ref 10, .ref 11, .ref 12, .ref 13, .ref 14, .ref 15, .ref 16, .ref 17, .ref 18, .ref 19, .ref 20, .ref 21, .ref 22, .ref 23, .ref 24, .ref 25, .ref 26, .ref 27, .ref 28, .ref 29, .ref 30, .ref 31, .ref 32, .ref 33, .ref 34, .ref 35, .ref 36, .ref 37, .ref 38, .ref 39, .ref 40, .ref 41, .ref 42, .ref 43, .ref 44, .ref 45, .ref 46, .ref 47, .ref 48, .ref 49, .ref 50, .ref 51, .ref 52, .ref 53, .ref 54, .ref 55, .ref 56, .ref 57, .ref 58, .ref 59, .ref 60, .ref 61, .ref 62, .ref 63, .ref 64, .ref 65, .ref 66, .ref 67, .ref 68, .ref 69, .ref 70, .ref 71, .ref 72, .ref 73, .ref 74, .ref 75, .ref 76, .ref 77, .ref 78, .ref 79, .ref 80, .ref 81, .ref 82, .ref 83, .ref 84, .ref 85, .ref 86, .ref 87, .ref 88, .ref 89, .ref 90, .ref 91, .ref 92, .ref 93, .ref 94, .ref 95, .ref 96, .ref 97, .ref 98, .ref 99, .ref 100, .ref 101, .ref 102, .ref 103, .ref 104, .ref 105, .ref 106, .ref 107, .ref 108, .ref 109, .ref 110, .ref 111, .ref 112, .ref 113, .ref 114, .ref 115, .ref 116, .ref 117, .ref 118, .ref 119, .ref 120, .ref 121, .ref 122, .ref 123, .ref 124, .ref 125, .ref 126, .ref 127, .ref 128, .ref 129, .ref 130, .ref 131, .ref 132, .ref 133, .ref 134, .ref 135, .ref 136, .ref 137, .ref 138, .ref 139, .ref 140, .ref 141, .ref 142, .ref 143, .ref 144, .ref 145, .ref 146, .ref 147, .ref 148, .ref 149, .ref 150, .ref 151, .ref 152, .ref 153, .ref 154, .ref 155, .ref 156, .ref 157, .ref 158, .ref 159, .ref 160, .ref 161, .ref 162, .ref 163, .ref 164, .ref 165, .ref 166, .ref 167, .ref 168, .ref 169, .ref 170, .ref 171, .ref 172, .ref 173, .ref 174, .ref 175, .ref 176, .ref 177, .ref 178, .ref 179, .ref 180, .ref 181, .ref 182, .ref 183, .ref 184, .ref 185, .ref 186, .ref 187, .ref 188, .ref 189, .ref 190, .ref 191, .ref 192, .ref 193, .ref 194, .ref 195, .ref 196, .ref 197, .ref 198, .ref 199, .ref 200, .ref 201, .ref 202, .ref 203, .ref 204, .ref 205, .ref 206, .ref 207, .ref 208, .ref 209, .ref 210, .ref 211, .ref 212, .ref 213, .ref 214, .ref 215, .ref 216, .ref 217, .ref 218, .ref 219, .ref 220, .ref 221, .ref 222, .ref 223, .ref 224, .ref 225, .ref 226, .ref 227, .ref 228, .ref 229, .ref 230, .ref 231, .ref 232, .ref 233, .ref 234, .ref 235, .ref 236, .ref 237, .ref 238, .ref 239, .ref 240, .ref 241, .ref 242, .ref 243, .ref 244, .ref 245, .ref 246, .ref 247, .ref 248, .ref 249, .ref 250, .ref 251, .ref 252, .ref 253, .ref 254, .ref 255, .ref 256, .ref 257, .ref 258], vm := .none },
  { cls := 11, slots := #[.int (-128)], vm := .none },
  { cls := 11, slots := #[.int (-127)], vm := .none },
  { cls := 11, slots := #[.int (-126)], vm := .none },
  { cls := 11, slots := #[.int (-125)], vm := .none },
  { cls := 11, slots := #[.int (-124)], vm := .none },
  { cls := 11, slots := #[.int (-123)], vm := .none },
  { cls := 11, slots := #[.int (-122)], vm := .none },
  { cls := 11, slots := #[.int (-121)], vm := .none },
  { cls := 11, slots := #[.int (-120)], vm := .none },
  { cls := 11, slots := #[.int (-119)], vm := .none },
  { cls := 11, slots := #[.int (-118)], vm := .none },
  { cls := 11, slots := #[.int (-117)], vm := .none },
  { cls := 11, slots := #[.int (-116)], vm := .none },
  { cls := 11, slots := #[.int (-115)], vm := .none },
  { cls := 11, slots := #[.int (-114)], vm := .none },
  { cls := 11, slots := #[.int (-113)], vm := .none },
  { cls := 11, slots := #[.int (-112)], vm := .none },
  { cls := 11, slots := #[.int (-111)], vm := .none },
  { cls := 11, slots := #[.int (-110)], vm := .none },
  { cls := 11, slots := #[.int (-109)], vm := .none },
  { cls := 11, slots := #[.int (-108)], vm := .none },
  { cls := 11, slots := #[.int (-107)], vm := .none },
  { cls := 11, slots := #[.int (-106)], vm := .none },
  { cls := 11, slots := #[.int (-105)], vm := .none },
  { cls := 11, slots := #[.int (-104)], vm := .none },
  { cls := 11, slots := #[.int (-103)], vm := .none },
  { cls := 11, slots := #[.int (-102)], vm := .none },
  { cls := 11, slots := #[.int (-101)], vm := .none },
  { cls := 11, slots := #[.int (-100)], vm := .none },
  { cls := 11, slots := #[.int (-99)], vm := .none },
  { cls := 11, slots := #[.int (-98)], vm := .none },
  { cls := 11, slots := #[.int (-97)], vm := .none },
  { cls := 11, slots := #[.int (-96)], vm := .none },
  { cls := 11, slots := #[.int (-95)], vm := .none },
  { cls := 11, slots := #[.int (-94)], vm := .none },
  { cls := 11, slots := #[.int (-93)], vm := .none },
  { cls := 11, slots := #[.int (-92)], vm := .none },
  { cls := 11, slots := #[.int (-91)], vm := .none },
  { cls := 11, slots := #[.int (-90)], vm := .none },
  { cls := 11, slots := #[.int (-89)], vm := .none },
  { cls := 11, slots := #[.int (-88)], vm := .none },
  { cls := 11, slots := #[.int (-87)], vm := .none },
  { cls := 11, slots := #[.int (-86)], vm := .none },
  { cls := 11, slots := #[.int (-85)], vm := .none },
  { cls := 11, slots := #[.int (-84)], vm := .none },
  { cls := 11, slots := #[.int (-83)], vm := .none },
  { cls := 11, slots := #[.int (-82)], vm := .none },
  { cls := 11, slots := #[.int (-81)], vm := .none },
  { cls := 11, slots := #[.int (-80)], vm := .none },
  { cls := 11, slots := #[.int (-79)], vm := .none },
  { cls := 11, slots := #[.int (-78)], vm := .none },
  { cls := 11, slots := #[.int (-77)], vm := .none },
  { cls := 11, slots := #[.int (-76)], vm := .none },
  { cls := 11, slots := #[.int (-75)], vm := .none },
  { cls := 11, slots := #[.int (-74)], vm := .none },
  { cls := 11, slots := #[.int (-73)], vm := .none },
  { cls := 11, slots := #[.int (-72)], vm := .none },
  { cls := 11, slots := #[.int (-71)], vm := .none },
  { cls := 11, slots := #[.int (-70)], vm := .none },
  { cls := 11, slots := #[.int (-69)], vm := .none },
  { cls := 11, slots := #[.int (-68)], vm := .none },
  { cls := 11, slots := #[.int (-67)], vm := .none },
  { cls := 11, slots := #[.int (-66)], vm := .none },
  { cls := 11, slots := #[.int (-65)], vm := .none },
  { cls := 11, slots := #[.int (-64)], vm := .none },
  { cls := 11, slots := #[.int (-63)], vm := .none },
  { cls := 11, slots := #[.int (-62)], vm := .none },
  { cls := 11, slots := #[.int (-61)], vm := .none },
  { cls := 11, slots := #[.int (-60)], vm := .none },
  { cls := 11, slots := #[.int (-59)], vm := .none },
  { cls := 11, slots := #[.int (-58)], vm := .none },
  { cls := 11, slots := #[.int (-57)], vm := .none },
  { cls := 11, slots := #[.int (-56)], vm := .none },
  { cls := 11, slots := #[.int (-55)], vm := .none },
  { cls := 11, slots := #[.int (-54)], vm := .none },
  { cls := 11, slots := #[.int (-53)], vm := .none },
  { cls := 11, slots := #[.int (-52)], vm := .none },
  { cls := 11, slots := #[.int (-51)], vm := .none },
  { cls := 11, slots := #[.int (-50)], vm := .none },
  { cls := 11, slots := #[.int (-49)], vm := .none },
  { cls := 11, slots := #[.int (-48)], vm := .none },
  { cls := 11, slots := #[.int (-47)], vm := .none },
  { cls := 11, slots := #[.int (-46)], vm := .none },
  { cls := 11, slots := #[.int (-45)], vm := .none },
  { cls := 11, slots := #[.int (-44)], vm := .none },
  { cls := 11, slots := #[.int (-43)], vm := .none },
  { cls := 11, slots := #[.int (-42)], vm := .none },
  { cls := 11, slots := #[.int (-41)], vm := .none },
  { cls := 11, slots := #[.int (-40)], vm := .none },
  { cls := 11, slots := #[.int (-39)], vm := .none },
  { cls := 11, slots := #[.int (-38)], vm := .none },
  { cls := 11, slots := #[.int (-37)], vm := .none },
  { cls := 11, slots := #[.int (-36)], vm := .none },
  { cls := 11, slots := #[.int (-35)], vm := .none },
  { cls := 11, slots := #[.int (-34)], vm := .none },
  { cls := 11, slots := #[.int (-33)], vm := .none },
  { cls := 11, slots := #[.int (-32)], vm := .none },
  { cls := 11, slots := #[.int (-31)], vm := .none },
  { cls := 11, slots := #[.int (-30)], vm := .none },
  { cls := 11, slots := #[.int (-29)], vm := .none },
  { cls := 11, slots := #[.int (-28)], vm := .none },
  { cls := 11, slots := #[.int (-27)], vm := .none },
  { cls := 11, slots := #[.int (-26)], vm := .none },
  { cls := 11, slots := #[.int (-25)], vm := .none },
  { cls := 11, slots := #[.int (-24)], vm := .none },
  { cls := 11, slots := #[.int (-23)], vm := .none },
  { cls := 11, slots := #[.int (-22)], vm := .none },
  { cls := 11, slots := #[.int (-21)], vm := .none },
  { cls := 11, slots := #[.int (-20)], vm := .none },
  { cls := 11, slots := #[.int (-19)], vm := .none },
  { cls := 11, slots := #[.int (-18)], vm := .none },
  { cls := 11, slots := #[.int (-17)], vm := .none },
  { cls := 11, slots := #[.int (-16)], vm := .none },
  { cls := 11, slots := #[.int (-15)], vm := .none },
  { cls := 11, slots := #[.int (-14)], vm := .none },
  { cls := 11, slots := #[.int (-13)], vm := .none },
  { cls := 11, slots := #[.int (-12)], vm := .none },
  { cls := 11, slots := #[.int (-11)], vm := .none },
  { cls := 11, slots := #[.int (-10)], vm := .none },
  { cls := 11, slots := #[.int (-9)], vm := .none },
  { cls := 11, slots := #[.int (-8)], vm := .none },
  { cls := 11, slots := #[.int (-7)], vm := .none },
  { cls := 11, slots := #[.int (-6)], vm := .none },
  { cls := 11, slots := #[.int (-5)], vm := .none },
  { cls := 11, slots := #[.int (-4)], vm := .none },
  { cls := 11, slots := #[.int (-3)], vm := .none },
  { cls := 11, slots := #[.int (-2)], vm := .none },
  { cls := 11, slots := #[.int (-1)], vm := .none },
  { cls := 11, slots := #[.int 0], vm := .none },
  { cls := 11, slots := #[.int 1], vm := .none },
  { cls := 11, slots := #[.int 2], vm := .none },
  { cls := 11, slots := #[.int 3], vm := .none },
  { cls := 11, slots := #[.int 4], vm := .none },
  { cls := 11, slots := #[.int 5], vm := .none },
  { cls := 11, slots := #[.int 6], vm := .none },
  { cls := 11, slots := #[.int 7], vm := .none },
  { cls := 11, slots := #[.int 8], vm := .none },
  { cls := 11, slots := #[.int 9], vm := .none },
  { cls := 11, slots := #[.int 10], vm := .none },
  { cls := 11, slots := #[.int 11], vm := .none },
  { cls := 11, slots := #[.int 12], vm := .none },
  { cls := 11, slots := #[.int 13], vm := .none },
  { cls := 11, slots := #[.int 14], vm := .none },
  { cls := 11, slots := #[.int 15], vm := .none },
  { cls := 11, slots := #[.int 16], vm := .none },
  { cls := 11, slots := #[.int 17], vm := .none },
  { cls := 11, slots := #[.int 18], vm := .none },
  { cls := 11, slots := #[.int 19], vm := .none },
  { cls := 11, slots := #[.int 20], vm := .none },
  { cls := 11, slots := #[.int 21], vm := .none },
  { cls := 11, slots := #[.int 22], vm := .none },
  { cls := 11, slots := #[.int 23], vm := .none },
  { cls := 11, slots := #[.int 24], vm := .none },
  { cls := 11, slots := #[.int 25], vm := .none },
  { cls := 11, slots := #[.int 26], vm := .none },
  { cls := 11, slots := #[.int 27], vm := .none },
  { cls := 11, slots := #[.int 28], vm := .none },
  { cls := 11, slots := #[.int 29], vm := .none },
  { cls := 11, slots := #[.int 30], vm := .none },
  { cls := 11, slots := #[.int 31], vm := .none },
  { cls := 11, slots := #[.int 32], vm := .none },
  { cls := 11, slots := #[.int 33], vm := .none },
  { cls := 11, slots := #[.int 34], vm := .none },
  { cls := 11, slots := #[.int 35], vm := .none },
  { cls := 11, slots := #[.int 36], vm := .none },
  { cls := 11, slots := #[.int 37], vm := .none },
  { cls := 11, slots := #[.int 38], vm := .none },
  { cls := 11, slots := #[.int 39], vm := .none },
  { cls := 11, slots := #[.int 40], vm := .none },
  { cls := 11, slots := #[.int 41], vm := .none },
  { cls := 11, slots := #[.int 42], vm := .none },
  { cls := 11, slots := #[.int 43], vm := .none },
  { cls := 11, slots := #[.int 44], vm := .none },
  { cls := 11, slots := #[.int 45], vm := .none },
  { cls := 11, slots := #[.int 46], vm := .none },
  { cls := 11, slots := #[.int 47], vm := .none },
  { cls := 11, slots := #[.int 48], vm := .none },
  { cls := 11, slots := #[.int 49], vm := .none },
  { cls := 11, slots := #[.int 50], vm := .none },
  { cls := 11, slots := #[.int 51], vm := .none },
  { cls := 11, slots := #[.int 52], vm := .none },
  { cls := 11, slots := #[.int 53], vm := .none },
  { cls := 11, slots := #[.int 54], vm := .none },
  { cls := 11, slots := #[.int 55], vm := .none },
  { cls := 11, slots := #[.int 56], vm := .none },
  { cls := 11, slots := #[.int 57], vm := .none },
  { cls := 11, slots := #[.int 58], vm := .none },
  { cls := 11, slots := #[.int 59], vm := .none },
  { cls := 11, slots := #[.int 60], vm := .none },
  { cls := 11, slots := #[.int 61], vm := .none },
  { cls := 11, slots := #[.int 62], vm := .none },
  { cls := 11, slots := #[.int 63], vm := .none },
  { cls := 11, slots := #[.int 64], vm := .none },
  { cls := 11, slots := #[.int 65], vm := .none },
  { cls := 11, slots := #[.int 66], vm := .none },
  { cls := 11, slots := #[.int 67], vm := .none },
  { cls := 11, slots := #[.int 68], vm := .none },
  { cls := 11, slots := #[.int 69], vm := .none },
  { cls := 11, slots := #[.int 70], vm := .none },
  { cls := 11, slots := #[.int 71], vm := .none },
  { cls := 11, slots := #[.int 72], vm := .none },
  { cls := 11, slots := #[.int 73], vm := .none },
  { cls := 11, slots := #[.int 74], vm := .none },
  { cls := 11, slots := #[.int 75], vm := .none },
  { cls := 11, slots := #[.int 76], vm := .none },
  { cls := 11, slots := #[.int 77], vm := .none },
  { cls := 11, slots := #[.int 78], vm := .none },
  { cls := 11, slots := #[.int 79], vm := .none },
  { cls := 11, slots := #[.int 80], vm := .none },
  { cls := 11, slots := #[.int 81], vm := .none },
  { cls := 11, slots := #[.int 82], vm := .none },
  { cls := 11, slots := #[.int 83], vm := .none },
  { cls := 11, slots := #[.int 84], vm := .none },
  { cls := 11, slots := #[.int 85], vm := .none },
  { cls := 11, slots := #[.int 86], vm := .none },
  { cls := 11, slots := #[.int 87], vm := .none },
  { cls := 11, slots := #[.int 88], vm := .none },
  { cls := 11, slots := #[.int 89], vm := .none },
  { cls := 11, slots := #[.int 90], vm := .none },
  { cls := 11, slots := #[.int 91], vm := .none },
  { cls := 11, slots := #[.int 92], vm := .none },
  { cls := 11, slots := #[.int 93], vm := .none },
  { cls := 11, slots := #[.int 94], vm := .none },
  { cls := 11, slots := #[.int 95], vm := .none },
  { cls := 11, slots := #[.int 96], vm := .none },
  { cls := 11, slots := #[.int 97], vm := .none },
  { cls := 11, slots := #[.int 98], vm := .none },
  { cls := 11, slots := #[.int 99], vm := .none },
  { cls := 11, slots := #[.int 100], vm := .none },
  { cls := 11, slots := #[.int 101], vm := .none },
  { cls := 11, slots := #[.int 102], vm := .none },
  { cls := 11, slots := #[.int 103], vm := .none },
  { cls := 11, slots := #[.int 104], vm := .none },
  { cls := 11, slots := #[.int 105], vm := .none },
  { cls := 11, slots := #[.int 106], vm := .none },
  { cls := 11, slots := #[.int 107], vm := .none },
  { cls := 11, slots := #[.int 108], vm := .none },
  { cls := 11, slots := #[.int 109], vm := .none },
  { cls := 11, slots := #[.int 110], vm := .none },
  { cls := 11, slots := #[.int 111], vm := .none },
  { cls := 11, slots := #[.int 112], vm := .none },
  { cls := 11, slots := #[.int 113], vm := .none },
  { cls := 11, slots := #[.int 114], vm := .none },
  { cls := 11, slots := #[.int 115], vm := .none },
  { cls := 11, slots := #[.int 116], vm := .none },
  { cls := 11, slots := #[.int 117], vm := .none },
  { cls := 11, slots := #[.int 118], vm := .none },
  { cls := 11, slots := #[.int 119], vm := .none },
  { cls := 11, slots := #[.int 120], vm := .none },
  { cls := 11, slots := #[.int 121], vm := .none },
  { cls := 11, slots := #[.int 122], vm := .none },
  { cls := 11, slots := #[.int 123], vm := .none },
  { cls := 11, slots := #[.int 124], vm := .none },
  { cls := 11, slots := #[.int 125], vm := .none },
  { cls := 11, slots := #[.int 126], vm := .none },
  { cls := 11, slots := #[.int 127], vm := .none },
  { cls := 6, slots := #[.null, .int 1, .int 0, .null, .int 0, .int 0], vm := .none },
  { cls := 6, slots := #[.null, .int 0, .int 0, .null, .int 0, .int 0], vm := .none }]
def classes : Array Class := #[k0, k1, k2, k3, k4, k5, k6, k7, k8, k9, k10, k11, k12, k13, k14, k15, k16, k17, k18]
def interned : List (Array UInt16 × Addr) := []
def slotsUsed : Nat := 558
def theMethod : MethodId := ⟨1, 1⟩
def args0 : Array Value := #[.int 3, .int 7, .int 5]
def aboutOver (below : List Frame) : State where
  vm := { classes := classes, interned := interned.toArray }
  heap := heap
  slotsUsed := slotsUsed
  threads := #[{ frames := .invoking theMethod args0 :: below }]
def below0 : List Frame := [.native { method := ⟨0, 0⟩, args := #[] }]
def about1 : State := aboutOver below0
def p0 : Program := .bare "" "" ""
def e0 : Env := launch0.env 0 0 0
theorem w_frames : about1.frames = Frame.invoking theMethod args0 :: below0 := rfl
set_option maxRecDepth 65536 in
theorem w_args : argsFit about1.vm theMethod args0 = true := by decide +kernel
set_option maxRecDepth 65536 in
theorem w_heap : heapFits about1 = true := by decide +kernel
set_option maxRecDepth 65536 in
theorem w_runnable : about1.curStatus? = some .runnable := by decide +kernel
set_option maxRecDepth 65536 in
theorem w_alone : about1.alone = true := by decide +kernel
set_option maxRecDepth 65536 in
theorem w_named : about1.methodNamed? x = some theMethod := by decide +kernel
set_option maxRecDepth 65536 in
theorem w_hears : about1.hears theMethod below0 = true := by decide +kernel
set_option maxRecDepth 65536 in
theorem w_ripe : about1.ripe theMethod args0 below0 = true := by decide +kernel
theorem w_running : about1.status = .running := rfl
set_option maxRecDepth 65536 in
theorem w_room : about1.hasRoom e0.platform room_1 = true :=
  launch0.hasRoom_least _ room_1 (by decide +kernel) (by decide +kernel) (by decide +kernel) (by decide +kernel) (by decide +kernel) (by decide +kernel)
theorem allAtoms_all (ts : List Jvm.Cond) (a : Array Jvm.Value) (st : Jvm.State) : (allAtoms ts).before a st = ts.all (fun c => c.before a st) := by
  induction ts with
  | nil => rfl
  | cons c t ih =>
    show (Jvm.Cond.and c (allAtoms t)).before a st = _
    rw [Jvm.Cond.before_and, ih, List.all_cons]
def words1 : List Jvm.Cond := Jvm.Cond.code x code maxLocals ret :: tables_1
/-- a 'code' word, met by the world's own term for the bytes: nothing is compared byte by byte -/
theorem code_word {y : MethodName} {bytes : ByteArray} {mx : Nat} {rt : Option FieldType} {a : Array Value} {s : State} {m : MethodId} {meth : Method} {c : Code} (h1 : s.methodNamed? y = some m) (h2 : s.vm.method? m = some meth) (h3 : meth.code = some c) (h4 : c.code = bytes)
    (h5 : (c.maxLocals == mx && c.exceptionTable.isEmpty && decide (c.maxStack ≤ mostOperands) && decide (meth.sig.returnType = rt) && !meth.locks && decide (parseMethodDescriptor y.desc = some meth.sig)) = true) : (Jvm.Cond.code y bytes mx rt).before a s = true := by
  simp only [Bool.and_eq_true, beq_iff_eq, Bool.not_eq_true', decide_eq_true_eq] at h5
  obtain ⟨⟨⟨⟨⟨g1, g2⟩, g3⟩, g4⟩, g5⟩, g6⟩ := h5
  simp [Cond.before, Cond.holds, Cond.value, h1, h2, h3, h4, g1, g2, g3, g4, g5, g6]
def isCode : Jvm.Cond → Bool
  | .code _ _ _ _ => true
  | _ => false
theorem all_split {L : List Jvm.Cond} {P : Jvm.Cond → Bool} (h1 : L.all (fun c => isCode c || P c) = true) (h2 : ∀ c ∈ L.filter isCode, P c = true) : L.all P = true := by
  refine List.all_eq_true.mpr fun c hc => ?_
  have h := List.all_eq_true.mp h1 c hc
  rcases Bool.eq_false_or_eq_true (isCode c) with hi | hi
  · exact h2 c (List.mem_filter.mpr ⟨hc, hi⟩)
  · simpa [hi] using h
set_option maxRecDepth 65536 in
theorem w_c0 : (Jvm.Cond.code x code maxLocals ret).before args0 about1 = true := code_word (m := ⟨1, 1⟩) (meth := k1m1) (c := k1c1) (by decide +kernel) rfl rfl rfl (by decide +kernel)
set_option maxRecDepth 65536 in
theorem w_c1 : (Jvm.Cond.code ({ cls := "com/example/tagwire/tagwire/HalfFloat", name := "<init>", desc := "(Lcom/example/tagwire/tagwire/NumberType;S)V" } : Jvm.MethodName) prog_26_method_1_code (3 : Nat) (Option.none : Option Jvm.ClassFile.FieldType)).before args0 about1 = true := code_word (m := ⟨7, 0⟩) (meth := k7m0) (c := k7c0) (by decide +kernel) rfl rfl rfl (by decide +kernel)
set_option maxRecDepth 65536 in
theorem w_c2 : (Jvm.Cond.code ({ cls := "java/lang/Object", name := "<init>", desc := "()V" } : Jvm.MethodName) object_method_1_code (1 : Nat) (Option.none : Option Jvm.ClassFile.FieldType)).before args0 about1 = true := code_word (m := ⟨0, 0⟩) (meth := k0m0) (c := k0c0) (by decide +kernel) rfl rfl rfl (by decide +kernel)
set_option maxRecDepth 65536 in
theorem w_c3 : (Jvm.Cond.code ({ cls := "com/example/tagwire/tagwire/HalfFloat", name := "checkType", desc := "(Lcom/example/tagwire/tagwire/NumberType;)V" } : Jvm.MethodName) prog_26_method_3_code (1 : Nat) (Option.none : Option Jvm.ClassFile.FieldType)).before args0 about1 = true := code_word (m := ⟨7, 1⟩) (meth := k7m1) (c := k7c1) (by decide +kernel) rfl rfl rfl (by decide +kernel)
set_option maxRecDepth 65536 in
theorem w_c4 : (Jvm.Cond.code ({ cls := "java/util/Objects", name := "requireNonNull", desc := "(Ljava/lang/Object;)Ljava/lang/Object;" } : Jvm.MethodName) jdk_31_method_10_code (1 : Nat) (Option.some (Jvm.ClassFile.FieldType.object "java/lang/Object"))).before args0 about1 = true := code_word (m := ⟨8, 1⟩) (meth := k8m1) (c := k8c1) (by decide +kernel) rfl rfl rfl (by decide +kernel)
set_option maxRecDepth 65536 in
theorem w_c5 : (Jvm.Cond.code ({ cls := "com/example/tagwire/tagwire/HalfFloat", name := "equals", desc := "(Ljava/lang/Object;)Z" } : Jvm.MethodName) prog_26_method_9_code (2 : Nat) (Option.some Jvm.ClassFile.FieldType.boolean)).before args0 about1 = true := code_word (m := ⟨7, 2⟩) (meth := k7m2) (c := k7c2) (by decide +kernel) rfl rfl rfl (by decide +kernel)
set_option maxRecDepth 65536 in
theorem w_c6 : (Jvm.Cond.code ({ cls := "java/lang/Integer", name := "valueOf", desc := "(I)Ljava/lang/Integer;" } : Jvm.MethodName) jdk_33_method_22_code (1 : Nat) (Option.some (Jvm.ClassFile.FieldType.object "java/lang/Integer"))).before args0 about1 = true := code_word (m := ⟨11, 0⟩) (meth := k11m0) (c := k11c0) (by decide +kernel) rfl rfl rfl (by decide +kernel)
set_option maxRecDepth 65536 in
theorem w_c7 : (Jvm.Cond.code ({ cls := "java/lang/Integer", name := "<init>", desc := "(I)V" } : Jvm.MethodName) jdk_33_method_23_code (2 : Nat) (Option.none : Option Jvm.ClassFile.FieldType)).before args0 about1 = true := code_word (m := ⟨11, 1⟩) (meth := k11m1) (c := k11c1) (by decide +kernel) rfl rfl rfl (by decide +kernel)
set_option maxRecDepth 65536 in
theorem w_c8 : (Jvm.Cond.code ({ cls := "java/lang/Number", name := "<init>", desc := "()V" } : Jvm.MethodName) jdk_18_method_1_code (1 : Nat) (Option.none : Option Jvm.ClassFile.FieldType)).before args0 about1 = true := code_word (m := ⟨9, 0⟩) (meth := k9m0) (c := k9c0) (by decide +kernel) rfl rfl rfl (by decide +kernel)
def codes1 : List Jvm.Cond := [Jvm.Cond.code x code maxLocals ret, Jvm.Cond.code ({ cls := "com/example/tagwire/tagwire/HalfFloat", name := "<init>", desc := "(Lcom/example/tagwire/tagwire/NumberType;S)V" } : Jvm.MethodName) prog_26_method_1_code (3 : Nat) (Option.none : Option Jvm.ClassFile.FieldType), Jvm.Cond.code ({ cls := "java/lang/Object", name := "<init>", desc := "()V" } : Jvm.MethodName) object_method_1_code (1 : Nat) (Option.none : Option Jvm.ClassFile.FieldType), Jvm.Cond.code ({ cls := "com/example/tagwire/tagwire/HalfFloat", name := "checkType", desc := "(Lcom/example/tagwire/tagwire/NumberType;)V" } : Jvm.MethodName) prog_26_method_3_code (1 : Nat) (Option.none : Option Jvm.ClassFile.FieldType), Jvm.Cond.code ({ cls := "java/util/Objects", name := "requireNonNull", desc := "(Ljava/lang/Object;)Ljava/lang/Object;" } : Jvm.MethodName) jdk_31_method_10_code (1 : Nat) (Option.some (Jvm.ClassFile.FieldType.object "java/lang/Object")), Jvm.Cond.code ({ cls := "com/example/tagwire/tagwire/HalfFloat", name := "equals", desc := "(Ljava/lang/Object;)Z" } : Jvm.MethodName) prog_26_method_9_code (2 : Nat) (Option.some Jvm.ClassFile.FieldType.boolean), Jvm.Cond.code ({ cls := "java/lang/Integer", name := "valueOf", desc := "(I)Ljava/lang/Integer;" } : Jvm.MethodName) jdk_33_method_22_code (1 : Nat) (Option.some (Jvm.ClassFile.FieldType.object "java/lang/Integer")), Jvm.Cond.code ({ cls := "java/lang/Integer", name := "<init>", desc := "(I)V" } : Jvm.MethodName) jdk_33_method_23_code (2 : Nat) (Option.none : Option Jvm.ClassFile.FieldType), Jvm.Cond.code ({ cls := "java/lang/Number", name := "<init>", desc := "()V" } : Jvm.MethodName) jdk_18_method_1_code (1 : Nat) (Option.none : Option Jvm.ClassFile.FieldType)]
set_option maxRecDepth 65536 in
theorem codes_eq : words1.filter isCode = codes1 := rfl
theorem w_codes : ∀ c ∈ words1.filter isCode, c.before args0 about1 = true := by
  rw [codes_eq]
  intro c hc
  simp only [codes1, List.mem_cons, List.not_mem_nil, or_false] at hc
  rcases hc with rfl | rfl | rfl | rfl | rfl | rfl | rfl | rfl | rfl
  · exact w_c0
  · exact w_c1
  · exact w_c2
  · exact w_c3
  · exact w_c4
  · exact w_c5
  · exact w_c6
  · exact w_c7
  · exact w_c8
set_option maxRecDepth 65536 in
theorem w_t1 : (words1.take 24).all (fun c => isCode c || c.before args0 about1) = true := by decide +kernel
set_option maxRecDepth 65536 in
theorem w_t2 : ((words1.drop 24).take 24).all (fun c => isCode c || c.before args0 about1) = true := by decide +kernel
set_option maxRecDepth 65536 in
theorem w_t3 : ((words1.drop 24).drop 24).all (fun c => isCode c || c.before args0 about1) = true := by decide +kernel
theorem w_tables : (allAtoms (Jvm.Cond.code x code maxLocals ret :: tables_1)).before args0 about1 = true := by
  rw [allAtoms_all]
  show words1.all (fun c => c.before args0 about1) = true
  refine all_split ?_ w_codes
  rw [← List.take_append_drop 24 words1, List.all_append, w_t1, ← List.take_append_drop 24 (words1.drop 24), List.all_append, w_t2, w_t3]
  rfl
set_option maxRecDepth 65536 in
theorem w_rest : rest_1_c.before args0 about1 = true := by decide +kernel
set_option maxRecDepth 65536 in
theorem w_case : (Jvm.Cond.and given_1 narrow_1).before args0 about1 = true := by decide +kernel
theorem w_applies : (headSpec (Jvm.Cond.code x code maxLocals ret :: tables_1) room_1).applies x e0.platform about1 = true :=
  (Spec.applies_iff w_frames).mpr ⟨w_running, w_runnable, w_alone, w_named, w_hears, w_ripe, w_room, w_tables⟩
theorem atStart : AtStart classFile x code maxLocals ret World_1 tables_1 room_1 Calls_1 rest_1 Pre_1 launch0 p0 e0 about1 theMethod args0 below0 :=
  ⟨lists_1, trivial, launch0.admits_env _ _ _, launch0.least_env, fairChoices_fair.cas, fairChoices_fair.clock, w_frames, w_args, w_heap, w_applies, trivial, w_rest, w_case⟩
end start1
theorem witness_1 : WitnessClaimed_1 := ⟨start1.p0, start1.e0, start1.about1, start1.theMethod, start1.args0, start1.below0, start1.atStart⟩
end Jvm.Pilot.@@N@@
