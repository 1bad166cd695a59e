import JvmDerived
import JvmDerived.Pilot.@@N@@Statement
import JvmDerived.Pilot.@@N@@Code
set_option linter.unusedVariables false
set_option linter.unusedSimpArgs false
namespace Jvm.RoadKit
open Sem ClassFile Op Lib Jvm.Stand Jvm.Free Jvm.LawKit
section New
variable {p : Program} {l : Launch} {e : Env} {R : Room} {s : State} {m : MethodId} {args : Array Value} {below : List Frame} {meth : Method} {c : Code} {T : State} {locs : List Loc} {cells slots : Nat}
theorem retI (X : Stand p l e R s m args below meth c T locs cells slots) (hx : p.tables.exec = Jvm.exec) {pc : Nat} {Ls : Array Slot} {z : Int32} {rest : List Value} (hret : meth.sig.returnType = some .int) (hd : decode c.code pc = .ok (.ireturn, 1)) {fs : List Frame}
    (hl : ∀ (f : JFrame) (acts : List Action), f.method = m → f.locked = none → f.entered = [] → (doReturn e (T.setTop f) acts (some (.int z))).1 = T.setFrames fs) : Steps p.tables e below (T.setTop (mkF m pc Ls (.int z :: rest))) (T.setFrames fs) := by
  have hm' : T.vm.method? m = some meth := X.method'
  have hn : narrow .int (.int z) = .int z := rfl
  show Steps p.tables e below (T.setTop { method := m, pc := pc, locals := Ls, stack := _ :: rest, locked := none }) _
  jvm_step X.here [X.here.top, hx, hd, hm', hret, hn]
  first | (intro acts; rw [hl _ acts rfl rfl rfl]) | rw [hl _ _ rfl rfl rfl]
  exact Steps.refl _
end New
/-- from W the run comes to a state and an outcome of which K holds -/
def OwnEnds (tb : Tables) (e : Env) (below : List Frame) (K : State → Outcome → Prop) (W : State) : Prop := ∃ t o, Steps tb e below W t ∧ K t o
theorem OwnEnds.via {tb : Tables} {e : Env} {below : List Frame} {K : State → Outcome → Prop} {W W' : State} (f : ∀ t, Steps tb e below W' t → Steps tb e below W t) (h : OwnEnds tb e below K W') : OwnEnds tb e below K W := by
  obtain ⟨t, o, h1, h2⟩ := h
  exact ⟨t, o, f t h1, h2⟩
theorem OwnEnds.cut {tb : Tables} {e : Env} {below : List Frame} {K : State → Outcome → Prop} {W : State} (A : (State → Prop) → Prop) (h1 : A (OwnEnds tb e below K)) (h2 : A (OwnEnds tb e below K) → OwnEnds tb e below K W) : OwnEnds tb e below K W := h2 h1
end Jvm.RoadKit
namespace Jvm.Pilot.@@N@@
open Jvm Jvm.ClassFile Sem Op Lib Jvm.Free Jvm.Stand Jvm.LawKit Jvm.RoadKit Bundle Jvm.Pilot.@@N@@.Jvm.D
theorem d2_0 : decode jdk_30_method_1_code 0 = .ok (.aload_n 0, 1) := by decide +kernel
theorem d2_1 : decode jdk_30_method_1_code 1 = .ok (.invokespecial 1, 3) := by decide +kernel
theorem d2_4 : decode jdk_30_method_1_code 4 = .ok (.return_, 1) := by decide +kernel
theorem pn_rm2 : plainName "java/lang/Record" = true := by first | (simp [plainName, overriddenIn]; done) | decide +kernel
theorem ef_rm2 (m : MethodId) (a : Addr) : entryFrame m #[(.ref a)] 1 = mkF m 0 #[.val (.ref a)] [] := by first | (simp [entryFrame, mkF, argsToLocals, Value.category]; done) | rfl
def Q2 (Z : State) (a : Addr) (h0 : Heap) (n0 : Nat) (v : Option Value) (h : Heap) (L : List Loc) : Prop := v = none ∧ Fr n0 L ∧ h = h0
set_option maxRecDepth 65536 in
set_option maxHeartbeats 40000000 in
theorem rm2 (l : Launch) (Z : State) (a0 : Array Value) (hw : ∀ d ∈ tables_1, d.before a0 Z = true) (ws : List Jvm.Cond) (a : Addr) (h0 : Heap) (n0 : Nat) (Z0 : n0 ≤ h0.size)  :
    MetFree l (⟨"java/lang/Record", "<init>", "()V"⟩ : MethodName) (head1 (Jvm.Cond.code (⟨"java/lang/Record", "<init>", "()V"⟩ : MethodName) jdk_30_method_1_code 1 none :: ws) ({ frames := 1, cells := 0, slots := 0, locals := 12 } : Room)) (fun aa U => aa = #[(.ref a)] ∧ Z.Warmed39 U.vm ∧ U.heap = h0) (fun _ _ _ _ _ => True) (fun _ U o U' => ∃ v L, o = .returned v ∧ Q2 Z a h0 n0 v U'.heap L ∧ FrameEnd U o U' L ({ frames := 1, cells := 0, slots := 0, locals := 12 } : Room).cells ({ frames := 1, cells := 0, slots := 0, locals := 12 } : Room).slots) := by
  refine MetFree.of_bodySF (plainFor_of_name pn_rm2) hisR ?_
  intro p e s m args below meth c s₁ Bd hml0 hP hK
  obtain ⟨rfl, hZ, hh⟩ := hP
  have hx := Bd.exec
  have hby := Bd.bytes
  have hml : c.maxLocals = 1 := hml0
  have hown : s.vm.findClass "java/lang/Record" = some m.cls := findClass_of_methodNamed Bd.named
  have hnm := (name_of_methodNamed Bd.named Bd.method).1
  have X0 : Stand p l e ({ frames := 1, cells := 0, slots := 0, locals := 12 } : Room) s m #[(.ref a)] below meth c s₁ [] 0 0 := Stand.of_body Bd
  have e0 : s₁.heap = h0 := by rw [← hh, Bd.state]; rfl
  have N0 := Fr.nil n0
  change OwnEnds p.tables e below _ _
  refine OwnEnds.via (fun t k => castTop (ef_rm2 m a) k) ?_
  show OwnEnds _ _ _ _ (s₁.setTop (mkF m 0 #[.val (.ref a)] []))
  refine OwnEnds.via (fun t k => XS.aloadN X0.here hx rfl (hb hby d2_0) rfl rfl k) ?_
  show OwnEnds _ _ _ _ (s₁.setTop (mkF m 1 #[.val (.ref a)] [(.ref a)]))
  obtain ⟨T1, X1, e1, st1⟩ := initO X0 hx hZ hown (hw _ (List.mem_of_getElem? (i := 11) rfl)) (hw _ (List.mem_of_getElem? (i := 12) rfl)) (hw _ (List.mem_of_getElem? (i := 13) rfl)) e0 (g := (mkF m 1 #[.val (.ref a)] [(.ref a)])) rfl (by rw [hml]; rfl) rfl (hb hby d2_1) (by decide) (W := 0) (by show 2 * 0 + _ ≤ _; exact Nat.le_of_eq rfl) (by decide)
  refine OwnEnds.via st1 ?_
  show OwnEnds _ _ _ _ (T1.setTop (mkF m 4 #[.val (.ref a)] []))
  obtain ⟨fs, hr, hrun, hended, hW, hsame⟩ := X1.leave (v := none) (fun _ => rfl)
  refine ⟨_, _, ?_, hrun, hended, _, _, rfl, ?_, ⟨_, rfl⟩, hW, hsame.mono (by decide) (by decide)⟩
  · exact X1.returnOut hx Bd.returns (hb hby d2_4) hr
  · show Q2 Z a h0 n0 _ T1.heap _
    rw [e1]
    exact ⟨rfl, N0, rfl⟩

theorem d1_0 : decode prog_81_method_1_code 0 = .ok (.aload_n 0, 1) := by decide +kernel
theorem d1_1 : decode prog_81_method_1_code 1 = .ok (.invokespecial 1, 3) := by decide +kernel
theorem d1_4 : decode prog_81_method_1_code 4 = .ok (.aload_n 0, 1) := by decide +kernel
theorem d1_5 : decode prog_81_method_1_code 5 = .ok (.iload_n 1, 1) := by decide +kernel
theorem d1_6 : decode prog_81_method_1_code 6 = .ok (.putfield 7, 3) := by decide +kernel
theorem d1_9 : decode prog_81_method_1_code 9 = .ok (.aload_n 0, 1) := by decide +kernel
theorem d1_10 : decode prog_81_method_1_code 10 = .ok (.iload_n 2, 1) := by decide +kernel
theorem d1_11 : decode prog_81_method_1_code 11 = .ok (.putfield 13, 3) := by decide +kernel
theorem d1_14 : decode prog_81_method_1_code 14 = .ok (.return_, 1) := by decide +kernel
theorem pn_rm1 : plainName "com/example/pilcrow/pilcrow/Span" = true := by first | (simp [plainName, overriddenIn]; done) | decide +kernel
theorem pd_0 : parseMethodDescriptor "()V" = some ⟨[], none⟩ := by decide +kernel
theorem ef_rm1 (m : MethodId) (a : Addr) (pp : Int32) (qq : Int32) : entryFrame m #[(.ref a), (.int pp), (.int qq)] 3 = mkF m 0 #[.val (.ref a), .val (.int pp), .val (.int qq)] [] := by first | (simp [entryFrame, mkF, argsToLocals, Value.category]; done) | rfl
def Q1 (Z : State) (a : Addr) (pp : Int32) (qq : Int32) (h0 : Heap) (n0 : Nat) (v : Option Value) (h : Heap) (L : List Loc) : Prop := v = none ∧ Fr n0 L ∧ Keep h0 h [a] ∧ Exa Z h a "com/example/pilcrow/pilcrow/Span" ∧ Fld Z h a "com/example/pilcrow/pilcrow/Span" "first" "I" (.int pp) ∧ Fld Z h a "com/example/pilcrow/pilcrow/Span" "last" "I" (.int qq)
set_option maxRecDepth 65536 in
set_option maxHeartbeats 40000000 in
theorem rm1 (l : Launch) (Z : State) (a0 : Array Value) (hw : ∀ d ∈ tables_1, d.before a0 Z = true) (ws : List Jvm.Cond) (a : Addr) (pp : Int32) (qq : Int32) (h0 : Heap) (n0 : Nat) (Z0 : n0 ≤ h0.size) (P0 : Exa Z h0 a "com/example/pilcrow/pilcrow/Span") (P1 : Fld Z h0 a "com/example/pilcrow/pilcrow/Span" "first" "I" (.int (0 : Int32))) (P2 : Fld Z h0 a "com/example/pilcrow/pilcrow/Span" "last" "I" (.int (0 : Int32))) (P3 : n0 ≤ a) :
    MetFree l (⟨"com/example/pilcrow/pilcrow/Span", "<init>", "(II)V"⟩ : MethodName) (head1 (Jvm.Cond.code (⟨"com/example/pilcrow/pilcrow/Span", "<init>", "(II)V"⟩ : MethodName) prog_81_method_1_code 3 none :: ws) ({ frames := 2, cells := 0, slots := 0, locals := 24 } : Room)) (fun aa U => aa = #[(.ref a), (.int pp), (.int qq)] ∧ Z.Warmed39 U.vm ∧ U.heap = h0) (fun _ _ _ _ _ => True) (fun _ U o U' => ∃ v L, o = .returned v ∧ Q1 Z a pp qq h0 n0 v U'.heap L ∧ FrameEnd U o U' L ({ frames := 2, cells := 0, slots := 0, locals := 24 } : Room).cells ({ frames := 2, cells := 0, slots := 0, locals := 24 } : Room).slots) := by
  refine MetFree.of_bodySF (plainFor_of_name pn_rm1) hisR ?_
  intro p e s m args below meth c s₁ Bd hml0 hP hK
  obtain ⟨rfl, hZ, hh⟩ := hP
  have hx := Bd.exec
  have hby := Bd.bytes
  have hml : c.maxLocals = 3 := hml0
  have hown : s.vm.findClass "com/example/pilcrow/pilcrow/Span" = some m.cls := findClass_of_methodNamed Bd.named
  have hnm := (name_of_methodNamed Bd.named Bd.method).1
  have X0 : Stand p l e ({ frames := 2, cells := 0, slots := 0, locals := 24 } : Room) s m #[(.ref a), (.int pp), (.int qq)] below meth c s₁ [] 0 0 := Stand.of_body Bd
  have e0 : s₁.heap = h0 := by rw [← hh, Bd.state]; rfl
  have N0 := Fr.nil n0
  change OwnEnds p.tables e below _ _
  refine OwnEnds.via (fun t k => castTop (ef_rm1 m a pp qq) k) ?_
  show OwnEnds _ _ _ _ (s₁.setTop (mkF m 0 #[.val (.ref a), .val (.int pp), .val (.int qq)] []))
  refine OwnEnds.via (fun t k => XS.aloadN X0.here hx rfl (hb hby d1_0) rfl rfl k) ?_
  show OwnEnds _ _ _ _ (s₁.setTop (mkF m 1 #[.val (.ref a), .val (.int pp), .val (.int qq)] [(.ref a)]))
  obtain ⟨_, _, ⟨T1, L1, k1, n1⟩, -, X1, ⟨Lc1, hQ1, l1, y1, z1⟩, st1⟩ := X0.specialBack hx (y := (⟨"java/lang/Record", "<init>", "()V"⟩ : MethodName)) rfl hown (mvT hZ (hw _ (List.mem_of_getElem? (i := 6) rfl))) (mvT hZ (hw _ (List.mem_of_getElem? (i := 7) rfl))) (mvT hZ (hw _ (List.mem_of_getElem? (i := 10) rfl))) (by decide) (backOf (W := 0) (rm2 l Z a0 hw [] a h0 n0 Z0 ) hZ (hw _ (List.mem_of_getElem? (i := 10) rfl)) (hw _ (List.mem_of_getElem? (i := 9) rfl)) (by decide) (by decide)) (g := (mkF m 1 #[.val (.ref a), .val (.int pp), .val (.int qq)] [(.ref a)])) rfl (by rw [hml]; rfl) (Steps.refl _) (a := a) (argsL := []) (rest := []) (lenOf pd_0 rfl) rfl (by show 2 * 0 + _ ≤ _; exact Nat.le_of_eq rfl) (hb hby d1_1) (fun _ _ => ⟨rfl, e0, (by decide : 0 + 0 ≤ _), (by decide : 0 + 0 ≤ _)⟩)
  dsimp only [Pt.U, Pt.locs, Pt.cells, Pt.slots] at X1 l1 y1 z1 st1 hQ1
  subst l1 y1 z1
  obtain ⟨rfl, Nq1, e1⟩ := hQ1
  have N1 := Fr.app N0 Nq1
  refine OwnEnds.via (fun t k => st1.trans k) ?_
  show OwnEnds _ _ _ _ (T1.setTop (mkF m 4 #[.val (.ref a), .val (.int pp), .val (.int qq)] []))
  refine OwnEnds.via (fun t k => XS.aloadN X1.here hx rfl (hb hby d1_4) rfl rfl k) ?_
  show OwnEnds _ _ _ _ (T1.setTop (mkF m 5 #[.val (.ref a), .val (.int pp), .val (.int qq)] [(.ref a)]))
  refine OwnEnds.via (fun t k => XS.iloadN X1.here hx rfl (hb hby d1_5) rfl k) ?_
  show OwnEnds _ _ _ _ (T1.setTop (mkF m 6 #[.val (.ref a), .val (.int pp), .val (.int qq)] [(.int pp), (.ref a)]))
  obtain ⟨T2, h2, X2, e2, W2, st2⟩ := putF X1 hx hZ hown (host := "") (Or.inl (hw _ (List.mem_of_getElem? (i := 14) rfl))) Via.refl e1 P1 P0 (Or.inr ⟨(hw _ (List.mem_of_getElem? (i := 15) rfl)), rfl, hnm⟩) (hw _ (List.mem_of_getElem? (i := 1) rfl)) (ty := .int) (by decide) rfl rfl (g := (mkF m 6 #[.val (.ref a), .val (.int pp), .val (.int qq)] [(.int pp), (.ref a)])) rfl rfl (hb hby d1_6)
  have Fw2 : Fld Z h2 a "com/example/pilcrow/pilcrow/Span" "first" "I" (.int pp) := P1.same W2
  have N2 := Fr.snoc X2 N1 P3
  have Z2 : n0 ≤ h2.size := Nat.le_trans Z0 (Nat.le_of_eq W2.size.symm)
  have K2 : Keep h0 h2 [a] := (Keep.refl h0 [a]).wr W2 (Or.inl (by simp))
  refine OwnEnds.via st2 ?_
  show OwnEnds _ _ _ _ (T2.setTop (mkF m 9 #[.val (.ref a), .val (.int pp), .val (.int qq)] []))
  refine OwnEnds.via (fun t k => XS.aloadN X2.here hx rfl (hb hby d1_9) rfl rfl k) ?_
  show OwnEnds _ _ _ _ (T2.setTop (mkF m 10 #[.val (.ref a), .val (.int pp), .val (.int qq)] [(.ref a)]))
  refine OwnEnds.via (fun t k => XS.iloadN X2.here hx rfl (hb hby d1_10) rfl k) ?_
  show OwnEnds _ _ _ _ (T2.setTop (mkF m 11 #[.val (.ref a), .val (.int pp), .val (.int qq)] [(.int qq), (.ref a)]))
  obtain ⟨T3, h3, X3, e3, W3, st3⟩ := putF X2 hx hZ hown (host := "") (Or.inl (hw _ (List.mem_of_getElem? (i := 16) rfl))) Via.refl e2 (P2.other W2 (Or.inr (slot_ne (Or.inr (hw _ (List.mem_of_getElem? (i := 17) rfl))) (Or.inr (hw _ (List.mem_of_getElem? (i := 15) rfl))) (by decide) (t := .int) (t' := .int) (by decide) (by decide)))) (P0.wr W2) (Or.inr ⟨(hw _ (List.mem_of_getElem? (i := 17) rfl)), rfl, hnm⟩) (hw _ (List.mem_of_getElem? (i := 1) rfl)) (ty := .int) (by decide) rfl rfl (g := (mkF m 11 #[.val (.ref a), .val (.int pp), .val (.int qq)] [(.int qq), (.ref a)])) rfl rfl (hb hby d1_11)
  have Fw3 : Fld Z h3 a "com/example/pilcrow/pilcrow/Span" "last" "I" (.int qq) := (P2.other W2 (Or.inr (slot_ne (Or.inr (hw _ (List.mem_of_getElem? (i := 17) rfl))) (Or.inr (hw _ (List.mem_of_getElem? (i := 15) rfl))) (by decide) (t := .int) (t' := .int) (by decide) (by decide)))).same W3
  have N3 := Fr.snoc X3 N2 P3
  have Z3 : n0 ≤ h3.size := Nat.le_trans Z2 (Nat.le_of_eq W3.size.symm)
  have K3 : Keep h0 h3 [a] := K2.wr W3 (Or.inl (by simp))
  refine OwnEnds.via st3 ?_
  show OwnEnds _ _ _ _ (T3.setTop (mkF m 14 #[.val (.ref a), .val (.int pp), .val (.int qq)] []))
  obtain ⟨fs, hr, hrun, hended, hW, hsame⟩ := X3.leave (v := none) (fun _ => rfl)
  refine ⟨_, _, ?_, hrun, hended, _, _, rfl, ?_, ⟨_, rfl⟩, hW, hsame.mono (by decide) (by decide)⟩
  · exact X3.returnOut hx Bd.returns (hb hby d1_14) hr
  · show Q1 Z a pp qq h0 n0 _ T3.heap _
    rw [e3]
    exact ⟨rfl, N3, K3, ((P0.wr W2).wr W3), (Fw2.other W3 (Or.inr (slot_ne (Or.inr (hw _ (List.mem_of_getElem? (i := 15) rfl))) (Or.inr (hw _ (List.mem_of_getElem? (i := 17) rfl))) (by decide) (t := .int) (t' := .int) (by decide) (by decide)))), Fw3⟩

theorem d4_0 : decode prog_81_method_6_code 0 = .ok (.aload_n 0, 1) := by decide +kernel
theorem d4_1 : decode prog_81_method_6_code 1 = .ok (.getfield 13, 3) := by decide +kernel
theorem d4_4 : decode prog_81_method_6_code 4 = .ok (.aload_n 0, 1) := by decide +kernel
theorem d4_5 : decode prog_81_method_6_code 5 = .ok (.getfield 7, 3) := by decide +kernel
theorem d4_8 : decode prog_81_method_6_code 8 = .ok (.if_icmp .ge 7, 3) := by decide +kernel
theorem d4_11 : decode prog_81_method_6_code 11 = .ok (.iconst 1, 1) := by decide +kernel
theorem d4_12 : decode prog_81_method_6_code 12 = .ok (.goto 4, 3) := by decide +kernel
theorem d4_15 : decode prog_81_method_6_code 15 = .ok (.iconst 0, 1) := by decide +kernel
theorem d4_16 : decode prog_81_method_6_code 16 = .ok (.ireturn, 1) := by decide +kernel
theorem pn_rm4 : plainName "com/example/pilcrow/pilcrow/Span" = true := by first | (simp [plainName, overriddenIn]; done) | decide +kernel
theorem ef_rm4 (m : MethodId) (a : Addr) : entryFrame m #[(.ref a)] 1 = mkF m 0 #[.val (.ref a)] [] := by first | (simp [entryFrame, mkF, argsToLocals, Value.category]; done) | rfl
def Q4 (Z : State) (a : Addr) (pp : Int32) (qq : Int32) (h0 : Heap) (n0 : Nat) (v : Option Value) (h : Heap) (L : List Loc) : Prop := v = some (.int (if qq < pp then (1 : Int32) else (0 : Int32))) ∧ Fr n0 L ∧ h = h0
set_option maxRecDepth 65536 in
set_option maxHeartbeats 40000000 in
theorem rm4 (l : Launch) (Z : State) (a0 : Array Value) (hw : ∀ d ∈ tables_1, d.before a0 Z = true) (ws : List Jvm.Cond) (a : Addr) (pp : Int32) (qq : Int32) (h0 : Heap) (n0 : Nat) (Z0 : n0 ≤ h0.size) (P0 : Fld Z h0 a "com/example/pilcrow/pilcrow/Span" "first" "I" (.int pp)) (P1 : Fld Z h0 a "com/example/pilcrow/pilcrow/Span" "last" "I" (.int qq)) :
    MetFree l (⟨"com/example/pilcrow/pilcrow/Span", "isEmpty", "()Z"⟩ : MethodName) (head1 (Jvm.Cond.code (⟨"com/example/pilcrow/pilcrow/Span", "isEmpty", "()Z"⟩ : MethodName) prog_81_method_6_code 1 (some .boolean) :: ws) ({ frames := 0, cells := 0, slots := 0, locals := 0 } : Room)) (fun aa U => aa = #[(.ref a)] ∧ Z.Warmed39 U.vm ∧ U.heap = h0) (fun _ _ _ _ _ => True) (fun _ U o U' => ∃ v L, o = .returned v ∧ Q4 Z a pp qq h0 n0 v U'.heap L ∧ FrameEnd U o U' L ({ frames := 0, cells := 0, slots := 0, locals := 0 } : Room).cells ({ frames := 0, cells := 0, slots := 0, locals := 0 } : Room).slots) := by
  refine MetFree.of_bodySF (plainFor_of_name pn_rm4) hisR ?_
  intro p e s m args below meth c s₁ Bd hml0 hP hK
  obtain ⟨rfl, hZ, hh⟩ := hP
  have hx := Bd.exec
  have hby := Bd.bytes
  have hml : c.maxLocals = 1 := hml0
  have hown : s.vm.findClass "com/example/pilcrow/pilcrow/Span" = some m.cls := findClass_of_methodNamed Bd.named
  have hnm := (name_of_methodNamed Bd.named Bd.method).1
  have X0 : Stand p l e ({ frames := 0, cells := 0, slots := 0, locals := 0 } : Room) s m #[(.ref a)] below meth c s₁ [] 0 0 := Stand.of_body Bd
  have e0 : s₁.heap = h0 := by rw [← hh, Bd.state]; rfl
  have N0 := Fr.nil n0
  change OwnEnds p.tables e below _ _
  refine OwnEnds.via (fun t k => castTop (ef_rm4 m a) k) ?_
  show OwnEnds _ _ _ _ (s₁.setTop (mkF m 0 #[.val (.ref a)] []))
  refine OwnEnds.via (fun t k => XS.aloadN X0.here hx rfl (hb hby d4_0) rfl rfl k) ?_
  show OwnEnds _ _ _ _ (s₁.setTop (mkF m 1 #[.val (.ref a)] [(.ref a)]))
  obtain ⟨T1, X1, e1, st1⟩ := getF X0 hx hZ hown (host := "") (Or.inl (hw _ (List.mem_of_getElem? (i := 16) rfl))) Via.refl e0 P1 (g := (mkF m 1 #[.val (.ref a)] [(.ref a)])) rfl rfl (hb hby d4_1)
  refine OwnEnds.via st1 ?_
  show OwnEnds _ _ _ _ (T1.setTop (mkF m 4 #[.val (.ref a)] [(.int qq)]))
  refine OwnEnds.via (fun t k => XS.aloadN X1.here hx rfl (hb hby d4_4) rfl rfl k) ?_
  show OwnEnds _ _ _ _ (T1.setTop (mkF m 5 #[.val (.ref a)] [(.ref a), (.int qq)]))
  obtain ⟨T2, X2, e2, st2⟩ := getF X1 hx hZ hown (host := "") (Or.inl (hw _ (List.mem_of_getElem? (i := 14) rfl))) Via.refl e1 P0 (g := (mkF m 5 #[.val (.ref a)] [(.ref a), (.int qq)])) rfl rfl (hb hby d4_5)
  refine OwnEnds.via st2 ?_
  show OwnEnds _ _ _ _ (T2.setTop (mkF m 8 #[.val (.ref a)] [(.int pp), (.int qq)]))
  by_cases hc8_3 : qq < pp
  ·
    refine OwnEnds.via (fun t k => XS.icmpNo X2.here hx rfl (hb hby d4_8) rfl (tlt hc8_3).2.1 k) ?_
    show OwnEnds _ _ _ _ (T2.setTop (mkF m 11 #[.val (.ref a)] []))
    refine OwnEnds.via (fun t k => XS.iconst X2.here hx rfl (hb hby d4_11) k) ?_
    show OwnEnds _ _ _ _ (T2.setTop (mkF m 12 #[.val (.ref a)] [(.int (1 : Int32))]))
    refine OwnEnds.via (fun t k => XS.goto X2.here hx rfl (pc0 := 12) (pc' := 16) rfl (hb hby d4_12) (by decide) (by decide) k) ?_
    show OwnEnds _ _ _ _ (T2.setTop (mkF m 16 #[.val (.ref a)] [(.int (1 : Int32))]))
    obtain ⟨fs, hr, hrun, hended, hW, hsame⟩ := X2.leave (v := some (.int (1 : Int32))) (fun h => by rw [Bd.returns] at h; cases h)
    refine ⟨_, _, ?_, hrun, hended, _, _, rfl, ?_, ⟨_, rfl⟩, hW, hsame.mono (by decide) (by decide)⟩
    · exact retN X2 hx (t := .boolean) Bd.returns (by simp) (hb hby d4_16) hr
    · show Q4 Z a pp qq h0 n0 _ T2.heap _
      rw [e2]
      exact ⟨(by rw [if_pos hc8_3]), N0, rfl⟩
  ·
    refine OwnEnds.via (fun t k => XS.icmpYes X2.here hx rfl (pc0 := 8) (pc' := 15) rfl (hb hby d4_8) rfl (flt hc8_3).2.1 (by decide) (by decide) k) ?_
    show OwnEnds _ _ _ _ (T2.setTop (mkF m 15 #[.val (.ref a)] []))
    refine OwnEnds.via (fun t k => XS.iconst X2.here hx rfl (hb hby d4_15) k) ?_
    show OwnEnds _ _ _ _ (T2.setTop (mkF m 16 #[.val (.ref a)] [(.int (0 : Int32))]))
    obtain ⟨fs, hr, hrun, hended, hW, hsame⟩ := X2.leave (v := some (.int (0 : Int32))) (fun h => by rw [Bd.returns] at h; cases h)
    refine ⟨_, _, ?_, hrun, hended, _, _, rfl, ?_, ⟨_, rfl⟩, hW, hsame.mono (by decide) (by decide)⟩
    · exact retN X2 hx (t := .boolean) Bd.returns (by simp) (hb hby d4_16) hr
    · show Q4 Z a pp qq h0 n0 _ T2.heap _
      rw [e2]
      exact ⟨(by rw [if_neg hc8_3]), N0, rfl⟩

theorem own_span (p q : Int32) : (0 : Int32) < lcmpW (((q.toInt64) - (p.toInt64)) + (1 : Int64)) (0 : Int64) ↔ ¬ (q < p) := by
  rw [lw_gt, Int64.lt_iff_toInt_lt, Int32.lt_iff_toInt_lt]
  have h1 := c_ladd (q.toInt64 - p.toInt64) 1
  have h2 := c_lsub q.toInt64 p.toInt64
  rw [c_i2l, c_i2l] at h2
  have e1 : (1 : Int64).toInt = 1 := by decide
  have e0 : (0 : Int64).toInt = 0 := by decide
  have r1 := rng32 p
  have r2 := rng32 q
  have r3 := rng64 (q.toInt64 - p.toInt64)
  have r4 := rng64 (q.toInt64 - p.toInt64 + 1)
  omega

theorem pn_rm0 : plainName "com/example/pilcrow/pilcrow/SpanIsEmptyPinLaw" = true := by first | (simp [plainName, overriddenIn]; done) | decide +kernel
theorem pd_1 : parseMethodDescriptor "(II)V" = some ⟨[.int, .int], none⟩ := by decide +kernel
theorem pd_2 : parseMethodDescriptor "()Z" = some ⟨[], some .boolean⟩ := by decide +kernel
theorem ef_rm0 (m : MethodId) (pp : Int32) (qq : Int32) : entryFrame m #[(.int pp), (.int qq)] maxLocals = mkF m 0 #[.val (.int pp), .val (.int qq), .unset, .unset, .unset, .unset] [] := by first | (simp [entryFrame, mkF, argsToLocals, Value.category, maxLocals]; done) | rfl
def Q0 (Z : State) (pp : Int32) (qq : Int32) (h0 : Heap) (n0 : Nat) (v : Option Value) (h : Heap) (L : List Loc) : Prop := v = some (.int (1 : Int32)) ∧ Fr n0 L
set_option maxRecDepth 65536 in
set_option maxHeartbeats 40000000 in
theorem rm0 (l : Launch) (Z : State) (a0 : Array Value) (hw : ∀ d ∈ tables_1, d.before a0 Z = true) (ws : List Jvm.Cond) (pp : Int32) (qq : Int32) (h0 : Heap) (n0 : Nat) (Z0 : n0 ≤ h0.size)  :
    MetFree l x (head1 (Jvm.Cond.code x code maxLocals ret :: ws) room_1) (fun aa U => aa = #[(.int pp), (.int qq)] ∧ Z.Warmed39 U.vm ∧ U.heap = h0) (fun _ _ _ _ _ => True) (fun _ U o U' => ∃ v L, o = .returned v ∧ Q0 Z pp qq h0 n0 v U'.heap L ∧ FrameEnd U o U' L room_1.cells room_1.slots) := by
  refine MetFree.of_bodySF (plainFor_of_name pn_rm0) hisR ?_
  intro p e s m args below meth c s₁ Bd hml0 hP hK
  obtain ⟨rfl, hZ, hh⟩ := hP
  have hx := Bd.exec
  have hby := Bd.bytes
  have hml : c.maxLocals = 6 := hml0
  have hown : s.vm.findClass "com/example/pilcrow/pilcrow/SpanIsEmptyPinLaw" = some m.cls := findClass_of_methodNamed Bd.named
  have hnm := (name_of_methodNamed Bd.named Bd.method).1
  have X0 : Stand p l e room_1 s m #[(.int pp), (.int qq)] below meth c s₁ [] 0 0 := Stand.of_body Bd
  have e0 : s₁.heap = h0 := by rw [← hh, Bd.state]; rfl
  have N0 := Fr.nil n0
  change OwnEnds p.tables e below _ _
  refine OwnEnds.via (fun t k => castTop (ef_rm0 m pp qq) k) ?_
  show OwnEnds _ _ _ _ (s₁.setTop (mkF m 0 #[.val (.int pp), .val (.int qq), .unset, .unset, .unset, .unset] []))
  obtain ⟨T1, h1, X1, e1, E1, A1, D1, -, st1⟩ := newO X0 hx hZ hown (hw _ (List.mem_of_getElem? (i := 0) rfl)) (hw _ (List.mem_of_getElem? (i := 1) rfl)) (hw _ (List.mem_of_getElem? (i := 2) rfl)) e0 (g := (mkF m 0 #[.val (.int pp), .val (.int qq), .unset, .unset, .unset, .unset] [])) rfl (hb hby at_0) (by decide) (by decide)
  obtain ⟨b1, g1⟩ : ∃ z, z = h0.size := ⟨_, rfl⟩
  have ge_b1 : n0 ≤ b1 := Nat.le_trans Z0 (Nat.le_of_eq g1.symm)
  have Z1 : n0 ≤ h1.size := Nat.le_trans Z0 E1.1
  rw [← g1] at A1 D1 st1
  have F1_first : Fld Z h1 b1 "com/example/pilcrow/pilcrow/Span" "first" "I" (.int (0 : Int32)) := D1 (Or.inr (hw _ (List.mem_of_getElem? (i := 15) rfl))) (ty := .int) (by decide)
  have F1_last : Fld Z h1 b1 "com/example/pilcrow/pilcrow/Span" "last" "I" (.int (0 : Int32)) := D1 (Or.inr (hw _ (List.mem_of_getElem? (i := 17) rfl))) (ty := .int) (by decide)
  refine OwnEnds.via st1 ?_
  show OwnEnds _ _ _ _ (T1.setTop (mkF m 3 #[.val (.int pp), .val (.int qq), .unset, .unset, .unset, .unset] [(.ref b1)]))
  refine OwnEnds.via (fun t k => XS.dup X1.here hx rfl (hb hby at_3) rfl rfl k) ?_
  show OwnEnds _ _ _ _ (T1.setTop (mkF m 4 #[.val (.int pp), .val (.int qq), .unset, .unset, .unset, .unset] [(.ref b1), (.ref b1)]))
  refine OwnEnds.via (fun t k => XS.iloadN X1.here hx rfl (hb hby at_4) rfl k) ?_
  show OwnEnds _ _ _ _ (T1.setTop (mkF m 5 #[.val (.int pp), .val (.int qq), .unset, .unset, .unset, .unset] [(.int pp), (.ref b1), (.ref b1)]))
  refine OwnEnds.via (fun t k => XS.iloadN X1.here hx rfl (hb hby at_5) rfl k) ?_
  show OwnEnds _ _ _ _ (T1.setTop (mkF m 6 #[.val (.int pp), .val (.int qq), .unset, .unset, .unset, .unset] [(.int qq), (.int pp), (.ref b1), (.ref b1)]))
  obtain ⟨_, _, ⟨T2, L2, k2, n2⟩, -, X2, ⟨Lc2, hQ2, l2, y2, z2⟩, st2⟩ := X1.specialBack hx (y := (⟨"com/example/pilcrow/pilcrow/Span", "<init>", "(II)V"⟩ : MethodName)) rfl hown (mvT hZ (hw _ (List.mem_of_getElem? (i := 3) rfl))) (mvT hZ (hw _ (List.mem_of_getElem? (i := 4) rfl))) (mvT hZ (hw _ (List.mem_of_getElem? (i := 5) rfl))) (by decide) (backOf (W := 1) (rm1 l Z a0 hw [] b1 pp qq h1 n0 Z1 A1 F1_first F1_last ge_b1) hZ (hw _ (List.mem_of_getElem? (i := 5) rfl)) (hw _ (List.mem_of_getElem? (i := 2) rfl)) (by decide) (by decide)) (g := (mkF m 6 #[.val (.int pp), .val (.int qq), .unset, .unset, .unset, .unset] [(.int qq), (.int pp), (.ref b1), (.ref b1)])) rfl (by rw [hml]; rfl) (Steps.refl _) (a := b1) (argsL := [(.int pp), (.int qq)]) (rest := [(.ref b1)]) (lenOf pd_1 rfl) rfl (by show 2 * 0 + _ ≤ _; exact Nat.le_of_eq rfl) (hb hby at_6) (fun _ _ => ⟨rfl, e1, (by decide : 1 + 0 ≤ _), (by decide : 2 + 0 ≤ _)⟩)
  dsimp only [Pt.U, Pt.locs, Pt.cells, Pt.slots] at X2 l2 y2 z2 st2 hQ2
  subst l2 y2 z2
  obtain ⟨h2, e2⟩ : ∃ z, T2.heap = z := ⟨_, rfl⟩
  rw [e2] at hQ2
  obtain ⟨rfl, Nq2, Kq2, q2_0, q2_1, q2_2⟩ := hQ2
  have Z2 : n0 ≤ h2.size := Nat.le_trans Z1 Kq2.1
  have N2 := Fr.app N0 Nq2
  refine OwnEnds.via (fun t k => st2.trans k) ?_
  show OwnEnds _ _ _ _ (T2.setTop (mkF m 9 #[.val (.int pp), .val (.int qq), .unset, .unset, .unset, .unset] [(.ref b1)]))
  refine OwnEnds.via (fun t k => XS.astoreN X2.here hx rfl (hb hby at_9) rfl rfl (l' := #[.val (.int pp), .val (.int qq), .val (.ref b1), .unset, .unset, .unset]) rfl k) ?_
  show OwnEnds _ _ _ _ (T2.setTop (mkF m 10 #[.val (.int pp), .val (.int qq), .val (.ref b1), .unset, .unset, .unset] []))
  refine OwnEnds.via (fun t k => XS.iloadN X2.here hx rfl (hb hby at_10) rfl k) ?_
  show OwnEnds _ _ _ _ (T2.setTop (mkF m 11 #[.val (.int pp), .val (.int qq), .val (.ref b1), .unset, .unset, .unset] [(.int qq)]))
  refine OwnEnds.via (fun t k => XS.i2l X2.here hx rfl (hb hby at_11) rfl k) ?_
  show OwnEnds _ _ _ _ (T2.setTop (mkF m 12 #[.val (.int pp), .val (.int qq), .val (.ref b1), .unset, .unset, .unset] [(.long (qq.toInt64))]))
  refine OwnEnds.via (fun t k => XS.iloadN X2.here hx rfl (hb hby at_12) rfl k) ?_
  show OwnEnds _ _ _ _ (T2.setTop (mkF m 13 #[.val (.int pp), .val (.int qq), .val (.ref b1), .unset, .unset, .unset] [(.int pp), (.long (qq.toInt64))]))
  refine OwnEnds.via (fun t k => XS.i2l X2.here hx rfl (hb hby at_13) rfl k) ?_
  show OwnEnds _ _ _ _ (T2.setTop (mkF m 14 #[.val (.int pp), .val (.int qq), .val (.ref b1), .unset, .unset, .unset] [(.long (pp.toInt64)), (.long (qq.toInt64))]))
  refine OwnEnds.via (fun t k => XS.lsub X2.here hx rfl (hb hby at_14) rfl k) ?_
  show OwnEnds _ _ _ _ (T2.setTop (mkF m 15 #[.val (.int pp), .val (.int qq), .val (.ref b1), .unset, .unset, .unset] [(.long ((qq.toInt64) - (pp.toInt64)))]))
  refine OwnEnds.via (fun t k => XS.lconst X2.here hx rfl (hb hby at_15) k) ?_
  show OwnEnds _ _ _ _ (T2.setTop (mkF m 16 #[.val (.int pp), .val (.int qq), .val (.ref b1), .unset, .unset, .unset] [(.long (1 : Int64)), (.long ((qq.toInt64) - (pp.toInt64)))]))
  refine OwnEnds.via (fun t k => XS.ladd X2.here hx rfl (hb hby at_16) rfl k) ?_
  show OwnEnds _ _ _ _ (T2.setTop (mkF m 17 #[.val (.int pp), .val (.int qq), .val (.ref b1), .unset, .unset, .unset] [(.long (((qq.toInt64) - (pp.toInt64)) + (1 : Int64)))]))
  refine OwnEnds.via (fun t k => XS.lstoreN X2.here hx rfl (hb hby at_17) rfl (l' := #[.val (.int pp), .val (.int qq), .val (.ref b1), .val (.long (((qq.toInt64) - (pp.toInt64)) + (1 : Int64))), .second, .unset]) rfl k) ?_
  show OwnEnds _ _ _ _ (T2.setTop (mkF m 18 #[.val (.int pp), .val (.int qq), .val (.ref b1), .val (.long (((qq.toInt64) - (pp.toInt64)) + (1 : Int64))), .second, .unset] []))
  refine OwnEnds.via (fun t k => XS.lloadN X2.here hx rfl (hb hby at_18) rfl k) ?_
  show OwnEnds _ _ _ _ (T2.setTop (mkF m 19 #[.val (.int pp), .val (.int qq), .val (.ref b1), .val (.long (((qq.toInt64) - (pp.toInt64)) + (1 : Int64))), .second, .unset] [(.long (((qq.toInt64) - (pp.toInt64)) + (1 : Int64)))]))
  refine OwnEnds.via (fun t k => XS.lconst X2.here hx rfl (hb hby at_19) k) ?_
  show OwnEnds _ _ _ _ (T2.setTop (mkF m 20 #[.val (.int pp), .val (.int qq), .val (.ref b1), .val (.long (((qq.toInt64) - (pp.toInt64)) + (1 : Int64))), .second, .unset] [(.long (0 : Int64)), (.long (((qq.toInt64) - (pp.toInt64)) + (1 : Int64)))]))
  refine OwnEnds.via (fun t k => XS.lcmp X2.here hx rfl (hb hby at_20) rfl k) ?_
  show OwnEnds _ _ _ _ (T2.setTop (mkF m 21 #[.val (.int pp), .val (.int qq), .val (.ref b1), .val (.long (((qq.toInt64) - (pp.toInt64)) + (1 : Int64))), .second, .unset] [(.int (lcmpW (((qq.toInt64) - (pp.toInt64)) + (1 : Int64)) (0 : Int64)))]))
  by_cases hc21_3 : (0 : Int32) < (lcmpW (((qq.toInt64) - (pp.toInt64)) + (1 : Int64)) (0 : Int64))
  ·
    refine OwnEnds.via (fun t k => XS.ifYes X2.here hx rfl (pc0 := 21) (pc' := 28) rfl (hb hby at_21) rfl ((if0 _ _).trans (tlt hc21_3).2.2.1) (by decide) (by decide) k) ?_
    show OwnEnds _ _ _ _ (T2.setTop (mkF m 28 #[.val (.int pp), .val (.int qq), .val (.ref b1), .val (.long (((qq.toInt64) - (pp.toInt64)) + (1 : Int64))), .second, .unset] []))
    refine OwnEnds.via (fun t k => XS.iconst X2.here hx rfl (hb hby at_28) k) ?_
    show OwnEnds _ _ _ _ (T2.setTop (mkF m 29 #[.val (.int pp), .val (.int qq), .val (.ref b1), .val (.long (((qq.toInt64) - (pp.toInt64)) + (1 : Int64))), .second, .unset] [(.int (0 : Int32))]))
    refine OwnEnds.via (fun t k => XS.istore X2.here hx rfl (hb hby at_29) rfl (l' := #[.val (.int pp), .val (.int qq), .val (.ref b1), .val (.long (((qq.toInt64) - (pp.toInt64)) + (1 : Int64))), .second, .val (.int (0 : Int32))]) rfl k) ?_
    show OwnEnds _ _ _ _ (T2.setTop (mkF m 31 #[.val (.int pp), .val (.int qq), .val (.ref b1), .val (.long (((qq.toInt64) - (pp.toInt64)) + (1 : Int64))), .second, .val (.int (0 : Int32))] []))
    refine OwnEnds.via (fun t k => XS.aloadN X2.here hx rfl (hb hby at_31) rfl rfl k) ?_
    show OwnEnds _ _ _ _ (T2.setTop (mkF m 32 #[.val (.int pp), .val (.int qq), .val (.ref b1), .val (.long (((qq.toInt64) - (pp.toInt64)) + (1 : Int64))), .second, .val (.int (0 : Int32))] [(.ref b1)]))
    obtain ⟨cq4, kq4, q4a, q4b, q4c⟩ := isOf hZ e2 q2_0
    obtain ⟨_, _, ⟨T4, L4, k4, n4⟩, -, X4, ⟨Lc4, hQ4, l4, y4, z4⟩, st4⟩ := X2.virtualBack hx (y := (⟨"com/example/pilcrow/pilcrow/Span", "isEmpty", "()Z"⟩ : MethodName)) (z := (⟨"com/example/pilcrow/pilcrow/Span", "isEmpty", "()Z"⟩ : MethodName)) hown (mvT hZ (hw _ (List.mem_of_getElem? (i := 18) rfl))) (mvT hZ (hw _ (List.mem_of_getElem? (i := 19) rfl))) (notFace_of_selects (args := #[]) (mvT hZ (hw _ (List.mem_of_getElem? (i := 21) rfl)))) (mvT hZ (hw _ (List.mem_of_getElem? (i := 21) rfl))) (mvT hZ (hw _ (List.mem_of_getElem? (i := 20) rfl))) (by decide) (backOf (W := 0) (rm4 l Z a0 hw [] b1 pp qq h2 n0 Z2 q2_1 q2_2) hZ (hw _ (List.mem_of_getElem? (i := 22) rfl)) (hw _ (List.mem_of_getElem? (i := 2) rfl)) (by decide) (by decide)) q4a q4c (g := (mkF m 32 #[.val (.int pp), .val (.int qq), .val (.ref b1), .val (.long (((qq.toInt64) - (pp.toInt64)) + (1 : Int64))), .second, .val (.int (0 : Int32))] [(.ref b1)])) rfl (by rw [hml]; rfl) (Steps.refl _) (argsL := []) (rest := []) (lenOf pd_2 rfl) rfl (by show 2 * 0 + _ ≤ _; exact Nat.le_of_eq rfl) (hb hby at_32) (fun _ _ => ⟨rfl, e2, (by decide : 1 + 0 ≤ _), (by decide : 2 + 0 ≤ _)⟩)
    dsimp only [Pt.U, Pt.locs, Pt.cells, Pt.slots] at X4 l4 y4 z4 st4 hQ4
    subst l4 y4 z4
    obtain ⟨rfl, Nq4, e4⟩ := hQ4
    have N4 := Fr.app N2 Nq4
    refine OwnEnds.via (fun t k => st4.trans k) ?_
    show OwnEnds _ _ _ _ (T4.setTop (mkF m 35 #[.val (.int pp), .val (.int qq), .val (.ref b1), .val (.long (((qq.toInt64) - (pp.toInt64)) + (1 : Int64))), .second, .val (.int (0 : Int32))] [(.int (if qq < pp then (1 : Int32) else (0 : Int32)))]))
    refine OwnEnds.via (fun t k => XS.iload X4.here hx rfl (hb hby at_35) rfl k) ?_
    show OwnEnds _ _ _ _ (T4.setTop (mkF m 37 #[.val (.int pp), .val (.int qq), .val (.ref b1), .val (.long (((qq.toInt64) - (pp.toInt64)) + (1 : Int64))), .second, .val (.int (0 : Int32))] [(.int (0 : Int32)), (.int (if qq < pp then (1 : Int32) else (0 : Int32)))]))
    refine OwnEnds.via (fun t k => XS.icmpNo X4.here hx rfl (hb hby at_37) rfl (teq (if_neg ((own_span pp qq).mp hc21_3))).2 k) ?_
    show OwnEnds _ _ _ _ (T4.setTop (mkF m 40 #[.val (.int pp), .val (.int qq), .val (.ref b1), .val (.long (((qq.toInt64) - (pp.toInt64)) + (1 : Int64))), .second, .val (.int (0 : Int32))] []))
    refine OwnEnds.via (fun t k => XS.iconst X4.here hx rfl (hb hby at_40) k) ?_
    show OwnEnds _ _ _ _ (T4.setTop (mkF m 41 #[.val (.int pp), .val (.int qq), .val (.ref b1), .val (.long (((qq.toInt64) - (pp.toInt64)) + (1 : Int64))), .second, .val (.int (0 : Int32))] [(.int (1 : Int32))]))
    refine OwnEnds.via (fun t k => XS.goto X4.here hx rfl (pc0 := 41) (pc' := 45) rfl (hb hby at_41) (by decide) (by decide) k) ?_
    show OwnEnds _ _ _ _ (T4.setTop (mkF m 45 #[.val (.int pp), .val (.int qq), .val (.ref b1), .val (.long (((qq.toInt64) - (pp.toInt64)) + (1 : Int64))), .second, .val (.int (0 : Int32))] [(.int (1 : Int32))]))
    obtain ⟨fs, hr, hrun, hended, hW, hsame⟩ := X4.leave (v := some (.int (1 : Int32))) (fun h => by rw [Bd.returns] at h; cases h)
    refine ⟨_, _, ?_, hrun, hended, _, _, rfl, ?_, ⟨_, rfl⟩, hW, hsame.mono (by decide) (by decide)⟩
    · exact retN X4 hx (t := .boolean) Bd.returns (by simp) (hb hby at_45) hr
    · show Q0 Z pp qq h0 n0 _ T4.heap _
      rw [e4]
      exact ⟨rfl, N4⟩
  ·
    refine OwnEnds.via (fun t k => XS.ifNo X2.here hx rfl (hb hby at_21) rfl ((if0 _ _).trans (flt hc21_3).2.2.1) k) ?_
    show OwnEnds _ _ _ _ (T2.setTop (mkF m 24 #[.val (.int pp), .val (.int qq), .val (.ref b1), .val (.long (((qq.toInt64) - (pp.toInt64)) + (1 : Int64))), .second, .unset] []))
    refine OwnEnds.via (fun t k => XS.iconst X2.here hx rfl (hb hby at_24) k) ?_
    show OwnEnds _ _ _ _ (T2.setTop (mkF m 25 #[.val (.int pp), .val (.int qq), .val (.ref b1), .val (.long (((qq.toInt64) - (pp.toInt64)) + (1 : Int64))), .second, .unset] [(.int (1 : Int32))]))
    refine OwnEnds.via (fun t k => XS.goto X2.here hx rfl (pc0 := 25) (pc' := 29) rfl (hb hby at_25) (by decide) (by decide) k) ?_
    show OwnEnds _ _ _ _ (T2.setTop (mkF m 29 #[.val (.int pp), .val (.int qq), .val (.ref b1), .val (.long (((qq.toInt64) - (pp.toInt64)) + (1 : Int64))), .second, .unset] [(.int (1 : Int32))]))
    refine OwnEnds.via (fun t k => XS.istore X2.here hx rfl (hb hby at_29) rfl (l' := #[.val (.int pp), .val (.int qq), .val (.ref b1), .val (.long (((qq.toInt64) - (pp.toInt64)) + (1 : Int64))), .second, .val (.int (1 : Int32))]) rfl k) ?_
    show OwnEnds _ _ _ _ (T2.setTop (mkF m 31 #[.val (.int pp), .val (.int qq), .val (.ref b1), .val (.long (((qq.toInt64) - (pp.toInt64)) + (1 : Int64))), .second, .val (.int (1 : Int32))] []))
    refine OwnEnds.via (fun t k => XS.aloadN X2.here hx rfl (hb hby at_31) rfl rfl k) ?_
    show OwnEnds _ _ _ _ (T2.setTop (mkF m 32 #[.val (.int pp), .val (.int qq), .val (.ref b1), .val (.long (((qq.toInt64) - (pp.toInt64)) + (1 : Int64))), .second, .val (.int (1 : Int32))] [(.ref b1)]))
    obtain ⟨cq5, kq5, q5a, q5b, q5c⟩ := isOf hZ e2 q2_0
    obtain ⟨_, _, ⟨T5, L5, k5, n5⟩, -, X5, ⟨Lc5, hQ5, l5, y5, z5⟩, st5⟩ := X2.virtualBack hx (y := (⟨"com/example/pilcrow/pilcrow/Span", "isEmpty", "()Z"⟩ : MethodName)) (z := (⟨"com/example/pilcrow/pilcrow/Span", "isEmpty", "()Z"⟩ : MethodName)) hown (mvT hZ (hw _ (List.mem_of_getElem? (i := 18) rfl))) (mvT hZ (hw _ (List.mem_of_getElem? (i := 19) rfl))) (notFace_of_selects (args := #[]) (mvT hZ (hw _ (List.mem_of_getElem? (i := 21) rfl)))) (mvT hZ (hw _ (List.mem_of_getElem? (i := 21) rfl))) (mvT hZ (hw _ (List.mem_of_getElem? (i := 20) rfl))) (by decide) (backOf (W := 0) (rm4 l Z a0 hw [] b1 pp qq h2 n0 Z2 q2_1 q2_2) hZ (hw _ (List.mem_of_getElem? (i := 22) rfl)) (hw _ (List.mem_of_getElem? (i := 2) rfl)) (by decide) (by decide)) q5a q5c (g := (mkF m 32 #[.val (.int pp), .val (.int qq), .val (.ref b1), .val (.long (((qq.toInt64) - (pp.toInt64)) + (1 : Int64))), .second, .val (.int (1 : Int32))] [(.ref b1)])) rfl (by rw [hml]; rfl) (Steps.refl _) (argsL := []) (rest := []) (lenOf pd_2 rfl) rfl (by show 2 * 0 + _ ≤ _; exact Nat.le_of_eq rfl) (hb hby at_32) (fun _ _ => ⟨rfl, e2, (by decide : 1 + 0 ≤ _), (by decide : 2 + 0 ≤ _)⟩)
    dsimp only [Pt.U, Pt.locs, Pt.cells, Pt.slots] at X5 l5 y5 z5 st5 hQ5
    subst l5 y5 z5
    obtain ⟨rfl, Nq5, e5⟩ := hQ5
    have N5 := Fr.app N2 Nq5
    refine OwnEnds.via (fun t k => st5.trans k) ?_
    show OwnEnds _ _ _ _ (T5.setTop (mkF m 35 #[.val (.int pp), .val (.int qq), .val (.ref b1), .val (.long (((qq.toInt64) - (pp.toInt64)) + (1 : Int64))), .second, .val (.int (1 : Int32))] [(.int (if qq < pp then (1 : Int32) else (0 : Int32)))]))
    refine OwnEnds.via (fun t k => XS.iload X5.here hx rfl (hb hby at_35) rfl k) ?_
    show OwnEnds _ _ _ _ (T5.setTop (mkF m 37 #[.val (.int pp), .val (.int qq), .val (.ref b1), .val (.long (((qq.toInt64) - (pp.toInt64)) + (1 : Int64))), .second, .val (.int (1 : Int32))] [(.int (1 : Int32)), (.int (if qq < pp then (1 : Int32) else (0 : Int32)))]))
    refine OwnEnds.via (fun t k => XS.icmpNo X5.here hx rfl (hb hby at_37) rfl (teq (if_pos (Decidable.not_not.mp fun z => hc21_3 ((own_span pp qq).mpr z)))).2 k) ?_
    show OwnEnds _ _ _ _ (T5.setTop (mkF m 40 #[.val (.int pp), .val (.int qq), .val (.ref b1), .val (.long (((qq.toInt64) - (pp.toInt64)) + (1 : Int64))), .second, .val (.int (1 : Int32))] []))
    refine OwnEnds.via (fun t k => XS.iconst X5.here hx rfl (hb hby at_40) k) ?_
    show OwnEnds _ _ _ _ (T5.setTop (mkF m 41 #[.val (.int pp), .val (.int qq), .val (.ref b1), .val (.long (((qq.toInt64) - (pp.toInt64)) + (1 : Int64))), .second, .val (.int (1 : Int32))] [(.int (1 : Int32))]))
    refine OwnEnds.via (fun t k => XS.goto X5.here hx rfl (pc0 := 41) (pc' := 45) rfl (hb hby at_41) (by decide) (by decide) k) ?_
    show OwnEnds _ _ _ _ (T5.setTop (mkF m 45 #[.val (.int pp), .val (.int qq), .val (.ref b1), .val (.long (((qq.toInt64) - (pp.toInt64)) + (1 : Int64))), .second, .val (.int (1 : Int32))] [(.int (1 : Int32))]))
    obtain ⟨fs, hr, hrun, hended, hW, hsame⟩ := X5.leave (v := some (.int (1 : Int32))) (fun h => by rw [Bd.returns] at h; cases h)
    refine ⟨_, _, ?_, hrun, hended, _, _, rfl, ?_, ⟨_, rfl⟩, hW, hsame.mono (by decide) (by decide)⟩
    · exact retN X5 hx (t := .boolean) Bd.returns (by simp) (hb hby at_45) hr
    · show Q0 Z pp qq h0 n0 _ T5.heap _
      rw [e5]
      exact ⟨rfl, N5⟩

set_option maxRecDepth 65536 in
set_option maxHeartbeats 40000000 in
theorem comes_1 {Post : Tables → Env → Array Value → State → Outcome → State → Prop} (hpost : ∀ tb e args s v u, (limb_1_1.after args s (.returned v) u = true ∧ limb_1_2.after args s (.returned v) u = true ∧ True) → FrameEnd s (.returned v) u (Jvm.fieldLocs frame_1_writes args s ++ Jvm.arrayLocs frame_1_arrays args s ++ Jvm.staticLocs frame_1_statics s) 16 128 → Post tb e args s (.returned v) u) :
    ArmFor flags0 classFile x code maxLocals ret World_1 tables_1 room_1 Calls_1 rest_1 Pre_1 Post := by
  intro l hfl _ _ p e ha hc hk s m args below hf hA hF happ hP
  obtain ⟨hcalls, hrest, hpre⟩ := hP
  obtain ⟨-, -, -, hnamed, -, -, -, hat⟩ := (Spec.applies_iff hf).mp happ
  obtain ⟨hg, hn⟩ := and_e (Cond.before_iff.mp (show (Jvm.Cond.and given_1 narrow_1).before args s = true from hpre))
  obtain ⟨hg0, hh0⟩ := and_e hg
  obtain ⟨hg1, hh1⟩ := and_e hh0
  obtain ⟨w0, w1, rfl⟩ : ∃ w0 w1 : Value, args = #[w0, w1] := by
    have hs : args.size = 2 := by simpa [Cond.value, given_1] using hg0
    obtain ⟨L⟩ := args
    match L, hs with
    | [w0, w1], _ => exact ⟨w0, w1, rfl⟩
  have hw := fun d (hd : d ∈ tables_1) => atoms_spec (ws := Jvm.Cond.code x code maxLocals ret :: tables_1) hat d (List.mem_cons_of_mem _ hd)
  have hfit : Fit s := fun {y c} hc i hi => by
    obtain ⟨ha, rfl⟩ := Array.getElem?_eq_some_iff.mp hc
    have q := List.all_eq_true.mp ((Array.all_eq_true_iff_forall_mem.mp hF) _ (Array.getElem_mem ha)) i (List.mem_range.mpr hi)
    simpa [Array.getElem?_eq_getElem hi] using q
  obtain ⟨i0, ei0⟩ := is_v hg1
  obtain rfl : w0 = (.int i0) := Option.some.inj ei0
  obtain ⟨i1, ei1⟩ := is_v hh1
  obtain rfl : w1 = (.int i1) := Option.some.inj ei1
  obtain ⟨n, o, h1, h2, h3, _, L, rfl, ⟨rfl, N⟩, hq⟩ := rm0 l s _ hw tables_1 i0 i1 s.heap s.heap.size (Nat.le_refl _) p e ha hc hk s m _ below hf ((Spec.applies_iff_loose hf).mp happ).1 ⟨rfl, State.Warmed39.refl s, rfl⟩ trivial
  refine ⟨n, _, h1, h2, h3, hpost _ _ _ _ _ _ ⟨Cond.after_iff.mpr rfl, Cond.after_iff.mpr (eq_i res_at (Term.int_eval (1)) rfl), trivial⟩ ⟨hq.1, hq.2.1, (hq.2.2.sift fun y hy => Or.inr (N y hy)).mono (by decide) (by decide)⟩⟩
theorem main_1_1 : Claimed_1_1 := comes_1 fun _ _ _ _ _ _ h hF => ⟨h.1, hF⟩
theorem main_1_2 : Claimed_1_2 := comes_1 fun _ _ _ _ _ _ h hF => ⟨h.2.1, hF⟩
end Jvm.Pilot.@@N@@
namespace Jvm.Pilot.@@N@@
open Jvm Jvm.ClassFile Sem Op Lib Jvm.Free Jvm.Stand Jvm.Pilot.@@N@@.Jvm.D
/-! MADE BY PROGRAM (witnessworld.py) out of the Statement's table words and the real class files: 10 classes; the members and pool entries that the words name. The judged class is class 1, her method 1. -/
namespace start1
open Jvm.ClassFile
def u (s : String) : CpInfo := .utf8 (stringToUtf16 s)
/-- a pool by its gaps: so many unusable entries, then the entry; so many at the end -/
def gap : Nat → List CpInfo → List CpInfo
  | 0, r => r
  | n + 1, r => .unusable :: gap n r
def poolList (es : List (Nat × CpInfo)) (last : Nat) : List CpInfo := es.foldr (fun e r => gap e.1 (e.2 :: r)) (gap last [])
def pool (es : List (Nat × CpInfo)) (last : Nat) : Array CpInfo := ⟨poolList es last⟩
def fileOf (pool : Array CpInfo) (this : Nat) (attrs : Array Attribute := #[]) (ms : Array MethodInfo := #[]) (fl : Nat := 33) (sup : Nat := 0) (ifs : Array Nat := #[]) (fds : Array FieldInfo := #[]) : ClassFile where
  minorVersion := 0
  majorVersion := 65
  constantPool := pool
  accessFlags := fl
  thisClass := this
  superClass := sup
  interfaces := ifs
  fields := fds
  methods := ms
  attributes := attrs
def plain (name : String) (sup : Option ClassId) : Class where
  name := name
  kind := .ordinary
  loader := none
  accessFlags := 33
  super := sup
  interfaces := #[]
  cf := none
  fields := #[]
  methods := #[]
  instanceTypes := #[]
  staticTypes := #[]
  resolved := #[]
  callSites := []
  init := .initialized
  statics := none
  mirror := none

def pool0 : Array CpInfo := pool [(5, u "<init>"), (0, u "()V"), (1, .class_ 10), (1, u "java/lang/Object")] 113

def k0c0 : Code := { maxStack := 0, maxLocals := 1, code := object_method_1_code, exceptionTable := #[], attributes := #[] }
def k0m0 : Method := { name := "<init>", desc := "()V", sig := { parameters := [], returnType := none }, accessFlags := 1, code := some k0c0 }
/-- java/lang/Object -/
def k0 : Class := { plain "java/lang/Object" none with
  accessFlags := 33
  interfaces := #[]
  cf := some (fileOf pool0 8 #[] #[{ accessFlags := 1, nameIndex := 5, descriptorIndex := 6, attributes := #[] }] 33 0 #[] #[])
  fields := #[]
  methods := #[k0m0]
  instanceTypes := #[]
  staticTypes := #[]
  resolved := Array.replicate 124 none
  statics := none }

def pool1 : Array CpInfo := pool [(2, .class_ 4), (1, u "java/lang/Object"), (0, u "<init>"), (0, u "()V"), (0, .class_ 8), (0, u "com/example/pilcrow/pilcrow/Span"), (0, .methodref 7 10), (0, .nameAndType 5 11), (0, u "(II)V"), (0, .methodref 7 13), (0, .nameAndType 14 15), (0, u "isEmpty"), (0, u "()Z"), (0, .class_ 17), (0, u "com/example/pilcrow/pilcrow/SpanIsEmptyPinLaw"), (2, u "law"), (0, u "(II)Z")] 3

def k1m0 : Method := { name := "<init>", desc := "()V", sig := { parameters := [], returnType := none }, accessFlags := 2, code := none }
def k1c1 : Code := { maxStack := 4, maxLocals := 6, code := code, exceptionTable := #[], attributes := #[] }
def k1m1 : Method := { name := "law", desc := "(II)Z", sig := { parameters := [.int, .int], returnType := some .boolean }, accessFlags := 9, code := some k1c1 }
/-- com/example/pilcrow/pilcrow/SpanIsEmptyPinLaw -/
def k1 : Class := { plain "com/example/pilcrow/pilcrow/SpanIsEmptyPinLaw" (some 0) with
  accessFlags := 49
  interfaces := #[]
  cf := some (fileOf pool1 16 #[] #[{ accessFlags := 2, nameIndex := 5, descriptorIndex := 6, attributes := #[] }, { accessFlags := 9, nameIndex := 20, descriptorIndex := 21, attributes := #[] }] 49 2 #[] #[])
  fields := #[]
  methods := #[k1m0, k1m1]
  instanceTypes := #[]
  staticTypes := #[]
  resolved := Array.replicate 25 none
  statics := none }

def pool2 : Array CpInfo := pool [(1, .methodref 2 3), (0, .class_ 4), (0, .nameAndType 5 6), (0, u "java/lang/Object"), (0, u "<init>"), (0, u "()V"), (0, .class_ 8), (0, u "java/lang/Record")] 13

def k2c0 : Code := { maxStack := 1, maxLocals := 1, code := jdk_30_method_1_code, exceptionTable := #[], attributes := #[] }
def k2m0 : Method := { name := "<init>", desc := "()V", sig := { parameters := [], returnType := none }, accessFlags := 4, code := some k2c0 }
/-- java/lang/Record -/
def k2 : Class := { plain "java/lang/Record" (some 0) with
  accessFlags := 1057
  interfaces := #[]
  cf := some (fileOf pool2 7 #[] #[{ accessFlags := 4, nameIndex := 5, descriptorIndex := 6, attributes := #[] }] 1057 2 #[] #[])
  fields := #[]
  methods := #[k2m0]
  instanceTypes := #[]
  staticTypes := #[]
  resolved := Array.replicate 22 none
  statics := none }

def pool3 : Array CpInfo := pool [(1, .methodref 2 3), (0, .class_ 4), (0, .nameAndType 5 6), (0, u "java/lang/Record"), (0, u "<init>"), (0, u "()V"), (0, .fieldref 8 9), (0, .class_ 10), (0, .nameAndType 11 12), (0, u "com/example/pilcrow/pilcrow/Span"), (0, u "first"), (0, u "I"), (0, .fieldref 8 14), (0, .nameAndType 15 12), (0, u "last"), (15, u "NONE"), (0, u "Lcom/example/pilcrow/pilcrow/Span;"), (2, u "(II)V"), (2, u "isEmpty"), (0, u "()Z")] 47

def k3c0 : Code := { maxStack := 2, maxLocals := 3, code := prog_81_method_1_code, exceptionTable := #[], attributes := #[] }
def k3m0 : Method := { name := "<init>", desc := "(II)V", sig := { parameters := [.int, .int], returnType := none }, accessFlags := 0, code := some k3c0 }
def k3c1 : Code := { maxStack := 2, maxLocals := 1, code := prog_81_method_6_code, exceptionTable := #[], attributes := #[] }
def k3m1 : Method := { name := "isEmpty", desc := "()Z", sig := { parameters := [], returnType := some .boolean }, accessFlags := 0, code := some k3c1 }
/-- com/example/pilcrow/pilcrow/Span -/
def k3 : Class := { plain "com/example/pilcrow/pilcrow/Span" (some 2) with
  accessFlags := 48
  interfaces := #[]
  cf := some (fileOf pool3 8 #[] #[{ accessFlags := 0, nameIndex := 5, descriptorIndex := 35, attributes := #[] }, { accessFlags := 0, nameIndex := 38, descriptorIndex := 39, attributes := #[] }] 48 2 #[] #[{ accessFlags := 18, nameIndex := 11, descriptorIndex := 12, attributes := #[] }, { accessFlags := 18, nameIndex := 15, descriptorIndex := 12, attributes := #[] }, { accessFlags := 26, nameIndex := 31, descriptorIndex := 32, attributes := #[] }])
  fields := #[{ name := "first", type := .int, accessFlags := 18, slot := 0, constantValue := 0 }, { name := "last", type := .int, accessFlags := 18, slot := 1, constantValue := 0 }, { name := "NONE", type := (.object "com/example/pilcrow/pilcrow/Span"), accessFlags := 26, slot := 0, constantValue := 0 }]
  methods := #[k3m0, k3m1]
  instanceTypes := #[.int, .int]
  staticTypes := #[(.object "com/example/pilcrow/pilcrow/Span")]
  resolved := Array.replicate 87 none
  statics := none }

def pool4 : Array CpInfo := pool [(1, u "java/lang/Cloneable"), (0, .class_ 1), (0, u "java/lang/Object"), (0, .class_ 3)] 3

/-- java/lang/Cloneable -/
def k4 : Class := { plain "java/lang/Cloneable" (some 0) with
  accessFlags := 1537
  interfaces := #[]
  cf := some (fileOf pool4 2 #[] #[] 1537 4 #[] #[])
  fields := #[]
  methods := #[]
  instanceTypes := #[]
  staticTypes := #[]
  resolved := Array.replicate 8 none
  statics := none }

def pool5 : Array CpInfo := pool [(1, u "java/io/Serializable"), (0, .class_ 1), (0, u "java/lang/Object"), (0, .class_ 3)] 3

/-- java/io/Serializable -/
def k5 : Class := { plain "java/io/Serializable" (some 0) with
  accessFlags := 1537
  interfaces := #[]
  cf := some (fileOf pool5 2 #[] #[] 1537 4 #[] #[])
  fields := #[]
  methods := #[]
  instanceTypes := #[]
  staticTypes := #[]
  resolved := Array.replicate 8 none
  statics := none }

/-- the primitive byte -/
def k6 : Class := { plain "byte" none with kind := .primitive 'B', accessFlags := 0x411 }
/-- [B -/
def k7 : Class := { plain "[B" (some 0) with kind := .array 6 .byte, interfaces := #[4, 5], accessFlags := 1041 }

/-- the primitive int -/
def k8 : Class := { plain "int" none with kind := .primitive 'I', accessFlags := 0x411 }
/-- [I -/
def k9 : Class := { plain "[I" (some 0) with kind := .array 8 .int, interfaces := #[4, 5], accessFlags := 1041 }

def heap : Heap := #[]
def classes : Array Class := #[k0, k1, k2, k3, k4, k5, k6, k7, k8, k9]
def interned : List (Array UInt16 × Addr) := []
def slotsUsed : Nat := 0
def theMethod : MethodId := ⟨1, 1⟩
def args0 : Array Value := #[.int 3, .int 7]
def aboutOver (below : List Frame) : State where
  vm := { classes := classes, interned := interned.toArray }
  heap := heap
  slotsUsed := slotsUsed
  threads := #[{ frames := .invoking theMethod args0 :: below }]
def below0 : List Frame := [.native { method := ⟨0, 0⟩, args := #[] }]
def about1 : State := aboutOver below0
def p0 : Program := .bare "" "" ""
def e0 : Env := launch0.env 0 0 0
theorem w_frames : about1.frames = Frame.invoking theMethod args0 :: below0 := rfl
set_option maxRecDepth 65536 in
theorem w_args : argsFit about1.vm theMethod args0 = true := by decide +kernel
set_option maxRecDepth 65536 in
theorem w_heap : heapFits about1 = true := by decide +kernel
set_option maxRecDepth 65536 in
theorem w_runnable : about1.curStatus? = some .runnable := by decide +kernel
set_option maxRecDepth 65536 in
theorem w_alone : about1.alone = true := by decide +kernel
set_option maxRecDepth 65536 in
theorem w_named : about1.methodNamed? x = some theMethod := by decide +kernel
set_option maxRecDepth 65536 in
theorem w_hears : about1.hears theMethod below0 = true := by decide +kernel
set_option maxRecDepth 65536 in
theorem w_ripe : about1.ripe theMethod args0 below0 = true := by decide +kernel
theorem w_running : about1.status = .running := rfl
set_option maxRecDepth 65536 in
theorem w_room : about1.hasRoom e0.platform room_1 = true :=
  launch0.hasRoom_least _ room_1 (by decide +kernel) (by decide +kernel) (by decide +kernel) (by decide +kernel) (by decide +kernel) (by decide +kernel)
theorem allAtoms_all (ts : List Jvm.Cond) (a : Array Jvm.Value) (st : Jvm.State) : (allAtoms ts).before a st = ts.all (fun c => c.before a st) := by
  induction ts with
  | nil => rfl
  | cons c t ih =>
    show (Jvm.Cond.and c (allAtoms t)).before a st = _
    rw [Jvm.Cond.before_and, ih, List.all_cons]
def words1 : List Jvm.Cond := Jvm.Cond.code x code maxLocals ret :: tables_1
/-- a 'code' word, met by the world's own term for the bytes: nothing is compared byte by byte -/
theorem code_word {y : MethodName} {bytes : ByteArray} {mx : Nat} {rt : Option FieldType} {a : Array Value} {s : State} {m : MethodId} {meth : Method} {c : Code} (h1 : s.methodNamed? y = some m) (h2 : s.vm.method? m = some meth) (h3 : meth.code = some c) (h4 : c.code = bytes)
    (h5 : (c.maxLocals == mx && c.exceptionTable.isEmpty && decide (c.maxStack ≤ mostOperands) && decide (meth.sig.returnType = rt) && !meth.locks && decide (parseMethodDescriptor y.desc = some meth.sig)) = true) : (Jvm.Cond.code y bytes mx rt).before a s = true := by
  simp only [Bool.and_eq_true, beq_iff_eq, Bool.not_eq_true', decide_eq_true_eq] at h5
  obtain ⟨⟨⟨⟨⟨g1, g2⟩, g3⟩, g4⟩, g5⟩, g6⟩ := h5
  simp [Cond.before, Cond.holds, Cond.value, h1, h2, h3, h4, g1, g2, g3, g4, g5, g6]
def isCode : Jvm.Cond → Bool
  | .code _ _ _ _ => true
  | _ => false
theorem all_split {L : List Jvm.Cond} {P : Jvm.Cond → Bool} (h1 : L.all (fun c => isCode c || P c) = true) (h2 : ∀ c ∈ L.filter isCode, P c = true) : L.all P = true := by
  refine List.all_eq_true.mpr fun c hc => ?_
  have h := List.all_eq_true.mp h1 c hc
  rcases Bool.eq_false_or_eq_true (isCode c) with hi | hi
  · exact h2 c (List.mem_filter.mpr ⟨hc, hi⟩)
  · simpa [hi] using h
set_option maxRecDepth 65536 in
theorem w_c0 : (Jvm.Cond.code x code maxLocals ret).before args0 about1 = true := code_word (m := ⟨1, 1⟩) (meth := k1m1) (c := k1c1) (by decide +kernel) rfl rfl rfl (by decide +kernel)
set_option maxRecDepth 65536 in
theorem w_c1 : (Jvm.Cond.code ({ cls := "com/example/pilcrow/pilcrow/Span", name := "<init>", desc := "(II)V" } : Jvm.MethodName) prog_81_method_1_code (3 : Nat) (Option.none : Option Jvm.ClassFile.FieldType)).before args0 about1 = true := code_word (m := ⟨3, 0⟩) (meth := k3m0) (c := k3c0) (by decide +kernel) rfl rfl rfl (by decide +kernel)
set_option maxRecDepth 65536 in
theorem w_c2 : (Jvm.Cond.code ({ cls := "java/lang/Record", name := "<init>", desc := "()V" } : Jvm.MethodName) jdk_30_method_1_code (1 : Nat) (Option.none : Option Jvm.ClassFile.FieldType)).before args0 about1 = true := code_word (m := ⟨2, 0⟩) (meth := k2m0) (c := k2c0) (by decide +kernel) rfl rfl rfl (by decide +kernel)
set_option maxRecDepth 65536 in
theorem w_c3 : (Jvm.Cond.code ({ cls := "java/lang/Object", name := "<init>", desc := "()V" } : Jvm.MethodName) object_method_1_code (1 : Nat) (Option.none : Option Jvm.ClassFile.FieldType)).before args0 about1 = true := code_word (m := ⟨0, 0⟩) (meth := k0m0) (c := k0c0) (by decide +kernel) rfl rfl rfl (by decide +kernel)
set_option maxRecDepth 65536 in
theorem w_c4 : (Jvm.Cond.code ({ cls := "com/example/pilcrow/pilcrow/Span", name := "isEmpty", desc := "()Z" } : Jvm.MethodName) prog_81_method_6_code (1 : Nat) (Option.some Jvm.ClassFile.FieldType.boolean)).before args0 about1 = true := code_word (m := ⟨3, 1⟩) (meth := k3m1) (c := k3c1) (by decide +kernel) rfl rfl rfl (by decide +kernel)
def codes1 : List Jvm.Cond := [Jvm.Cond.code x code maxLocals ret, Jvm.Cond.code ({ cls := "com/example/pilcrow/pilcrow/Span", name := "<init>", desc := "(II)V" } : Jvm.MethodName) prog_81_method_1_code (3 : Nat) (Option.none : Option Jvm.ClassFile.FieldType), Jvm.Cond.code ({ cls := "java/lang/Record", name := "<init>", desc := "()V" } : Jvm.MethodName) jdk_30_method_1_code (1 : Nat) (Option.none : Option Jvm.ClassFile.FieldType), Jvm.Cond.code ({ cls := "java/lang/Object", name := "<init>", desc := "()V" } : Jvm.MethodName) object_method_1_code (1 : Nat) (Option.none : Option Jvm.ClassFile.FieldType), Jvm.Cond.code ({ cls := "com/example/pilcrow/pilcrow/Span", name := "isEmpty", desc := "()Z" } : Jvm.MethodName) prog_81_method_6_code (1 : Nat) (Option.some Jvm.ClassFile.FieldType.boolean)]
set_option maxRecDepth 65536 in
theorem codes_eq : words1.filter isCode = codes1 := rfl
theorem w_codes : ∀ c ∈ words1.filter isCode, c.before args0 about1 = true := by
  rw [codes_eq]
  intro c hc
  simp only [codes1, List.mem_cons, List.not_mem_nil, or_false] at hc
  rcases hc with rfl | rfl | rfl | rfl | rfl
  · exact w_c0
  · exact w_c1
  · exact w_c2
  · exact w_c3
  · exact w_c4
set_option maxRecDepth 65536 in
theorem w_t1 : words1.all (fun c => isCode c || c.before args0 about1) = true := by decide +kernel
theorem w_tables : (allAtoms (Jvm.Cond.code x code maxLocals ret :: tables_1)).before args0 about1 = true := by
  rw [allAtoms_all]
  show words1.all (fun c => c.before args0 about1) = true
  refine all_split ?_ w_codes
  rw [w_t1]
set_option maxRecDepth 65536 in
theorem w_case : (Jvm.Cond.and given_1 narrow_1).before args0 about1 = true := by decide +kernel
theorem w_applies : (headSpec (Jvm.Cond.code x code maxLocals ret :: tables_1) room_1).applies x e0.platform about1 = true :=
  (Spec.applies_iff w_frames).mpr ⟨w_running, w_runnable, w_alone, w_named, w_hears, w_ripe, w_room, w_tables⟩
theorem atStart : AtStart classFile x code maxLocals ret World_1 tables_1 room_1 Calls_1 rest_1 Pre_1 launch0 p0 e0 about1 theMethod args0 below0 :=
  ⟨lists_1, trivial, launch0.admits_env _ _ _, launch0.least_env, fairChoices_fair.cas, fairChoices_fair.clock, w_frames, w_args, w_heap, w_applies, trivial, trivial, w_case⟩
end start1
theorem witness_1 : WitnessClaimed_1 := ⟨start1.p0, start1.e0, start1.about1, start1.theMethod, start1.args0, start1.below0, start1.atStart⟩
end Jvm.Pilot.@@N@@
