import JvmDerived
import JvmDerived.Pilot.@@N@@Statement
import JvmDerived.Pilot.@@N@@Code
set_option linter.unusedVariables false
set_option linter.unusedSimpArgs false
namespace Jvm.RoadKit
open Sem ClassFile Op Lib Jvm.Stand Jvm.Free Jvm.LawKit
section New
variable {p : Program} {l : Launch} {e : Env} {R : Room} {s : State} {m : MethodId} {args : Array Value} {below : List Frame} {meth : Method} {c : Code} {T : State} {locs : List Loc} {cells slots : Nat}
theorem retI (X : Stand p l e R s m args below meth c T locs cells slots) (hx : p.tables.exec = Jvm.exec) {pc : Nat} {Ls : Array Slot} {z : Int32} {rest : List Value} (hret : meth.sig.returnType = some .int) (hd : decode c.code pc = .ok (.ireturn, 1)) {fs : List Frame}
    (hl : ∀ (f : JFrame) (acts : List Action), f.method = m → f.locked = none → f.entered = [] → (doReturn e (T.setTop f) acts (some (.int z))).1 = T.setFrames fs) : Steps p.tables e below (T.setTop (mkF m pc Ls (.int z :: rest))) (T.setFrames fs) := by
  have hm' : T.vm.method? m = some meth := X.method'
  have hn : narrow .int (.int z) = .int z := rfl
  show Steps p.tables e below (T.setTop { method := m, pc := pc, locals := Ls, stack := _ :: rest, locked := none }) _
  jvm_step X.here [X.here.top, hx, hd, hm', hret, hn]
  first | (intro acts; rw [hl _ acts rfl rfl rfl]) | rw [hl _ _ rfl rfl rfl]
  exact Steps.refl _
end New
/-- from W the run comes to a state and an outcome of which K holds -/
def OwnEnds (tb : Tables) (e : Env) (below : List Frame) (K : State → Outcome → Prop) (W : State) : Prop := ∃ t o, Steps tb e below W t ∧ K t o
theorem OwnEnds.via {tb : Tables} {e : Env} {below : List Frame} {K : State → Outcome → Prop} {W W' : State} (f : ∀ t, Steps tb e below W' t → Steps tb e below W t) (h : OwnEnds tb e below K W') : OwnEnds tb e below K W := by
  obtain ⟨t, o, h1, h2⟩ := h
  exact ⟨t, o, f t h1, h2⟩
theorem OwnEnds.cut {tb : Tables} {e : Env} {below : List Frame} {K : State → Outcome → Prop} {W : State} (A : (State → Prop) → Prop) (h1 : A (OwnEnds tb e below K)) (h2 : A (OwnEnds tb e below K) → OwnEnds tb e below K W) : OwnEnds tb e below K W := h2 h1
end Jvm.RoadKit
namespace Jvm.Pilot.@@N@@
open Jvm Jvm.ClassFile Sem Op Lib Jvm.Free Jvm.Stand Jvm.LawKit Jvm.RoadKit Bundle Jvm.Pilot.@@N@@.Jvm.D
theorem d1_0 : decode prog_20_method_4_code 0 = .ok (.aload_n 0, 1) := by decide +kernel
theorem d1_1 : decode prog_20_method_4_code 1 = .ok (.getstatic 3, 3) := by decide +kernel
theorem d1_4 : decode prog_20_method_4_code 4 = .ok (.if_acmp .ne 9, 3) := by decide +kernel
theorem d1_7 : decode prog_20_method_4_code 7 = .ok (.getstatic 7, 3) := by decide +kernel
theorem d1_10 : decode prog_20_method_4_code 10 = .ok (.goto 19, 3) := by decide +kernel
theorem d1_13 : decode prog_20_method_4_code 13 = .ok (.aload_n 0, 1) := by decide +kernel
theorem d1_14 : decode prog_20_method_4_code 14 = .ok (.getstatic 7, 3) := by decide +kernel
theorem d1_17 : decode prog_20_method_4_code 17 = .ok (.if_acmp .ne 9, 3) := by decide +kernel
theorem d1_20 : decode prog_20_method_4_code 20 = .ok (.getstatic 3, 3) := by decide +kernel
theorem d1_23 : decode prog_20_method_4_code 23 = .ok (.goto 6, 3) := by decide +kernel
theorem d1_26 : decode prog_20_method_4_code 26 = .ok (.getstatic 10, 3) := by decide +kernel
theorem d1_29 : decode prog_20_method_4_code 29 = .ok (.areturn, 1) := by decide +kernel
theorem pn_rm1 : plainName "com/example/birchwire/birchwire/directory/FilterEvaluator$Truth" = true := by first | (simp [plainName, overriddenIn]; done) | decide +kernel
theorem ef_rm1 (m : MethodId) (a : Addr) : entryFrame m #[(.ref a)] 1 = mkF m 0 #[.val (.ref a)] [] := by first | (simp [entryFrame, mkF, argsToLocals, Value.category]; done) | rfl
def Q1 (Z : State) (a : Addr) (r : Addr) (tt : Addr) (ff : Addr) (uu : Addr) (h0 : Heap) (n0 : Nat) (v : Option Value) (h : Heap) (L : List Loc) : Prop := v = some (.ref r) ∧ Fr n0 L ∧ h = h0
set_option maxRecDepth 65536 in
set_option maxHeartbeats 40000000 in
theorem rm1 (l : Launch) (Z : State) (a0 : Array Value) (hw : ∀ d ∈ tables_1, d.before a0 Z = true) (ws : List Jvm.Cond) (a : Addr) (r : Addr) (tt : Addr) (ff : Addr) (uu : Addr) (h0 : Heap) (n0 : Nat) (Z0 : n0 ≤ h0.size) (O0 : Old Z n0 h0) (P0 : (a = tt → r = ff) ∧ (a ≠ tt → a = ff → r = tt) ∧ (a ≠ tt → a ≠ ff → r = uu)) (OP0 : Sta Z Z.heap "com/example/birchwire/birchwire/directory/FilterEvaluator$Truth" "TRUE" "Lcom/example/birchwire/birchwire/directory/FilterEvaluator$Truth;" (.ref tt)) (OP1 : Sta Z Z.heap "com/example/birchwire/birchwire/directory/FilterEvaluator$Truth" "FALSE" "Lcom/example/birchwire/birchwire/directory/FilterEvaluator$Truth;" (.ref ff)) (OP2 : Sta Z Z.heap "com/example/birchwire/birchwire/directory/FilterEvaluator$Truth" "UNDEFINED" "Lcom/example/birchwire/birchwire/directory/FilterEvaluator$Truth;" (.ref uu)) :
    MetFree l (⟨"com/example/birchwire/birchwire/directory/FilterEvaluator$Truth", "negated", "()Lcom/example/birchwire/birchwire/directory/FilterEvaluator$Truth;"⟩ : MethodName) (head1 (Jvm.Cond.code (⟨"com/example/birchwire/birchwire/directory/FilterEvaluator$Truth", "negated", "()Lcom/example/birchwire/birchwire/directory/FilterEvaluator$Truth;"⟩ : MethodName) prog_20_method_4_code 1 (some (.object "com/example/birchwire/birchwire/directory/FilterEvaluator$Truth")) :: ws) ({ frames := 0, cells := 0, slots := 0, locals := 0 } : Room)) (fun aa U => aa = #[(.ref a)] ∧ Z.Warmed39 U.vm ∧ U.heap = h0) (fun _ _ _ _ _ => True) (fun _ U o U' => ∃ v L, o = .returned v ∧ Q1 Z a r tt ff uu h0 n0 v U'.heap L ∧ FrameEnd U o U' L ({ frames := 0, cells := 0, slots := 0, locals := 0 } : Room).cells ({ frames := 0, cells := 0, slots := 0, locals := 0 } : Room).slots) := by
  refine MetFree.of_bodySF (plainFor_of_name pn_rm1) hisR ?_
  intro p e s m args below meth c s₁ Bd hml0 hP hK
  obtain ⟨rfl, hZ, hh⟩ := hP
  have hx := Bd.exec
  have hby := Bd.bytes
  have hml : c.maxLocals = 1 := hml0
  have hown : s.vm.findClass "com/example/birchwire/birchwire/directory/FilterEvaluator$Truth" = some m.cls := findClass_of_methodNamed Bd.named
  have hnm := (name_of_methodNamed Bd.named Bd.method).1
  have X0 : Stand p l e ({ frames := 0, cells := 0, slots := 0, locals := 0 } : Room) s m #[(.ref a)] below meth c s₁ [] 0 0 := Stand.of_body Bd
  have e0 : s₁.heap = h0 := by rw [← hh, Bd.state]; rfl
  have N0 := Fr.nil n0
  change OwnEnds p.tables e below _ _
  refine OwnEnds.via (fun t k => castTop (ef_rm1 m a) k) ?_
  show OwnEnds _ _ _ _ (s₁.setTop (mkF m 0 #[.val (.ref a)] []))
  refine OwnEnds.via (fun t k => XS.aloadN X0.here hx rfl (hb hby d1_0) rfl rfl k) ?_
  show OwnEnds _ _ _ _ (s₁.setTop (mkF m 1 #[.val (.ref a)] [(.ref a)]))
  obtain ⟨T1, X1, e1, st1⟩ := getS2 X0 hx hZ hown (host := "") (Or.inl (hw _ (List.mem_of_getElem? (i := 11) rfl))) Via.refl e0 (OP0.ext O0.2) (g := (mkF m 1 #[.val (.ref a)] [(.ref a)])) rfl (hb hby d1_1)
  refine OwnEnds.via st1 ?_
  show OwnEnds _ _ _ _ (T1.setTop (mkF m 4 #[.val (.ref a)] [(.ref tt), (.ref a)]))
  by_cases ha4_2 : a = tt
  ·
    refine OwnEnds.via (fun t k => Jvm.RoadKit.acmp (g := (mkF m 4 #[.val (.ref a)] [(.ref tt), (.ref a)])) X1 hx rfl rfl rfl (pc0 := 4) (pc' := 7) (same := true) rfl (hb hby d1_4) rfl (decide_eq_true (congrArg Value.ref ha4_2)) (by decide) (by decide) k) ?_
    show OwnEnds _ _ _ _ (T1.setTop (mkF m 7 #[.val (.ref a)] []))
    obtain ⟨T3, X3, e3, st3⟩ := getS2 X1 hx hZ hown (host := "") (Or.inl (hw _ (List.mem_of_getElem? (i := 12) rfl))) Via.refl e1 (OP1.ext O0.2) (g := (mkF m 7 #[.val (.ref a)] [])) rfl (hb hby d1_7)
    refine OwnEnds.via st3 ?_
    show OwnEnds _ _ _ _ (T3.setTop (mkF m 10 #[.val (.ref a)] [(.ref ff)]))
    refine OwnEnds.via (fun t k => XS.goto X3.here hx rfl (pc0 := 10) (pc' := 29) rfl (hb hby d1_10) (by decide) (by decide) k) ?_
    show OwnEnds _ _ _ _ (T3.setTop (mkF m 29 #[.val (.ref a)] [(.ref ff)]))
    obtain ⟨fs, hr, hrun, hended, hW, hsame⟩ := X3.leave (v := some (.ref ff)) (fun h => by rw [Bd.returns] at h; cases h)
    refine ⟨_, _, ?_, hrun, hended, _, _, rfl, ?_, ⟨_, rfl⟩, hW, hsame.mono (by decide) (by decide)⟩
    · jvm_step X3.here [X3.here.top, hx, (hb hby d1_29), X3.method', Bd.returns, Value.isRef, FieldType.isReference]
      first | (intro acts; rw [hr _ acts rfl rfl rfl]) | rw [hr _ _ rfl rfl rfl]
      exact Steps.refl _
    · show Q1 Z a r tt ff uu h0 n0 _ T3.heap _
      rw [e3]
      exact ⟨(by rw [P0.1 ha4_2]), N0, rfl⟩
  ·
    refine OwnEnds.via (fun t k => Jvm.RoadKit.acmp (g := (mkF m 4 #[.val (.ref a)] [(.ref tt), (.ref a)])) X1 hx rfl rfl rfl (pc0 := 4) (pc' := 13) (same := false) rfl (hb hby d1_4) rfl (decide_eq_false fun q => ha4_2 (Value.ref.inj q)) (by decide) (by decide) k) ?_
    show OwnEnds _ _ _ _ (T1.setTop (mkF m 13 #[.val (.ref a)] []))
    refine OwnEnds.via (fun t k => XS.aloadN X1.here hx rfl (hb hby d1_13) rfl rfl k) ?_
    show OwnEnds _ _ _ _ (T1.setTop (mkF m 14 #[.val (.ref a)] [(.ref a)]))
    obtain ⟨T4, X4, e4, st4⟩ := getS2 X1 hx hZ hown (host := "") (Or.inl (hw _ (List.mem_of_getElem? (i := 12) rfl))) Via.refl e1 (OP1.ext O0.2) (g := (mkF m 14 #[.val (.ref a)] [(.ref a)])) rfl (hb hby d1_14)
    refine OwnEnds.via st4 ?_
    show OwnEnds _ _ _ _ (T4.setTop (mkF m 17 #[.val (.ref a)] [(.ref ff), (.ref a)]))
    by_cases ha17_5 : a = ff
    ·
      refine OwnEnds.via (fun t k => Jvm.RoadKit.acmp (g := (mkF m 17 #[.val (.ref a)] [(.ref ff), (.ref a)])) X4 hx rfl rfl rfl (pc0 := 17) (pc' := 20) (same := true) rfl (hb hby d1_17) rfl (decide_eq_true (congrArg Value.ref ha17_5)) (by decide) (by decide) k) ?_
      show OwnEnds _ _ _ _ (T4.setTop (mkF m 20 #[.val (.ref a)] []))
      obtain ⟨T6, X6, e6, st6⟩ := getS2 X4 hx hZ hown (host := "") (Or.inl (hw _ (List.mem_of_getElem? (i := 11) rfl))) Via.refl e4 (OP0.ext O0.2) (g := (mkF m 20 #[.val (.ref a)] [])) rfl (hb hby d1_20)
      refine OwnEnds.via st6 ?_
      show OwnEnds _ _ _ _ (T6.setTop (mkF m 23 #[.val (.ref a)] [(.ref tt)]))
      refine OwnEnds.via (fun t k => XS.goto X6.here hx rfl (pc0 := 23) (pc' := 29) rfl (hb hby d1_23) (by decide) (by decide) k) ?_
      show OwnEnds _ _ _ _ (T6.setTop (mkF m 29 #[.val (.ref a)] [(.ref tt)]))
      obtain ⟨fs, hr, hrun, hended, hW, hsame⟩ := X6.leave (v := some (.ref tt)) (fun h => by rw [Bd.returns] at h; cases h)
      refine ⟨_, _, ?_, hrun, hended, _, _, rfl, ?_, ⟨_, rfl⟩, hW, hsame.mono (by decide) (by decide)⟩
      · jvm_step X6.here [X6.here.top, hx, (hb hby d1_29), X6.method', Bd.returns, Value.isRef, FieldType.isReference]
        first | (intro acts; rw [hr _ acts rfl rfl rfl]) | rw [hr _ _ rfl rfl rfl]
        exact Steps.refl _
      · show Q1 Z a r tt ff uu h0 n0 _ T6.heap _
        rw [e6]
        exact ⟨(by rw [P0.2.1 ha4_2 ha17_5]), N0, rfl⟩
    ·
      refine OwnEnds.via (fun t k => Jvm.RoadKit.acmp (g := (mkF m 17 #[.val (.ref a)] [(.ref ff), (.ref a)])) X4 hx rfl rfl rfl (pc0 := 17) (pc' := 26) (same := false) rfl (hb hby d1_17) rfl (decide_eq_false fun q => ha17_5 (Value.ref.inj q)) (by decide) (by decide) k) ?_
      show OwnEnds _ _ _ _ (T4.setTop (mkF m 26 #[.val (.ref a)] []))
      obtain ⟨T7, X7, e7, st7⟩ := getS2 X4 hx hZ hown (host := "") (Or.inl (hw _ (List.mem_of_getElem? (i := 15) rfl))) Via.refl e4 (OP2.ext O0.2) (g := (mkF m 26 #[.val (.ref a)] [])) rfl (hb hby d1_26)
      refine OwnEnds.via st7 ?_
      show OwnEnds _ _ _ _ (T7.setTop (mkF m 29 #[.val (.ref a)] [(.ref uu)]))
      obtain ⟨fs, hr, hrun, hended, hW, hsame⟩ := X7.leave (v := some (.ref uu)) (fun h => by rw [Bd.returns] at h; cases h)
      refine ⟨_, _, ?_, hrun, hended, _, _, rfl, ?_, ⟨_, rfl⟩, hW, hsame.mono (by decide) (by decide)⟩
      · jvm_step X7.here [X7.here.top, hx, (hb hby d1_29), X7.method', Bd.returns, Value.isRef, FieldType.isReference]
        first | (intro acts; rw [hr _ acts rfl rfl rfl]) | rw [hr _ _ rfl rfl rfl]
        exact Steps.refl _
      · show Q1 Z a r tt ff uu h0 n0 _ T7.heap _
        rw [e7]
        exact ⟨(by rw [P0.2.2 ha4_2 ha17_5]), N0, rfl⟩

theorem pn_rm0 : plainName "com/example/birchwire/birchwire/directory/TruthNegatedPinLaw" = true := by first | (simp [plainName, overriddenIn]; done) | decide +kernel
theorem pd_0 : parseMethodDescriptor "()Lcom/example/birchwire/birchwire/directory/FilterEvaluator$Truth;" = some ⟨[], some (.object "com/example/birchwire/birchwire/directory/FilterEvaluator$Truth")⟩ := by decide +kernel
theorem ef_rm0 (m : MethodId) (pick : Int32) : entryFrame m #[(.int pick)] maxLocals = mkF m 0 #[.val (.int pick), .unset, .unset, .unset, .unset] [] := by first | (simp [entryFrame, mkF, argsToLocals, Value.category, maxLocals]; done) | rfl
def Q0 (Z : State) (pick : Int32) (tt : Addr) (ff : Addr) (uu : Addr) (h0 : Heap) (n0 : Nat) (v : Option Value) (h : Heap) (L : List Loc) : Prop := v = some (.int (1 : Int32)) ∧ Fr n0 L
set_option maxRecDepth 65536 in
set_option maxHeartbeats 40000000 in
theorem rm0 (l : Launch) (Z : State) (a0 : Array Value) (hw : ∀ d ∈ tables_1, d.before a0 Z = true) (ws : List Jvm.Cond) (pick : Int32) (tt : Addr) (ff : Addr) (uu : Addr) (h0 : Heap) (n0 : Nat) (Z0 : n0 ≤ h0.size) (O0 : Old Z n0 h0) (P0 : tt ≠ ff) (P1 : tt ≠ uu) (P2 : ff ≠ uu) (OP0 : Sta Z Z.heap "com/example/birchwire/birchwire/directory/FilterEvaluator$Truth" "TRUE" "Lcom/example/birchwire/birchwire/directory/FilterEvaluator$Truth;" (.ref tt)) (OP1 : Sta Z Z.heap "com/example/birchwire/birchwire/directory/FilterEvaluator$Truth" "FALSE" "Lcom/example/birchwire/birchwire/directory/FilterEvaluator$Truth;" (.ref ff)) (OP2 : Sta Z Z.heap "com/example/birchwire/birchwire/directory/FilterEvaluator$Truth" "UNDEFINED" "Lcom/example/birchwire/birchwire/directory/FilterEvaluator$Truth;" (.ref uu)) (OP3 : Exa Z Z.heap tt "com/example/birchwire/birchwire/directory/FilterEvaluator$Truth") (OP4 : Exa Z Z.heap ff "com/example/birchwire/birchwire/directory/FilterEvaluator$Truth") (OP5 : Exa Z Z.heap uu "com/example/birchwire/birchwire/directory/FilterEvaluator$Truth") :
    MetFree l x (head1 (Jvm.Cond.code x code maxLocals ret :: ws) room_1) (fun aa U => aa = #[(.int pick)] ∧ Z.Warmed39 U.vm ∧ U.heap = h0) (fun _ _ _ _ _ => True) (fun _ U o U' => ∃ v L, o = .returned v ∧ Q0 Z pick tt ff uu h0 n0 v U'.heap L ∧ FrameEnd U o U' L room_1.cells room_1.slots) := by
  refine MetFree.of_bodySF (plainFor_of_name pn_rm0) hisR ?_
  intro p e s m args below meth c s₁ Bd hml0 hP hK
  obtain ⟨rfl, hZ, hh⟩ := hP
  have hx := Bd.exec
  have hby := Bd.bytes
  have hml : c.maxLocals = 5 := hml0
  have hown : s.vm.findClass "com/example/birchwire/birchwire/directory/TruthNegatedPinLaw" = some m.cls := findClass_of_methodNamed Bd.named
  have hnm := (name_of_methodNamed Bd.named Bd.method).1
  have X0 : Stand p l e room_1 s m #[(.int pick)] below meth c s₁ [] 0 0 := Stand.of_body Bd
  have e0 : s₁.heap = h0 := by rw [← hh, Bd.state]; rfl
  have N0 := Fr.nil n0
  change OwnEnds p.tables e below _ _
  refine OwnEnds.via (fun t k => castTop (ef_rm0 m pick) k) ?_
  show OwnEnds _ _ _ _ (s₁.setTop (mkF m 0 #[.val (.int pick), .unset, .unset, .unset, .unset] []))
  refine OwnEnds.via (fun t k => XS.iloadN X0.here hx rfl (hb hby at_0) rfl k) ?_
  show OwnEnds _ _ _ _ (s₁.setTop (mkF m 1 #[.val (.int pick), .unset, .unset, .unset, .unset] [(.int pick)]))
  refine OwnEnds.via (X0.ldcInt hx hown (mvT hZ (hw _ (List.mem_of_getElem? (i := 0) rfl))) (g := (mkF m 1 #[.val (.int pick), .unset, .unset, .unset, .unset] [(.int pick)])) rfl (hb hby at_1)) ?_
  show OwnEnds _ _ _ _ (s₁.setTop (mkF m 3 #[.val (.int pick), .unset, .unset, .unset, .unset] [(.int (2147483647 : Int32)), (.int pick)]))
  refine OwnEnds.via (fun t k => XS.iand X0.here hx rfl (hb hby at_3) rfl k) ?_
  show OwnEnds _ _ _ _ (s₁.setTop (mkF m 4 #[.val (.int pick), .unset, .unset, .unset, .unset] [(.int (pick &&& (2147483647 : Int32)))]))
  refine OwnEnds.via (fun t k => XS.iconst X0.here hx rfl (hb hby at_4) k) ?_
  show OwnEnds _ _ _ _ (s₁.setTop (mkF m 5 #[.val (.int pick), .unset, .unset, .unset, .unset] [(.int (3 : Int32)), (.int (pick &&& (2147483647 : Int32)))]))
  refine OwnEnds.via (fun t k => XS.irem X0.here hx rfl (hb hby at_5) rfl (by decide) k) ?_
  rw [Jvm.irem_eq_mod]
  show OwnEnds _ _ _ _ (s₁.setTop (mkF m 6 #[.val (.int pick), .unset, .unset, .unset, .unset] [(.int ((pick &&& (2147483647 : Int32)) % (3 : Int32)))]))
  refine OwnEnds.via (fun t k => XS.istoreN X0.here hx rfl (hb hby at_6) rfl (l' := #[.val (.int pick), .val (.int ((pick &&& (2147483647 : Int32)) % (3 : Int32))), .unset, .unset, .unset]) rfl k) ?_
  show OwnEnds _ _ _ _ (s₁.setTop (mkF m 7 #[.val (.int pick), .val (.int ((pick &&& (2147483647 : Int32)) % (3 : Int32))), .unset, .unset, .unset] []))
  refine OwnEnds.via (fun t k => XS.iloadN X0.here hx rfl (hb hby at_7) rfl k) ?_
  show OwnEnds _ _ _ _ (s₁.setTop (mkF m 8 #[.val (.int pick), .val (.int ((pick &&& (2147483647 : Int32)) % (3 : Int32))), .unset, .unset, .unset] [(.int ((pick &&& (2147483647 : Int32)) % (3 : Int32)))]))
  by_cases hc8_1 : ((pick &&& (2147483647 : Int32)) % (3 : Int32)) = (0 : Int32)
  ·
    refine OwnEnds.via (fun t k => XS.ifNo X0.here hx rfl (hb hby at_8) rfl ((if0 _ _).trans (teq hc8_1).2) k) ?_
    show OwnEnds _ _ _ _ (s₁.setTop (mkF m 11 #[.val (.int pick), .val (.int ((pick &&& (2147483647 : Int32)) % (3 : Int32))), .unset, .unset, .unset] []))
    obtain ⟨T2, X2, e2, st2⟩ := getS2 X0 hx hZ hown (host := "") (Or.inl (hw _ (List.mem_of_getElem? (i := 1) rfl))) Via.refl e0 (OP0.ext O0.2) (g := (mkF m 11 #[.val (.int pick), .val (.int ((pick &&& (2147483647 : Int32)) % (3 : Int32))), .unset, .unset, .unset] [])) rfl (hb hby at_11)
    refine OwnEnds.via st2 ?_
    show OwnEnds _ _ _ _ (T2.setTop (mkF m 14 #[.val (.int pick), .val (.int ((pick &&& (2147483647 : Int32)) % (3 : Int32))), .unset, .unset, .unset] [(.ref tt)]))
    refine OwnEnds.via (fun t k => XS.astoreN X2.here hx rfl (hb hby at_14) rfl rfl (l' := #[.val (.int pick), .val (.int ((pick &&& (2147483647 : Int32)) % (3 : Int32))), .val (.ref tt), .unset, .unset]) rfl k) ?_
    show OwnEnds _ _ _ _ (T2.setTop (mkF m 15 #[.val (.int pick), .val (.int ((pick &&& (2147483647 : Int32)) % (3 : Int32))), .val (.ref tt), .unset, .unset] []))
    obtain ⟨T3, X3, e3, st3⟩ := getS2 X2 hx hZ hown (host := "") (Or.inl (hw _ (List.mem_of_getElem? (i := 4) rfl))) Via.refl e2 (OP1.ext O0.2) (g := (mkF m 15 #[.val (.int pick), .val (.int ((pick &&& (2147483647 : Int32)) % (3 : Int32))), .val (.ref tt), .unset, .unset] [])) rfl (hb hby at_15)
    refine OwnEnds.via st3 ?_
    show OwnEnds _ _ _ _ (T3.setTop (mkF m 18 #[.val (.int pick), .val (.int ((pick &&& (2147483647 : Int32)) % (3 : Int32))), .val (.ref tt), .unset, .unset] [(.ref ff)]))
    refine OwnEnds.via (fun t k => XS.astoreN X3.here hx rfl (hb hby at_18) rfl rfl (l' := #[.val (.int pick), .val (.int ((pick &&& (2147483647 : Int32)) % (3 : Int32))), .val (.ref tt), .val (.ref ff), .unset]) rfl k) ?_
    show OwnEnds _ _ _ _ (T3.setTop (mkF m 19 #[.val (.int pick), .val (.int ((pick &&& (2147483647 : Int32)) % (3 : Int32))), .val (.ref tt), .val (.ref ff), .unset] []))
    refine OwnEnds.via (fun t k => XS.goto X3.here hx rfl (pc0 := 19) (pc' := 46) rfl (hb hby at_19) (by decide) (by decide) k) ?_
    show OwnEnds _ _ _ _ (T3.setTop (mkF m 46 #[.val (.int pick), .val (.int ((pick &&& (2147483647 : Int32)) % (3 : Int32))), .val (.ref tt), .val (.ref ff), .unset] []))
    refine OwnEnds.via (fun t k => XS.aloadN X3.here hx rfl (hb hby at_46) rfl rfl k) ?_
    show OwnEnds _ _ _ _ (T3.setTop (mkF m 47 #[.val (.int pick), .val (.int ((pick &&& (2147483647 : Int32)) % (3 : Int32))), .val (.ref tt), .val (.ref ff), .unset] [(.ref tt)]))
    obtain ⟨cq4, kq4, q4a, q4b, q4c⟩ := isOf hZ e3 (OP3.ext O0.2)
    obtain ⟨_, _, ⟨T4, L4, k4, n4⟩, -, X4, ⟨Lc4, hQ4, l4, y4, z4⟩, st4⟩ := X3.virtualBack hx (y := (⟨"com/example/birchwire/birchwire/directory/FilterEvaluator$Truth", "negated", "()Lcom/example/birchwire/birchwire/directory/FilterEvaluator$Truth;"⟩ : MethodName)) (z := (⟨"com/example/birchwire/birchwire/directory/FilterEvaluator$Truth", "negated", "()Lcom/example/birchwire/birchwire/directory/FilterEvaluator$Truth;"⟩ : MethodName)) hown (mvT hZ (hw _ (List.mem_of_getElem? (i := 6) rfl))) (mvT hZ (hw _ (List.mem_of_getElem? (i := 7) rfl))) (notFace_of_selects (args := #[]) (mvT hZ (hw _ (List.mem_of_getElem? (i := 9) rfl)))) (mvT hZ (hw _ (List.mem_of_getElem? (i := 9) rfl))) (mvT hZ (hw _ (List.mem_of_getElem? (i := 8) rfl))) (by decide) (backOf (W := 0) (rm1 l Z a0 hw [] tt ff tt ff uu h0 n0 Z0 O0 ⟨fun _ => rfl, fun h => absurd rfl h, fun h => absurd rfl h⟩ OP0 OP1 OP2) hZ (hw _ (List.mem_of_getElem? (i := 10) rfl)) (hw _ (List.mem_of_getElem? (i := 2) rfl)) (by decide) (by decide)) q4a q4c (g := (mkF m 47 #[.val (.int pick), .val (.int ((pick &&& (2147483647 : Int32)) % (3 : Int32))), .val (.ref tt), .val (.ref ff), .unset] [(.ref tt)])) rfl (by rw [hml]; rfl) (Steps.refl _) (argsL := []) (rest := []) (lenOf pd_0 rfl) rfl (by show 2 * 0 + _ ≤ _; exact Nat.le_of_eq rfl) (hb hby at_47) (fun _ _ => ⟨rfl, e3, (by decide : 0 + 0 ≤ _), (by decide : 0 + 0 ≤ _)⟩)
    dsimp only [Pt.U, Pt.locs, Pt.cells, Pt.slots] at X4 l4 y4 z4 st4 hQ4
    subst l4 y4 z4
    obtain ⟨rfl, Nq4, e4⟩ := hQ4
    have N4 := Fr.app N0 Nq4
    refine OwnEnds.via (fun t k => st4.trans k) ?_
    show OwnEnds _ _ _ _ (T4.setTop (mkF m 50 #[.val (.int pick), .val (.int ((pick &&& (2147483647 : Int32)) % (3 : Int32))), .val (.ref tt), .val (.ref ff), .unset] [(.ref ff)]))
    refine OwnEnds.via (fun t k => XS.astore X4.here hx rfl (hb hby at_50) rfl rfl (l' := #[.val (.int pick), .val (.int ((pick &&& (2147483647 : Int32)) % (3 : Int32))), .val (.ref tt), .val (.ref ff), .val (.ref ff)]) rfl k) ?_
    show OwnEnds _ _ _ _ (T4.setTop (mkF m 52 #[.val (.int pick), .val (.int ((pick &&& (2147483647 : Int32)) % (3 : Int32))), .val (.ref tt), .val (.ref ff), .val (.ref ff)] []))
    refine OwnEnds.via (fun t k => XS.aload X4.here hx rfl (hb hby at_52) rfl rfl k) ?_
    show OwnEnds _ _ _ _ (T4.setTop (mkF m 54 #[.val (.int pick), .val (.int ((pick &&& (2147483647 : Int32)) % (3 : Int32))), .val (.ref tt), .val (.ref ff), .val (.ref ff)] [(.ref ff)]))
    refine OwnEnds.via (fun t k => XS.aloadN X4.here hx rfl (hb hby at_54) rfl rfl k) ?_
    show OwnEnds _ _ _ _ (T4.setTop (mkF m 55 #[.val (.int pick), .val (.int ((pick &&& (2147483647 : Int32)) % (3 : Int32))), .val (.ref tt), .val (.ref ff), .val (.ref ff)] [(.ref ff), (.ref ff)]))
    refine OwnEnds.via (fun t k => Jvm.RoadKit.acmp (g := (mkF m 55 #[.val (.int pick), .val (.int ((pick &&& (2147483647 : Int32)) % (3 : Int32))), .val (.ref tt), .val (.ref ff), .val (.ref ff)] [(.ref ff), (.ref ff)])) X4 hx rfl rfl rfl (pc0 := 55) (pc' := 58) (same := true) rfl (hb hby at_55) rfl (decide_eq_true rfl) (by decide) (by decide) k) ?_
    show OwnEnds _ _ _ _ (T4.setTop (mkF m 58 #[.val (.int pick), .val (.int ((pick &&& (2147483647 : Int32)) % (3 : Int32))), .val (.ref tt), .val (.ref ff), .val (.ref ff)] []))
    refine OwnEnds.via (fun t k => XS.aload X4.here hx rfl (hb hby at_58) rfl rfl k) ?_
    show OwnEnds _ _ _ _ (T4.setTop (mkF m 60 #[.val (.int pick), .val (.int ((pick &&& (2147483647 : Int32)) % (3 : Int32))), .val (.ref tt), .val (.ref ff), .val (.ref ff)] [(.ref ff)]))
    obtain ⟨cq5, kq5, q5a, q5b, q5c⟩ := isOf hZ e4 (OP4.ext O0.2)
    obtain ⟨_, _, ⟨T5, L5, k5, n5⟩, -, X5, ⟨Lc5, hQ5, l5, y5, z5⟩, st5⟩ := X4.virtualBack hx (y := (⟨"com/example/birchwire/birchwire/directory/FilterEvaluator$Truth", "negated", "()Lcom/example/birchwire/birchwire/directory/FilterEvaluator$Truth;"⟩ : MethodName)) (z := (⟨"com/example/birchwire/birchwire/directory/FilterEvaluator$Truth", "negated", "()Lcom/example/birchwire/birchwire/directory/FilterEvaluator$Truth;"⟩ : MethodName)) hown (mvT hZ (hw _ (List.mem_of_getElem? (i := 6) rfl))) (mvT hZ (hw _ (List.mem_of_getElem? (i := 7) rfl))) (notFace_of_selects (args := #[]) (mvT hZ (hw _ (List.mem_of_getElem? (i := 9) rfl)))) (mvT hZ (hw _ (List.mem_of_getElem? (i := 9) rfl))) (mvT hZ (hw _ (List.mem_of_getElem? (i := 8) rfl))) (by decide) (backOf (W := 0) (rm1 l Z a0 hw [] ff tt tt ff uu h0 n0 Z0 O0 ⟨fun h => absurd h.symm P0, fun _ _ => rfl, fun _ h => absurd rfl h⟩ OP0 OP1 OP2) hZ (hw _ (List.mem_of_getElem? (i := 10) rfl)) (hw _ (List.mem_of_getElem? (i := 2) rfl)) (by decide) (by decide)) q5a q5c (g := (mkF m 60 #[.val (.int pick), .val (.int ((pick &&& (2147483647 : Int32)) % (3 : Int32))), .val (.ref tt), .val (.ref ff), .val (.ref ff)] [(.ref ff)])) rfl (by rw [hml]; rfl) (Steps.refl _) (argsL := []) (rest := []) (lenOf pd_0 rfl) rfl (by show 2 * 0 + _ ≤ _; exact Nat.le_of_eq rfl) (hb hby at_60) (fun _ _ => ⟨rfl, e4, (by decide : 0 + 0 ≤ _), (by decide : 0 + 0 ≤ _)⟩)
    dsimp only [Pt.U, Pt.locs, Pt.cells, Pt.slots] at X5 l5 y5 z5 st5 hQ5
    subst l5 y5 z5
    obtain ⟨rfl, Nq5, e5⟩ := hQ5
    have N5 := Fr.app N4 Nq5
    refine OwnEnds.via (fun t k => st5.trans k) ?_
    show OwnEnds _ _ _ _ (T5.setTop (mkF m 63 #[.val (.int pick), .val (.int ((pick &&& (2147483647 : Int32)) % (3 : Int32))), .val (.ref tt), .val (.ref ff), .val (.ref ff)] [(.ref tt)]))
    refine OwnEnds.via (fun t k => XS.aloadN X5.here hx rfl (hb hby at_63) rfl rfl k) ?_
    show OwnEnds _ _ _ _ (T5.setTop (mkF m 64 #[.val (.int pick), .val (.int ((pick &&& (2147483647 : Int32)) % (3 : Int32))), .val (.ref tt), .val (.ref ff), .val (.ref ff)] [(.ref tt), (.ref tt)]))
    refine OwnEnds.via (fun t k => Jvm.RoadKit.acmp (g := (mkF m 64 #[.val (.int pick), .val (.int ((pick &&& (2147483647 : Int32)) % (3 : Int32))), .val (.ref tt), .val (.ref ff), .val (.ref ff)] [(.ref tt), (.ref tt)])) X5 hx rfl rfl rfl (pc0 := 64) (pc' := 67) (same := true) rfl (hb hby at_64) rfl (decide_eq_true rfl) (by decide) (by decide) k) ?_
    show OwnEnds _ _ _ _ (T5.setTop (mkF m 67 #[.val (.int pick), .val (.int ((pick &&& (2147483647 : Int32)) % (3 : Int32))), .val (.ref tt), .val (.ref ff), .val (.ref ff)] []))
    refine OwnEnds.via (fun t k => XS.iconst X5.here hx rfl (hb hby at_67) k) ?_
    show OwnEnds _ _ _ _ (T5.setTop (mkF m 68 #[.val (.int pick), .val (.int ((pick &&& (2147483647 : Int32)) % (3 : Int32))), .val (.ref tt), .val (.ref ff), .val (.ref ff)] [(.int (1 : Int32))]))
    refine OwnEnds.via (fun t k => XS.goto X5.here hx rfl (pc0 := 68) (pc' := 72) rfl (hb hby at_68) (by decide) (by decide) k) ?_
    show OwnEnds _ _ _ _ (T5.setTop (mkF m 72 #[.val (.int pick), .val (.int ((pick &&& (2147483647 : Int32)) % (3 : Int32))), .val (.ref tt), .val (.ref ff), .val (.ref ff)] [(.int (1 : Int32))]))
    obtain ⟨fs, hr, hrun, hended, hW, hsame⟩ := X5.leave (v := some (.int (1 : Int32))) (fun h => by rw [Bd.returns] at h; cases h)
    refine ⟨_, _, ?_, hrun, hended, _, _, rfl, ?_, ⟨_, rfl⟩, hW, hsame.mono (by decide) (by decide)⟩
    · exact retN X5 hx (t := .boolean) Bd.returns (by simp) (hb hby at_72) hr
    · show Q0 Z pick tt ff uu h0 n0 _ T5.heap _
      rw [e5]
      exact ⟨rfl, N5⟩
  ·
    refine OwnEnds.via (fun t k => XS.ifYes X0.here hx rfl (pc0 := 8) (pc' := 22) rfl (hb hby at_8) rfl ((if0 _ _).trans (feq hc8_1).2) (by decide) (by decide) k) ?_
    show OwnEnds _ _ _ _ (s₁.setTop (mkF m 22 #[.val (.int pick), .val (.int ((pick &&& (2147483647 : Int32)) % (3 : Int32))), .unset, .unset, .unset] []))
    refine OwnEnds.via (fun t k => XS.iloadN X0.here hx rfl (hb hby at_22) rfl k) ?_
    show OwnEnds _ _ _ _ (s₁.setTop (mkF m 23 #[.val (.int pick), .val (.int ((pick &&& (2147483647 : Int32)) % (3 : Int32))), .unset, .unset, .unset] [(.int ((pick &&& (2147483647 : Int32)) % (3 : Int32)))]))
    refine OwnEnds.via (fun t k => XS.iconst X0.here hx rfl (hb hby at_23) k) ?_
    show OwnEnds _ _ _ _ (s₁.setTop (mkF m 24 #[.val (.int pick), .val (.int ((pick &&& (2147483647 : Int32)) % (3 : Int32))), .unset, .unset, .unset] [(.int (1 : Int32)), (.int ((pick &&& (2147483647 : Int32)) % (3 : Int32)))]))
    by_cases hc24_6 : ((pick &&& (2147483647 : Int32)) % (3 : Int32)) = (1 : Int32)
    ·
      refine OwnEnds.via (fun t k => XS.icmpNo X0.here hx rfl (hb hby at_24) rfl (teq hc24_6).2 k) ?_
      show OwnEnds _ _ _ _ (s₁.setTop (mkF m 27 #[.val (.int pick), .val (.int ((pick &&& (2147483647 : Int32)) % (3 : Int32))), .unset, .unset, .unset] []))
      obtain ⟨T7, X7, e7, st7⟩ := getS2 X0 hx hZ hown (host := "") (Or.inl (hw _ (List.mem_of_getElem? (i := 4) rfl))) Via.refl e0 (OP1.ext O0.2) (g := (mkF m 27 #[.val (.int pick), .val (.int ((pick &&& (2147483647 : Int32)) % (3 : Int32))), .unset, .unset, .unset] [])) rfl (hb hby at_27)
      refine OwnEnds.via st7 ?_
      show OwnEnds _ _ _ _ (T7.setTop (mkF m 30 #[.val (.int pick), .val (.int ((pick &&& (2147483647 : Int32)) % (3 : Int32))), .unset, .unset, .unset] [(.ref ff)]))
      refine OwnEnds.via (fun t k => XS.astoreN X7.here hx rfl (hb hby at_30) rfl rfl (l' := #[.val (.int pick), .val (.int ((pick &&& (2147483647 : Int32)) % (3 : Int32))), .val (.ref ff), .unset, .unset]) rfl k) ?_
      show OwnEnds _ _ _ _ (T7.setTop (mkF m 31 #[.val (.int pick), .val (.int ((pick &&& (2147483647 : Int32)) % (3 : Int32))), .val (.ref ff), .unset, .unset] []))
      obtain ⟨T8, X8, e8, st8⟩ := getS2 X7 hx hZ hown (host := "") (Or.inl (hw _ (List.mem_of_getElem? (i := 1) rfl))) Via.refl e7 (OP0.ext O0.2) (g := (mkF m 31 #[.val (.int pick), .val (.int ((pick &&& (2147483647 : Int32)) % (3 : Int32))), .val (.ref ff), .unset, .unset] [])) rfl (hb hby at_31)
      refine OwnEnds.via st8 ?_
      show OwnEnds _ _ _ _ (T8.setTop (mkF m 34 #[.val (.int pick), .val (.int ((pick &&& (2147483647 : Int32)) % (3 : Int32))), .val (.ref ff), .unset, .unset] [(.ref tt)]))
      refine OwnEnds.via (fun t k => XS.astoreN X8.here hx rfl (hb hby at_34) rfl rfl (l' := #[.val (.int pick), .val (.int ((pick &&& (2147483647 : Int32)) % (3 : Int32))), .val (.ref ff), .val (.ref tt), .unset]) rfl k) ?_
      show OwnEnds _ _ _ _ (T8.setTop (mkF m 35 #[.val (.int pick), .val (.int ((pick &&& (2147483647 : Int32)) % (3 : Int32))), .val (.ref ff), .val (.ref tt), .unset] []))
      refine OwnEnds.via (fun t k => XS.goto X8.here hx rfl (pc0 := 35) (pc' := 46) rfl (hb hby at_35) (by decide) (by decide) k) ?_
      show OwnEnds _ _ _ _ (T8.setTop (mkF m 46 #[.val (.int pick), .val (.int ((pick &&& (2147483647 : Int32)) % (3 : Int32))), .val (.ref ff), .val (.ref tt), .unset] []))
      refine OwnEnds.via (fun t k => XS.aloadN X8.here hx rfl (hb hby at_46) rfl rfl k) ?_
      show OwnEnds _ _ _ _ (T8.setTop (mkF m 47 #[.val (.int pick), .val (.int ((pick &&& (2147483647 : Int32)) % (3 : Int32))), .val (.ref ff), .val (.ref tt), .unset] [(.ref ff)]))
      obtain ⟨cq9, kq9, q9a, q9b, q9c⟩ := isOf hZ e8 (OP4.ext O0.2)
      obtain ⟨_, _, ⟨T9, L9, k9, n9⟩, -, X9, ⟨Lc9, hQ9, l9, y9, z9⟩, st9⟩ := X8.virtualBack hx (y := (⟨"com/example/birchwire/birchwire/directory/FilterEvaluator$Truth", "negated", "()Lcom/example/birchwire/birchwire/directory/FilterEvaluator$Truth;"⟩ : MethodName)) (z := (⟨"com/example/birchwire/birchwire/directory/FilterEvaluator$Truth", "negated", "()Lcom/example/birchwire/birchwire/directory/FilterEvaluator$Truth;"⟩ : MethodName)) hown (mvT hZ (hw _ (List.mem_of_getElem? (i := 6) rfl))) (mvT hZ (hw _ (List.mem_of_getElem? (i := 7) rfl))) (notFace_of_selects (args := #[]) (mvT hZ (hw _ (List.mem_of_getElem? (i := 9) rfl)))) (mvT hZ (hw _ (List.mem_of_getElem? (i := 9) rfl))) (mvT hZ (hw _ (List.mem_of_getElem? (i := 8) rfl))) (by decide) (backOf (W := 0) (rm1 l Z a0 hw [] ff tt tt ff uu h0 n0 Z0 O0 ⟨fun h => absurd h.symm P0, fun _ _ => rfl, fun _ h => absurd rfl h⟩ OP0 OP1 OP2) hZ (hw _ (List.mem_of_getElem? (i := 10) rfl)) (hw _ (List.mem_of_getElem? (i := 2) rfl)) (by decide) (by decide)) q9a q9c (g := (mkF m 47 #[.val (.int pick), .val (.int ((pick &&& (2147483647 : Int32)) % (3 : Int32))), .val (.ref ff), .val (.ref tt), .unset] [(.ref ff)])) rfl (by rw [hml]; rfl) (Steps.refl _) (argsL := []) (rest := []) (lenOf pd_0 rfl) rfl (by show 2 * 0 + _ ≤ _; exact Nat.le_of_eq rfl) (hb hby at_47) (fun _ _ => ⟨rfl, e8, (by decide : 0 + 0 ≤ _), (by decide : 0 + 0 ≤ _)⟩)
      dsimp only [Pt.U, Pt.locs, Pt.cells, Pt.slots] at X9 l9 y9 z9 st9 hQ9
      subst l9 y9 z9
      obtain ⟨rfl, Nq9, e9⟩ := hQ9
      have N9 := Fr.app N0 Nq9
      refine OwnEnds.via (fun t k => st9.trans k) ?_
      show OwnEnds _ _ _ _ (T9.setTop (mkF m 50 #[.val (.int pick), .val (.int ((pick &&& (2147483647 : Int32)) % (3 : Int32))), .val (.ref ff), .val (.ref tt), .unset] [(.ref tt)]))
      refine OwnEnds.via (fun t k => XS.astore X9.here hx rfl (hb hby at_50) rfl rfl (l' := #[.val (.int pick), .val (.int ((pick &&& (2147483647 : Int32)) % (3 : Int32))), .val (.ref ff), .val (.ref tt), .val (.ref tt)]) rfl k) ?_
      show OwnEnds _ _ _ _ (T9.setTop (mkF m 52 #[.val (.int pick), .val (.int ((pick &&& (2147483647 : Int32)) % (3 : Int32))), .val (.ref ff), .val (.ref tt), .val (.ref tt)] []))
      refine OwnEnds.via (fun t k => XS.aload X9.here hx rfl (hb hby at_52) rfl rfl k) ?_
      show OwnEnds _ _ _ _ (T9.setTop (mkF m 54 #[.val (.int pick), .val (.int ((pick &&& (2147483647 : Int32)) % (3 : Int32))), .val (.ref ff), .val (.ref tt), .val (.ref tt)] [(.ref tt)]))
      refine OwnEnds.via (fun t k => XS.aloadN X9.here hx rfl (hb hby at_54) rfl rfl k) ?_
      show OwnEnds _ _ _ _ (T9.setTop (mkF m 55 #[.val (.int pick), .val (.int ((pick &&& (2147483647 : Int32)) % (3 : Int32))), .val (.ref ff), .val (.ref tt), .val (.ref tt)] [(.ref tt), (.ref tt)]))
      refine OwnEnds.via (fun t k => Jvm.RoadKit.acmp (g := (mkF m 55 #[.val (.int pick), .val (.int ((pick &&& (2147483647 : Int32)) % (3 : Int32))), .val (.ref ff), .val (.ref tt), .val (.ref tt)] [(.ref tt), (.ref tt)])) X9 hx rfl rfl rfl (pc0 := 55) (pc' := 58) (same := true) rfl (hb hby at_55) rfl (decide_eq_true rfl) (by decide) (by decide) k) ?_
      show OwnEnds _ _ _ _ (T9.setTop (mkF m 58 #[.val (.int pick), .val (.int ((pick &&& (2147483647 : Int32)) % (3 : Int32))), .val (.ref ff), .val (.ref tt), .val (.ref tt)] []))
      refine OwnEnds.via (fun t k => XS.aload X9.here hx rfl (hb hby at_58) rfl rfl k) ?_
      show OwnEnds _ _ _ _ (T9.setTop (mkF m 60 #[.val (.int pick), .val (.int ((pick &&& (2147483647 : Int32)) % (3 : Int32))), .val (.ref ff), .val (.ref tt), .val (.ref tt)] [(.ref tt)]))
      obtain ⟨cq10, kq10, q10a, q10b, q10c⟩ := isOf hZ e9 (OP3.ext O0.2)
      obtain ⟨_, _, ⟨T10, L10, k10, n10⟩, -, X10, ⟨Lc10, hQ10, l10, y10, z10⟩, st10⟩ := X9.virtualBack hx (y := (⟨"com/example/birchwire/birchwire/directory/FilterEvaluator$Truth", "negated", "()Lcom/example/birchwire/birchwire/directory/FilterEvaluator$Truth;"⟩ : MethodName)) (z := (⟨"com/example/birchwire/birchwire/directory/FilterEvaluator$Truth", "negated", "()Lcom/example/birchwire/birchwire/directory/FilterEvaluator$Truth;"⟩ : MethodName)) hown (mvT hZ (hw _ (List.mem_of_getElem? (i := 6) rfl))) (mvT hZ (hw _ (List.mem_of_getElem? (i := 7) rfl))) (notFace_of_selects (args := #[]) (mvT hZ (hw _ (List.mem_of_getElem? (i := 9) rfl)))) (mvT hZ (hw _ (List.mem_of_getElem? (i := 9) rfl))) (mvT hZ (hw _ (List.mem_of_getElem? (i := 8) rfl))) (by decide) (backOf (W := 0) (rm1 l Z a0 hw [] tt ff tt ff uu h0 n0 Z0 O0 ⟨fun _ => rfl, fun h => absurd rfl h, fun h => absurd rfl h⟩ OP0 OP1 OP2) hZ (hw _ (List.mem_of_getElem? (i := 10) rfl)) (hw _ (List.mem_of_getElem? (i := 2) rfl)) (by decide) (by decide)) q10a q10c (g := (mkF m 60 #[.val (.int pick), .val (.int ((pick &&& (2147483647 : Int32)) % (3 : Int32))), .val (.ref ff), .val (.ref tt), .val (.ref tt)] [(.ref tt)])) rfl (by rw [hml]; rfl) (Steps.refl _) (argsL := []) (rest := []) (lenOf pd_0 rfl) rfl (by show 2 * 0 + _ ≤ _; exact Nat.le_of_eq rfl) (hb hby at_60) (fun _ _ => ⟨rfl, e9, (by decide : 0 + 0 ≤ _), (by decide : 0 + 0 ≤ _)⟩)
      dsimp only [Pt.U, Pt.locs, Pt.cells, Pt.slots] at X10 l10 y10 z10 st10 hQ10
      subst l10 y10 z10
      obtain ⟨rfl, Nq10, e10⟩ := hQ10
      have N10 := Fr.app N9 Nq10
      refine OwnEnds.via (fun t k => st10.trans k) ?_
      show OwnEnds _ _ _ _ (T10.setTop (mkF m 63 #[.val (.int pick), .val (.int ((pick &&& (2147483647 : Int32)) % (3 : Int32))), .val (.ref ff), .val (.ref tt), .val (.ref tt)] [(.ref ff)]))
      refine OwnEnds.via (fun t k => XS.aloadN X10.here hx rfl (hb hby at_63) rfl rfl k) ?_
      show OwnEnds _ _ _ _ (T10.setTop (mkF m 64 #[.val (.int pick), .val (.int ((pick &&& (2147483647 : Int32)) % (3 : Int32))), .val (.ref ff), .val (.ref tt), .val (.ref tt)] [(.ref ff), (.ref ff)]))
      refine OwnEnds.via (fun t k => Jvm.RoadKit.acmp (g := (mkF m 64 #[.val (.int pick), .val (.int ((pick &&& (2147483647 : Int32)) % (3 : Int32))), .val (.ref ff), .val (.ref tt), .val (.ref tt)] [(.ref ff), (.ref ff)])) X10 hx rfl rfl rfl (pc0 := 64) (pc' := 67) (same := true) rfl (hb hby at_64) rfl (decide_eq_true rfl) (by decide) (by decide) k) ?_
      show OwnEnds _ _ _ _ (T10.setTop (mkF m 67 #[.val (.int pick), .val (.int ((pick &&& (2147483647 : Int32)) % (3 : Int32))), .val (.ref ff), .val (.ref tt), .val (.ref tt)] []))
      refine OwnEnds.via (fun t k => XS.iconst X10.here hx rfl (hb hby at_67) k) ?_
      show OwnEnds _ _ _ _ (T10.setTop (mkF m 68 #[.val (.int pick), .val (.int ((pick &&& (2147483647 : Int32)) % (3 : Int32))), .val (.ref ff), .val (.ref tt), .val (.ref tt)] [(.int (1 : Int32))]))
      refine OwnEnds.via (fun t k => XS.goto X10.here hx rfl (pc0 := 68) (pc' := 72) rfl (hb hby at_68) (by decide) (by decide) k) ?_
      show OwnEnds _ _ _ _ (T10.setTop (mkF m 72 #[.val (.int pick), .val (.int ((pick &&& (2147483647 : Int32)) % (3 : Int32))), .val (.ref ff), .val (.ref tt), .val (.ref tt)] [(.int (1 : Int32))]))
      obtain ⟨fs, hr, hrun, hended, hW, hsame⟩ := X10.leave (v := some (.int (1 : Int32))) (fun h => by rw [Bd.returns] at h; cases h)
      refine ⟨_, _, ?_, hrun, hended, _, _, rfl, ?_, ⟨_, rfl⟩, hW, hsame.mono (by decide) (by decide)⟩
      · exact retN X10 hx (t := .boolean) Bd.returns (by simp) (hb hby at_72) hr
      · show Q0 Z pick tt ff uu h0 n0 _ T10.heap _
        rw [e10]
        exact ⟨rfl, N10⟩
    ·
      refine OwnEnds.via (fun t k => XS.icmpYes X0.here hx rfl (pc0 := 24) (pc' := 38) rfl (hb hby at_24) rfl (feq hc24_6).2 (by decide) (by decide) k) ?_
      show OwnEnds _ _ _ _ (s₁.setTop (mkF m 38 #[.val (.int pick), .val (.int ((pick &&& (2147483647 : Int32)) % (3 : Int32))), .unset, .unset, .unset] []))
      obtain ⟨T11, X11, e11, st11⟩ := getS2 X0 hx hZ hown (host := "") (Or.inl (hw _ (List.mem_of_getElem? (i := 13) rfl))) Via.refl e0 (OP2.ext O0.2) (g := (mkF m 38 #[.val (.int pick), .val (.int ((pick &&& (2147483647 : Int32)) % (3 : Int32))), .unset, .unset, .unset] [])) rfl (hb hby at_38)
      refine OwnEnds.via st11 ?_
      show OwnEnds _ _ _ _ (T11.setTop (mkF m 41 #[.val (.int pick), .val (.int ((pick &&& (2147483647 : Int32)) % (3 : Int32))), .unset, .unset, .unset] [(.ref uu)]))
      refine OwnEnds.via (fun t k => XS.astoreN X11.here hx rfl (hb hby at_41) rfl rfl (l' := #[.val (.int pick), .val (.int ((pick &&& (2147483647 : Int32)) % (3 : Int32))), .val (.ref uu), .unset, .unset]) rfl k) ?_
      show OwnEnds _ _ _ _ (T11.setTop (mkF m 42 #[.val (.int pick), .val (.int ((pick &&& (2147483647 : Int32)) % (3 : Int32))), .val (.ref uu), .unset, .unset] []))
      obtain ⟨T12, X12, e12, st12⟩ := getS2 X11 hx hZ hown (host := "") (Or.inl (hw _ (List.mem_of_getElem? (i := 13) rfl))) Via.refl e11 (OP2.ext O0.2) (g := (mkF m 42 #[.val (.int pick), .val (.int ((pick &&& (2147483647 : Int32)) % (3 : Int32))), .val (.ref uu), .unset, .unset] [])) rfl (hb hby at_42)
      refine OwnEnds.via st12 ?_
      show OwnEnds _ _ _ _ (T12.setTop (mkF m 45 #[.val (.int pick), .val (.int ((pick &&& (2147483647 : Int32)) % (3 : Int32))), .val (.ref uu), .unset, .unset] [(.ref uu)]))
      refine OwnEnds.via (fun t k => XS.astoreN X12.here hx rfl (hb hby at_45) rfl rfl (l' := #[.val (.int pick), .val (.int ((pick &&& (2147483647 : Int32)) % (3 : Int32))), .val (.ref uu), .val (.ref uu), .unset]) rfl k) ?_
      show OwnEnds _ _ _ _ (T12.setTop (mkF m 46 #[.val (.int pick), .val (.int ((pick &&& (2147483647 : Int32)) % (3 : Int32))), .val (.ref uu), .val (.ref uu), .unset] []))
      refine OwnEnds.via (fun t k => XS.aloadN X12.here hx rfl (hb hby at_46) rfl rfl k) ?_
      show OwnEnds _ _ _ _ (T12.setTop (mkF m 47 #[.val (.int pick), .val (.int ((pick &&& (2147483647 : Int32)) % (3 : Int32))), .val (.ref uu), .val (.ref uu), .unset] [(.ref uu)]))
      obtain ⟨cq13, kq13, q13a, q13b, q13c⟩ := isOf hZ e12 (OP5.ext O0.2)
      obtain ⟨_, _, ⟨T13, L13, k13, n13⟩, -, X13, ⟨Lc13, hQ13, l13, y13, z13⟩, st13⟩ := X12.virtualBack hx (y := (⟨"com/example/birchwire/birchwire/directory/FilterEvaluator$Truth", "negated", "()Lcom/example/birchwire/birchwire/directory/FilterEvaluator$Truth;"⟩ : MethodName)) (z := (⟨"com/example/birchwire/birchwire/directory/FilterEvaluator$Truth", "negated", "()Lcom/example/birchwire/birchwire/directory/FilterEvaluator$Truth;"⟩ : MethodName)) hown (mvT hZ (hw _ (List.mem_of_getElem? (i := 6) rfl))) (mvT hZ (hw _ (List.mem_of_getElem? (i := 7) rfl))) (notFace_of_selects (args := #[]) (mvT hZ (hw _ (List.mem_of_getElem? (i := 9) rfl)))) (mvT hZ (hw _ (List.mem_of_getElem? (i := 9) rfl))) (mvT hZ (hw _ (List.mem_of_getElem? (i := 8) rfl))) (by decide) (backOf (W := 0) (rm1 l Z a0 hw [] uu uu tt ff uu h0 n0 Z0 O0 ⟨fun h => absurd h.symm P1, fun _ h => absurd h.symm P2, fun _ _ => rfl⟩ OP0 OP1 OP2) hZ (hw _ (List.mem_of_getElem? (i := 10) rfl)) (hw _ (List.mem_of_getElem? (i := 2) rfl)) (by decide) (by decide)) q13a q13c (g := (mkF m 47 #[.val (.int pick), .val (.int ((pick &&& (2147483647 : Int32)) % (3 : Int32))), .val (.ref uu), .val (.ref uu), .unset] [(.ref uu)])) rfl (by rw [hml]; rfl) (Steps.refl _) (argsL := []) (rest := []) (lenOf pd_0 rfl) rfl (by show 2 * 0 + _ ≤ _; exact Nat.le_of_eq rfl) (hb hby at_47) (fun _ _ => ⟨rfl, e12, (by decide : 0 + 0 ≤ _), (by decide : 0 + 0 ≤ _)⟩)
      dsimp only [Pt.U, Pt.locs, Pt.cells, Pt.slots] at X13 l13 y13 z13 st13 hQ13
      subst l13 y13 z13
      obtain ⟨rfl, Nq13, e13⟩ := hQ13
      have N13 := Fr.app N0 Nq13
      refine OwnEnds.via (fun t k => st13.trans k) ?_
      show OwnEnds _ _ _ _ (T13.setTop (mkF m 50 #[.val (.int pick), .val (.int ((pick &&& (2147483647 : Int32)) % (3 : Int32))), .val (.ref uu), .val (.ref uu), .unset] [(.ref uu)]))
      refine OwnEnds.via (fun t k => XS.astore X13.here hx rfl (hb hby at_50) rfl rfl (l' := #[.val (.int pick), .val (.int ((pick &&& (2147483647 : Int32)) % (3 : Int32))), .val (.ref uu), .val (.ref uu), .val (.ref uu)]) rfl k) ?_
      show OwnEnds _ _ _ _ (T13.setTop (mkF m 52 #[.val (.int pick), .val (.int ((pick &&& (2147483647 : Int32)) % (3 : Int32))), .val (.ref uu), .val (.ref uu), .val (.ref uu)] []))
      refine OwnEnds.via (fun t k => XS.aload X13.here hx rfl (hb hby at_52) rfl rfl k) ?_
      show OwnEnds _ _ _ _ (T13.setTop (mkF m 54 #[.val (.int pick), .val (.int ((pick &&& (2147483647 : Int32)) % (3 : Int32))), .val (.ref uu), .val (.ref uu), .val (.ref uu)] [(.ref uu)]))
      refine OwnEnds.via (fun t k => XS.aloadN X13.here hx rfl (hb hby at_54) rfl rfl k) ?_
      show OwnEnds _ _ _ _ (T13.setTop (mkF m 55 #[.val (.int pick), .val (.int ((pick &&& (2147483647 : Int32)) % (3 : Int32))), .val (.ref uu), .val (.ref uu), .val (.ref uu)] [(.ref uu), (.ref uu)]))
      refine OwnEnds.via (fun t k => Jvm.RoadKit.acmp (g := (mkF m 55 #[.val (.int pick), .val (.int ((pick &&& (2147483647 : Int32)) % (3 : Int32))), .val (.ref uu), .val (.ref uu), .val (.ref uu)] [(.ref uu), (.ref uu)])) X13 hx rfl rfl rfl (pc0 := 55) (pc' := 58) (same := true) rfl (hb hby at_55) rfl (decide_eq_true rfl) (by decide) (by decide) k) ?_
      show OwnEnds _ _ _ _ (T13.setTop (mkF m 58 #[.val (.int pick), .val (.int ((pick &&& (2147483647 : Int32)) % (3 : Int32))), .val (.ref uu), .val (.ref uu), .val (.ref uu)] []))
      refine OwnEnds.via (fun t k => XS.aload X13.here hx rfl (hb hby at_58) rfl rfl k) ?_
      show OwnEnds _ _ _ _ (T13.setTop (mkF m 60 #[.val (.int pick), .val (.int ((pick &&& (2147483647 : Int32)) % (3 : Int32))), .val (.ref uu), .val (.ref uu), .val (.ref uu)] [(.ref uu)]))
      obtain ⟨cq14, kq14, q14a, q14b, q14c⟩ := isOf hZ e13 (OP5.ext O0.2)
      obtain ⟨_, _, ⟨T14, L14, k14, n14⟩, -, X14, ⟨Lc14, hQ14, l14, y14, z14⟩, st14⟩ := X13.virtualBack hx (y := (⟨"com/example/birchwire/birchwire/directory/FilterEvaluator$Truth", "negated", "()Lcom/example/birchwire/birchwire/directory/FilterEvaluator$Truth;"⟩ : MethodName)) (z := (⟨"com/example/birchwire/birchwire/directory/FilterEvaluator$Truth", "negated", "()Lcom/example/birchwire/birchwire/directory/FilterEvaluator$Truth;"⟩ : MethodName)) hown (mvT hZ (hw _ (List.mem_of_getElem? (i := 6) rfl))) (mvT hZ (hw _ (List.mem_of_getElem? (i := 7) rfl))) (notFace_of_selects (args := #[]) (mvT hZ (hw _ (List.mem_of_getElem? (i := 9) rfl)))) (mvT hZ (hw _ (List.mem_of_getElem? (i := 9) rfl))) (mvT hZ (hw _ (List.mem_of_getElem? (i := 8) rfl))) (by decide) (backOf (W := 0) (rm1 l Z a0 hw [] uu uu tt ff uu h0 n0 Z0 O0 ⟨fun h => absurd h.symm P1, fun _ h => absurd h.symm P2, fun _ _ => rfl⟩ OP0 OP1 OP2) hZ (hw _ (List.mem_of_getElem? (i := 10) rfl)) (hw _ (List.mem_of_getElem? (i := 2) rfl)) (by decide) (by decide)) q14a q14c (g := (mkF m 60 #[.val (.int pick), .val (.int ((pick &&& (2147483647 : Int32)) % (3 : Int32))), .val (.ref uu), .val (.ref uu), .val (.ref uu)] [(.ref uu)])) rfl (by rw [hml]; rfl) (Steps.refl _) (argsL := []) (rest := []) (lenOf pd_0 rfl) rfl (by show 2 * 0 + _ ≤ _; exact Nat.le_of_eq rfl) (hb hby at_60) (fun _ _ => ⟨rfl, e13, (by decide : 0 + 0 ≤ _), (by decide : 0 + 0 ≤ _)⟩)
      dsimp only [Pt.U, Pt.locs, Pt.cells, Pt.slots] at X14 l14 y14 z14 st14 hQ14
      subst l14 y14 z14
      obtain ⟨rfl, Nq14, e14⟩ := hQ14
      have N14 := Fr.app N13 Nq14
      refine OwnEnds.via (fun t k => st14.trans k) ?_
      show OwnEnds _ _ _ _ (T14.setTop (mkF m 63 #[.val (.int pick), .val (.int ((pick &&& (2147483647 : Int32)) % (3 : Int32))), .val (.ref uu), .val (.ref uu), .val (.ref uu)] [(.ref uu)]))
      refine OwnEnds.via (fun t k => XS.aloadN X14.here hx rfl (hb hby at_63) rfl rfl k) ?_
      show OwnEnds _ _ _ _ (T14.setTop (mkF m 64 #[.val (.int pick), .val (.int ((pick &&& (2147483647 : Int32)) % (3 : Int32))), .val (.ref uu), .val (.ref uu), .val (.ref uu)] [(.ref uu), (.ref uu)]))
      refine OwnEnds.via (fun t k => Jvm.RoadKit.acmp (g := (mkF m 64 #[.val (.int pick), .val (.int ((pick &&& (2147483647 : Int32)) % (3 : Int32))), .val (.ref uu), .val (.ref uu), .val (.ref uu)] [(.ref uu), (.ref uu)])) X14 hx rfl rfl rfl (pc0 := 64) (pc' := 67) (same := true) rfl (hb hby at_64) rfl (decide_eq_true rfl) (by decide) (by decide) k) ?_
      show OwnEnds _ _ _ _ (T14.setTop (mkF m 67 #[.val (.int pick), .val (.int ((pick &&& (2147483647 : Int32)) % (3 : Int32))), .val (.ref uu), .val (.ref uu), .val (.ref uu)] []))
      refine OwnEnds.via (fun t k => XS.iconst X14.here hx rfl (hb hby at_67) k) ?_
      show OwnEnds _ _ _ _ (T14.setTop (mkF m 68 #[.val (.int pick), .val (.int ((pick &&& (2147483647 : Int32)) % (3 : Int32))), .val (.ref uu), .val (.ref uu), .val (.ref uu)] [(.int (1 : Int32))]))
      refine OwnEnds.via (fun t k => XS.goto X14.here hx rfl (pc0 := 68) (pc' := 72) rfl (hb hby at_68) (by decide) (by decide) k) ?_
      show OwnEnds _ _ _ _ (T14.setTop (mkF m 72 #[.val (.int pick), .val (.int ((pick &&& (2147483647 : Int32)) % (3 : Int32))), .val (.ref uu), .val (.ref uu), .val (.ref uu)] [(.int (1 : Int32))]))
      obtain ⟨fs, hr, hrun, hended, hW, hsame⟩ := X14.leave (v := some (.int (1 : Int32))) (fun h => by rw [Bd.returns] at h; cases h)
      refine ⟨_, _, ?_, hrun, hended, _, _, rfl, ?_, ⟨_, rfl⟩, hW, hsame.mono (by decide) (by decide)⟩
      · exact retN X14 hx (t := .boolean) Bd.returns (by simp) (hb hby at_72) hr
      · show Q0 Z pick tt ff uu h0 n0 _ T14.heap _
        rw [e14]
        exact ⟨rfl, N14⟩

set_option maxRecDepth 65536 in
set_option maxHeartbeats 40000000 in
theorem comes_1 {Post : Tables → Env → Array Value → State → Outcome → State → Prop} (hpost : ∀ tb e args s v u, (limb_1_1.after args s (.returned v) u = true ∧ limb_1_2.after args s (.returned v) u = true ∧ True) → FrameEnd s (.returned v) u (Jvm.fieldLocs frame_1_writes args s ++ Jvm.arrayLocs frame_1_arrays args s ++ Jvm.staticLocs frame_1_statics s) 0 0 → Post tb e args s (.returned v) u) :
    ArmFor flags0 classFile x code maxLocals ret World_1 tables_1 room_1 Calls_1 rest_1 Pre_1 Post := by
  intro l hfl _ _ p e ha hc hk s m args below hf hA hF happ hP
  obtain ⟨hcalls, hrest, hpre⟩ := hP
  obtain ⟨-, -, -, hnamed, -, -, -, hat⟩ := (Spec.applies_iff hf).mp happ
  obtain ⟨hg, hn⟩ := and_e (Cond.before_iff.mp (show (Jvm.Cond.and given_1 narrow_1).before args s = true from hpre))
  obtain ⟨hg0, hh0⟩ := and_e hg
  obtain ⟨w0, rfl⟩ : ∃ w0 : Value, args = #[w0] := by
    have hs : args.size = 1 := by simpa [Cond.value, given_1] using hg0
    obtain ⟨L⟩ := args
    match L, hs with
    | [w0], _ => exact ⟨w0, rfl⟩
  have hw := fun d (hd : d ∈ tables_1) => atoms_spec (ws := Jvm.Cond.code x code maxLocals ret :: tables_1) hat d (List.mem_cons_of_mem _ hd)
  have hfit : Fit s := fun {y c} hc i hi => by
    obtain ⟨ha, rfl⟩ := Array.getElem?_eq_some_iff.mp hc
    have q := List.all_eq_true.mp ((Array.all_eq_true_iff_forall_mem.mp hF) _ (Array.getElem_mem ha)) i (List.mem_range.mpr hi)
    simpa [Array.getElem?_eq_getElem hi] using q
  obtain ⟨i0, ei0⟩ := is_v hh0
  obtain rfl : w0 = (.int i0) := Option.some.inj ei0
  obtain ⟨c0_hn, r0_hn⟩ := and_e hn
  obtain ⟨c1_hn, r1_hn⟩ := and_e r0_hn
  obtain ⟨c2_hn, r2_hn⟩ := and_e r1_hn
  obtain ⟨c3_hn, r3_hn⟩ := and_e r2_hn
  obtain ⟨c4_hn, r4_hn⟩ := and_e r3_hn
  obtain ⟨tt, ev_tt⟩ := exa_v c0_hn
  have E_tt : Exa s s.heap tt "com/example/birchwire/birchwire/directory/FilterEvaluator$Truth" := Exa.start ev_tt c0_hn
  have S_tt : Sta s s.heap "com/example/birchwire/birchwire/directory/FilterEvaluator$Truth" "TRUE" "Lcom/example/birchwire/birchwire/directory/FilterEvaluator$Truth;" (.ref tt) := Sta.start ev_tt (Or.inr ⟨(hw _ (List.mem_of_getElem? (i := 2) rfl)), (hw _ (List.mem_of_getElem? (i := 3) rfl))⟩)
  obtain ⟨ff, ev_ff⟩ := exa_v c1_hn
  have E_ff : Exa s s.heap ff "com/example/birchwire/birchwire/directory/FilterEvaluator$Truth" := Exa.start ev_ff c1_hn
  have S_ff : Sta s s.heap "com/example/birchwire/birchwire/directory/FilterEvaluator$Truth" "FALSE" "Lcom/example/birchwire/birchwire/directory/FilterEvaluator$Truth;" (.ref ff) := Sta.start ev_ff (Or.inr ⟨(hw _ (List.mem_of_getElem? (i := 2) rfl)), (hw _ (List.mem_of_getElem? (i := 5) rfl))⟩)
  obtain ⟨uu, ev_uu⟩ := exa_v c4_hn
  have E_uu : Exa s s.heap uu "com/example/birchwire/birchwire/directory/FilterEvaluator$Truth" := Exa.start ev_uu c4_hn
  have S_uu : Sta s s.heap "com/example/birchwire/birchwire/directory/FilterEvaluator$Truth" "UNDEFINED" "Lcom/example/birchwire/birchwire/directory/FilterEvaluator$Truth;" (.ref uu) := Sta.start ev_uu (Or.inr ⟨(hw _ (List.mem_of_getElem? (i := 2) rfl)), (hw _ (List.mem_of_getElem? (i := 14) rfl))⟩)
  have F_ff : Fld s s.heap ff "java/lang/Enum" "ordinal" "I" (.int (1 : Int32)) := Fld.start ((fld_at ev_ff).symm.trans (eqv_i (Term.int_eval _) c2_hn))
  have F_tt : Fld s s.heap tt "java/lang/Enum" "ordinal" "I" (.int (0 : Int32)) := Fld.start ((fld_at ev_tt).symm.trans (eqv_i (Term.int_eval _) c3_hn))
  have F_uu : Fld s s.heap uu "java/lang/Enum" "ordinal" "I" (.int (2 : Int32)) := Fld.start ((fld_at ev_uu).symm.trans (eqv_i (Term.int_eval _) r4_hn))
  obtain ⟨n, o, h1, h2, h3, _, L, rfl, ⟨rfl, N⟩, hq⟩ := rm0 l s _ hw tables_1 i0 tt ff uu s.heap s.heap.size (Nat.le_refl _) (Old.start s) (F_tt.ne F_ff (by decide)) (F_tt.ne F_uu (by decide)) (F_ff.ne F_uu (by decide)) S_tt S_ff S_uu E_tt E_ff E_uu p e ha hc hk s m _ below hf ((Spec.applies_iff_loose hf).mp happ).1 ⟨rfl, State.Warmed39.refl s, rfl⟩ trivial
  refine ⟨n, _, h1, h2, h3, hpost _ _ _ _ _ _ ⟨Cond.after_iff.mpr rfl, Cond.after_iff.mpr (eq_i res_at (Term.int_eval (1)) rfl), trivial⟩ ⟨hq.1, hq.2.1, (hq.2.2.sift fun y hy => Or.inr (N y hy)).mono (by decide) (by decide)⟩⟩
theorem main_1_1 : Claimed_1_1 := comes_1 fun _ _ _ _ _ _ h hF => ⟨h.1, hF⟩
theorem main_1_2 : Claimed_1_2 := comes_1 fun _ _ _ _ _ _ h hF => ⟨h.2.1, hF⟩
end Jvm.Pilot.@@N@@
namespace Jvm.Pilot.@@N@@
open Jvm Jvm.ClassFile Sem Op Lib Jvm.Free Jvm.Stand Jvm.Pilot.@@N@@.Jvm.D
/-! MADE BY PROGRAM (witnessworld.py) out of the Statement's table words and the real class files: 12 classes; the members and pool entries that the words name. The judged class is class 1, her method 1. -/
namespace start1
open Jvm.ClassFile
def u (s : String) : CpInfo := .utf8 (stringToUtf16 s)
/-- a pool by its gaps: so many unusable entries, then the entry; so many at the end -/
def gap : Nat → List CpInfo → List CpInfo
  | 0, r => r
  | n + 1, r => .unusable :: gap n r
def poolList (es : List (Nat × CpInfo)) (last : Nat) : List CpInfo := es.foldr (fun e r => gap e.1 (e.2 :: r)) (gap last [])
def pool (es : List (Nat × CpInfo)) (last : Nat) : Array CpInfo := ⟨poolList es last⟩
def fileOf (pool : Array CpInfo) (this : Nat) (attrs : Array Attribute := #[]) (ms : Array MethodInfo := #[]) (fl : Nat := 33) (sup : Nat := 0) (ifs : Array Nat := #[]) (fds : Array FieldInfo := #[]) : ClassFile where
  minorVersion := 0
  majorVersion := 65
  constantPool := pool
  accessFlags := fl
  thisClass := this
  superClass := sup
  interfaces := ifs
  fields := fds
  methods := ms
  attributes := attrs
def plain (name : String) (sup : Option ClassId) : Class where
  name := name
  kind := .ordinary
  loader := none
  accessFlags := 33
  super := sup
  interfaces := #[]
  cf := none
  fields := #[]
  methods := #[]
  instanceTypes := #[]
  staticTypes := #[]
  resolved := #[]
  callSites := []
  init := .initialized
  statics := none
  mirror := none

def pool0 : Array CpInfo := pool [(5, u "<init>"), (0, u "()V"), (1, .class_ 10), (1, u "java/lang/Object")] 113

def k0m0 : Method := { name := "<init>", desc := "()V", sig := { parameters := [], returnType := none }, accessFlags := 1, code := none }
/-- java/lang/Object -/
def k0 : Class := { plain "java/lang/Object" none with
  accessFlags := 33
  interfaces := #[]
  cf := some (fileOf pool0 8 #[] #[{ accessFlags := 1, nameIndex := 5, descriptorIndex := 6, attributes := #[] }] 33 0 #[] #[])
  fields := #[]
  methods := #[k0m0]
  instanceTypes := #[]
  staticTypes := #[]
  resolved := Array.replicate 124 none
  statics := none }

def pool1 : Array CpInfo := pool [(2, .class_ 4), (1, u "java/lang/Object"), (0, u "<init>"), (0, u "()V"), (0, .integer 2147483647), (0, .fieldref 9 10), (0, .class_ 11), (0, .nameAndType 12 13), (0, u "com/example/birchwire/birchwire/directory/FilterEvaluator$Truth"), (0, u "TRUE"), (0, u "Lcom/example/birchwire/birchwire/directory/FilterEvaluator$Truth;"), (0, .fieldref 9 15), (0, .nameAndType 16 13), (0, u "FALSE"), (0, .fieldref 9 18), (0, .nameAndType 19 13), (0, u "UNDEFINED"), (0, .methodref 9 21), (0, .nameAndType 22 23), (0, u "negated"), (0, u "()Lcom/example/birchwire/birchwire/directory/FilterEvaluator$Truth;"), (0, .class_ 25), (0, u "com/example/birchwire/birchwire/directory/TruthNegatedPinLaw"), (2, u "law"), (0, u "(I)Z")] 7

def k1m0 : Method := { name := "<init>", desc := "()V", sig := { parameters := [], returnType := none }, accessFlags := 1, code := none }
def k1c1 : Code := { maxStack := 2, maxLocals := 5, code := code, exceptionTable := #[], attributes := #[] }
def k1m1 : Method := { name := "law", desc := "(I)Z", sig := { parameters := [.int], returnType := some .boolean }, accessFlags := 9, code := some k1c1 }
/-- com/example/birchwire/birchwire/directory/TruthNegatedPinLaw -/
def k1 : Class := { plain "com/example/birchwire/birchwire/directory/TruthNegatedPinLaw" (some 0) with
  accessFlags := 49
  interfaces := #[]
  cf := some (fileOf pool1 24 #[] #[{ accessFlags := 1, nameIndex := 5, descriptorIndex := 6, attributes := #[] }, { accessFlags := 9, nameIndex := 28, descriptorIndex := 29, attributes := #[] }] 49 2 #[] #[])
  fields := #[]
  methods := #[k1m0, k1m1]
  instanceTypes := #[]
  staticTypes := #[]
  resolved := Array.replicate 37 none
  statics := none }

def pool2 : Array CpInfo := pool [(1, .class_ 2), (0, u "java/lang/constant/Constable"), (0, .class_ 4), (0, u "java/lang/Object")] 6

/-- java/lang/constant/Constable -/
def k2 : Class := { plain "java/lang/constant/Constable" (some 0) with
  accessFlags := 1537
  interfaces := #[]
  cf := some (fileOf pool2 1 #[] #[] 1537 3 #[] #[])
  fields := #[]
  methods := #[]
  instanceTypes := #[]
  staticTypes := #[]
  resolved := Array.replicate 11 none
  statics := none }

def pool3 : Array CpInfo := pool [(1, .class_ 2), (0, u "java/lang/Comparable"), (0, .class_ 4), (0, u "java/lang/Object")] 7

/-- java/lang/Comparable -/
def k3 : Class := { plain "java/lang/Comparable" (some 0) with
  accessFlags := 1537
  interfaces := #[]
  cf := some (fileOf pool3 1 #[] #[] 1537 3 #[] #[])
  fields := #[]
  methods := #[]
  instanceTypes := #[]
  staticTypes := #[]
  resolved := Array.replicate 12 none
  statics := none }

def pool4 : Array CpInfo := pool [(1, .class_ 2), (0, u "java/io/Serializable"), (0, .class_ 4), (0, u "java/lang/Object")] 2

/-- java/io/Serializable -/
def k4 : Class := { plain "java/io/Serializable" (some 0) with
  accessFlags := 1537
  interfaces := #[]
  cf := some (fileOf pool4 1 #[] #[] 1537 3 #[] #[])
  fields := #[]
  methods := #[]
  instanceTypes := #[]
  staticTypes := #[]
  resolved := Array.replicate 7 none
  statics := none }

def pool5 : Array CpInfo := pool [(2, .class_ 4), (1, u "java/lang/Enum"), (0, u "name"), (0, u "Ljava/lang/String;"), (2, u "ordinal"), (0, u "I"), (1, .class_ 14), (1, u "java/lang/Object"), (4, u "hash"), (86, .class_ 108), (1, u "java/lang/Enum$EnumDesc"), (2, .class_ 112), (0, u "java/lang/constant/Constable"), (0, .class_ 114), (0, u "java/lang/Comparable"), (0, .class_ 116), (0, u "java/io/Serializable")] 87

/-- java/lang/Enum -/
def k5 : Class := { plain "java/lang/Enum" (some 0) with
  accessFlags := 1057
  interfaces := #[2, 3, 4]
  cf := some (fileOf pool5 2 #[.nestMembers #[106]] #[] 1057 12 #[111, 113, 115] #[{ accessFlags := 18, nameIndex := 5, descriptorIndex := 6, attributes := #[] }, { accessFlags := 18, nameIndex := 9, descriptorIndex := 10, attributes := #[] }, { accessFlags := 2, nameIndex := 19, descriptorIndex := 10, attributes := #[] }])
  fields := #[{ name := "name", type := (.object "java/lang/String"), accessFlags := 18, slot := 0, constantValue := 0 }, { name := "ordinal", type := .int, accessFlags := 18, slot := 1, constantValue := 0 }, { name := "hash", type := .int, accessFlags := 2, slot := 2, constantValue := 0 }]
  methods := #[]
  instanceTypes := #[(.object "java/lang/String"), .int, .int]
  staticTypes := #[]
  resolved := Array.replicate 204 none
  statics := none }

def pool6 : Array CpInfo := pool [(1, .class_ 2), (0, u "com/example/birchwire/birchwire/directory/FilterEvaluator$Truth"), (0, .fieldref 1 4), (0, .nameAndType 5 6), (0, u "TRUE"), (0, u "Lcom/example/birchwire/birchwire/directory/FilterEvaluator$Truth;"), (0, .fieldref 1 8), (0, .nameAndType 9 6), (0, u "FALSE"), (0, .fieldref 1 11), (0, .nameAndType 12 6), (0, u "UNDEFINED"), (2, u "$VALUES"), (0, u "[Lcom/example/birchwire/birchwire/directory/FilterEvaluator$Truth;"), (6, .class_ 25), (1, u "java/lang/Enum"), (21, u "negated"), (0, u "()Lcom/example/birchwire/birchwire/directory/FilterEvaluator$Truth;"), (6, .class_ 56), (0, u "com/example/birchwire/birchwire/directory/FilterEvaluator")] 2

def k6c0 : Code := { maxStack := 2, maxLocals := 1, code := prog_20_method_4_code, exceptionTable := #[], attributes := #[] }
def k6m0 : Method := { name := "negated", desc := "()Lcom/example/birchwire/birchwire/directory/FilterEvaluator$Truth;", sig := { parameters := [], returnType := some (.object "com/example/birchwire/birchwire/directory/FilterEvaluator$Truth") }, accessFlags := 0, code := some k6c0 }
/-- com/example/birchwire/birchwire/directory/FilterEvaluator$Truth -/
def k6 : Class := { plain "com/example/birchwire/birchwire/directory/FilterEvaluator$Truth" (some 5) with
  accessFlags := 16433
  interfaces := #[]
  cf := some (fileOf pool6 1 #[.nestHost 55] #[{ accessFlags := 0, nameIndex := 47, descriptorIndex := 48, attributes := #[] }] 16433 23 #[] #[{ accessFlags := 16409, nameIndex := 5, descriptorIndex := 6, attributes := #[] }, { accessFlags := 16409, nameIndex := 9, descriptorIndex := 6, attributes := #[] }, { accessFlags := 16409, nameIndex := 12, descriptorIndex := 6, attributes := #[] }, { accessFlags := 4122, nameIndex := 15, descriptorIndex := 16, attributes := #[] }])
  fields := #[{ name := "TRUE", type := (.object "com/example/birchwire/birchwire/directory/FilterEvaluator$Truth"), accessFlags := 16409, slot := 0, constantValue := 0 }, { name := "FALSE", type := (.object "com/example/birchwire/birchwire/directory/FilterEvaluator$Truth"), accessFlags := 16409, slot := 1, constantValue := 0 }, { name := "UNDEFINED", type := (.object "com/example/birchwire/birchwire/directory/FilterEvaluator$Truth"), accessFlags := 16409, slot := 2, constantValue := 0 }, { name := "$VALUES", type := (.array (.object "com/example/birchwire/birchwire/directory/FilterEvaluator$Truth")), accessFlags := 4122, slot := 3, constantValue := 0 }]
  methods := #[k6m0]
  instanceTypes := #[(.object "java/lang/String"), .int, .int]
  staticTypes := #[(.object "com/example/birchwire/birchwire/directory/FilterEvaluator$Truth"), (.object "com/example/birchwire/birchwire/directory/FilterEvaluator$Truth"), (.object "com/example/birchwire/birchwire/directory/FilterEvaluator$Truth"), (.array (.object "com/example/birchwire/birchwire/directory/FilterEvaluator$Truth"))]
  resolved := Array.replicate 59 none
  statics := some 0 }

def pool7 : Array CpInfo := pool [(1, u "java/lang/Cloneable"), (0, .class_ 1), (0, u "java/lang/Object"), (0, .class_ 3)] 3

/-- java/lang/Cloneable -/
def k7 : Class := { plain "java/lang/Cloneable" (some 0) with
  accessFlags := 1537
  interfaces := #[]
  cf := some (fileOf pool7 2 #[] #[] 1537 4 #[] #[])
  fields := #[]
  methods := #[]
  instanceTypes := #[]
  staticTypes := #[]
  resolved := Array.replicate 8 none
  statics := none }

/-- the primitive byte -/
def k8 : Class := { plain "byte" none with kind := .primitive 'B', accessFlags := 0x411 }
/-- [B -/
def k9 : Class := { plain "[B" (some 0) with kind := .array 8 .byte, interfaces := #[7, 4], accessFlags := 1041 }

/-- the primitive int -/
def k10 : Class := { plain "int" none with kind := .primitive 'I', accessFlags := 0x411 }
/-- [I -/
def k11 : Class := { plain "[I" (some 0) with kind := .array 10 .int, interfaces := #[7, 4], accessFlags := 1041 }

def heap : Heap := #[{ cls := 6, slots := #[.ref 1, .ref 2, .ref 3, .null], vm := .statics 6 },
  { cls := 6, slots := #[.null, .int 0, .int 0], vm := .none },
  { cls := 6, slots := #[.null, .int 1, .int 0], vm := .none },
  { cls := 6, slots := #[.null, .int 2, .int 0], vm := .none }]
def classes : Array Class := #[k0, k1, k2, k3, k4, k5, k6, k7, k8, k9, k10, k11]
def interned : List (Array UInt16 × Addr) := []
def slotsUsed : Nat := 13
def theMethod : MethodId := ⟨1, 1⟩
def args0 : Array Value := #[.int 5]
def aboutOver (below : List Frame) : State where
  vm := { classes := classes, interned := interned.toArray }
  heap := heap
  slotsUsed := slotsUsed
  threads := #[{ frames := .invoking theMethod args0 :: below }]
def below0 : List Frame := [.native { method := ⟨0, 0⟩, args := #[] }]
def about1 : State := aboutOver below0
def p0 : Program := .bare "" "" ""
def e0 : Env := launch0.env 0 0 0
theorem w_frames : about1.frames = Frame.invoking theMethod args0 :: below0 := rfl
set_option maxRecDepth 65536 in
theorem w_args : argsFit about1.vm theMethod args0 = true := by decide +kernel
set_option maxRecDepth 65536 in
theorem w_heap : heapFits about1 = true := by decide +kernel
set_option maxRecDepth 65536 in
theorem w_runnable : about1.curStatus? = some .runnable := by decide +kernel
set_option maxRecDepth 65536 in
theorem w_alone : about1.alone = true := by decide +kernel
set_option maxRecDepth 65536 in
theorem w_named : about1.methodNamed? x = some theMethod := by decide +kernel
set_option maxRecDepth 65536 in
theorem w_hears : about1.hears theMethod below0 = true := by decide +kernel
set_option maxRecDepth 65536 in
theorem w_ripe : about1.ripe theMethod args0 below0 = true := by decide +kernel
theorem w_running : about1.status = .running := rfl
set_option maxRecDepth 65536 in
theorem w_room : about1.hasRoom e0.platform room_1 = true :=
  launch0.hasRoom_least _ room_1 (by decide +kernel) (by decide +kernel) (by decide +kernel) (by decide +kernel) (by decide +kernel) (by decide +kernel)
theorem allAtoms_all (ts : List Jvm.Cond) (a : Array Jvm.Value) (st : Jvm.State) : (allAtoms ts).before a st = ts.all (fun c => c.before a st) := by
  induction ts with
  | nil => rfl
  | cons c t ih =>
    show (Jvm.Cond.and c (allAtoms t)).before a st = _
    rw [Jvm.Cond.before_and, ih, List.all_cons]
def words1 : List Jvm.Cond := Jvm.Cond.code x code maxLocals ret :: tables_1
/-- a 'code' word, met by the world's own term for the bytes: nothing is compared byte by byte -/
theorem code_word {y : MethodName} {bytes : ByteArray} {mx : Nat} {rt : Option FieldType} {a : Array Value} {s : State} {m : MethodId} {meth : Method} {c : Code} (h1 : s.methodNamed? y = some m) (h2 : s.vm.method? m = some meth) (h3 : meth.code = some c) (h4 : c.code = bytes)
    (h5 : (c.maxLocals == mx && c.exceptionTable.isEmpty && decide (c.maxStack ≤ mostOperands) && decide (meth.sig.returnType = rt) && !meth.locks && decide (parseMethodDescriptor y.desc = some meth.sig)) = true) : (Jvm.Cond.code y bytes mx rt).before a s = true := by
  simp only [Bool.and_eq_true, beq_iff_eq, Bool.not_eq_true', decide_eq_true_eq] at h5
  obtain ⟨⟨⟨⟨⟨g1, g2⟩, g3⟩, g4⟩, g5⟩, g6⟩ := h5
  simp [Cond.before, Cond.holds, Cond.value, h1, h2, h3, h4, g1, g2, g3, g4, g5, g6]
def isCode : Jvm.Cond → Bool
  | .code _ _ _ _ => true
  | _ => false
theorem all_split {L : List Jvm.Cond} {P : Jvm.Cond → Bool} (h1 : L.all (fun c => isCode c || P c) = true) (h2 : ∀ c ∈ L.filter isCode, P c = true) : L.all P = true := by
  refine List.all_eq_true.mpr fun c hc => ?_
  have h := List.all_eq_true.mp h1 c hc
  rcases Bool.eq_false_or_eq_true (isCode c) with hi | hi
  · exact h2 c (List.mem_filter.mpr ⟨hc, hi⟩)
  · simpa [hi] using h
set_option maxRecDepth 65536 in
theorem w_c0 : (Jvm.Cond.code x code maxLocals ret).before args0 about1 = true := code_word (m := ⟨1, 1⟩) (meth := k1m1) (c := k1c1) (by decide +kernel) rfl rfl rfl (by decide +kernel)
set_option maxRecDepth 65536 in
theorem w_c1 : (Jvm.Cond.code ({ cls := "com/example/birchwire/birchwire/directory/FilterEvaluator$Truth", name := "negated", desc := "()Lcom/example/birchwire/birchwire/directory/FilterEvaluator$Truth;" } : Jvm.MethodName) prog_20_method_4_code (1 : Nat) (Option.some (Jvm.ClassFile.FieldType.object "com/example/birchwire/birchwire/directory/FilterEvaluator$Truth"))).before args0 about1 = true := code_word (m := ⟨6, 0⟩) (meth := k6m0) (c := k6c0) (by decide +kernel) rfl rfl rfl (by decide +kernel)
def codes1 : List Jvm.Cond := [Jvm.Cond.code x code maxLocals ret, Jvm.Cond.code ({ cls := "com/example/birchwire/birchwire/directory/FilterEvaluator$Truth", name := "negated", desc := "()Lcom/example/birchwire/birchwire/directory/FilterEvaluator$Truth;" } : Jvm.MethodName) prog_20_method_4_code (1 : Nat) (Option.some (Jvm.ClassFile.FieldType.object "com/example/birchwire/birchwire/directory/FilterEvaluator$Truth"))]
set_option maxRecDepth 65536 in
theorem codes_eq : words1.filter isCode = codes1 := rfl
theorem w_codes : ∀ c ∈ words1.filter isCode, c.before args0 about1 = true := by
  rw [codes_eq]
  intro c hc
  simp only [codes1, List.mem_cons, List.not_mem_nil, or_false] at hc
  rcases hc with rfl | rfl
  · exact w_c0
  · exact w_c1
set_option maxRecDepth 65536 in
theorem w_t1 : words1.all (fun c => isCode c || c.before args0 about1) = true := by decide +kernel
theorem w_tables : (allAtoms (Jvm.Cond.code x code maxLocals ret :: tables_1)).before args0 about1 = true := by
  rw [allAtoms_all]
  show words1.all (fun c => c.before args0 about1) = true
  refine all_split ?_ w_codes
  rw [w_t1]
set_option maxRecDepth 65536 in
theorem w_case : (Jvm.Cond.and given_1 narrow_1).before args0 about1 = true := by decide +kernel
theorem w_applies : (headSpec (Jvm.Cond.code x code maxLocals ret :: tables_1) room_1).applies x e0.platform about1 = true :=
  (Spec.applies_iff w_frames).mpr ⟨w_running, w_runnable, w_alone, w_named, w_hears, w_ripe, w_room, w_tables⟩
theorem atStart : AtStart classFile x code maxLocals ret World_1 tables_1 room_1 Calls_1 rest_1 Pre_1 launch0 p0 e0 about1 theMethod args0 below0 :=
  ⟨lists_1, trivial, launch0.admits_env _ _ _, launch0.least_env, fairChoices_fair.cas, fairChoices_fair.clock, w_frames, w_args, w_heap, w_applies, trivial, trivial, w_case⟩
end start1
theorem witness_1 : WitnessClaimed_1 := ⟨start1.p0, start1.e0, start1.about1, start1.theMethod, start1.args0, start1.below0, start1.atStart⟩
end Jvm.Pilot.@@N@@
