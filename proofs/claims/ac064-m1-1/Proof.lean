import JvmDerived
import JvmDerived.Pilot.@@N@@Statement
import JvmDerived.Pilot.@@N@@Code
set_option linter.unusedVariables false
set_option linter.unusedSimpArgs false
namespace Jvm.RoadKit
open Sem ClassFile Op Lib Jvm.Stand Jvm.Free Jvm.LawKit
section New
variable {p : Program} {l : Launch} {e : Env} {R : Room} {s : State} {m : MethodId} {args : Array Value} {below : List Frame} {meth : Method} {c : Code} {T : State} {locs : List Loc} {cells slots : Nat}
theorem retI (X : Stand p l e R s m args below meth c T locs cells slots) (hx : p.tables.exec = Jvm.exec) {pc : Nat} {Ls : Array Slot} {z : Int32} {rest : List Value} (hret : meth.sig.returnType = some .int) (hd : decode c.code pc = .ok (.ireturn, 1)) {fs : List Frame}
    (hl : ∀ (f : JFrame) (acts : List Action), f.method = m → f.locked = none → f.entered = [] → (doReturn e (T.setTop f) acts (some (.int z))).1 = T.setFrames fs) : Steps p.tables e below (T.setTop (mkF m pc Ls (.int z :: rest))) (T.setFrames fs) := by
  have hm' : T.vm.method? m = some meth := X.method'
  have hn : narrow .int (.int z) = .int z := rfl
  show Steps p.tables e below (T.setTop { method := m, pc := pc, locals := Ls, stack := _ :: rest, locked := none }) _
  jvm_step X.here [X.here.top, hx, hd, hm', hret, hn]
  first | (intro acts; rw [hl _ acts rfl rfl rfl]) | rw [hl _ _ rfl rfl rfl]
  exact Steps.refl _
end New
/-- from W the run comes to a state and an outcome of which K holds -/
def OwnEnds (tb : Tables) (e : Env) (below : List Frame) (K : State → Outcome → Prop) (W : State) : Prop := ∃ t o, Steps tb e below W t ∧ K t o
theorem OwnEnds.via {tb : Tables} {e : Env} {below : List Frame} {K : State → Outcome → Prop} {W W' : State} (f : ∀ t, Steps tb e below W' t → Steps tb e below W t) (h : OwnEnds tb e below K W') : OwnEnds tb e below K W := by
  obtain ⟨t, o, h1, h2⟩ := h
  exact ⟨t, o, f t h1, h2⟩
theorem OwnEnds.cut {tb : Tables} {e : Env} {below : List Frame} {K : State → Outcome → Prop} {W : State} (A : (State → Prop) → Prop) (h1 : A (OwnEnds tb e below K)) (h2 : A (OwnEnds tb e below K) → OwnEnds tb e below K W) : OwnEnds tb e below K W := h2 h1
end Jvm.RoadKit
namespace Jvm.Pilot.@@N@@
open Jvm Jvm.ClassFile Sem Op Lib Jvm.Free Jvm.Stand Jvm.LawKit Jvm.RoadKit Bundle Jvm.Pilot.@@N@@.Jvm.D
def own_D (n : Int64) : Prop := 1 ≤ n.toInt ∧ n.toInt ≤ 1460970
instance (n : Int64) : Decidable (own_D n) := inferInstanceAs (Decidable (_ ∧ _))
theorem own_l1 (n : Int64) : lcmpW n (1 : Int64) < (0 : Int32) ↔ n.toInt < 1 := by
  rw [lw_lt, Int64.lt_iff_toInt_lt, show (1 : Int64).toInt = 1 from by decide]
theorem own_g1 (n : Int64) : (0 : Int32) < lcmpW n ((1460970 : Int32).toInt64) ↔ 1460970 < n.toInt := by
  rw [lw_gt, Int64.lt_iff_toInt_lt, show ((1460970 : Int32).toInt64).toInt = 1460970 from by decide]
theorem own_g2 (n : Int64) : (0 : Int32) < lcmpW n (1460970 : Int64) ↔ 1460970 < n.toInt := by
  rw [lw_gt, Int64.lt_iff_toInt_lt, show (1460970 : Int64).toInt = 1460970 from by decide]

theorem d1_0 : decode prog_13_method_8_code 0 = .ok (.lload_n 0, 1) := by decide +kernel
theorem d1_1 : decode prog_13_method_8_code 1 = .ok (.lconst 1, 1) := by decide +kernel
theorem d1_2 : decode prog_13_method_8_code 2 = .ok (.lcmp, 1) := by decide +kernel
theorem d1_3 : decode prog_13_method_8_code 3 = .ok (.ifCond .lt 16, 3) := by decide +kernel
theorem d1_6 : decode prog_13_method_8_code 6 = .ok (.lload_n 0, 1) := by decide +kernel
theorem d1_7 : decode prog_13_method_8_code 7 = .ok (.getstatic 190, 3) := by decide +kernel
theorem d1_10 : decode prog_13_method_8_code 10 = .ok (.i2l, 1) := by decide +kernel
theorem d1_11 : decode prog_13_method_8_code 11 = .ok (.lcmp, 1) := by decide +kernel
theorem d1_12 : decode prog_13_method_8_code 12 = .ok (.ifCond .gt 7, 3) := by decide +kernel
theorem d1_15 : decode prog_13_method_8_code 15 = .ok (.iconst 1, 1) := by decide +kernel
theorem d1_16 : decode prog_13_method_8_code 16 = .ok (.goto 4, 3) := by decide +kernel
theorem d1_19 : decode prog_13_method_8_code 19 = .ok (.iconst 0, 1) := by decide +kernel
theorem d1_20 : decode prog_13_method_8_code 20 = .ok (.ireturn, 1) := by decide +kernel
theorem pn_rm1 : plainName "com/example/pilcrow/pilcrow/Dates" = true := by first | (simp [plainName, overriddenIn]; done) | decide +kernel
theorem ef_rm1 (m : MethodId) (n : Int64) : entryFrame m #[(.long n)] 2 = mkF m 0 #[.val (.long n), .second] [] := by first | (simp [entryFrame, mkF, argsToLocals, Value.category]; done) | rfl
def Q1 (Z : State) (n : Int64) (h0 : Heap) (n0 : Nat) (v : Option Value) (h : Heap) (L : List Loc) : Prop := v = some (.int (if own_D n then (1 : Int32) else (0 : Int32))) ∧ Fr n0 L ∧ h = h0
set_option maxRecDepth 65536 in
set_option maxHeartbeats 40000000 in
theorem rm1 (l : Launch) (Z : State) (a0 : Array Value) (hw : ∀ d ∈ tables_1, d.before a0 Z = true) (ws : List Jvm.Cond) (n : Int64) (h0 : Heap) (n0 : Nat) (Z0 : n0 ≤ h0.size) (O0 : Old Z n0 h0) (OP0 : Sta Z Z.heap "com/example/pilcrow/pilcrow/Dates" "LAST_DAY" "I" (.int (1460970 : Int32))) :
    MetFree l (⟨"com/example/pilcrow/pilcrow/Dates", "isDay", "(J)Z"⟩ : MethodName) (head1 (Jvm.Cond.code (⟨"com/example/pilcrow/pilcrow/Dates", "isDay", "(J)Z"⟩ : MethodName) prog_13_method_8_code 2 (some .boolean) :: ws) ({ frames := 0, cells := 0, slots := 0, locals := 0 } : Room)) (fun aa U => aa = #[(.long n)] ∧ Z.Warmed39 U.vm ∧ U.heap = h0) (fun _ _ _ _ _ => True) (fun _ U o U' => ∃ v L, o = .returned v ∧ Q1 Z n h0 n0 v U'.heap L ∧ FrameEnd U o U' L ({ frames := 0, cells := 0, slots := 0, locals := 0 } : Room).cells ({ frames := 0, cells := 0, slots := 0, locals := 0 } : Room).slots) := by
  refine MetFree.of_bodySF (plainFor_of_name pn_rm1) hisR ?_
  intro p e s m args below meth c s₁ Bd hml0 hP hK
  obtain ⟨rfl, hZ, hh⟩ := hP
  have hx := Bd.exec
  have hby := Bd.bytes
  have hml : c.maxLocals = 2 := hml0
  have hown : s.vm.findClass "com/example/pilcrow/pilcrow/Dates" = some m.cls := findClass_of_methodNamed Bd.named
  have hnm := (name_of_methodNamed Bd.named Bd.method).1
  have X0 : Stand p l e ({ frames := 0, cells := 0, slots := 0, locals := 0 } : Room) s m #[(.long n)] below meth c s₁ [] 0 0 := Stand.of_body Bd
  have e0 : s₁.heap = h0 := by rw [← hh, Bd.state]; rfl
  have N0 := Fr.nil n0
  change OwnEnds p.tables e below _ _
  refine OwnEnds.via (fun t k => castTop (ef_rm1 m n) k) ?_
  show OwnEnds _ _ _ _ (s₁.setTop (mkF m 0 #[.val (.long n), .second] []))
  refine OwnEnds.via (fun t k => XS.lloadN X0.here hx rfl (hb hby d1_0) rfl k) ?_
  show OwnEnds _ _ _ _ (s₁.setTop (mkF m 1 #[.val (.long n), .second] [(.long n)]))
  refine OwnEnds.via (fun t k => XS.lconst X0.here hx rfl (hb hby d1_1) k) ?_
  show OwnEnds _ _ _ _ (s₁.setTop (mkF m 2 #[.val (.long n), .second] [(.long (1 : Int64)), (.long n)]))
  refine OwnEnds.via (fun t k => XS.lcmp X0.here hx rfl (hb hby d1_2) rfl k) ?_
  show OwnEnds _ _ _ _ (s₁.setTop (mkF m 3 #[.val (.long n), .second] [(.int (lcmpW n (1 : Int64)))]))
  by_cases hc3_1 : (lcmpW n (1 : Int64)) < (0 : Int32)
  ·
    refine OwnEnds.via (fun t k => XS.ifYes X0.here hx rfl (pc0 := 3) (pc' := 19) rfl (hb hby d1_3) rfl ((if0 _ _).trans (tlt hc3_1).1) (by decide) (by decide) k) ?_
    show OwnEnds _ _ _ _ (s₁.setTop (mkF m 19 #[.val (.long n), .second] []))
    refine OwnEnds.via (fun t k => XS.iconst X0.here hx rfl (hb hby d1_19) k) ?_
    show OwnEnds _ _ _ _ (s₁.setTop (mkF m 20 #[.val (.long n), .second] [(.int (0 : Int32))]))
    obtain ⟨fs, hr, hrun, hended, hW, hsame⟩ := X0.leave (v := some (.int (0 : Int32))) (fun h => by rw [Bd.returns] at h; cases h)
    refine ⟨_, _, ?_, hrun, hended, _, _, rfl, ?_, ⟨_, rfl⟩, hW, hsame.mono (by decide) (by decide)⟩
    · exact retN X0 hx (t := .boolean) Bd.returns (by simp) (hb hby d1_20) hr
    · show Q1 Z n h0 n0 _ s₁.heap _
      rw [e0]
      exact ⟨(by rw [if_neg (by simp only [own_l1, own_g1, own_g2] at hc3_1; unfold own_D; omega)]), N0, rfl⟩
  ·
    refine OwnEnds.via (fun t k => XS.ifNo X0.here hx rfl (hb hby d1_3) rfl ((if0 _ _).trans (flt hc3_1).1) k) ?_
    show OwnEnds _ _ _ _ (s₁.setTop (mkF m 6 #[.val (.long n), .second] []))
    refine OwnEnds.via (fun t k => XS.lloadN X0.here hx rfl (hb hby d1_6) rfl k) ?_
    show OwnEnds _ _ _ _ (s₁.setTop (mkF m 7 #[.val (.long n), .second] [(.long n)]))
    obtain ⟨T2, X2, e2, st2⟩ := getS2 X0 hx hZ hown (host := "") (Or.inl (hw _ (List.mem_of_getElem? (i := 4) rfl))) Via.refl e0 (OP0.ext O0.2) (g := (mkF m 7 #[.val (.long n), .second] [(.long n)])) rfl (hb hby d1_7)
    refine OwnEnds.via st2 ?_
    show OwnEnds _ _ _ _ (T2.setTop (mkF m 10 #[.val (.long n), .second] [(.int (1460970 : Int32)), (.long n)]))
    refine OwnEnds.via (fun t k => XS.i2l X2.here hx rfl (hb hby d1_10) rfl k) ?_
    show OwnEnds _ _ _ _ (T2.setTop (mkF m 11 #[.val (.long n), .second] [(.long ((1460970 : Int32).toInt64)), (.long n)]))
    refine OwnEnds.via (fun t k => XS.lcmp X2.here hx rfl (hb hby d1_11) rfl k) ?_
    show OwnEnds _ _ _ _ (T2.setTop (mkF m 12 #[.val (.long n), .second] [(.int (lcmpW n ((1460970 : Int32).toInt64)))]))
    by_cases hc12_3 : (0 : Int32) < (lcmpW n ((1460970 : Int32).toInt64))
    ·
      refine OwnEnds.via (fun t k => XS.ifYes X2.here hx rfl (pc0 := 12) (pc' := 19) rfl (hb hby d1_12) rfl ((if0 _ _).trans (tlt hc12_3).2.2.1) (by decide) (by decide) k) ?_
      show OwnEnds _ _ _ _ (T2.setTop (mkF m 19 #[.val (.long n), .second] []))
      refine OwnEnds.via (fun t k => XS.iconst X2.here hx rfl (hb hby d1_19) k) ?_
      show OwnEnds _ _ _ _ (T2.setTop (mkF m 20 #[.val (.long n), .second] [(.int (0 : Int32))]))
      obtain ⟨fs, hr, hrun, hended, hW, hsame⟩ := X2.leave (v := some (.int (0 : Int32))) (fun h => by rw [Bd.returns] at h; cases h)
      refine ⟨_, _, ?_, hrun, hended, _, _, rfl, ?_, ⟨_, rfl⟩, hW, hsame.mono (by decide) (by decide)⟩
      · exact retN X2 hx (t := .boolean) Bd.returns (by simp) (hb hby d1_20) hr
      · show Q1 Z n h0 n0 _ T2.heap _
        rw [e2]
        exact ⟨(by rw [if_neg (by simp only [own_l1, own_g1, own_g2] at hc3_1 hc12_3; unfold own_D; omega)]), N0, rfl⟩
    ·
      refine OwnEnds.via (fun t k => XS.ifNo X2.here hx rfl (hb hby d1_12) rfl ((if0 _ _).trans (flt hc12_3).2.2.1) k) ?_
      show OwnEnds _ _ _ _ (T2.setTop (mkF m 15 #[.val (.long n), .second] []))
      refine OwnEnds.via (fun t k => XS.iconst X2.here hx rfl (hb hby d1_15) k) ?_
      show OwnEnds _ _ _ _ (T2.setTop (mkF m 16 #[.val (.long n), .second] [(.int (1 : Int32))]))
      refine OwnEnds.via (fun t k => XS.goto X2.here hx rfl (pc0 := 16) (pc' := 20) rfl (hb hby d1_16) (by decide) (by decide) k) ?_
      show OwnEnds _ _ _ _ (T2.setTop (mkF m 20 #[.val (.long n), .second] [(.int (1 : Int32))]))
      obtain ⟨fs, hr, hrun, hended, hW, hsame⟩ := X2.leave (v := some (.int (1 : Int32))) (fun h => by rw [Bd.returns] at h; cases h)
      refine ⟨_, _, ?_, hrun, hended, _, _, rfl, ?_, ⟨_, rfl⟩, hW, hsame.mono (by decide) (by decide)⟩
      · exact retN X2 hx (t := .boolean) Bd.returns (by simp) (hb hby d1_20) hr
      · show Q1 Z n h0 n0 _ T2.heap _
        rw [e2]
        exact ⟨(by rw [if_pos (by simp only [own_l1, own_g1, own_g2] at hc3_1 hc12_3; unfold own_D; omega)]), N0, rfl⟩

theorem d2_0 : decode method_2_code 0 = .ok (.lload_n 0, 1) := by decide +kernel
theorem d2_1 : decode method_2_code 1 = .ok (.lconst 1, 1) := by decide +kernel
theorem d2_2 : decode method_2_code 2 = .ok (.lcmp, 1) := by decide +kernel
theorem d2_3 : decode method_2_code 3 = .ok (.ifCond .ge 5, 3) := by decide +kernel
theorem d2_6 : decode method_2_code 6 = .ok (.iconst 0, 1) := by decide +kernel
theorem d2_7 : decode method_2_code 7 = .ok (.ireturn, 1) := by decide +kernel
theorem d2_8 : decode method_2_code 8 = .ok (.lload_n 0, 1) := by decide +kernel
theorem d2_9 : decode method_2_code 9 = .ok (.ldc2_w 9, 3) := by decide +kernel
theorem d2_12 : decode method_2_code 12 = .ok (.lcmp, 1) := by decide +kernel
theorem d2_13 : decode method_2_code 13 = .ok (.ifCond .le 5, 3) := by decide +kernel
theorem d2_16 : decode method_2_code 16 = .ok (.iconst 0, 1) := by decide +kernel
theorem d2_17 : decode method_2_code 17 = .ok (.ireturn, 1) := by decide +kernel
theorem d2_18 : decode method_2_code 18 = .ok (.iconst 1, 1) := by decide +kernel
theorem d2_19 : decode method_2_code 19 = .ok (.ireturn, 1) := by decide +kernel
theorem pn_rm2 : plainName "com/example/pilcrow/pilcrow/DatesIsDayPinLaw" = true := by first | (simp [plainName, overriddenIn]; done) | decide +kernel
theorem ef_rm2 (m : MethodId) (n : Int64) : entryFrame m #[(.long n)] 2 = mkF m 0 #[.val (.long n), .second] [] := by first | (simp [entryFrame, mkF, argsToLocals, Value.category]; done) | rfl
def Q2 (Z : State) (n : Int64) (h0 : Heap) (n0 : Nat) (v : Option Value) (h : Heap) (L : List Loc) : Prop := v = some (.int (if own_D n then (1 : Int32) else (0 : Int32))) ∧ Fr n0 L ∧ h = h0
set_option maxRecDepth 65536 in
set_option maxHeartbeats 40000000 in
theorem rm2 (l : Launch) (Z : State) (a0 : Array Value) (hw : ∀ d ∈ tables_1, d.before a0 Z = true) (ws : List Jvm.Cond) (n : Int64) (h0 : Heap) (n0 : Nat) (Z0 : n0 ≤ h0.size)  :
    MetFree l (⟨"com/example/pilcrow/pilcrow/DatesIsDayPinLaw", "expected", "(J)Z"⟩ : MethodName) (head1 (Jvm.Cond.code (⟨"com/example/pilcrow/pilcrow/DatesIsDayPinLaw", "expected", "(J)Z"⟩ : MethodName) method_2_code 2 (some .boolean) :: ws) ({ frames := 0, cells := 0, slots := 0, locals := 0 } : Room)) (fun aa U => aa = #[(.long n)] ∧ Z.Warmed39 U.vm ∧ U.heap = h0) (fun _ _ _ _ _ => True) (fun _ U o U' => ∃ v L, o = .returned v ∧ Q2 Z n h0 n0 v U'.heap L ∧ FrameEnd U o U' L ({ frames := 0, cells := 0, slots := 0, locals := 0 } : Room).cells ({ frames := 0, cells := 0, slots := 0, locals := 0 } : Room).slots) := by
  refine MetFree.of_bodySF (plainFor_of_name pn_rm2) hisR ?_
  intro p e s m args below meth c s₁ Bd hml0 hP hK
  obtain ⟨rfl, hZ, hh⟩ := hP
  have hx := Bd.exec
  have hby := Bd.bytes
  have hml : c.maxLocals = 2 := hml0
  have hown : s.vm.findClass "com/example/pilcrow/pilcrow/DatesIsDayPinLaw" = some m.cls := findClass_of_methodNamed Bd.named
  have hnm := (name_of_methodNamed Bd.named Bd.method).1
  have X0 : Stand p l e ({ frames := 0, cells := 0, slots := 0, locals := 0 } : Room) s m #[(.long n)] below meth c s₁ [] 0 0 := Stand.of_body Bd
  have e0 : s₁.heap = h0 := by rw [← hh, Bd.state]; rfl
  have N0 := Fr.nil n0
  change OwnEnds p.tables e below _ _
  refine OwnEnds.via (fun t k => castTop (ef_rm2 m n) k) ?_
  show OwnEnds _ _ _ _ (s₁.setTop (mkF m 0 #[.val (.long n), .second] []))
  refine OwnEnds.via (fun t k => XS.lloadN X0.here hx rfl (hb hby d2_0) rfl k) ?_
  show OwnEnds _ _ _ _ (s₁.setTop (mkF m 1 #[.val (.long n), .second] [(.long n)]))
  refine OwnEnds.via (fun t k => XS.lconst X0.here hx rfl (hb hby d2_1) k) ?_
  show OwnEnds _ _ _ _ (s₁.setTop (mkF m 2 #[.val (.long n), .second] [(.long (1 : Int64)), (.long n)]))
  refine OwnEnds.via (fun t k => XS.lcmp X0.here hx rfl (hb hby d2_2) rfl k) ?_
  show OwnEnds _ _ _ _ (s₁.setTop (mkF m 3 #[.val (.long n), .second] [(.int (lcmpW n (1 : Int64)))]))
  by_cases hc3_1 : (lcmpW n (1 : Int64)) < (0 : Int32)
  ·
    refine OwnEnds.via (fun t k => XS.ifNo X0.here hx rfl (hb hby d2_3) rfl ((if0 _ _).trans (tlt hc3_1).2.1) k) ?_
    show OwnEnds _ _ _ _ (s₁.setTop (mkF m 6 #[.val (.long n), .second] []))
    refine OwnEnds.via (fun t k => XS.iconst X0.here hx rfl (hb hby d2_6) k) ?_
    show OwnEnds _ _ _ _ (s₁.setTop (mkF m 7 #[.val (.long n), .second] [(.int (0 : Int32))]))
    obtain ⟨fs, hr, hrun, hended, hW, hsame⟩ := X0.leave (v := some (.int (0 : Int32))) (fun h => by rw [Bd.returns] at h; cases h)
    refine ⟨_, _, ?_, hrun, hended, _, _, rfl, ?_, ⟨_, rfl⟩, hW, hsame.mono (by decide) (by decide)⟩
    · exact retN X0 hx (t := .boolean) Bd.returns (by simp) (hb hby d2_7) hr
    · show Q2 Z n h0 n0 _ s₁.heap _
      rw [e0]
      exact ⟨(by rw [if_neg (by simp only [own_l1, own_g1, own_g2] at hc3_1; unfold own_D; omega)]), N0, rfl⟩
  ·
    refine OwnEnds.via (fun t k => XS.ifYes X0.here hx rfl (pc0 := 3) (pc' := 8) rfl (hb hby d2_3) rfl ((if0 _ _).trans (flt hc3_1).2.1) (by decide) (by decide) k) ?_
    show OwnEnds _ _ _ _ (s₁.setTop (mkF m 8 #[.val (.long n), .second] []))
    refine OwnEnds.via (fun t k => XS.lloadN X0.here hx rfl (hb hby d2_8) rfl k) ?_
    show OwnEnds _ _ _ _ (s₁.setTop (mkF m 9 #[.val (.long n), .second] [(.long n)]))
    refine OwnEnds.via (X0.ldc2Long hx hown (mvT hZ (hw _ (List.mem_of_getElem? (i := 10) rfl))) (g := (mkF m 9 #[.val (.long n), .second] [(.long n)])) rfl (hb hby d2_9)) ?_
    show OwnEnds _ _ _ _ (s₁.setTop (mkF m 12 #[.val (.long n), .second] [(.long (1460970 : Int64)), (.long n)]))
    refine OwnEnds.via (fun t k => XS.lcmp X0.here hx rfl (hb hby d2_12) rfl k) ?_
    show OwnEnds _ _ _ _ (s₁.setTop (mkF m 13 #[.val (.long n), .second] [(.int (lcmpW n (1460970 : Int64)))]))
    by_cases hc13_2 : (0 : Int32) < (lcmpW n (1460970 : Int64))
    ·
      refine OwnEnds.via (fun t k => XS.ifNo X0.here hx rfl (hb hby d2_13) rfl ((if0 _ _).trans (tlt hc13_2).2.2.2) k) ?_
      show OwnEnds _ _ _ _ (s₁.setTop (mkF m 16 #[.val (.long n), .second] []))
      refine OwnEnds.via (fun t k => XS.iconst X0.here hx rfl (hb hby d2_16) k) ?_
      show OwnEnds _ _ _ _ (s₁.setTop (mkF m 17 #[.val (.long n), .second] [(.int (0 : Int32))]))
      obtain ⟨fs, hr, hrun, hended, hW, hsame⟩ := X0.leave (v := some (.int (0 : Int32))) (fun h => by rw [Bd.returns] at h; cases h)
      refine ⟨_, _, ?_, hrun, hended, _, _, rfl, ?_, ⟨_, rfl⟩, hW, hsame.mono (by decide) (by decide)⟩
      · exact retN X0 hx (t := .boolean) Bd.returns (by simp) (hb hby d2_17) hr
      · show Q2 Z n h0 n0 _ s₁.heap _
        rw [e0]
        exact ⟨(by rw [if_neg (by simp only [own_l1, own_g1, own_g2] at hc3_1 hc13_2; unfold own_D; omega)]), N0, rfl⟩
    ·
      refine OwnEnds.via (fun t k => XS.ifYes X0.here hx rfl (pc0 := 13) (pc' := 18) rfl (hb hby d2_13) rfl ((if0 _ _).trans (flt hc13_2).2.2.2) (by decide) (by decide) k) ?_
      show OwnEnds _ _ _ _ (s₁.setTop (mkF m 18 #[.val (.long n), .second] []))
      refine OwnEnds.via (fun t k => XS.iconst X0.here hx rfl (hb hby d2_18) k) ?_
      show OwnEnds _ _ _ _ (s₁.setTop (mkF m 19 #[.val (.long n), .second] [(.int (1 : Int32))]))
      obtain ⟨fs, hr, hrun, hended, hW, hsame⟩ := X0.leave (v := some (.int (1 : Int32))) (fun h => by rw [Bd.returns] at h; cases h)
      refine ⟨_, _, ?_, hrun, hended, _, _, rfl, ?_, ⟨_, rfl⟩, hW, hsame.mono (by decide) (by decide)⟩
      · exact retN X0 hx (t := .boolean) Bd.returns (by simp) (hb hby d2_19) hr
      · show Q2 Z n h0 n0 _ s₁.heap _
        rw [e0]
        exact ⟨(by rw [if_pos (by simp only [own_l1, own_g1, own_g2] at hc3_1 hc13_2; unfold own_D; omega)]), N0, rfl⟩

theorem pn_rm0 : plainName "com/example/pilcrow/pilcrow/DatesIsDayPinLaw" = true := by first | (simp [plainName, overriddenIn]; done) | decide +kernel
theorem pd_0 : parseMethodDescriptor "(J)Z" = some ⟨[.long], some .boolean⟩ := by decide +kernel
theorem ef_rm0 (m : MethodId) (x0 : Int64) (s0 : Int32) : entryFrame m #[(.long x0), (.int s0)] maxLocals = mkF m 0 #[.val (.long x0), .second, .val (.int s0), .unset, .unset, .unset, .unset] [] := by first | (simp [entryFrame, mkF, argsToLocals, Value.category, maxLocals]; done) | rfl
def Q0 (Z : State) (x0 : Int64) (s0 : Int32) (h0 : Heap) (n0 : Nat) (v : Option Value) (h : Heap) (L : List Loc) : Prop := v = some (.int (1 : Int32)) ∧ Fr n0 L
set_option maxRecDepth 65536 in
set_option maxHeartbeats 40000000 in
theorem rm0 (l : Launch) (Z : State) (a0 : Array Value) (hw : ∀ d ∈ tables_1, d.before a0 Z = true) (ws : List Jvm.Cond) (x0 : Int64) (s0 : Int32) (h0 : Heap) (n0 : Nat) (Z0 : n0 ≤ h0.size) (O0 : Old Z n0 h0) (OP0 : Sta Z Z.heap "com/example/pilcrow/pilcrow/Dates" "LAST_DAY" "I" (.int (1460970 : Int32))) :
    MetFree l x (head1 (Jvm.Cond.code x code maxLocals ret :: ws) room_1) (fun aa U => aa = #[(.long x0), (.int s0)] ∧ Z.Warmed39 U.vm ∧ U.heap = h0) (fun _ _ _ _ _ => True) (fun _ U o U' => ∃ v L, o = .returned v ∧ Q0 Z x0 s0 h0 n0 v U'.heap L ∧ FrameEnd U o U' L room_1.cells room_1.slots) := by
  refine MetFree.of_bodySF (plainFor_of_name pn_rm0) hisR ?_
  intro p e s m args below meth c s₁ Bd hml0 hP hK
  obtain ⟨rfl, hZ, hh⟩ := hP
  have hx := Bd.exec
  have hby := Bd.bytes
  have hml : c.maxLocals = 7 := hml0
  have hown : s.vm.findClass "com/example/pilcrow/pilcrow/DatesIsDayPinLaw" = some m.cls := findClass_of_methodNamed Bd.named
  have hnm := (name_of_methodNamed Bd.named Bd.method).1
  have X0 : Stand p l e room_1 s m #[(.long x0), (.int s0)] below meth c s₁ [] 0 0 := Stand.of_body Bd
  have e0 : s₁.heap = h0 := by rw [← hh, Bd.state]; rfl
  have N0 := Fr.nil n0
  change OwnEnds p.tables e below _ _
  refine OwnEnds.via (fun t k => castTop (ef_rm0 m x0 s0) k) ?_
  show OwnEnds _ _ _ _ (s₁.setTop (mkF m 0 #[.val (.long x0), .second, .val (.int s0), .unset, .unset, .unset, .unset] []))
  refine OwnEnds.via (fun t k => XS.iloadN X0.here hx rfl (hb hby at_0) rfl k) ?_
  show OwnEnds _ _ _ _ (s₁.setTop (mkF m 1 #[.val (.long x0), .second, .val (.int s0), .unset, .unset, .unset, .unset] [(.int s0)]))
  refine OwnEnds.via (fun t k => XS.iconst X0.here hx rfl (hb hby at_1) k) ?_
  show OwnEnds _ _ _ _ (s₁.setTop (mkF m 2 #[.val (.long x0), .second, .val (.int s0), .unset, .unset, .unset, .unset] [(.int (1 : Int32)), (.int s0)]))
  refine OwnEnds.via (fun t k => XS.iand X0.here hx rfl (hb hby at_2) rfl k) ?_
  show OwnEnds _ _ _ _ (s₁.setTop (mkF m 3 #[.val (.long x0), .second, .val (.int s0), .unset, .unset, .unset, .unset] [(.int (s0 &&& (1 : Int32)))]))
  refine OwnEnds.cut (fun G => ∀ (T1 : State) (lc1 : List Loc) (X1 : Stand p l e room_1 s m #[(.long x0), (.int s0)] below meth c T1 lc1 0 0) (e1 : T1.heap = h0) (N1 : Fr n0 lc1) (base : Int64), G (T1.setTop (mkF m 13 #[.val (.long x0), .second, .val (.int s0), .unset, .unset, .unset, .unset] [(.long base)]))) ?_ ?_
  · intro T1 lc1 X1 e1 N1 base
    show OwnEnds _ _ _ _ (T1.setTop (mkF m 13 #[.val (.long x0), .second, .val (.int s0), .unset, .unset, .unset, .unset] [(.long base)]))
    refine OwnEnds.via (fun t k => XS.lstoreN X1.here hx rfl (hb hby at_13) rfl (l' := #[.val (.long x0), .second, .val (.int s0), .val (.long base), .second, .unset, .unset]) rfl k) ?_
    show OwnEnds _ _ _ _ (T1.setTop (mkF m 14 #[.val (.long x0), .second, .val (.int s0), .val (.long base), .second, .unset, .unset] []))
    refine OwnEnds.via (fun t k => XS.lloadN X1.here hx rfl (hb hby at_14) rfl k) ?_
    show OwnEnds _ _ _ _ (T1.setTop (mkF m 15 #[.val (.long x0), .second, .val (.int s0), .val (.long base), .second, .unset, .unset] [(.long base)]))
    refine OwnEnds.via (fun t k => XS.iloadN X1.here hx rfl (hb hby at_15) rfl k) ?_
    show OwnEnds _ _ _ _ (T1.setTop (mkF m 16 #[.val (.long x0), .second, .val (.int s0), .val (.long base), .second, .unset, .unset] [(.int s0), (.long base)]))
    refine OwnEnds.via (fun t k => XS.iconst X1.here hx rfl (hb hby at_16) k) ?_
    show OwnEnds _ _ _ _ (T1.setTop (mkF m 17 #[.val (.long x0), .second, .val (.int s0), .val (.long base), .second, .unset, .unset] [(.int (1 : Int32)), (.int s0), (.long base)]))
    refine OwnEnds.via (fun t k => XS.ishr X1.here hx rfl (hb hby at_17) rfl k) ?_
    show OwnEnds _ _ _ _ (T1.setTop (mkF m 18 #[.val (.long x0), .second, .val (.int s0), .val (.long base), .second, .unset, .unset] [(.int (s0 >>> ((1 : Int32) &&& 31))), (.long base)]))
    refine OwnEnds.via (fun t k => XS.iconst X1.here hx rfl (hb hby at_18) k) ?_
    show OwnEnds _ _ _ _ (T1.setTop (mkF m 19 #[.val (.long x0), .second, .val (.int s0), .val (.long base), .second, .unset, .unset] [(.int (3 : Int32)), (.int (s0 >>> ((1 : Int32) &&& 31))), (.long base)]))
    refine OwnEnds.via (fun t k => XS.iand X1.here hx rfl (hb hby at_19) rfl k) ?_
    show OwnEnds _ _ _ _ (T1.setTop (mkF m 20 #[.val (.long x0), .second, .val (.int s0), .val (.long base), .second, .unset, .unset] [(.int ((s0 >>> ((1 : Int32) &&& 31)) &&& (3 : Int32))), (.long base)]))
    refine OwnEnds.via (fun t k => XS.i2l X1.here hx rfl (hb hby at_20) rfl k) ?_
    show OwnEnds _ _ _ _ (T1.setTop (mkF m 21 #[.val (.long x0), .second, .val (.int s0), .val (.long base), .second, .unset, .unset] [(.long (((s0 >>> ((1 : Int32) &&& 31)) &&& (3 : Int32)).toInt64)), (.long base)]))
    refine OwnEnds.via (fun t k => XS.ladd X1.here hx rfl (hb hby at_21) rfl k) ?_
    show OwnEnds _ _ _ _ (T1.setTop (mkF m 22 #[.val (.long x0), .second, .val (.int s0), .val (.long base), .second, .unset, .unset] [(.long (base + (((s0 >>> ((1 : Int32) &&& 31)) &&& (3 : Int32)).toInt64)))]))
    refine OwnEnds.via (fun t k => XS.lconst X1.here hx rfl (hb hby at_22) k) ?_
    show OwnEnds _ _ _ _ (T1.setTop (mkF m 23 #[.val (.long x0), .second, .val (.int s0), .val (.long base), .second, .unset, .unset] [(.long (1 : Int64)), (.long (base + (((s0 >>> ((1 : Int32) &&& 31)) &&& (3 : Int32)).toInt64)))]))
    refine OwnEnds.via (fun t k => XS.lsub X1.here hx rfl (hb hby at_23) rfl k) ?_
    show OwnEnds _ _ _ _ (T1.setTop (mkF m 24 #[.val (.long x0), .second, .val (.int s0), .val (.long base), .second, .unset, .unset] [(.long ((base + (((s0 >>> ((1 : Int32) &&& 31)) &&& (3 : Int32)).toInt64)) - (1 : Int64)))]))
    refine OwnEnds.via (fun t k => XS.lstore X1.here hx rfl (hb hby at_24) rfl (l' := #[.val (.long x0), .second, .val (.int s0), .val (.long base), .second, .val (.long ((base + (((s0 >>> ((1 : Int32) &&& 31)) &&& (3 : Int32)).toInt64)) - (1 : Int64))), .second]) rfl k) ?_
    show OwnEnds _ _ _ _ (T1.setTop (mkF m 26 #[.val (.long x0), .second, .val (.int s0), .val (.long base), .second, .val (.long ((base + (((s0 >>> ((1 : Int32) &&& 31)) &&& (3 : Int32)).toInt64)) - (1 : Int64))), .second] []))
    refine OwnEnds.via (fun t k => XS.lloadN X1.here hx rfl (hb hby at_26) rfl k) ?_
    show OwnEnds _ _ _ _ (T1.setTop (mkF m 27 #[.val (.long x0), .second, .val (.int s0), .val (.long base), .second, .val (.long ((base + (((s0 >>> ((1 : Int32) &&& 31)) &&& (3 : Int32)).toInt64)) - (1 : Int64))), .second] [(.long x0)]))
    obtain ⟨_, _, ⟨T2, L2, k2, n2⟩, -, X2, ⟨Lc2, hQ2, l2, y2, z2⟩, st2⟩ := Jvm.LawKit.callS X1 hx (y := (⟨"com/example/pilcrow/pilcrow/Dates", "isDay", "(J)Z"⟩ : MethodName)) hown (mvT hZ (hw _ (List.mem_of_getElem? (i := 0) rfl))) (mvT hZ (hw _ (List.mem_of_getElem? (i := 1) rfl))) (mvT hZ (hw _ (List.mem_of_getElem? (i := 2) rfl))) (mvT hZ (hw _ (List.mem_of_getElem? (i := 3) rfl))) (by decide) (backOf (W := 0) (rm1 l Z a0 hw [] x0 h0 n0 Z0 O0 OP0) hZ (hw _ (List.mem_of_getElem? (i := 3) rfl)) (hw _ (List.mem_of_getElem? (i := 2) rfl)) (by decide) (by decide)) (g := (mkF m 27 #[.val (.long x0), .second, .val (.int s0), .val (.long base), .second, .val (.long ((base + (((s0 >>> ((1 : Int32) &&& 31)) &&& (3 : Int32)).toInt64)) - (1 : Int64))), .second] [(.long x0)])) rfl (by rw [hml]; rfl) (argsL := [(.long x0)]) (rest := []) (lenOf pd_0 rfl) rfl (by show 2 * 0 + _ ≤ _; exact Nat.le_of_eq rfl) (hb hby at_27) (fun _ _ => ⟨rfl, e1, (by decide : 0 + 0 ≤ _), (by decide : 0 + 0 ≤ _)⟩)
    dsimp only [Pt.U, Pt.locs, Pt.cells, Pt.slots] at X2 l2 y2 z2 st2 hQ2
    subst l2 y2 z2
    obtain ⟨rfl, Nq2, e2⟩ := hQ2
    have N2 := Fr.app N1 Nq2
    refine OwnEnds.via st2 ?_
    show OwnEnds _ _ _ _ (T2.setTop (mkF m 30 #[.val (.long x0), .second, .val (.int s0), .val (.long base), .second, .val (.long ((base + (((s0 >>> ((1 : Int32) &&& 31)) &&& (3 : Int32)).toInt64)) - (1 : Int64))), .second] [(.int (if own_D x0 then (1 : Int32) else (0 : Int32)))]))
    refine OwnEnds.via (fun t k => XS.lloadN X2.here hx rfl (hb hby at_30) rfl k) ?_
    show OwnEnds _ _ _ _ (T2.setTop (mkF m 31 #[.val (.long x0), .second, .val (.int s0), .val (.long base), .second, .val (.long ((base + (((s0 >>> ((1 : Int32) &&& 31)) &&& (3 : Int32)).toInt64)) - (1 : Int64))), .second] [(.long x0), (.int (if own_D x0 then (1 : Int32) else (0 : Int32)))]))
    obtain ⟨_, _, ⟨T3, L3, k3, n3⟩, -, X3, ⟨Lc3, hQ3, l3, y3, z3⟩, st3⟩ := Jvm.LawKit.callS X2 hx (y := (⟨"com/example/pilcrow/pilcrow/DatesIsDayPinLaw", "expected", "(J)Z"⟩ : MethodName)) hown (mvT hZ (hw _ (List.mem_of_getElem? (i := 6) rfl))) (mvT hZ (hw _ (List.mem_of_getElem? (i := 7) rfl))) (mvT hZ (hw _ (List.mem_of_getElem? (i := 8) rfl))) (mvT hZ (hw _ (List.mem_of_getElem? (i := 9) rfl))) (by decide) (backOf (W := 1) (rm2 l Z a0 hw [] x0 h0 n0 Z0 ) hZ (hw _ (List.mem_of_getElem? (i := 9) rfl)) (hw _ (List.mem_of_getElem? (i := 8) rfl)) (by decide) (by decide)) (g := (mkF m 31 #[.val (.long x0), .second, .val (.int s0), .val (.long base), .second, .val (.long ((base + (((s0 >>> ((1 : Int32) &&& 31)) &&& (3 : Int32)).toInt64)) - (1 : Int64))), .second] [(.long x0), (.int (if own_D x0 then (1 : Int32) else (0 : Int32)))])) rfl (by rw [hml]; rfl) (argsL := [(.long x0)]) (rest := [(.int (if own_D x0 then (1 : Int32) else (0 : Int32)))]) (lenOf pd_0 rfl) rfl (by show 2 * 0 + _ ≤ _; exact Nat.le_of_eq rfl) (hb hby at_31) (fun _ _ => ⟨rfl, e2, (by decide : 0 + 0 ≤ _), (by decide : 0 + 0 ≤ _)⟩)
    dsimp only [Pt.U, Pt.locs, Pt.cells, Pt.slots] at X3 l3 y3 z3 st3 hQ3
    subst l3 y3 z3
    obtain ⟨rfl, Nq3, e3⟩ := hQ3
    have N3 := Fr.app N2 Nq3
    refine OwnEnds.via st3 ?_
    show OwnEnds _ _ _ _ (T3.setTop (mkF m 34 #[.val (.long x0), .second, .val (.int s0), .val (.long base), .second, .val (.long ((base + (((s0 >>> ((1 : Int32) &&& 31)) &&& (3 : Int32)).toInt64)) - (1 : Int64))), .second] [(.int (if own_D x0 then (1 : Int32) else (0 : Int32))), (.int (if own_D x0 then (1 : Int32) else (0 : Int32)))]))
    refine OwnEnds.via (fun t k => XS.icmpNo X3.here hx rfl (hb hby at_34) rfl (teq rfl).2 k) ?_
    show OwnEnds _ _ _ _ (T3.setTop (mkF m 37 #[.val (.long x0), .second, .val (.int s0), .val (.long base), .second, .val (.long ((base + (((s0 >>> ((1 : Int32) &&& 31)) &&& (3 : Int32)).toInt64)) - (1 : Int64))), .second] []))
    refine OwnEnds.via (fun t k => XS.lload X3.here hx rfl (hb hby at_37) rfl k) ?_
    show OwnEnds _ _ _ _ (T3.setTop (mkF m 39 #[.val (.long x0), .second, .val (.int s0), .val (.long base), .second, .val (.long ((base + (((s0 >>> ((1 : Int32) &&& 31)) &&& (3 : Int32)).toInt64)) - (1 : Int64))), .second] [(.long ((base + (((s0 >>> ((1 : Int32) &&& 31)) &&& (3 : Int32)).toInt64)) - (1 : Int64)))]))
    obtain ⟨_, _, ⟨T4, L4, k4, n4⟩, -, X4, ⟨Lc4, hQ4, l4, y4, z4⟩, st4⟩ := Jvm.LawKit.callS X3 hx (y := (⟨"com/example/pilcrow/pilcrow/Dates", "isDay", "(J)Z"⟩ : MethodName)) hown (mvT hZ (hw _ (List.mem_of_getElem? (i := 0) rfl))) (mvT hZ (hw _ (List.mem_of_getElem? (i := 1) rfl))) (mvT hZ (hw _ (List.mem_of_getElem? (i := 2) rfl))) (mvT hZ (hw _ (List.mem_of_getElem? (i := 3) rfl))) (by decide) (backOf (W := 0) (rm1 l Z a0 hw [] ((base + (((s0 >>> ((1 : Int32) &&& 31)) &&& (3 : Int32)).toInt64)) - (1 : Int64)) h0 n0 Z0 O0 OP0) hZ (hw _ (List.mem_of_getElem? (i := 3) rfl)) (hw _ (List.mem_of_getElem? (i := 2) rfl)) (by decide) (by decide)) (g := (mkF m 39 #[.val (.long x0), .second, .val (.int s0), .val (.long base), .second, .val (.long ((base + (((s0 >>> ((1 : Int32) &&& 31)) &&& (3 : Int32)).toInt64)) - (1 : Int64))), .second] [(.long ((base + (((s0 >>> ((1 : Int32) &&& 31)) &&& (3 : Int32)).toInt64)) - (1 : Int64)))])) rfl (by rw [hml]; rfl) (argsL := [(.long ((base + (((s0 >>> ((1 : Int32) &&& 31)) &&& (3 : Int32)).toInt64)) - (1 : Int64)))]) (rest := []) (lenOf pd_0 rfl) rfl (by show 2 * 0 + _ ≤ _; exact Nat.le_of_eq rfl) (hb hby at_39) (fun _ _ => ⟨rfl, e3, (by decide : 0 + 0 ≤ _), (by decide : 0 + 0 ≤ _)⟩)
    dsimp only [Pt.U, Pt.locs, Pt.cells, Pt.slots] at X4 l4 y4 z4 st4 hQ4
    subst l4 y4 z4
    obtain ⟨rfl, Nq4, e4⟩ := hQ4
    have N4 := Fr.app N3 Nq4
    refine OwnEnds.via st4 ?_
    show OwnEnds _ _ _ _ (T4.setTop (mkF m 42 #[.val (.long x0), .second, .val (.int s0), .val (.long base), .second, .val (.long ((base + (((s0 >>> ((1 : Int32) &&& 31)) &&& (3 : Int32)).toInt64)) - (1 : Int64))), .second] [(.int (if own_D ((base + (((s0 >>> ((1 : Int32) &&& 31)) &&& (3 : Int32)).toInt64)) - (1 : Int64)) then (1 : Int32) else (0 : Int32)))]))
    refine OwnEnds.via (fun t k => XS.lload X4.here hx rfl (hb hby at_42) rfl k) ?_
    show OwnEnds _ _ _ _ (T4.setTop (mkF m 44 #[.val (.long x0), .second, .val (.int s0), .val (.long base), .second, .val (.long ((base + (((s0 >>> ((1 : Int32) &&& 31)) &&& (3 : Int32)).toInt64)) - (1 : Int64))), .second] [(.long ((base + (((s0 >>> ((1 : Int32) &&& 31)) &&& (3 : Int32)).toInt64)) - (1 : Int64))), (.int (if own_D ((base + (((s0 >>> ((1 : Int32) &&& 31)) &&& (3 : Int32)).toInt64)) - (1 : Int64)) then (1 : Int32) else (0 : Int32)))]))
    obtain ⟨_, _, ⟨T5, L5, k5, n5⟩, -, X5, ⟨Lc5, hQ5, l5, y5, z5⟩, st5⟩ := Jvm.LawKit.callS X4 hx (y := (⟨"com/example/pilcrow/pilcrow/DatesIsDayPinLaw", "expected", "(J)Z"⟩ : MethodName)) hown (mvT hZ (hw _ (List.mem_of_getElem? (i := 6) rfl))) (mvT hZ (hw _ (List.mem_of_getElem? (i := 7) rfl))) (mvT hZ (hw _ (List.mem_of_getElem? (i := 8) rfl))) (mvT hZ (hw _ (List.mem_of_getElem? (i := 9) rfl))) (by decide) (backOf (W := 1) (rm2 l Z a0 hw [] ((base + (((s0 >>> ((1 : Int32) &&& 31)) &&& (3 : Int32)).toInt64)) - (1 : Int64)) h0 n0 Z0 ) hZ (hw _ (List.mem_of_getElem? (i := 9) rfl)) (hw _ (List.mem_of_getElem? (i := 8) rfl)) (by decide) (by decide)) (g := (mkF m 44 #[.val (.long x0), .second, .val (.int s0), .val (.long base), .second, .val (.long ((base + (((s0 >>> ((1 : Int32) &&& 31)) &&& (3 : Int32)).toInt64)) - (1 : Int64))), .second] [(.long ((base + (((s0 >>> ((1 : Int32) &&& 31)) &&& (3 : Int32)).toInt64)) - (1 : Int64))), (.int (if own_D ((base + (((s0 >>> ((1 : Int32) &&& 31)) &&& (3 : Int32)).toInt64)) - (1 : Int64)) then (1 : Int32) else (0 : Int32)))])) rfl (by rw [hml]; rfl) (argsL := [(.long ((base + (((s0 >>> ((1 : Int32) &&& 31)) &&& (3 : Int32)).toInt64)) - (1 : Int64)))]) (rest := [(.int (if own_D ((base + (((s0 >>> ((1 : Int32) &&& 31)) &&& (3 : Int32)).toInt64)) - (1 : Int64)) then (1 : Int32) else (0 : Int32)))]) (lenOf pd_0 rfl) rfl (by show 2 * 0 + _ ≤ _; exact Nat.le_of_eq rfl) (hb hby at_44) (fun _ _ => ⟨rfl, e4, (by decide : 0 + 0 ≤ _), (by decide : 0 + 0 ≤ _)⟩)
    dsimp only [Pt.U, Pt.locs, Pt.cells, Pt.slots] at X5 l5 y5 z5 st5 hQ5
    subst l5 y5 z5
    obtain ⟨rfl, Nq5, e5⟩ := hQ5
    have N5 := Fr.app N4 Nq5
    refine OwnEnds.via st5 ?_
    show OwnEnds _ _ _ _ (T5.setTop (mkF m 47 #[.val (.long x0), .second, .val (.int s0), .val (.long base), .second, .val (.long ((base + (((s0 >>> ((1 : Int32) &&& 31)) &&& (3 : Int32)).toInt64)) - (1 : Int64))), .second] [(.int (if own_D ((base + (((s0 >>> ((1 : Int32) &&& 31)) &&& (3 : Int32)).toInt64)) - (1 : Int64)) then (1 : Int32) else (0 : Int32))), (.int (if own_D ((base + (((s0 >>> ((1 : Int32) &&& 31)) &&& (3 : Int32)).toInt64)) - (1 : Int64)) then (1 : Int32) else (0 : Int32)))]))
    refine OwnEnds.via (fun t k => XS.icmpNo X5.here hx rfl (hb hby at_47) rfl (teq rfl).2 k) ?_
    show OwnEnds _ _ _ _ (T5.setTop (mkF m 50 #[.val (.long x0), .second, .val (.int s0), .val (.long base), .second, .val (.long ((base + (((s0 >>> ((1 : Int32) &&& 31)) &&& (3 : Int32)).toInt64)) - (1 : Int64))), .second] []))
    refine OwnEnds.via (fun t k => XS.iconst X5.here hx rfl (hb hby at_50) k) ?_
    show OwnEnds _ _ _ _ (T5.setTop (mkF m 51 #[.val (.long x0), .second, .val (.int s0), .val (.long base), .second, .val (.long ((base + (((s0 >>> ((1 : Int32) &&& 31)) &&& (3 : Int32)).toInt64)) - (1 : Int64))), .second] [(.int (1 : Int32))]))
    refine OwnEnds.via (fun t k => XS.goto X5.here hx rfl (pc0 := 51) (pc' := 55) rfl (hb hby at_51) (by decide) (by decide) k) ?_
    show OwnEnds _ _ _ _ (T5.setTop (mkF m 55 #[.val (.long x0), .second, .val (.int s0), .val (.long base), .second, .val (.long ((base + (((s0 >>> ((1 : Int32) &&& 31)) &&& (3 : Int32)).toInt64)) - (1 : Int64))), .second] [(.int (1 : Int32))]))
    obtain ⟨fs, hr, hrun, hended, hW, hsame⟩ := X5.leave (v := some (.int (1 : Int32))) (fun h => by rw [Bd.returns] at h; cases h)
    refine ⟨_, _, ?_, hrun, hended, _, _, rfl, ?_, ⟨_, rfl⟩, hW, hsame.mono (by decide) (by decide)⟩
    · exact retN X5 hx (t := .boolean) Bd.returns (by simp) (hb hby at_55) hr
    · show Q0 Z x0 s0 h0 n0 _ T5.heap _
      rw [e5]
      exact ⟨rfl, N5⟩
  intro J1
  by_cases hc3_6 : (s0 &&& (1 : Int32)) = (0 : Int32)
  ·
    refine OwnEnds.via (fun t k => XS.ifNo X0.here hx rfl (hb hby at_3) rfl ((if0 _ _).trans (teq hc3_6).2) k) ?_
    show OwnEnds _ _ _ _ (s₁.setTop (mkF m 6 #[.val (.long x0), .second, .val (.int s0), .unset, .unset, .unset, .unset] []))
    refine OwnEnds.via (fun t k => XS.lconst X0.here hx rfl (hb hby at_6) k) ?_
    show OwnEnds _ _ _ _ (s₁.setTop (mkF m 7 #[.val (.long x0), .second, .val (.int s0), .unset, .unset, .unset, .unset] [(.long (1 : Int64))]))
    refine OwnEnds.via (fun t k => XS.goto X0.here hx rfl (pc0 := 7) (pc' := 13) rfl (hb hby at_7) (by decide) (by decide) k) ?_
    exact J1 _ _ X0 e0 N0 (1 : Int64)
  ·
    refine OwnEnds.via (fun t k => XS.ifYes X0.here hx rfl (pc0 := 3) (pc' := 10) rfl (hb hby at_3) rfl ((if0 _ _).trans (feq hc3_6).2) (by decide) (by decide) k) ?_
    show OwnEnds _ _ _ _ (s₁.setTop (mkF m 10 #[.val (.long x0), .second, .val (.int s0), .unset, .unset, .unset, .unset] []))
    refine OwnEnds.via (X0.ldc2Long hx hown (mvT hZ (hw _ (List.mem_of_getElem? (i := 10) rfl))) (g := (mkF m 10 #[.val (.long x0), .second, .val (.int s0), .unset, .unset, .unset, .unset] [])) rfl (hb hby at_10)) ?_
    exact J1 _ _ X0 e0 N0 (1460970 : Int64)

set_option maxRecDepth 65536 in
set_option maxHeartbeats 40000000 in
theorem comes_1 {Post : Tables → Env → Array Value → State → Outcome → State → Prop} (hpost : ∀ tb e args s v u, (limb_1_1.after args s (.returned v) u = true ∧ limb_1_2.after args s (.returned v) u = true ∧ True) → FrameEnd s (.returned v) u (Jvm.fieldLocs frame_1_writes args s ++ Jvm.arrayLocs frame_1_arrays args s ++ Jvm.staticLocs frame_1_statics s) 0 0 → Post tb e args s (.returned v) u) :
    ArmFor flags0 classFile x code maxLocals ret World_1 tables_1 room_1 Calls_1 rest_1 Pre_1 Post := by
  intro l hfl _ _ p e ha hc hk s m args below hf hA hF happ hP
  obtain ⟨hcalls, hrest, hpre⟩ := hP
  obtain ⟨-, -, -, hnamed, -, -, -, hat⟩ := (Spec.applies_iff hf).mp happ
  obtain ⟨hg, hn⟩ := and_e (Cond.before_iff.mp (show (Jvm.Cond.and given_1 narrow_1).before args s = true from hpre))
  obtain ⟨hg0, hh0⟩ := and_e hg
  obtain ⟨hg1, hh1⟩ := and_e hh0
  obtain ⟨w0, w1, rfl⟩ : ∃ w0 w1 : Value, args = #[w0, w1] := by
    have hs : args.size = 2 := by simpa [Cond.value, given_1] using hg0
    obtain ⟨L⟩ := args
    match L, hs with
    | [w0, w1], _ => exact ⟨w0, w1, rfl⟩
  have hw := fun d (hd : d ∈ tables_1) => atoms_spec (ws := Jvm.Cond.code x code maxLocals ret :: tables_1) hat d (List.mem_cons_of_mem _ hd)
  have hfit : Fit s := fun {y c} hc i hi => by
    obtain ⟨ha, rfl⟩ := Array.getElem?_eq_some_iff.mp hc
    have q := List.all_eq_true.mp ((Array.all_eq_true_iff_forall_mem.mp hF) _ (Array.getElem_mem ha)) i (List.mem_range.mpr hi)
    simpa [Array.getElem?_eq_getElem hi] using q
  obtain ⟨i0, ei0⟩ := isL_v hg1
  obtain rfl : w0 = (.long i0) := Option.some.inj ei0
  obtain ⟨i1, ei1⟩ := is_v hh1
  obtain rfl : w1 = (.int i1) := Option.some.inj ei1
  have ev_ld := eqv_i (Term.int_eval _) hn
  have S_ld : Sta s s.heap "com/example/pilcrow/pilcrow/Dates" "LAST_DAY" "I" (.int (1460970 : Int32)) := Sta.start ev_ld (Or.inr ⟨(hw _ (List.mem_of_getElem? (i := 2) rfl)), (hw _ (List.mem_of_getElem? (i := 5) rfl))⟩)
  obtain ⟨n, o, h1, h2, h3, _, L, rfl, ⟨rfl, N⟩, hq⟩ := rm0 l s _ hw tables_1 i0 i1 s.heap s.heap.size (Nat.le_refl _) (Old.start s) S_ld p e ha hc hk s m _ below hf ((Spec.applies_iff_loose hf).mp happ).1 ⟨rfl, State.Warmed39.refl s, rfl⟩ trivial
  refine ⟨n, _, h1, h2, h3, hpost _ _ _ _ _ _ ⟨Cond.after_iff.mpr rfl, Cond.after_iff.mpr (eq_i res_at (Term.int_eval (1)) rfl), trivial⟩ ⟨hq.1, hq.2.1, (hq.2.2.sift fun y hy => Or.inr (N y hy)).mono (by decide) (by decide)⟩⟩
theorem main_1_1 : Claimed_1_1 := comes_1 fun _ _ _ _ _ _ h hF => ⟨h.1, hF⟩
theorem main_1_2 : Claimed_1_2 := comes_1 fun _ _ _ _ _ _ h hF => ⟨h.2.1, hF⟩
end Jvm.Pilot.@@N@@
namespace Jvm.Pilot.@@N@@
open Jvm Jvm.ClassFile Sem Op Lib Jvm.Free Jvm.Stand Jvm.Pilot.@@N@@.Jvm.D
/-! MADE BY PROGRAM (witnessworld.py) out of the Statement's table words and the real class files: 9 classes; the members and pool entries that the words name. The judged class is class 1, her method 2. -/
namespace start1
open Jvm.ClassFile
def u (s : String) : CpInfo := .utf8 (stringToUtf16 s)
/-- a pool by its gaps: so many unusable entries, then the entry; so many at the end -/
def gap : Nat → List CpInfo → List CpInfo
  | 0, r => r
  | n + 1, r => .unusable :: gap n r
def poolList (es : List (Nat × CpInfo)) (last : Nat) : List CpInfo := es.foldr (fun e r => gap e.1 (e.2 :: r)) (gap last [])
def pool (es : List (Nat × CpInfo)) (last : Nat) : Array CpInfo := ⟨poolList es last⟩
def fileOf (pool : Array CpInfo) (this : Nat) (attrs : Array Attribute := #[]) (ms : Array MethodInfo := #[]) (fl : Nat := 33) (sup : Nat := 0) (ifs : Array Nat := #[]) (fds : Array FieldInfo := #[]) : ClassFile where
  minorVersion := 0
  majorVersion := 65
  constantPool := pool
  accessFlags := fl
  thisClass := this
  superClass := sup
  interfaces := ifs
  fields := fds
  methods := ms
  attributes := attrs
def plain (name : String) (sup : Option ClassId) : Class where
  name := name
  kind := .ordinary
  loader := none
  accessFlags := 33
  super := sup
  interfaces := #[]
  cf := none
  fields := #[]
  methods := #[]
  instanceTypes := #[]
  staticTypes := #[]
  resolved := #[]
  callSites := []
  init := .initialized
  statics := none
  mirror := none

def pool0 : Array CpInfo := pool [(5, u "<init>"), (0, u "()V"), (1, .class_ 10), (1, u "java/lang/Object")] 113

def k0m0 : Method := { name := "<init>", desc := "()V", sig := { parameters := [], returnType := none }, accessFlags := 1, code := none }
/-- java/lang/Object -/
def k0 : Class := { plain "java/lang/Object" none with
  accessFlags := 33
  interfaces := #[]
  cf := some (fileOf pool0 8 #[] #[{ accessFlags := 1, nameIndex := 5, descriptorIndex := 6, attributes := #[] }] 33 0 #[] #[])
  fields := #[]
  methods := #[k0m0]
  instanceTypes := #[]
  staticTypes := #[]
  resolved := Array.replicate 124 none
  statics := none }

def pool1 : Array CpInfo := pool [(2, .class_ 4), (1, u "java/lang/Object"), (0, u "<init>"), (0, u "()V"), (0, .class_ 8), (0, u "com/example/pilcrow/pilcrow/DatesIsDayPinLaw"), (0, .long 1460970), (1, .methodref 12 13), (0, .class_ 14), (0, .nameAndType 15 16), (0, u "com/example/pilcrow/pilcrow/Dates"), (0, u "isDay"), (0, u "(J)Z"), (0, .methodref 7 18), (0, .nameAndType 19 16), (0, u "expected"), (0, u "LAST"), (0, u "J"), (4, u "law"), (0, u "(JI)Z")] 2

def k1m0 : Method := { name := "<init>", desc := "()V", sig := { parameters := [], returnType := none }, accessFlags := 1, code := none }
def k1c1 : Code := { maxStack := 4, maxLocals := 2, code := method_2_code, exceptionTable := #[], attributes := #[] }
def k1m1 : Method := { name := "expected", desc := "(J)Z", sig := { parameters := [.long], returnType := some .boolean }, accessFlags := 10, code := some k1c1 }
def k1c2 : Code := { maxStack := 4, maxLocals := 7, code := code, exceptionTable := #[], attributes := #[] }
def k1m2 : Method := { name := "law", desc := "(JI)Z", sig := { parameters := [.long, .int], returnType := some .boolean }, accessFlags := 9, code := some k1c2 }
/-- com/example/pilcrow/pilcrow/DatesIsDayPinLaw -/
def k1 : Class := { plain "com/example/pilcrow/pilcrow/DatesIsDayPinLaw" (some 0) with
  accessFlags := 49
  interfaces := #[]
  cf := some (fileOf pool1 7 #[] #[{ accessFlags := 1, nameIndex := 5, descriptorIndex := 6, attributes := #[] }, { accessFlags := 10, nameIndex := 19, descriptorIndex := 16, attributes := #[] }, { accessFlags := 9, nameIndex := 26, descriptorIndex := 27, attributes := #[] }] 49 2 #[] #[{ accessFlags := 26, nameIndex := 20, descriptorIndex := 21, attributes := #[] }])
  fields := #[{ name := "LAST", type := .long, accessFlags := 26, slot := 0, constantValue := 0 }]
  methods := #[k1m0, k1m1, k1m2]
  instanceTypes := #[]
  staticTypes := #[.long]
  resolved := Array.replicate 30 none
  statics := none }

def pool2 : Array CpInfo := pool [(2, .class_ 4), (1, u "java/lang/Object"), (0, u "<init>"), (0, u "()V"), (1, .class_ 10), (1, u "com/example/pilcrow/pilcrow/Dates"), (0, u "DATE_ONLY"), (0, u "Ljava/util/regex/Pattern;"), (38, u "TIME_ONLY"), (6, u "TIMESTAMP"), (81, u "TWELVE"), (0, u "Ljava/math/BigDecimal;"), (23, u "SECONDS_PER_HOUR"), (5, u "SECONDS_PER_MINUTE"), (18, .fieldref 8 191), (0, .nameAndType 192 193), (0, u "LAST_DAY"), (0, u "I"), (8, u "DAY_ZERO"), (0, u "Ljava/time/LocalDate;"), (10, u "TWELVE_MONTHS"), (0, u "Ljava/math/BigInteger;"), (19, u "YEARS_PER_CYCLE"), (5, u "DAYS_PER_CYCLE"), (10, u "SECONDS_PER_DAY"), (51, .class_ 306), (1, u "com/example/pilcrow/pilcrow/Dates$Clockface"), (60, u "FIRST_YEAR"), (2, u "LAST_YEAR"), (1, u "DATE"), (0, u "Ljava/lang/String;"), (0, u "TIME"), (0, u "TIME_GROUP"), (14, u "isDay"), (0, u "(J)Z")] 47

def k2m0 : Method := { name := "<init>", desc := "()V", sig := { parameters := [], returnType := none }, accessFlags := 2, code := none }
def k2c1 : Code := { maxStack := 4, maxLocals := 2, code := prog_13_method_8_code, exceptionTable := #[], attributes := #[] }
def k2m1 : Method := { name := "isDay", desc := "(J)Z", sig := { parameters := [.long], returnType := some .boolean }, accessFlags := 8, code := some k2c1 }
/-- com/example/pilcrow/pilcrow/Dates -/
def k2 : Class := { plain "com/example/pilcrow/pilcrow/Dates" (some 0) with
  accessFlags := 48
  interfaces := #[]
  cf := some (fileOf pool2 8 #[.nestMembers #[304]] #[{ accessFlags := 2, nameIndex := 5, descriptorIndex := 6, attributes := #[] }, { accessFlags := 8, nameIndex := 390, descriptorIndex := 391, attributes := #[] }] 48 2 #[] #[{ accessFlags := 26, nameIndex := 367, descriptorIndex := 193, attributes := #[] }, { accessFlags := 26, nameIndex := 370, descriptorIndex := 193, attributes := #[] }, { accessFlags := 26, nameIndex := 202, descriptorIndex := 203, attributes := #[] }, { accessFlags := 24, nameIndex := 192, descriptorIndex := 193, attributes := #[] }, { accessFlags := 24, nameIndex := 252, descriptorIndex := 141, attributes := #[] }, { accessFlags := 24, nameIndex := 165, descriptorIndex := 141, attributes := #[] }, { accessFlags := 24, nameIndex := 171, descriptorIndex := 141, attributes := #[] }, { accessFlags := 26, nameIndex := 140, descriptorIndex := 141, attributes := #[] }, { accessFlags := 26, nameIndex := 214, descriptorIndex := 215, attributes := #[] }, { accessFlags := 26, nameIndex := 235, descriptorIndex := 215, attributes := #[] }, { accessFlags := 26, nameIndex := 241, descriptorIndex := 215, attributes := #[] }, { accessFlags := 26, nameIndex := 372, descriptorIndex := 373, attributes := #[] }, { accessFlags := 26, nameIndex := 374, descriptorIndex := 373, attributes := #[] }, { accessFlags := 26, nameIndex := 11, descriptorIndex := 12, attributes := #[] }, { accessFlags := 26, nameIndex := 51, descriptorIndex := 12, attributes := #[] }, { accessFlags := 26, nameIndex := 58, descriptorIndex := 12, attributes := #[] }, { accessFlags := 26, nameIndex := 375, descriptorIndex := 193, attributes := #[] }])
  fields := #[{ name := "FIRST_YEAR", type := .int, accessFlags := 26, slot := 0, constantValue := 0 }, { name := "LAST_YEAR", type := .int, accessFlags := 26, slot := 1, constantValue := 0 }, { name := "DAY_ZERO", type := (.object "java/time/LocalDate"), accessFlags := 26, slot := 2, constantValue := 0 }, { name := "LAST_DAY", type := .int, accessFlags := 24, slot := 3, constantValue := 0 }, { name := "SECONDS_PER_DAY", type := (.object "java/math/BigDecimal"), accessFlags := 24, slot := 4, constantValue := 0 }, { name := "SECONDS_PER_HOUR", type := (.object "java/math/BigDecimal"), accessFlags := 24, slot := 5, constantValue := 0 }, { name := "SECONDS_PER_MINUTE", type := (.object "java/math/BigDecimal"), accessFlags := 24, slot := 6, constantValue := 0 }, { name := "TWELVE", type := (.object "java/math/BigDecimal"), accessFlags := 26, slot := 7, constantValue := 0 }, { name := "TWELVE_MONTHS", type := (.object "java/math/BigInteger"), accessFlags := 26, slot := 8, constantValue := 0 }, { name := "YEARS_PER_CYCLE", type := (.object "java/math/BigInteger"), accessFlags := 26, slot := 9, constantValue := 0 }, { name := "DAYS_PER_CYCLE", type := (.object "java/math/BigInteger"), accessFlags := 26, slot := 10, constantValue := 0 }, { name := "DATE", type := (.object "java/lang/String"), accessFlags := 26, slot := 11, constantValue := 0 }, { name := "TIME", type := (.object "java/lang/String"), accessFlags := 26, slot := 12, constantValue := 0 }, { name := "DATE_ONLY", type := (.object "java/util/regex/Pattern"), accessFlags := 26, slot := 13, constantValue := 0 }, { name := "TIME_ONLY", type := (.object "java/util/regex/Pattern"), accessFlags := 26, slot := 14, constantValue := 0 }, { name := "TIMESTAMP", type := (.object "java/util/regex/Pattern"), accessFlags := 26, slot := 15, constantValue := 0 }, { name := "TIME_GROUP", type := .int, accessFlags := 26, slot := 16, constantValue := 0 }]
  methods := #[k2m0, k2m1]
  instanceTypes := #[]
  staticTypes := #[.int, .int, (.object "java/time/LocalDate"), .int, (.object "java/math/BigDecimal"), (.object "java/math/BigDecimal"), (.object "java/math/BigDecimal"), (.object "java/math/BigDecimal"), (.object "java/math/BigInteger"), (.object "java/math/BigInteger"), (.object "java/math/BigInteger"), (.object "java/lang/String"), (.object "java/lang/String"), (.object "java/util/regex/Pattern"), (.object "java/util/regex/Pattern"), (.object "java/util/regex/Pattern"), .int]
  resolved := Array.replicate 439 none
  statics := some 0 }

def pool3 : Array CpInfo := pool [(1, u "java/lang/Cloneable"), (0, .class_ 1), (0, u "java/lang/Object"), (0, .class_ 3)] 3

/-- java/lang/Cloneable -/
def k3 : Class := { plain "java/lang/Cloneable" (some 0) with
  accessFlags := 1537
  interfaces := #[]
  cf := some (fileOf pool3 2 #[] #[] 1537 4 #[] #[])
  fields := #[]
  methods := #[]
  instanceTypes := #[]
  staticTypes := #[]
  resolved := Array.replicate 8 none
  statics := none }

def pool4 : Array CpInfo := pool [(1, u "java/io/Serializable"), (0, .class_ 1), (0, u "java/lang/Object"), (0, .class_ 3)] 3

/-- java/io/Serializable -/
def k4 : Class := { plain "java/io/Serializable" (some 0) with
  accessFlags := 1537
  interfaces := #[]
  cf := some (fileOf pool4 2 #[] #[] 1537 4 #[] #[])
  fields := #[]
  methods := #[]
  instanceTypes := #[]
  staticTypes := #[]
  resolved := Array.replicate 8 none
  statics := none }

/-- the primitive byte -/
def k5 : Class := { plain "byte" none with kind := .primitive 'B', accessFlags := 0x411 }
/-- [B -/
def k6 : Class := { plain "[B" (some 0) with kind := .array 5 .byte, interfaces := #[3, 4], accessFlags := 1041 }

/-- the primitive int -/
def k7 : Class := { plain "int" none with kind := .primitive 'I', accessFlags := 0x411 }
/-- [I -/
def k8 : Class := { plain "[I" (some 0) with kind := .array 7 .int, interfaces := #[3, 4], accessFlags := 1041 }

def heap : Heap := #[{ cls := 2, slots := #[.int 0, .int 0, .null, .int 1460970, .null, .null, .null, .null, .null, .null, .null, .null, .null, .null, .null, .null, .int 0], vm := .statics 2 }]
def classes : Array Class := #[k0, k1, k2, k3, k4, k5, k6, k7, k8]
def interned : List (Array UInt16 × Addr) := []
def slotsUsed : Nat := 17
def theMethod : MethodId := ⟨1, 2⟩
def args0 : Array Value := #[.long 5, .int 2]
def aboutOver (below : List Frame) : State where
  vm := { classes := classes, interned := interned.toArray }
  heap := heap
  slotsUsed := slotsUsed
  threads := #[{ frames := .invoking theMethod args0 :: below }]
def below0 : List Frame := [.native { method := ⟨0, 0⟩, args := #[] }]
def about1 : State := aboutOver below0
def p0 : Program := .bare "" "" ""
def e0 : Env := launch0.env 0 0 0
theorem w_frames : about1.frames = Frame.invoking theMethod args0 :: below0 := rfl
set_option maxRecDepth 65536 in
theorem w_args : argsFit about1.vm theMethod args0 = true := by decide +kernel
set_option maxRecDepth 65536 in
theorem w_heap : heapFits about1 = true := by decide +kernel
set_option maxRecDepth 65536 in
theorem w_runnable : about1.curStatus? = some .runnable := by decide +kernel
set_option maxRecDepth 65536 in
theorem w_alone : about1.alone = true := by decide +kernel
set_option maxRecDepth 65536 in
theorem w_named : about1.methodNamed? x = some theMethod := by decide +kernel
set_option maxRecDepth 65536 in
theorem w_hears : about1.hears theMethod below0 = true := by decide +kernel
set_option maxRecDepth 65536 in
theorem w_ripe : about1.ripe theMethod args0 below0 = true := by decide +kernel
theorem w_running : about1.status = .running := rfl
set_option maxRecDepth 65536 in
theorem w_room : about1.hasRoom e0.platform room_1 = true :=
  launch0.hasRoom_least _ room_1 (by decide +kernel) (by decide +kernel) (by decide +kernel) (by decide +kernel) (by decide +kernel) (by decide +kernel)
theorem allAtoms_all (ts : List Jvm.Cond) (a : Array Jvm.Value) (st : Jvm.State) : (allAtoms ts).before a st = ts.all (fun c => c.before a st) := by
  induction ts with
  | nil => rfl
  | cons c t ih =>
    show (Jvm.Cond.and c (allAtoms t)).before a st = _
    rw [Jvm.Cond.before_and, ih, List.all_cons]
def words1 : List Jvm.Cond := Jvm.Cond.code x code maxLocals ret :: tables_1
/-- a 'code' word, met by the world's own term for the bytes: nothing is compared byte by byte -/
theorem code_word {y : MethodName} {bytes : ByteArray} {mx : Nat} {rt : Option FieldType} {a : Array Value} {s : State} {m : MethodId} {meth : Method} {c : Code} (h1 : s.methodNamed? y = some m) (h2 : s.vm.method? m = some meth) (h3 : meth.code = some c) (h4 : c.code = bytes)
    (h5 : (c.maxLocals == mx && c.exceptionTable.isEmpty && decide (c.maxStack ≤ mostOperands) && decide (meth.sig.returnType = rt) && !meth.locks && decide (parseMethodDescriptor y.desc = some meth.sig)) = true) : (Jvm.Cond.code y bytes mx rt).before a s = true := by
  simp only [Bool.and_eq_true, beq_iff_eq, Bool.not_eq_true', decide_eq_true_eq] at h5
  obtain ⟨⟨⟨⟨⟨g1, g2⟩, g3⟩, g4⟩, g5⟩, g6⟩ := h5
  simp [Cond.before, Cond.holds, Cond.value, h1, h2, h3, h4, g1, g2, g3, g4, g5, g6]
def isCode : Jvm.Cond → Bool
  | .code _ _ _ _ => true
  | _ => false
theorem all_split {L : List Jvm.Cond} {P : Jvm.Cond → Bool} (h1 : L.all (fun c => isCode c || P c) = true) (h2 : ∀ c ∈ L.filter isCode, P c = true) : L.all P = true := by
  refine List.all_eq_true.mpr fun c hc => ?_
  have h := List.all_eq_true.mp h1 c hc
  rcases Bool.eq_false_or_eq_true (isCode c) with hi | hi
  · exact h2 c (List.mem_filter.mpr ⟨hc, hi⟩)
  · simpa [hi] using h
set_option maxRecDepth 65536 in
theorem w_c0 : (Jvm.Cond.code x code maxLocals ret).before args0 about1 = true := code_word (m := ⟨1, 2⟩) (meth := k1m2) (c := k1c2) (by decide +kernel) rfl rfl rfl (by decide +kernel)
set_option maxRecDepth 65536 in
theorem w_c1 : (Jvm.Cond.code ({ cls := "com/example/pilcrow/pilcrow/Dates", name := "isDay", desc := "(J)Z" } : Jvm.MethodName) prog_13_method_8_code (2 : Nat) (Option.some Jvm.ClassFile.FieldType.boolean)).before args0 about1 = true := code_word (m := ⟨2, 1⟩) (meth := k2m1) (c := k2c1) (by decide +kernel) rfl rfl rfl (by decide +kernel)
set_option maxRecDepth 65536 in
theorem w_c2 : (Jvm.Cond.code ({ cls := "com/example/pilcrow/pilcrow/DatesIsDayPinLaw", name := "expected", desc := "(J)Z" } : Jvm.MethodName) method_2_code (2 : Nat) (Option.some Jvm.ClassFile.FieldType.boolean)).before args0 about1 = true := code_word (m := ⟨1, 1⟩) (meth := k1m1) (c := k1c1) (by decide +kernel) rfl rfl rfl (by decide +kernel)
def codes1 : List Jvm.Cond := [Jvm.Cond.code x code maxLocals ret, Jvm.Cond.code ({ cls := "com/example/pilcrow/pilcrow/Dates", name := "isDay", desc := "(J)Z" } : Jvm.MethodName) prog_13_method_8_code (2 : Nat) (Option.some Jvm.ClassFile.FieldType.boolean), Jvm.Cond.code ({ cls := "com/example/pilcrow/pilcrow/DatesIsDayPinLaw", name := "expected", desc := "(J)Z" } : Jvm.MethodName) method_2_code (2 : Nat) (Option.some Jvm.ClassFile.FieldType.boolean)]
set_option maxRecDepth 65536 in
theorem codes_eq : words1.filter isCode = codes1 := rfl
theorem w_codes : ∀ c ∈ words1.filter isCode, c.before args0 about1 = true := by
  rw [codes_eq]
  intro c hc
  simp only [codes1, List.mem_cons, List.not_mem_nil, or_false] at hc
  rcases hc with rfl | rfl | rfl
  · exact w_c0
  · exact w_c1
  · exact w_c2
set_option maxRecDepth 65536 in
theorem w_t1 : words1.all (fun c => isCode c || c.before args0 about1) = true := by decide +kernel
theorem w_tables : (allAtoms (Jvm.Cond.code x code maxLocals ret :: tables_1)).before args0 about1 = true := by
  rw [allAtoms_all]
  show words1.all (fun c => c.before args0 about1) = true
  refine all_split ?_ w_codes
  rw [w_t1]
set_option maxRecDepth 65536 in
theorem w_case : (Jvm.Cond.and given_1 narrow_1).before args0 about1 = true := by decide +kernel
theorem w_applies : (headSpec (Jvm.Cond.code x code maxLocals ret :: tables_1) room_1).applies x e0.platform about1 = true :=
  (Spec.applies_iff w_frames).mpr ⟨w_running, w_runnable, w_alone, w_named, w_hears, w_ripe, w_room, w_tables⟩
theorem atStart : AtStart classFile x code maxLocals ret World_1 tables_1 room_1 Calls_1 rest_1 Pre_1 launch0 p0 e0 about1 theMethod args0 below0 :=
  ⟨lists_1, trivial, launch0.admits_env _ _ _, launch0.least_env, fairChoices_fair.cas, fairChoices_fair.clock, w_frames, w_args, w_heap, w_applies, trivial, trivial, w_case⟩
end start1
theorem witness_1 : WitnessClaimed_1 := ⟨start1.p0, start1.e0, start1.about1, start1.theMethod, start1.args0, start1.below0, start1.atStart⟩
end Jvm.Pilot.@@N@@
