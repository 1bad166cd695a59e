import JvmDerived
import JvmDerived.Pilot.@@N@@Statement
import JvmDerived.Pilot.@@N@@Code
set_option linter.unusedVariables false
set_option linter.unusedSimpArgs false
namespace Jvm.RoadKit
open Sem ClassFile Op Lib Jvm.Stand Jvm.Free Jvm.LawKit
section New
variable {p : Program} {l : Launch} {e : Env} {R : Room} {s : State} {m : MethodId} {args : Array Value} {below : List Frame} {meth : Method} {c : Code} {T : State} {locs : List Loc} {cells slots : Nat}
theorem retI (X : Stand p l e R s m args below meth c T locs cells slots) (hx : p.tables.exec = Jvm.exec) {pc : Nat} {Ls : Array Slot} {z : Int32} {rest : List Value} (hret : meth.sig.returnType = some .int) (hd : decode c.code pc = .ok (.ireturn, 1)) {fs : List Frame}
    (hl : ∀ (f : JFrame) (acts : List Action), f.method = m → f.locked = none → f.entered = [] → (doReturn e (T.setTop f) acts (some (.int z))).1 = T.setFrames fs) : Steps p.tables e below (T.setTop (mkF m pc Ls (.int z :: rest))) (T.setFrames fs) := by
  have hm' : T.vm.method? m = some meth := X.method'
  have hn : narrow .int (.int z) = .int z := rfl
  show Steps p.tables e below (T.setTop { method := m, pc := pc, locals := Ls, stack := _ :: rest, locked := none }) _
  jvm_step X.here [X.here.top, hx, hd, hm', hret, hn]
  first | (intro acts; rw [hl _ acts rfl rfl rfl]) | rw [hl _ _ rfl rfl rfl]
  exact Steps.refl _
end New
/-- from W the run comes to a state and an outcome of which K holds -/
def OE (tb : Tables) (e : Env) (below : List Frame) (K : State → Outcome → Prop) (W : State) : Prop := ∃ t o, Steps tb e below W t ∧ K t o
theorem OE.v {tb : Tables} {e : Env} {below : List Frame} {K : State → Outcome → Prop} {W W' : State} (f : ∀ t, Steps tb e below W' t → Steps tb e below W t) (h : OE tb e below K W') : OE tb e below K W := by
  obtain ⟨t, o, h1, h2⟩ := h
  exact ⟨t, o, f t h1, h2⟩
theorem own_selp {s : State} {args : Array Value} {y : MethodName} {n : Nat} (wi : (Cond.instantiable y.cls n).before args s = true) (hpriv : s.PrivateAt y) (hinst : (Cond.instanceMethod y).before args s = true) (hy : y.cls ≠ "java/lang/invoke/MethodHandle" ∧ y.cls ≠ "java/lang/invoke/VarHandle") : (Cond.selects y.cls y y).before args s = true := by
  obtain ⟨c, k, h1, h2, -, h4, -⟩ := Cond.instantiable_spec wi
  exact selects_self_of_private h1 h2 (Bool.or_eq_false_iff.mp h4).1 hpriv hinst hy
theorem OE.cut {tb : Tables} {e : Env} {below : List Frame} {K : State → Outcome → Prop} {W : State} (A : (State → Prop) → Prop) (h1 : A (OE tb e below K)) (h2 : A (OE tb e below K) → OE tb e below K W) : OE tb e below K W := h2 h1
end Jvm.RoadKit
namespace Jvm.Pilot.@@N@@
open Jvm Jvm.ClassFile Sem Op Lib Jvm.Free Jvm.Stand Jvm.LawKit Jvm.RoadKit Bundle Jvm.Pilot.@@N@@.Jvm.D
theorem own_w (i : Nat) {d : Jvm.Cond} (h : tables_1[i]? = some d) : d ∈ tables_1 := List.mem_of_getElem? h
def own_max (x y : Int32) : Int32 := if x < y then y else x

theorem d9_0 : decode jdk_29_method_65_code 0 = .ok (.iload_n 0, 1) := by decide +kernel
theorem d9_1 : decode jdk_29_method_65_code 1 = .ok (.iload_n 1, 1) := by decide +kernel
theorem d9_2 : decode jdk_29_method_65_code 2 = .ok (.if_icmp .lt 7, 3) := by decide +kernel
theorem d9_5 : decode jdk_29_method_65_code 5 = .ok (.iload_n 0, 1) := by decide +kernel
theorem d9_6 : decode jdk_29_method_65_code 6 = .ok (.goto 4, 3) := by decide +kernel
theorem d9_9 : decode jdk_29_method_65_code 9 = .ok (.iload_n 1, 1) := by decide +kernel
theorem d9_10 : decode jdk_29_method_65_code 10 = .ok (.ireturn, 1) := by decide +kernel
theorem pn_rm9 : plainFor (⟨"java/lang/Math", "max", "(II)I"⟩ : MethodName) = true := Jvm.Free.JP.mathPlain rfl (by decide +kernel)
theorem ef_rm9 (m : MethodId) (ix : Int32) (iy : Int32) : entryFrame m #[(.int ix), (.int iy)] 2 = mkF m 0 #[iv ix, iv iy] [] := by first | (simp [entryFrame, mkF, argsToLocals, Value.category]; done) | rfl
def Q9 (Z : State) (ix : Int32) (iy : Int32) (h0 : Heap) (n0 : Nat) (v : Option Value) (h : Heap) (L : List Loc) : Prop := v = some (.int (own_max ix iy)) ∧ Fr n0 L ∧ h = h0
set_option maxRecDepth 65536 in
set_option maxHeartbeats 40000000 in
theorem rm9 (l : Launch) (Z : State) (a0 : Array Value) (hw : ∀ d ∈ tables_1, d.before a0 Z = true) (ws : List Jvm.Cond) (ix : Int32) (iy : Int32) (h0 : Heap) (n0 : Nat) (Z0 : n0 ≤ h0.size)  :
    MetFree l (⟨"java/lang/Math", "max", "(II)I"⟩ : MethodName) (head1 (Jvm.Cond.code (⟨"java/lang/Math", "max", "(II)I"⟩ : MethodName) jdk_29_method_65_code 2 (some .int) :: ws) ({ frames := 0, cells := 0, slots := 0, locals := 0 } : Room)) (fun aa U => aa = #[(.int ix), (.int iy)] ∧ Z.Warmed39 U.vm ∧ U.heap = h0) (fun _ _ _ _ _ => True) (fun _ U o U' => ∃ v L, o = .returned v ∧ Q9 Z ix iy h0 n0 v U'.heap L ∧ FrameEnd U o U' L ({ frames := 0, cells := 0, slots := 0, locals := 0 } : Room).cells ({ frames := 0, cells := 0, slots := 0, locals := 0 } : Room).slots) := by
  refine MetFree.of_bodySF pn_rm9 hisR ?_
  intro p e s m args below meth c s₁ Bd hml0 hP hK
  obtain ⟨rfl, hZ, hh⟩ := hP
  have hx := Bd.exec
  have hby := Bd.bytes
  have hml : c.maxLocals = 2 := hml0
  have hown : s.vm.findClass "java/lang/Math" = some m.cls := findClass_of_methodNamed Bd.named
  have hnm := (name_of_methodNamed Bd.named Bd.method).1
  have X0 : Stand p l e ({ frames := 0, cells := 0, slots := 0, locals := 0 } : Room) s m #[(.int ix), (.int iy)] below meth c s₁ [] 0 0 := Stand.of_body Bd
  have e0 : s₁.heap = h0 := by rw [← hh, Bd.state]; rfl
  have N0 := Fr.nil n0
  change OE p.tables e below _ _
  refine OE.v (fun t k => castTop (ef_rm9 m ix iy) k) ?_
  show OE _ _ _ _ (s₁.setTop (mkF m 0 #[iv ix, iv iy] []))
  refine OE.v (fun t k => XS.iloadN X0.here hx rfl (hb hby d9_0) rfl k) ?_
  refine OE.v (fun t k => XS.iloadN X0.here hx rfl (hb hby d9_1) rfl k) ?_
  show OE _ _ _ _ (s₁.setTop (mkF m 2 #[iv ix, iv iy] [(.int iy), (.int ix)]))
  by_cases hc2_1 : ix < iy
  ·
    refine OE.v (fun t k => XS.icmpYes X0.here hx rfl (pc0 := 2) (pc' := 9) rfl (hb hby d9_2) rfl (tlt hc2_1).1 (by decide) (by decide) k) ?_
    show OE _ _ _ _ (s₁.setTop (mkF m 9 #[iv ix, iv iy] []))
    refine OE.v (fun t k => XS.iloadN X0.here hx rfl (hb hby d9_9) rfl k) ?_
    show OE _ _ _ _ (s₁.setTop (mkF m 10 #[iv ix, iv iy] [(.int iy)]))
    obtain ⟨fs, hr, hrun, hended, hW, hsame⟩ := X0.leave (v := some (.int iy)) (fun h => by rw [Bd.returns] at h; cases h)
    refine ⟨_, _, ?_, hrun, hended, _, _, rfl, ?_, ⟨_, rfl⟩, hW, hsame.mono (by decide) (by decide)⟩
    · exact retI X0 hx Bd.returns (hb hby d9_10) hr
    · show Q9 Z ix iy h0 n0 _ s₁.heap _
      rw [e0]
      exact ⟨(by rw [own_max, if_pos hc2_1]), N0, rfl⟩
  ·
    refine OE.v (fun t k => XS.icmpNo X0.here hx rfl (hb hby d9_2) rfl (flt hc2_1).1 k) ?_
    show OE _ _ _ _ (s₁.setTop (mkF m 5 #[iv ix, iv iy] []))
    refine OE.v (fun t k => XS.iloadN X0.here hx rfl (hb hby d9_5) rfl k) ?_
    refine OE.v (fun t k => XS.goto X0.here hx rfl (pc0 := 6) (pc' := 10) rfl (hb hby d9_6) (by decide) (by decide) k) ?_
    show OE _ _ _ _ (s₁.setTop (mkF m 10 #[iv ix, iv iy] [(.int ix)]))
    obtain ⟨fs, hr, hrun, hended, hW, hsame⟩ := X0.leave (v := some (.int ix)) (fun h => by rw [Bd.returns] at h; cases h)
    refine ⟨_, _, ?_, hrun, hended, _, _, rfl, ?_, ⟨_, rfl⟩, hW, hsame.mono (by decide) (by decide)⟩
    · exact retI X0 hx Bd.returns (hb hby d9_10) hr
    · show Q9 Z ix iy h0 n0 _ s₁.heap _
      rw [e0]
      exact ⟨(by rw [own_max, if_neg hc2_1]), N0, rfl⟩

theorem d8_0 : decode prog_53_method_13_code 0 = .ok (.aload_n 0, 1) := by decide +kernel
theorem d8_1 : decode prog_53_method_13_code 1 = .ok (.getfield 52, 3) := by decide +kernel
theorem d8_4 : decode prog_53_method_13_code 4 = .ok (.ifCond .ne 4, 3) := by decide +kernel
theorem d8_7 : decode prog_53_method_13_code 7 = .ok (.return_, 1) := by decide +kernel
theorem pn_rm8 : plainName "com/example/stratal/stratal/logic/StratumGroups" = true := by first | (simp [plainName, overriddenIn]; done) | decide +kernel
theorem ef_rm8 (m : MethodId) (a : Addr) (i1 : Int32) (i2 : Int32) (i3 : Int32) : entryFrame m #[(.ref a), (.int i1), (.int i2), (.int i3)] 4 = mkF m 0 #[rv a, iv i1, iv i2, iv i3] [] := by first | (simp [entryFrame, mkF, argsToLocals, Value.category]; done) | rfl
def Q8 (Z : State) (a : Addr) (i1 : Int32) (i2 : Int32) (i3 : Int32) (h0 : Heap) (n0 : Nat) (v : Option Value) (h : Heap) (L : List Loc) : Prop := v = none ∧ Fr n0 L ∧ h = h0
set_option maxRecDepth 65536 in
set_option maxHeartbeats 40000000 in
theorem rm8 (l : Launch) (Z : State) (a0 : Array Value) (hw : ∀ d ∈ tables_1, d.before a0 Z = true) (ws : List Jvm.Cond) (a : Addr) (i1 : Int32) (i2 : Int32) (i3 : Int32) (h0 : Heap) (n0 : Nat) (Z0 : n0 ≤ h0.size) (P0 : Fld Z h0 a "com/example/stratal/stratal/logic/StratumGroups" "mRecording" "Z" (.int 0)) :
    MetFree l (⟨"com/example/stratal/stratal/logic/StratumGroups", "record", "(III)V"⟩ : MethodName) (head1 (Jvm.Cond.code (⟨"com/example/stratal/stratal/logic/StratumGroups", "record", "(III)V"⟩ : MethodName) prog_53_method_13_code 4 none :: ws) ({ frames := 0, cells := 0, slots := 0, locals := 0 } : Room)) (fun aa U => aa = #[(.ref a), (.int i1), (.int i2), (.int i3)] ∧ Z.Warmed39 U.vm ∧ U.heap = h0) (fun _ _ _ _ _ => True) (fun _ U o U' => ∃ v L, o = .returned v ∧ Q8 Z a i1 i2 i3 h0 n0 v U'.heap L ∧ FrameEnd U o U' L ({ frames := 0, cells := 0, slots := 0, locals := 0 } : Room).cells ({ frames := 0, cells := 0, slots := 0, locals := 0 } : Room).slots) := by
  refine MetFree.of_bodySF (plainFor_of_name pn_rm8) hisR ?_
  intro p e s m args below meth c s₁ Bd hml0 hP hK
  obtain ⟨rfl, hZ, hh⟩ := hP
  have hx := Bd.exec
  have hby := Bd.bytes
  have hml : c.maxLocals = 4 := hml0
  have hown : s.vm.findClass "com/example/stratal/stratal/logic/StratumGroups" = some m.cls := findClass_of_methodNamed Bd.named
  have hnm := (name_of_methodNamed Bd.named Bd.method).1
  have X0 : Stand p l e ({ frames := 0, cells := 0, slots := 0, locals := 0 } : Room) s m #[(.ref a), (.int i1), (.int i2), (.int i3)] below meth c s₁ [] 0 0 := Stand.of_body Bd
  have e0 : s₁.heap = h0 := by rw [← hh, Bd.state]; rfl
  have N0 := Fr.nil n0
  change OE p.tables e below _ _
  refine OE.v (fun t k => castTop (ef_rm8 m a i1 i2 i3) k) ?_
  show OE _ _ _ _ (s₁.setTop (mkF m 0 #[rv a, iv i1, iv i2, iv i3] []))
  refine OE.v (fun t k => XS.aloadN X0.here hx rfl (hb hby d8_0) rfl rfl k) ?_
  show OE _ _ _ _ (s₁.setTop (mkF m 1 #[rv a, iv i1, iv i2, iv i3] [(.ref a)]))
  obtain ⟨T1, X1, e1, st1⟩ := getF X0 hx hZ hown (host := "") (Or.inl (hw _ (own_w 50 rfl))) Via.refl e0 P0 (g := (mkF m 1 #[rv a, iv i1, iv i2, iv i3] [(.ref a)])) rfl rfl (hb hby d8_1)
  refine OE.v st1 ?_
  show OE _ _ _ _ (T1.setTop (mkF m 4 #[rv a, iv i1, iv i2, iv i3] [(.int 0)]))
  refine OE.v (fun t k => XS.ifNo X1.here hx rfl (hb hby d8_4) rfl ((if0 _ _).trans (teq (by decide)).2) k) ?_
  show OE _ _ _ _ (T1.setTop (mkF m 7 #[rv a, iv i1, iv i2, iv i3] []))
  obtain ⟨fs, hr, hrun, hended, hW, hsame⟩ := X1.leave (v := none) (fun _ => rfl)
  refine ⟨_, _, ?_, hrun, hended, _, _, rfl, ?_, ⟨_, rfl⟩, hW, hsame.mono (by decide) (by decide)⟩
  · exact X1.returnOut hx Bd.returns (hb hby d8_7) hr
  · show Q8 Z a i1 i2 i3 h0 n0 _ T1.heap _
    rw [e1]
    exact ⟨rfl, N0, rfl⟩

theorem d1_0 : decode prog_53_method_1_code 0 = .ok (.aload_n 0, 1) := by decide +kernel
theorem d1_1 : decode prog_53_method_1_code 1 = .ok (.invokespecial 1, 3) := by decide +kernel
theorem d1_4 : decode prog_53_method_1_code 4 = .ok (.aload_n 0, 1) := by decide +kernel
theorem d1_5 : decode prog_53_method_1_code 5 = .ok (.bipush 16, 2) := by decide +kernel
theorem d1_7 : decode prog_53_method_1_code 7 = .ok (.newarray .int, 2) := by decide +kernel
theorem d1_9 : decode prog_53_method_1_code 9 = .ok (.putfield 7, 3) := by decide +kernel
theorem d1_12 : decode prog_53_method_1_code 12 = .ok (.aload_n 0, 1) := by decide +kernel
theorem d1_13 : decode prog_53_method_1_code 13 = .ok (.bipush 16, 2) := by decide +kernel
theorem d1_15 : decode prog_53_method_1_code 15 = .ok (.newarray .int, 2) := by decide +kernel
theorem d1_17 : decode prog_53_method_1_code 17 = .ok (.putfield 13, 3) := by decide +kernel
theorem d1_20 : decode prog_53_method_1_code 20 = .ok (.aload_n 0, 1) := by decide +kernel
theorem d1_21 : decode prog_53_method_1_code 21 = .ok (.bipush 16, 2) := by decide +kernel
theorem d1_23 : decode prog_53_method_1_code 23 = .ok (.newarray .int, 2) := by decide +kernel
theorem d1_25 : decode prog_53_method_1_code 25 = .ok (.putfield 16, 3) := by decide +kernel
theorem d1_28 : decode prog_53_method_1_code 28 = .ok (.aload_n 0, 1) := by decide +kernel
theorem d1_29 : decode prog_53_method_1_code 29 = .ok (.bipush 16, 2) := by decide +kernel
theorem d1_31 : decode prog_53_method_1_code 31 = .ok (.newarray .int, 2) := by decide +kernel
theorem d1_33 : decode prog_53_method_1_code 33 = .ok (.putfield 19, 3) := by decide +kernel
theorem d1_36 : decode prog_53_method_1_code 36 = .ok (.aload_n 0, 1) := by decide +kernel
theorem d1_37 : decode prog_53_method_1_code 37 = .ok (.bipush 48, 2) := by decide +kernel
theorem d1_39 : decode prog_53_method_1_code 39 = .ok (.newarray .int, 2) := by decide +kernel
theorem d1_41 : decode prog_53_method_1_code 41 = .ok (.putfield 22, 3) := by decide +kernel
theorem d1_44 : decode prog_53_method_1_code 44 = .ok (.return_, 1) := by decide +kernel
theorem pn_rm1 : plainName "com/example/stratal/stratal/logic/StratumGroups" = true := by first | (simp [plainName, overriddenIn]; done) | decide +kernel
theorem ef_rm1 (m : MethodId) (a : Addr) : entryFrame m #[(.ref a)] 1 = mkF m 0 #[rv a] [] := by first | (simp [entryFrame, mkF, argsToLocals, Value.category]; done) | rfl
def Q1 (Z : State) (a : Addr) (h0 : Heap) (n0 : Nat) (v : Option Value) (h : Heap) (L : List Loc) : Prop := ∃ rp : Addr, ∃ ro : Addr, ∃ rs : Addr, ∃ rf : Addr, ∃ kp : ClassId, ∃ ko : ClassId, ∃ ks : ClassId, ∃ kf : ClassId, v = none ∧ Fr n0 L ∧ Keep h0 h [a] ∧ Exa Z h a "com/example/stratal/stratal/logic/StratumGroups" ∧ Fld Z h a "com/example/stratal/stratal/logic/StratumGroups" "mParent" "[I" (.ref rp) ∧ Fld Z h a "com/example/stratal/stratal/logic/StratumGroups" "mOffset" "[I" (.ref ro) ∧ Fld Z h a "com/example/stratal/stratal/logic/StratumGroups" "mSize" "[I" (.ref rs) ∧ Fld Z h a "com/example/stratal/stratal/logic/StratumGroups" "mFloor" "[I" (.ref rf) ∧ Fld Z h a "com/example/stratal/stratal/logic/StratumGroups" "mCount" "I" (.int 0) ∧ Fld Z h a "com/example/stratal/stratal/logic/StratumGroups" "mRecording" "Z" (.int 0) ∧ Arv Z h rp kp .int (16 : Int32) [(.int 0), (.int 0), (.int 0), (.int 0)] (.int 0) ∧ Arv Z h ro ko .int (16 : Int32) [(.int 0), (.int 0), (.int 0), (.int 0)] (.int 0) ∧ Arv Z h rs ks .int (16 : Int32) [(.int 0), (.int 0), (.int 0), (.int 0)] (.int 0) ∧ Arv Z h rf kf .int (16 : Int32) [(.int 0), (.int 0), (.int 0), (.int 0)] (.int 0) ∧ rp ≠ a ∧ ro ≠ a ∧ rs ≠ a ∧ rf ≠ a ∧ rp ≠ ro ∧ rp ≠ rs ∧ rp ≠ rf ∧ ro ≠ rs ∧ ro ≠ rf ∧ rs ≠ rf ∧ n0 ≤ rp ∧ n0 ≤ ro ∧ n0 ≤ rs ∧ n0 ≤ rf
set_option maxRecDepth 65536 in
set_option maxHeartbeats 40000000 in
theorem rm1 (l : Launch) (Z : State) (a0 : Array Value) (hw : ∀ d ∈ tables_1, d.before a0 Z = true) (ws : List Jvm.Cond) (a : Addr) (h0 : Heap) (n0 : Nat) (Z0 : n0 ≤ h0.size) (P0 : Exa Z h0 a "com/example/stratal/stratal/logic/StratumGroups") (P1 : Fld Z h0 a "com/example/stratal/stratal/logic/StratumGroups" "mParent" "[I" .null) (P2 : Fld Z h0 a "com/example/stratal/stratal/logic/StratumGroups" "mOffset" "[I" .null) (P3 : Fld Z h0 a "com/example/stratal/stratal/logic/StratumGroups" "mSize" "[I" .null) (P4 : Fld Z h0 a "com/example/stratal/stratal/logic/StratumGroups" "mFloor" "[I" .null) (P5 : Fld Z h0 a "com/example/stratal/stratal/logic/StratumGroups" "mRecords" "[I" .null) (P6 : Fld Z h0 a "com/example/stratal/stratal/logic/StratumGroups" "mCount" "I" (.int 0)) (P7 : Fld Z h0 a "com/example/stratal/stratal/logic/StratumGroups" "mRecording" "Z" (.int 0)) (P8 : n0 ≤ a) :
    MetFree l (⟨"com/example/stratal/stratal/logic/StratumGroups", "<init>", "()V"⟩ : MethodName) (head1 (Jvm.Cond.code (⟨"com/example/stratal/stratal/logic/StratumGroups", "<init>", "()V"⟩ : MethodName) prog_53_method_1_code 1 none :: ws) ({ frames := 1, cells := 5, slots := 112, locals := 12 } : Room)) (fun aa U => aa = #[(.ref a)] ∧ Z.Warmed39 U.vm ∧ U.heap = h0) (fun _ _ _ _ _ => True) (fun _ U o U' => ∃ v L, o = .returned v ∧ Q1 Z a h0 n0 v U'.heap L ∧ FrameEnd U o U' L ({ frames := 1, cells := 5, slots := 112, locals := 12 } : Room).cells ({ frames := 1, cells := 5, slots := 112, locals := 12 } : Room).slots) := by
  refine MetFree.of_bodySF (plainFor_of_name pn_rm1) hisR ?_
  intro p e s m args below meth c s₁ Bd hml0 hP hK
  obtain ⟨rfl, hZ, hh⟩ := hP
  have hx := Bd.exec
  have hby := Bd.bytes
  have hml : c.maxLocals = 1 := hml0
  have hown : s.vm.findClass "com/example/stratal/stratal/logic/StratumGroups" = some m.cls := findClass_of_methodNamed Bd.named
  have hnm := (name_of_methodNamed Bd.named Bd.method).1
  have X0 : Stand p l e ({ frames := 1, cells := 5, slots := 112, locals := 12 } : Room) s m #[(.ref a)] below meth c s₁ [] 0 0 := Stand.of_body Bd
  have e0 : s₁.heap = h0 := by rw [← hh, Bd.state]; rfl
  have N0 := Fr.nil n0
  change OE p.tables e below _ _
  refine OE.v (fun t k => castTop (ef_rm1 m a) k) ?_
  show OE _ _ _ _ (s₁.setTop (mkF m 0 #[rv a] []))
  refine OE.v (fun t k => XS.aloadN X0.here hx rfl (hb hby d1_0) rfl rfl k) ?_
  show OE _ _ _ _ (s₁.setTop (mkF m 1 #[rv a] [(.ref a)]))
  obtain ⟨T1, X1, e1, st1⟩ := initO X0 hx hZ hown (hw _ (own_w 6 rfl)) (hw _ (own_w 7 rfl)) (hw _ (own_w 8 rfl)) e0 (g := (mkF m 1 #[rv a] [(.ref a)])) rfl (by rw [hml]; rfl) rfl (hb hby d1_1) (by decide) (W := 0) (Nat.le_of_eq rfl) (by decide)
  refine OE.v st1 ?_
  show OE _ _ _ _ (T1.setTop (mkF m 4 #[rv a] []))
  refine OE.v (fun t k => XS.aloadN X1.here hx rfl (hb hby d1_4) rfl rfl k) ?_
  refine OE.v (fun t k => XS.bipush X1.here hx rfl (hb hby d1_5) k) ?_
  show OE _ _ _ _ (T1.setTop (mkF m 7 #[rv a] [(.int 16), (.ref a)]))
  obtain ⟨T2, h2, k2, X2, e2, E2, A2, st2⟩ := newP X1 hx hZ (hw _ (own_w 9 rfl)) e1 (g := (mkF m 7 #[rv a] [(.int 16), (.ref a)])) rfl (hb hby d1_7) rfl (by decide) (cap := 16) (by decide) (by decide) (by decide) (by decide)
  obtain ⟨b2, g2⟩ : ∃ z, z = h0.size := ⟨_, rfl⟩
  have ne_a_b2 : a ≠ b2 := Nat.ne_of_lt (Nat.lt_of_lt_of_le P0.lt (Nat.le_of_eq g2.symm))
  have ge_b2 : n0 ≤ b2 := Nat.le_trans Z0 (Nat.le_of_eq g2.symm)
  have sz_b2 : h0.size ≤ b2 := Nat.le_trans (Keep.refl h0 [a]).1 (Nat.le_of_eq g2.symm)
  have Z2 : n0 ≤ h2.size := Nat.le_trans Z0 E2.1
  have K2 : Keep h0 h2 [a] := (Keep.refl h0 [a]).ext E2
  rw [← g2] at A2 st2
  have V2 : Arv Z h2 b2 k2 .int (16 : Int32) [(.int 0), (.int 0), (.int 0), (.int 0)] (.int 0) := (Arv.new A2 (by decide)).pad (pad_rep [] (.int 0) 4)
  refine OE.v st2 ?_
  show OE _ _ _ _ (T2.setTop (mkF m 9 #[rv a] [(.ref b2), (.ref a)]))
  obtain ⟨T3, h3, X3, e3, W3, st3⟩ := putF X2 hx hZ hown (host := "") (Or.inl (hw _ (own_w 10 rfl))) Via.refl e2 (P1.ext E2) (P0.ext E2) (Or.inl (hw _ (own_w 11 rfl))) (hw _ (own_w 1 rfl)) (ty := (.array .int)) (by decide) rfl rfl (g := (mkF m 9 #[rv a] [(.ref b2), (.ref a)])) rfl rfl (hb hby d1_9)
  have Fw3 : Fld Z h3 a "com/example/stratal/stratal/logic/StratumGroups" "mParent" "[I" (.ref b2) := (P1.ext E2).same W3
  have N3 := Fr.snoc X3 N0 P8
  have Z3 : n0 ≤ h3.size := Nat.le_trans Z2 (Nat.le_of_eq W3.size.symm)
  have K3 : Keep h0 h3 [a] := K2.wr W3 (Or.inl (by simp))
  refine OE.v st3 ?_
  show OE _ _ _ _ (T3.setTop (mkF m 12 #[rv a] []))
  refine OE.v (fun t k => XS.aloadN X3.here hx rfl (hb hby d1_12) rfl rfl k) ?_
  refine OE.v (fun t k => XS.bipush X3.here hx rfl (hb hby d1_13) k) ?_
  show OE _ _ _ _ (T3.setTop (mkF m 15 #[rv a] [(.int 16), (.ref a)]))
  obtain ⟨T4, h4, k4, X4, e4, E4, A4, st4⟩ := newP X3 hx hZ (hw _ (own_w 9 rfl)) e3 (g := (mkF m 15 #[rv a] [(.int 16), (.ref a)])) rfl (hb hby d1_15) rfl (by decide) (cap := 16) (by decide) (by decide) (by decide) (by decide)
  obtain ⟨b4, g4⟩ : ∃ z, z = h3.size := ⟨_, rfl⟩
  have ne_a_b4 : a ≠ b4 := Nat.ne_of_lt (Nat.lt_of_lt_of_le ((P0.ext E2).wr W3).lt (Nat.le_of_eq g4.symm))
  have ne_b2_b4 : b2 ≠ b4 := Nat.ne_of_lt (Nat.lt_of_lt_of_le (V2.other W3 (Ne.symm ne_a_b2)).lt (Nat.le_of_eq g4.symm))
  have ge_b4 : n0 ≤ b4 := Nat.le_trans Z3 (Nat.le_of_eq g4.symm)
  have sz_b4 : h0.size ≤ b4 := Nat.le_trans K3.1 (Nat.le_of_eq g4.symm)
  have Z4 : n0 ≤ h4.size := Nat.le_trans Z3 E4.1
  have K4 : Keep h0 h4 [a] := K3.ext E4
  rw [← g4] at A4 st4
  have V4 : Arv Z h4 b4 k4 .int (16 : Int32) [(.int 0), (.int 0), (.int 0), (.int 0)] (.int 0) := (Arv.new A4 (by decide)).pad (pad_rep [] (.int 0) 4)
  refine OE.v st4 ?_
  show OE _ _ _ _ (T4.setTop (mkF m 17 #[rv a] [(.ref b4), (.ref a)]))
  obtain ⟨T5, h5, X5, e5, W5, st5⟩ := putF X4 hx hZ hown (host := "") (Or.inl (hw _ (own_w 12 rfl))) Via.refl e4 (((P2.ext E2).other W3 (Or.inr (slot_ne (Or.inl (hw _ (own_w 13 rfl))) (Or.inl (hw _ (own_w 11 rfl))) (by decide) (t := (.array .int)) (t' := (.array .int)) (by decide) (by decide)))).ext E4) (((P0.ext E2).wr W3).ext E4) (Or.inl (hw _ (own_w 13 rfl))) (hw _ (own_w 1 rfl)) (ty := (.array .int)) (by decide) rfl rfl (g := (mkF m 17 #[rv a] [(.ref b4), (.ref a)])) rfl rfl (hb hby d1_17)
  have Fw5 : Fld Z h5 a "com/example/stratal/stratal/logic/StratumGroups" "mOffset" "[I" (.ref b4) := (((P2.ext E2).other W3 (Or.inr (slot_ne (Or.inl (hw _ (own_w 13 rfl))) (Or.inl (hw _ (own_w 11 rfl))) (by decide) (t := (.array .int)) (t' := (.array .int)) (by decide) (by decide)))).ext E4).same W5
  have N5 := Fr.snoc X5 N3 P8
  have Z5 : n0 ≤ h5.size := Nat.le_trans Z4 (Nat.le_of_eq W5.size.symm)
  have K5 : Keep h0 h5 [a] := K4.wr W5 (Or.inl (by simp))
  refine OE.v st5 ?_
  show OE _ _ _ _ (T5.setTop (mkF m 20 #[rv a] []))
  refine OE.v (fun t k => XS.aloadN X5.here hx rfl (hb hby d1_20) rfl rfl k) ?_
  refine OE.v (fun t k => XS.bipush X5.here hx rfl (hb hby d1_21) k) ?_
  show OE _ _ _ _ (T5.setTop (mkF m 23 #[rv a] [(.int 16), (.ref a)]))
  obtain ⟨T6, h6, k6, X6, e6, E6, A6, st6⟩ := newP X5 hx hZ (hw _ (own_w 9 rfl)) e5 (g := (mkF m 23 #[rv a] [(.int 16), (.ref a)])) rfl (hb hby d1_23) rfl (by decide) (cap := 16) (by decide) (by decide) (by decide) (by decide)
  obtain ⟨b6, g6⟩ : ∃ z, z = h5.size := ⟨_, rfl⟩
  have ne_a_b6 : a ≠ b6 := Nat.ne_of_lt (Nat.lt_of_lt_of_le ((((P0.ext E2).wr W3).ext E4).wr W5).lt (Nat.le_of_eq g6.symm))
  have ne_b2_b6 : b2 ≠ b6 := Nat.ne_of_lt (Nat.lt_of_lt_of_le (((V2.other W3 (Ne.symm ne_a_b2)).ext E4).other W5 (Ne.symm ne_a_b2)).lt (Nat.le_of_eq g6.symm))
  have ne_b4_b6 : b4 ≠ b6 := Nat.ne_of_lt (Nat.lt_of_lt_of_le (V4.other W5 (Ne.symm ne_a_b4)).lt (Nat.le_of_eq g6.symm))
  have ge_b6 : n0 ≤ b6 := Nat.le_trans Z5 (Nat.le_of_eq g6.symm)
  have sz_b6 : h0.size ≤ b6 := Nat.le_trans K5.1 (Nat.le_of_eq g6.symm)
  have Z6 : n0 ≤ h6.size := Nat.le_trans Z5 E6.1
  have K6 : Keep h0 h6 [a] := K5.ext E6
  rw [← g6] at A6 st6
  have V6 : Arv Z h6 b6 k6 .int (16 : Int32) [(.int 0), (.int 0), (.int 0), (.int 0)] (.int 0) := (Arv.new A6 (by decide)).pad (pad_rep [] (.int 0) 4)
  refine OE.v st6 ?_
  show OE _ _ _ _ (T6.setTop (mkF m 25 #[rv a] [(.ref b6), (.ref a)]))
  obtain ⟨T7, h7, X7, e7, W7, st7⟩ := putF X6 hx hZ hown (host := "") (Or.inl (hw _ (own_w 14 rfl))) Via.refl e6 (((((P3.ext E2).other W3 (Or.inr (slot_ne (Or.inl (hw _ (own_w 15 rfl))) (Or.inl (hw _ (own_w 11 rfl))) (by decide) (t := (.array .int)) (t' := (.array .int)) (by decide) (by decide)))).ext E4).other W5 (Or.inr (slot_ne (Or.inl (hw _ (own_w 15 rfl))) (Or.inl (hw _ (own_w 13 rfl))) (by decide) (t := (.array .int)) (t' := (.array .int)) (by decide) (by decide)))).ext E6) (((((P0.ext E2).wr W3).ext E4).wr W5).ext E6) (Or.inl (hw _ (own_w 15 rfl))) (hw _ (own_w 1 rfl)) (ty := (.array .int)) (by decide) rfl rfl (g := (mkF m 25 #[rv a] [(.ref b6), (.ref a)])) rfl rfl (hb hby d1_25)
  have Fw7 : Fld Z h7 a "com/example/stratal/stratal/logic/StratumGroups" "mSize" "[I" (.ref b6) := (((((P3.ext E2).other W3 (Or.inr (slot_ne (Or.inl (hw _ (own_w 15 rfl))) (Or.inl (hw _ (own_w 11 rfl))) (by decide) (t := (.array .int)) (t' := (.array .int)) (by decide) (by decide)))).ext E4).other W5 (Or.inr (slot_ne (Or.inl (hw _ (own_w 15 rfl))) (Or.inl (hw _ (own_w 13 rfl))) (by decide) (t := (.array .int)) (t' := (.array .int)) (by decide) (by decide)))).ext E6).same W7
  have N7 := Fr.snoc X7 N5 P8
  have Z7 : n0 ≤ h7.size := Nat.le_trans Z6 (Nat.le_of_eq W7.size.symm)
  have K7 : Keep h0 h7 [a] := K6.wr W7 (Or.inl (by simp))
  refine OE.v st7 ?_
  show OE _ _ _ _ (T7.setTop (mkF m 28 #[rv a] []))
  refine OE.v (fun t k => XS.aloadN X7.here hx rfl (hb hby d1_28) rfl rfl k) ?_
  refine OE.v (fun t k => XS.bipush X7.here hx rfl (hb hby d1_29) k) ?_
  show OE _ _ _ _ (T7.setTop (mkF m 31 #[rv a] [(.int 16), (.ref a)]))
  obtain ⟨T8, h8, k8, X8, e8, E8, A8, st8⟩ := newP X7 hx hZ (hw _ (own_w 9 rfl)) e7 (g := (mkF m 31 #[rv a] [(.int 16), (.ref a)])) rfl (hb hby d1_31) rfl (by decide) (cap := 16) (by decide) (by decide) (by decide) (by decide)
  obtain ⟨b8, g8⟩ : ∃ z, z = h7.size := ⟨_, rfl⟩
  have ne_a_b8 : a ≠ b8 := Nat.ne_of_lt (Nat.lt_of_lt_of_le ((((((P0.ext E2).wr W3).ext E4).wr W5).ext E6).wr W7).lt (Nat.le_of_eq g8.symm))
  have ne_b2_b8 : b2 ≠ b8 := Nat.ne_of_lt (Nat.lt_of_lt_of_le (((((V2.other W3 (Ne.symm ne_a_b2)).ext E4).other W5 (Ne.symm ne_a_b2)).ext E6).other W7 (Ne.symm ne_a_b2)).lt (Nat.le_of_eq g8.symm))
  have ne_b4_b8 : b4 ≠ b8 := Nat.ne_of_lt (Nat.lt_of_lt_of_le (((V4.other W5 (Ne.symm ne_a_b4)).ext E6).other W7 (Ne.symm ne_a_b4)).lt (Nat.le_of_eq g8.symm))
  have ne_b6_b8 : b6 ≠ b8 := Nat.ne_of_lt (Nat.lt_of_lt_of_le (V6.other W7 (Ne.symm ne_a_b6)).lt (Nat.le_of_eq g8.symm))
  have ge_b8 : n0 ≤ b8 := Nat.le_trans Z7 (Nat.le_of_eq g8.symm)
  have sz_b8 : h0.size ≤ b8 := Nat.le_trans K7.1 (Nat.le_of_eq g8.symm)
  have Z8 : n0 ≤ h8.size := Nat.le_trans Z7 E8.1
  have K8 : Keep h0 h8 [a] := K7.ext E8
  rw [← g8] at A8 st8
  have V8 : Arv Z h8 b8 k8 .int (16 : Int32) [(.int 0), (.int 0), (.int 0), (.int 0)] (.int 0) := (Arv.new A8 (by decide)).pad (pad_rep [] (.int 0) 4)
  refine OE.v st8 ?_
  show OE _ _ _ _ (T8.setTop (mkF m 33 #[rv a] [(.ref b8), (.ref a)]))
  obtain ⟨T9, h9, X9, e9, W9, st9⟩ := putF X8 hx hZ hown (host := "") (Or.inl (hw _ (own_w 16 rfl))) Via.refl e8 (((((((P4.ext E2).other W3 (Or.inr (slot_ne (Or.inl (hw _ (own_w 17 rfl))) (Or.inl (hw _ (own_w 11 rfl))) (by decide) (t := (.array .int)) (t' := (.array .int)) (by decide) (by decide)))).ext E4).other W5 (Or.inr (slot_ne (Or.inl (hw _ (own_w 17 rfl))) (Or.inl (hw _ (own_w 13 rfl))) (by decide) (t := (.array .int)) (t' := (.array .int)) (by decide) (by decide)))).ext E6).other W7 (Or.inr (slot_ne (Or.inl (hw _ (own_w 17 rfl))) (Or.inl (hw _ (own_w 15 rfl))) (by decide) (t := (.array .int)) (t' := (.array .int)) (by decide) (by decide)))).ext E8) (((((((P0.ext E2).wr W3).ext E4).wr W5).ext E6).wr W7).ext E8) (Or.inl (hw _ (own_w 17 rfl))) (hw _ (own_w 1 rfl)) (ty := (.array .int)) (by decide) rfl rfl (g := (mkF m 33 #[rv a] [(.ref b8), (.ref a)])) rfl rfl (hb hby d1_33)
  have Fw9 : Fld Z h9 a "com/example/stratal/stratal/logic/StratumGroups" "mFloor" "[I" (.ref b8) := (((((((P4.ext E2).other W3 (Or.inr (slot_ne (Or.inl (hw _ (own_w 17 rfl))) (Or.inl (hw _ (own_w 11 rfl))) (by decide) (t := (.array .int)) (t' := (.array .int)) (by decide) (by decide)))).ext E4).other W5 (Or.inr (slot_ne (Or.inl (hw _ (own_w 17 rfl))) (Or.inl (hw _ (own_w 13 rfl))) (by decide) (t := (.array .int)) (t' := (.array .int)) (by decide) (by decide)))).ext E6).other W7 (Or.inr (slot_ne (Or.inl (hw _ (own_w 17 rfl))) (Or.inl (hw _ (own_w 15 rfl))) (by decide) (t := (.array .int)) (t' := (.array .int)) (by decide) (by decide)))).ext E8).same W9
  have N9 := Fr.snoc X9 N7 P8
  have Z9 : n0 ≤ h9.size := Nat.le_trans Z8 (Nat.le_of_eq W9.size.symm)
  have K9 : Keep h0 h9 [a] := K8.wr W9 (Or.inl (by simp))
  refine OE.v st9 ?_
  show OE _ _ _ _ (T9.setTop (mkF m 36 #[rv a] []))
  refine OE.v (fun t k => XS.aloadN X9.here hx rfl (hb hby d1_36) rfl rfl k) ?_
  refine OE.v (fun t k => XS.bipush X9.here hx rfl (hb hby d1_37) k) ?_
  show OE _ _ _ _ (T9.setTop (mkF m 39 #[rv a] [(.int 48), (.ref a)]))
  obtain ⟨T10, h10, k10, X10, e10, E10, A10, st10⟩ := newP X9 hx hZ (hw _ (own_w 9 rfl)) e9 (g := (mkF m 39 #[rv a] [(.int 48), (.ref a)])) rfl (hb hby d1_39) rfl (by decide) (cap := 48) (by decide) (by decide) (by decide) (by decide)
  obtain ⟨b10, g10⟩ : ∃ z, z = h9.size := ⟨_, rfl⟩
  have ne_a_b10 : a ≠ b10 := Nat.ne_of_lt (Nat.lt_of_lt_of_le ((((((((P0.ext E2).wr W3).ext E4).wr W5).ext E6).wr W7).ext E8).wr W9).lt (Nat.le_of_eq g10.symm))
  have ne_b2_b10 : b2 ≠ b10 := Nat.ne_of_lt (Nat.lt_of_lt_of_le (((((((V2.other W3 (Ne.symm ne_a_b2)).ext E4).other W5 (Ne.symm ne_a_b2)).ext E6).other W7 (Ne.symm ne_a_b2)).ext E8).other W9 (Ne.symm ne_a_b2)).lt (Nat.le_of_eq g10.symm))
  have ne_b4_b10 : b4 ≠ b10 := Nat.ne_of_lt (Nat.lt_of_lt_of_le (((((V4.other W5 (Ne.symm ne_a_b4)).ext E6).other W7 (Ne.symm ne_a_b4)).ext E8).other W9 (Ne.symm ne_a_b4)).lt (Nat.le_of_eq g10.symm))
  have ne_b6_b10 : b6 ≠ b10 := Nat.ne_of_lt (Nat.lt_of_lt_of_le (((V6.other W7 (Ne.symm ne_a_b6)).ext E8).other W9 (Ne.symm ne_a_b6)).lt (Nat.le_of_eq g10.symm))
  have ne_b8_b10 : b8 ≠ b10 := Nat.ne_of_lt (Nat.lt_of_lt_of_le (V8.other W9 (Ne.symm ne_a_b8)).lt (Nat.le_of_eq g10.symm))
  have ge_b10 : n0 ≤ b10 := Nat.le_trans Z9 (Nat.le_of_eq g10.symm)
  have sz_b10 : h0.size ≤ b10 := Nat.le_trans K9.1 (Nat.le_of_eq g10.symm)
  have Z10 : n0 ≤ h10.size := Nat.le_trans Z9 E10.1
  have K10 : Keep h0 h10 [a] := K9.ext E10
  rw [← g10] at A10 st10
  have V10 : Arv Z h10 b10 k10 .int (48 : Int32) [(.int 0), (.int 0), (.int 0), (.int 0)] (.int 0) := (Arv.new A10 (by decide)).pad (pad_rep [] (.int 0) 4)
  refine OE.v st10 ?_
  show OE _ _ _ _ (T10.setTop (mkF m 41 #[rv a] [(.ref b10), (.ref a)]))
  obtain ⟨T11, h11, X11, e11, W11, st11⟩ := putF X10 hx hZ hown (host := "") (Or.inl (hw _ (own_w 18 rfl))) Via.refl e10 (((((((((P5.ext E2).other W3 (Or.inr (slot_ne (Or.inl (hw _ (own_w 19 rfl))) (Or.inl (hw _ (own_w 11 rfl))) (by decide) (t := (.array .int)) (t' := (.array .int)) (by decide) (by decide)))).ext E4).other W5 (Or.inr (slot_ne (Or.inl (hw _ (own_w 19 rfl))) (Or.inl (hw _ (own_w 13 rfl))) (by decide) (t := (.array .int)) (t' := (.array .int)) (by decide) (by decide)))).ext E6).other W7 (Or.inr (slot_ne (Or.inl (hw _ (own_w 19 rfl))) (Or.inl (hw _ (own_w 15 rfl))) (by decide) (t := (.array .int)) (t' := (.array .int)) (by decide) (by decide)))).ext E8).other W9 (Or.inr (slot_ne (Or.inl (hw _ (own_w 19 rfl))) (Or.inl (hw _ (own_w 17 rfl))) (by decide) (t := (.array .int)) (t' := (.array .int)) (by decide) (by decide)))).ext E10) (((((((((P0.ext E2).wr W3).ext E4).wr W5).ext E6).wr W7).ext E8).wr W9).ext E10) (Or.inl (hw _ (own_w 19 rfl))) (hw _ (own_w 1 rfl)) (ty := (.array .int)) (by decide) rfl rfl (g := (mkF m 41 #[rv a] [(.ref b10), (.ref a)])) rfl rfl (hb hby d1_41)
  have Fw11 : Fld Z h11 a "com/example/stratal/stratal/logic/StratumGroups" "mRecords" "[I" (.ref b10) := (((((((((P5.ext E2).other W3 (Or.inr (slot_ne (Or.inl (hw _ (own_w 19 rfl))) (Or.inl (hw _ (own_w 11 rfl))) (by decide) (t := (.array .int)) (t' := (.array .int)) (by decide) (by decide)))).ext E4).other W5 (Or.inr (slot_ne (Or.inl (hw _ (own_w 19 rfl))) (Or.inl (hw _ (own_w 13 rfl))) (by decide) (t := (.array .int)) (t' := (.array .int)) (by decide) (by decide)))).ext E6).other W7 (Or.inr (slot_ne (Or.inl (hw _ (own_w 19 rfl))) (Or.inl (hw _ (own_w 15 rfl))) (by decide) (t := (.array .int)) (t' := (.array .int)) (by decide) (by decide)))).ext E8).other W9 (Or.inr (slot_ne (Or.inl (hw _ (own_w 19 rfl))) (Or.inl (hw _ (own_w 17 rfl))) (by decide) (t := (.array .int)) (t' := (.array .int)) (by decide) (by decide)))).ext E10).same W11
  have N11 := Fr.snoc X11 N9 P8
  have Z11 : n0 ≤ h11.size := Nat.le_trans Z10 (Nat.le_of_eq W11.size.symm)
  have K11 : Keep h0 h11 [a] := K10.wr W11 (Or.inl (by simp))
  refine OE.v st11 ?_
  show OE _ _ _ _ (T11.setTop (mkF m 44 #[rv a] []))
  obtain ⟨fs, hr, hrun, hended, hW, hsame⟩ := X11.leave (v := none) (fun _ => rfl)
  refine ⟨_, _, ?_, hrun, hended, _, _, rfl, ?_, ⟨_, rfl⟩, hW, hsame.mono (by decide) (by decide)⟩
  · exact X11.returnOut hx Bd.returns (hb hby d1_44) hr
  · show Q1 Z a h0 n0 _ T11.heap _
    rw [e11]
    exact ⟨b2, b4, b6, b8, k2, k4, k6, k8, rfl, N11, K11, ((((((((((P0.ext E2).wr W3).ext E4).wr W5).ext E6).wr W7).ext E8).wr W9).ext E10).wr W11), ((((((((Fw3.ext E4).other W5 (Or.inr (slot_ne (Or.inl (hw _ (own_w 11 rfl))) (Or.inl (hw _ (own_w 13 rfl))) (by decide) (t := (.array .int)) (t' := (.array .int)) (by decide) (by decide)))).ext E6).other W7 (Or.inr (slot_ne (Or.inl (hw _ (own_w 11 rfl))) (Or.inl (hw _ (own_w 15 rfl))) (by decide) (t := (.array .int)) (t' := (.array .int)) (by decide) (by decide)))).ext E8).other W9 (Or.inr (slot_ne (Or.inl (hw _ (own_w 11 rfl))) (Or.inl (hw _ (own_w 17 rfl))) (by decide) (t := (.array .int)) (t' := (.array .int)) (by decide) (by decide)))).ext E10).other W11 (Or.inr (slot_ne (Or.inl (hw _ (own_w 11 rfl))) (Or.inl (hw _ (own_w 19 rfl))) (by decide) (t := (.array .int)) (t' := (.array .int)) (by decide) (by decide)))), ((((((Fw5.ext E6).other W7 (Or.inr (slot_ne (Or.inl (hw _ (own_w 13 rfl))) (Or.inl (hw _ (own_w 15 rfl))) (by decide) (t := (.array .int)) (t' := (.array .int)) (by decide) (by decide)))).ext E8).other W9 (Or.inr (slot_ne (Or.inl (hw _ (own_w 13 rfl))) (Or.inl (hw _ (own_w 17 rfl))) (by decide) (t := (.array .int)) (t' := (.array .int)) (by decide) (by decide)))).ext E10).other W11 (Or.inr (slot_ne (Or.inl (hw _ (own_w 13 rfl))) (Or.inl (hw _ (own_w 19 rfl))) (by decide) (t := (.array .int)) (t' := (.array .int)) (by decide) (by decide)))), ((((Fw7.ext E8).other W9 (Or.inr (slot_ne (Or.inl (hw _ (own_w 15 rfl))) (Or.inl (hw _ (own_w 17 rfl))) (by decide) (t := (.array .int)) (t' := (.array .int)) (by decide) (by decide)))).ext E10).other W11 (Or.inr (slot_ne (Or.inl (hw _ (own_w 15 rfl))) (Or.inl (hw _ (own_w 19 rfl))) (by decide) (t := (.array .int)) (t' := (.array .int)) (by decide) (by decide)))), ((Fw9.ext E10).other W11 (Or.inr (slot_ne (Or.inl (hw _ (own_w 17 rfl))) (Or.inl (hw _ (own_w 19 rfl))) (by decide) (t := (.array .int)) (t' := (.array .int)) (by decide) (by decide)))), ((((((((((P6.ext E2).other W3 (Or.inr (slot_ne (Or.inl (hw _ (own_w 26 rfl))) (Or.inl (hw _ (own_w 11 rfl))) (by decide) (t := .int) (t' := (.array .int)) (by decide) (by decide)))).ext E4).other W5 (Or.inr (slot_ne (Or.inl (hw _ (own_w 26 rfl))) (Or.inl (hw _ (own_w 13 rfl))) (by decide) (t := .int) (t' := (.array .int)) (by decide) (by decide)))).ext E6).other W7 (Or.inr (slot_ne (Or.inl (hw _ (own_w 26 rfl))) (Or.inl (hw _ (own_w 15 rfl))) (by decide) (t := .int) (t' := (.array .int)) (by decide) (by decide)))).ext E8).other W9 (Or.inr (slot_ne (Or.inl (hw _ (own_w 26 rfl))) (Or.inl (hw _ (own_w 17 rfl))) (by decide) (t := .int) (t' := (.array .int)) (by decide) (by decide)))).ext E10).other W11 (Or.inr (slot_ne (Or.inl (hw _ (own_w 26 rfl))) (Or.inl (hw _ (own_w 19 rfl))) (by decide) (t := .int) (t' := (.array .int)) (by decide) (by decide)))), ((((((((((P7.ext E2).other W3 (Or.inr (slot_ne (Or.inl (hw _ (own_w 51 rfl))) (Or.inl (hw _ (own_w 11 rfl))) (by decide) (t := .boolean) (t' := (.array .int)) (by decide) (by decide)))).ext E4).other W5 (Or.inr (slot_ne (Or.inl (hw _ (own_w 51 rfl))) (Or.inl (hw _ (own_w 13 rfl))) (by decide) (t := .boolean) (t' := (.array .int)) (by decide) (by decide)))).ext E6).other W7 (Or.inr (slot_ne (Or.inl (hw _ (own_w 51 rfl))) (Or.inl (hw _ (own_w 15 rfl))) (by decide) (t := .boolean) (t' := (.array .int)) (by decide) (by decide)))).ext E8).other W9 (Or.inr (slot_ne (Or.inl (hw _ (own_w 51 rfl))) (Or.inl (hw _ (own_w 17 rfl))) (by decide) (t := .boolean) (t' := (.array .int)) (by decide) (by decide)))).ext E10).other W11 (Or.inr (slot_ne (Or.inl (hw _ (own_w 51 rfl))) (Or.inl (hw _ (own_w 19 rfl))) (by decide) (t := .boolean) (t' := (.array .int)) (by decide) (by decide)))), (((((((((V2.other W3 (Ne.symm ne_a_b2)).ext E4).other W5 (Ne.symm ne_a_b2)).ext E6).other W7 (Ne.symm ne_a_b2)).ext E8).other W9 (Ne.symm ne_a_b2)).ext E10).other W11 (Ne.symm ne_a_b2)), (((((((V4.other W5 (Ne.symm ne_a_b4)).ext E6).other W7 (Ne.symm ne_a_b4)).ext E8).other W9 (Ne.symm ne_a_b4)).ext E10).other W11 (Ne.symm ne_a_b4)), (((((V6.other W7 (Ne.symm ne_a_b6)).ext E8).other W9 (Ne.symm ne_a_b6)).ext E10).other W11 (Ne.symm ne_a_b6)), (((V8.other W9 (Ne.symm ne_a_b8)).ext E10).other W11 (Ne.symm ne_a_b8)), (Ne.symm ne_a_b2), (Ne.symm ne_a_b4), (Ne.symm ne_a_b6), (Ne.symm ne_a_b8), ne_b2_b4, ne_b2_b6, ne_b2_b8, ne_b4_b6, ne_b4_b8, ne_b6_b8, ge_b2, ge_b4, ge_b6, ge_b8⟩

theorem d3_0 : decode prog_53_method_2_code 0 = .ok (.aload_n 0, 1) := by decide +kernel
theorem d3_1 : decode prog_53_method_2_code 1 = .ok (.getfield 25, 3) := by decide +kernel
theorem d3_4 : decode prog_53_method_2_code 4 = .ok (.aload_n 0, 1) := by decide +kernel
theorem d3_5 : decode prog_53_method_2_code 5 = .ok (.getfield 7, 3) := by decide +kernel
theorem d3_8 : decode prog_53_method_2_code 8 = .ok (.arraylength, 1) := by decide +kernel
theorem d3_9 : decode prog_53_method_2_code 9 = .ok (.if_icmp .ne 58, 3) := by decide +kernel
theorem d3_67 : decode prog_53_method_2_code 67 = .ok (.aload_n 0, 1) := by decide +kernel
theorem d3_68 : decode prog_53_method_2_code 68 = .ok (.getfield 7, 3) := by decide +kernel
theorem d3_71 : decode prog_53_method_2_code 71 = .ok (.aload_n 0, 1) := by decide +kernel
theorem d3_72 : decode prog_53_method_2_code 72 = .ok (.getfield 25, 3) := by decide +kernel
theorem d3_75 : decode prog_53_method_2_code 75 = .ok (.aload_n 0, 1) := by decide +kernel
theorem d3_76 : decode prog_53_method_2_code 76 = .ok (.getfield 25, 3) := by decide +kernel
theorem d3_79 : decode prog_53_method_2_code 79 = .ok (.iastore, 1) := by decide +kernel
theorem d3_80 : decode prog_53_method_2_code 80 = .ok (.aload_n 0, 1) := by decide +kernel
theorem d3_81 : decode prog_53_method_2_code 81 = .ok (.getfield 13, 3) := by decide +kernel
theorem d3_84 : decode prog_53_method_2_code 84 = .ok (.aload_n 0, 1) := by decide +kernel
theorem d3_85 : decode prog_53_method_2_code 85 = .ok (.getfield 25, 3) := by decide +kernel
theorem d3_88 : decode prog_53_method_2_code 88 = .ok (.iconst 0, 1) := by decide +kernel
theorem d3_89 : decode prog_53_method_2_code 89 = .ok (.iastore, 1) := by decide +kernel
theorem d3_90 : decode prog_53_method_2_code 90 = .ok (.aload_n 0, 1) := by decide +kernel
theorem d3_91 : decode prog_53_method_2_code 91 = .ok (.getfield 16, 3) := by decide +kernel
theorem d3_94 : decode prog_53_method_2_code 94 = .ok (.aload_n 0, 1) := by decide +kernel
theorem d3_95 : decode prog_53_method_2_code 95 = .ok (.getfield 25, 3) := by decide +kernel
theorem d3_98 : decode prog_53_method_2_code 98 = .ok (.iconst 1, 1) := by decide +kernel
theorem d3_99 : decode prog_53_method_2_code 99 = .ok (.iastore, 1) := by decide +kernel
theorem d3_100 : decode prog_53_method_2_code 100 = .ok (.aload_n 0, 1) := by decide +kernel
theorem d3_101 : decode prog_53_method_2_code 101 = .ok (.getfield 19, 3) := by decide +kernel
theorem d3_104 : decode prog_53_method_2_code 104 = .ok (.aload_n 0, 1) := by decide +kernel
theorem d3_105 : decode prog_53_method_2_code 105 = .ok (.getfield 25, 3) := by decide +kernel
theorem d3_108 : decode prog_53_method_2_code 108 = .ok (.iconst 0, 1) := by decide +kernel
theorem d3_109 : decode prog_53_method_2_code 109 = .ok (.iastore, 1) := by decide +kernel
theorem d3_110 : decode prog_53_method_2_code 110 = .ok (.aload_n 0, 1) := by decide +kernel
theorem d3_111 : decode prog_53_method_2_code 111 = .ok (.dup, 1) := by decide +kernel
theorem d3_112 : decode prog_53_method_2_code 112 = .ok (.getfield 25, 3) := by decide +kernel
theorem d3_115 : decode prog_53_method_2_code 115 = .ok (.dup_x1, 1) := by decide +kernel
theorem d3_116 : decode prog_53_method_2_code 116 = .ok (.iconst 1, 1) := by decide +kernel
theorem d3_117 : decode prog_53_method_2_code 117 = .ok (.iadd, 1) := by decide +kernel
theorem d3_118 : decode prog_53_method_2_code 118 = .ok (.putfield 25, 3) := by decide +kernel
theorem d3_121 : decode prog_53_method_2_code 121 = .ok (.ireturn, 1) := by decide +kernel
theorem pn_rmA0 : plainName "com/example/stratal/stratal/logic/StratumGroups" = true := by first | (simp [plainName, overriddenIn]; done) | decide +kernel
theorem ef_rmA0 (m : MethodId) (a : Addr) : entryFrame m #[(.ref a)] 2 = mkF m 0 #[rv a, .unset] [] := by first | (simp [entryFrame, mkF, argsToLocals, Value.category]; done) | rfl
def QA0 (Z : State) (a : Addr) (rp : Addr) (ro : Addr) (rs : Addr) (rf : Addr) (kp : ClassId) (ko : ClassId) (ks : ClassId) (kf : ClassId) (h0 : Heap) (n0 : Nat) (v : Option Value) (h : Heap) (L : List Loc) : Prop := v = some (.int 0) ∧ Fr n0 L ∧ Keep h0 h [a, rp, ro, rs, rf] ∧ Exa Z h a "com/example/stratal/stratal/logic/StratumGroups" ∧ Fld Z h a "com/example/stratal/stratal/logic/StratumGroups" "mParent" "[I" (.ref rp) ∧ Fld Z h a "com/example/stratal/stratal/logic/StratumGroups" "mOffset" "[I" (.ref ro) ∧ Fld Z h a "com/example/stratal/stratal/logic/StratumGroups" "mSize" "[I" (.ref rs) ∧ Fld Z h a "com/example/stratal/stratal/logic/StratumGroups" "mFloor" "[I" (.ref rf) ∧ Fld Z h a "com/example/stratal/stratal/logic/StratumGroups" "mCount" "I" (.int 1) ∧ Arv Z h rp kp .int (16 : Int32) [(.int 0), (.int 0), (.int 0), (.int 0)] (.int 0) ∧ Arv Z h ro ko .int (16 : Int32) [(.int 0), (.int 0), (.int 0), (.int 0)] (.int 0) ∧ Arv Z h rs ks .int (16 : Int32) [(.int 1), (.int 0), (.int 0), (.int 0)] (.int 0) ∧ Arv Z h rf kf .int (16 : Int32) [(.int 0), (.int 0), (.int 0), (.int 0)] (.int 0) ∧ Fld Z h a "com/example/stratal/stratal/logic/StratumGroups" "mRecording" "Z" (.int 0)
set_option maxRecDepth 65536 in
set_option maxHeartbeats 40000000 in
theorem rmA0 (l : Launch) (Z : State) (a0 : Array Value) (hw : ∀ d ∈ tables_1, d.before a0 Z = true) (ws : List Jvm.Cond) (a : Addr) (rp : Addr) (ro : Addr) (rs : Addr) (rf : Addr) (kp : ClassId) (ko : ClassId) (ks : ClassId) (kf : ClassId) (h0 : Heap) (n0 : Nat) (Z0 : n0 ≤ h0.size) (P0 : Exa Z h0 a "com/example/stratal/stratal/logic/StratumGroups") (P1 : Fld Z h0 a "com/example/stratal/stratal/logic/StratumGroups" "mParent" "[I" (.ref rp)) (P2 : Fld Z h0 a "com/example/stratal/stratal/logic/StratumGroups" "mOffset" "[I" (.ref ro)) (P3 : Fld Z h0 a "com/example/stratal/stratal/logic/StratumGroups" "mSize" "[I" (.ref rs)) (P4 : Fld Z h0 a "com/example/stratal/stratal/logic/StratumGroups" "mFloor" "[I" (.ref rf)) (P5 : Fld Z h0 a "com/example/stratal/stratal/logic/StratumGroups" "mCount" "I" (.int 0)) (P6 : Arv Z h0 rp kp .int (16 : Int32) [(.int 0), (.int 0), (.int 0), (.int 0)] (.int 0)) (P7 : Arv Z h0 ro ko .int (16 : Int32) [(.int 0), (.int 0), (.int 0), (.int 0)] (.int 0)) (P8 : Arv Z h0 rs ks .int (16 : Int32) [(.int 0), (.int 0), (.int 0), (.int 0)] (.int 0)) (P9 : Arv Z h0 rf kf .int (16 : Int32) [(.int 0), (.int 0), (.int 0), (.int 0)] (.int 0)) (P10 : rp ≠ a) (P11 : ro ≠ a) (P12 : rs ≠ a) (P13 : rf ≠ a) (P14 : rp ≠ ro) (P15 : rp ≠ rs) (P16 : rp ≠ rf) (P17 : ro ≠ rs) (P18 : ro ≠ rf) (P19 : rs ≠ rf) (P20 : n0 ≤ rp) (P21 : n0 ≤ ro) (P22 : n0 ≤ rs) (P23 : n0 ≤ rf) (P24 : n0 ≤ a) (P25 : Fld Z h0 a "com/example/stratal/stratal/logic/StratumGroups" "mRecording" "Z" (.int 0)) :
    MetFree l (⟨"com/example/stratal/stratal/logic/StratumGroups", "add", "()I"⟩ : MethodName) (head1 (Jvm.Cond.code (⟨"com/example/stratal/stratal/logic/StratumGroups", "add", "()I"⟩ : MethodName) prog_53_method_2_code 2 (some .int) :: ws) ({ frames := 0, cells := 0, slots := 0, locals := 0 } : Room)) (fun aa U => aa = #[(.ref a)] ∧ Z.Warmed39 U.vm ∧ U.heap = h0) (fun _ _ _ _ _ => True) (fun _ U o U' => ∃ v L, o = .returned v ∧ QA0 Z a rp ro rs rf kp ko ks kf h0 n0 v U'.heap L ∧ FrameEnd U o U' L ({ frames := 0, cells := 0, slots := 0, locals := 0 } : Room).cells ({ frames := 0, cells := 0, slots := 0, locals := 0 } : Room).slots) := by
  refine MetFree.of_bodySF (plainFor_of_name pn_rmA0) hisR ?_
  intro p e s m args below meth c s₁ Bd hml0 hP hK
  obtain ⟨rfl, hZ, hh⟩ := hP
  have hx := Bd.exec
  have hby := Bd.bytes
  have hml : c.maxLocals = 2 := hml0
  have hown : s.vm.findClass "com/example/stratal/stratal/logic/StratumGroups" = some m.cls := findClass_of_methodNamed Bd.named
  have hnm := (name_of_methodNamed Bd.named Bd.method).1
  have X0 : Stand p l e ({ frames := 0, cells := 0, slots := 0, locals := 0 } : Room) s m #[(.ref a)] below meth c s₁ [] 0 0 := Stand.of_body Bd
  have e0 : s₁.heap = h0 := by rw [← hh, Bd.state]; rfl
  have N0 := Fr.nil n0
  change OE p.tables e below _ _
  refine OE.v (fun t k => castTop (ef_rmA0 m a) k) ?_
  show OE _ _ _ _ (s₁.setTop (mkF m 0 #[rv a, .unset] []))
  refine OE.v (fun t k => XS.aloadN X0.here hx rfl (hb hby d3_0) rfl rfl k) ?_
  show OE _ _ _ _ (s₁.setTop (mkF m 1 #[rv a, .unset] [(.ref a)]))
  obtain ⟨T1, X1, e1, st1⟩ := getF X0 hx hZ hown (host := "") (Or.inl (hw _ (own_w 25 rfl))) Via.refl e0 P5 (g := (mkF m 1 #[rv a, .unset] [(.ref a)])) rfl rfl (hb hby d3_1)
  refine OE.v st1 ?_
  show OE _ _ _ _ (T1.setTop (mkF m 4 #[rv a, .unset] [(.int 0)]))
  refine OE.v (fun t k => XS.aloadN X1.here hx rfl (hb hby d3_4) rfl rfl k) ?_
  show OE _ _ _ _ (T1.setTop (mkF m 5 #[rv a, .unset] [(.ref a), (.int 0)]))
  obtain ⟨T2, X2, e2, st2⟩ := getF X1 hx hZ hown (host := "") (Or.inl (hw _ (own_w 10 rfl))) Via.refl e1 P1 (g := (mkF m 5 #[rv a, .unset] [(.ref a), (.int 0)])) rfl rfl (hb hby d3_5)
  refine OE.v st2 ?_
  show OE _ _ _ _ (T2.setTop (mkF m 8 #[rv a, .unset] [(.ref rp), (.int 0)]))
  obtain ⟨cl3, Ar3, q3, S3, M3, H3, G3⟩ := id P6
  refine OE.v (X2.arraylength hx (by rw [e2]; exact Ar3.1) (State.isArrayOf_alike hZ.alike Ar3.2.1) (g := (mkF m 8 #[rv a, .unset] [(.ref rp), (.int 0)])) rfl rfl (hb hby d3_8)) ?_
  rw [len_of S3 M3]
  show OE _ _ _ _ (T2.setTop (mkF m 9 #[rv a, .unset] [(.int 16), (.int 0)]))
  refine OE.v (fun t k => XS.icmpYes X2.here hx rfl (pc0 := 9) (pc' := 67) rfl (hb hby d3_9) rfl (feq (by decide)).2 (by decide) (by decide) k) ?_
  show OE _ _ _ _ (T2.setTop (mkF m 67 #[rv a, .unset] []))
  refine OE.v (fun t k => XS.aloadN X2.here hx rfl (hb hby d3_67) rfl rfl k) ?_
  show OE _ _ _ _ (T2.setTop (mkF m 68 #[rv a, .unset] [(.ref a)]))
  obtain ⟨T4, X4, e4, st4⟩ := getF X2 hx hZ hown (host := "") (Or.inl (hw _ (own_w 10 rfl))) Via.refl e2 P1 (g := (mkF m 68 #[rv a, .unset] [(.ref a)])) rfl rfl (hb hby d3_68)
  refine OE.v st4 ?_
  show OE _ _ _ _ (T4.setTop (mkF m 71 #[rv a, .unset] [(.ref rp)]))
  refine OE.v (fun t k => XS.aloadN X4.here hx rfl (hb hby d3_71) rfl rfl k) ?_
  show OE _ _ _ _ (T4.setTop (mkF m 72 #[rv a, .unset] [(.ref a), (.ref rp)]))
  obtain ⟨T5, X5, e5, st5⟩ := getF X4 hx hZ hown (host := "") (Or.inl (hw _ (own_w 25 rfl))) Via.refl e4 P5 (g := (mkF m 72 #[rv a, .unset] [(.ref a), (.ref rp)])) rfl rfl (hb hby d3_72)
  refine OE.v st5 ?_
  show OE _ _ _ _ (T5.setTop (mkF m 75 #[rv a, .unset] [(.int 0), (.ref rp)]))
  refine OE.v (fun t k => XS.aloadN X5.here hx rfl (hb hby d3_75) rfl rfl k) ?_
  show OE _ _ _ _ (T5.setTop (mkF m 76 #[rv a, .unset] [(.ref a), (.int 0), (.ref rp)]))
  obtain ⟨T6, X6, e6, st6⟩ := getF X5 hx hZ hown (host := "") (Or.inl (hw _ (own_w 25 rfl))) Via.refl e5 P5 (g := (mkF m 76 #[rv a, .unset] [(.ref a), (.int 0), (.ref rp)])) rfl rfl (hb hby d3_76)
  refine OE.v st6 ?_
  show OE _ _ _ _ (T6.setTop (mkF m 79 #[rv a, .unset] [(.int 0), (.int 0), (.ref rp)]))
  obtain ⟨cl7, Ar7, q7, S7, M7, H7, G7⟩ := id P6
  have hin7 : ¬ ((0 : Int32) < 0 ∨ cl7.slots.size ≤ ((0 : Int32)).toNatClampNeg) := inb_of S7 ⟨by decide, by decide⟩
  obtain ⟨T7, h7, X7, e7, W7, st7⟩ := stI X6 hx hZ e6 Ar7 (j := (0 : Int32)) hin7 (g := (mkF m 79 #[rv a, .unset] [(.int 0), (.int 0), (.ref rp)])) rfl rfl (hb hby d3_79)
  have V7 : Arv Z h7 rp kp .int (16 : Int32) [(.int 0), (.int 0), (.int 0), (.int 0)] (.int 0) := Arv.set Ar7 q7 S7 M7 H7 G7 rfl W7 0 rfl (Nat.le_of_ble_eq_true rfl)
  have N7 := Fr.snoc X7 N0 P20
  have Z7 : n0 ≤ h7.size := Nat.le_trans Z0 (Nat.le_of_eq W7.size.symm)
  have K7 : Keep h0 h7 [a, rp, ro, rs, rf] := (Keep.refl h0 [a, rp, ro, rs, rf]).wr W7 (Or.inl (by simp))
  refine OE.v st7 ?_
  show OE _ _ _ _ (T7.setTop (mkF m 80 #[rv a, .unset] []))
  refine OE.v (fun t k => XS.aloadN X7.here hx rfl (hb hby d3_80) rfl rfl k) ?_
  show OE _ _ _ _ (T7.setTop (mkF m 81 #[rv a, .unset] [(.ref a)]))
  obtain ⟨T8, X8, e8, st8⟩ := getF X7 hx hZ hown (host := "") (Or.inl (hw _ (own_w 12 rfl))) Via.refl e7 (P2.other W7 (Or.inl (Ne.symm P10))) (g := (mkF m 81 #[rv a, .unset] [(.ref a)])) rfl rfl (hb hby d3_81)
  refine OE.v st8 ?_
  show OE _ _ _ _ (T8.setTop (mkF m 84 #[rv a, .unset] [(.ref ro)]))
  refine OE.v (fun t k => XS.aloadN X8.here hx rfl (hb hby d3_84) rfl rfl k) ?_
  show OE _ _ _ _ (T8.setTop (mkF m 85 #[rv a, .unset] [(.ref a), (.ref ro)]))
  obtain ⟨T9, X9, e9, st9⟩ := getF X8 hx hZ hown (host := "") (Or.inl (hw _ (own_w 25 rfl))) Via.refl e8 (P5.other W7 (Or.inl (Ne.symm P10))) (g := (mkF m 85 #[rv a, .unset] [(.ref a), (.ref ro)])) rfl rfl (hb hby d3_85)
  refine OE.v st9 ?_
  show OE _ _ _ _ (T9.setTop (mkF m 88 #[rv a, .unset] [(.int 0), (.ref ro)]))
  refine OE.v (fun t k => XS.iconst X9.here hx rfl (hb hby d3_88) k) ?_
  show OE _ _ _ _ (T9.setTop (mkF m 89 #[rv a, .unset] [(.int 0), (.int 0), (.ref ro)]))
  obtain ⟨cl10, Ar10, q10, S10, M10, H10, G10⟩ := id (P7.other W7 (Ne.symm P14))
  have hin10 : ¬ ((0 : Int32) < 0 ∨ cl10.slots.size ≤ ((0 : Int32)).toNatClampNeg) := inb_of S10 ⟨by decide, by decide⟩
  obtain ⟨T10, h10, X10, e10, W10, st10⟩ := stI X9 hx hZ e9 Ar10 (j := (0 : Int32)) hin10 (g := (mkF m 89 #[rv a, .unset] [(.int 0), (.int 0), (.ref ro)])) rfl rfl (hb hby d3_89)
  have V10 : Arv Z h10 ro ko .int (16 : Int32) [(.int 0), (.int 0), (.int 0), (.int 0)] (.int 0) := Arv.set Ar10 q10 S10 M10 H10 G10 rfl W10 0 rfl (Nat.le_of_ble_eq_true rfl)
  have N10 := Fr.snoc X10 N7 P21
  have Z10 : n0 ≤ h10.size := Nat.le_trans Z7 (Nat.le_of_eq W10.size.symm)
  have K10 : Keep h0 h10 [a, rp, ro, rs, rf] := K7.wr W10 (Or.inl (by simp))
  refine OE.v st10 ?_
  show OE _ _ _ _ (T10.setTop (mkF m 90 #[rv a, .unset] []))
  refine OE.v (fun t k => XS.aloadN X10.here hx rfl (hb hby d3_90) rfl rfl k) ?_
  show OE _ _ _ _ (T10.setTop (mkF m 91 #[rv a, .unset] [(.ref a)]))
  obtain ⟨T11, X11, e11, st11⟩ := getF X10 hx hZ hown (host := "") (Or.inl (hw _ (own_w 14 rfl))) Via.refl e10 ((P3.other W7 (Or.inl (Ne.symm P10))).other W10 (Or.inl (Ne.symm P11))) (g := (mkF m 91 #[rv a, .unset] [(.ref a)])) rfl rfl (hb hby d3_91)
  refine OE.v st11 ?_
  show OE _ _ _ _ (T11.setTop (mkF m 94 #[rv a, .unset] [(.ref rs)]))
  refine OE.v (fun t k => XS.aloadN X11.here hx rfl (hb hby d3_94) rfl rfl k) ?_
  show OE _ _ _ _ (T11.setTop (mkF m 95 #[rv a, .unset] [(.ref a), (.ref rs)]))
  obtain ⟨T12, X12, e12, st12⟩ := getF X11 hx hZ hown (host := "") (Or.inl (hw _ (own_w 25 rfl))) Via.refl e11 ((P5.other W7 (Or.inl (Ne.symm P10))).other W10 (Or.inl (Ne.symm P11))) (g := (mkF m 95 #[rv a, .unset] [(.ref a), (.ref rs)])) rfl rfl (hb hby d3_95)
  refine OE.v st12 ?_
  show OE _ _ _ _ (T12.setTop (mkF m 98 #[rv a, .unset] [(.int 0), (.ref rs)]))
  refine OE.v (fun t k => XS.iconst X12.here hx rfl (hb hby d3_98) k) ?_
  show OE _ _ _ _ (T12.setTop (mkF m 99 #[rv a, .unset] [(.int 1), (.int 0), (.ref rs)]))
  obtain ⟨cl13, Ar13, q13, S13, M13, H13, G13⟩ := id ((P8.other W7 (Ne.symm P15)).other W10 (Ne.symm P17))
  have hin13 : ¬ ((0 : Int32) < 0 ∨ cl13.slots.size ≤ ((0 : Int32)).toNatClampNeg) := inb_of S13 ⟨by decide, by decide⟩
  obtain ⟨T13, h13, X13, e13, W13, st13⟩ := stI X12 hx hZ e12 Ar13 (j := (0 : Int32)) hin13 (g := (mkF m 99 #[rv a, .unset] [(.int 1), (.int 0), (.ref rs)])) rfl rfl (hb hby d3_99)
  have V13 : Arv Z h13 rs ks .int (16 : Int32) [(.int 1), (.int 0), (.int 0), (.int 0)] (.int 0) := Arv.set Ar13 q13 S13 M13 H13 G13 rfl W13 0 rfl (Nat.le_of_ble_eq_true rfl)
  have N13 := Fr.snoc X13 N10 P22
  have Z13 : n0 ≤ h13.size := Nat.le_trans Z10 (Nat.le_of_eq W13.size.symm)
  have K13 : Keep h0 h13 [a, rp, ro, rs, rf] := K10.wr W13 (Or.inl (by simp))
  refine OE.v st13 ?_
  show OE _ _ _ _ (T13.setTop (mkF m 100 #[rv a, .unset] []))
  refine OE.v (fun t k => XS.aloadN X13.here hx rfl (hb hby d3_100) rfl rfl k) ?_
  show OE _ _ _ _ (T13.setTop (mkF m 101 #[rv a, .unset] [(.ref a)]))
  obtain ⟨T14, X14, e14, st14⟩ := getF X13 hx hZ hown (host := "") (Or.inl (hw _ (own_w 16 rfl))) Via.refl e13 (((P4.other W7 (Or.inl (Ne.symm P10))).other W10 (Or.inl (Ne.symm P11))).other W13 (Or.inl (Ne.symm P12))) (g := (mkF m 101 #[rv a, .unset] [(.ref a)])) rfl rfl (hb hby d3_101)
  refine OE.v st14 ?_
  show OE _ _ _ _ (T14.setTop (mkF m 104 #[rv a, .unset] [(.ref rf)]))
  refine OE.v (fun t k => XS.aloadN X14.here hx rfl (hb hby d3_104) rfl rfl k) ?_
  show OE _ _ _ _ (T14.setTop (mkF m 105 #[rv a, .unset] [(.ref a), (.ref rf)]))
  obtain ⟨T15, X15, e15, st15⟩ := getF X14 hx hZ hown (host := "") (Or.inl (hw _ (own_w 25 rfl))) Via.refl e14 (((P5.other W7 (Or.inl (Ne.symm P10))).other W10 (Or.inl (Ne.symm P11))).other W13 (Or.inl (Ne.symm P12))) (g := (mkF m 105 #[rv a, .unset] [(.ref a), (.ref rf)])) rfl rfl (hb hby d3_105)
  refine OE.v st15 ?_
  show OE _ _ _ _ (T15.setTop (mkF m 108 #[rv a, .unset] [(.int 0), (.ref rf)]))
  refine OE.v (fun t k => XS.iconst X15.here hx rfl (hb hby d3_108) k) ?_
  show OE _ _ _ _ (T15.setTop (mkF m 109 #[rv a, .unset] [(.int 0), (.int 0), (.ref rf)]))
  obtain ⟨cl16, Ar16, q16, S16, M16, H16, G16⟩ := id (((P9.other W7 (Ne.symm P16)).other W10 (Ne.symm P18)).other W13 (Ne.symm P19))
  have hin16 : ¬ ((0 : Int32) < 0 ∨ cl16.slots.size ≤ ((0 : Int32)).toNatClampNeg) := inb_of S16 ⟨by decide, by decide⟩
  obtain ⟨T16, h16, X16, e16, W16, st16⟩ := stI X15 hx hZ e15 Ar16 (j := (0 : Int32)) hin16 (g := (mkF m 109 #[rv a, .unset] [(.int 0), (.int 0), (.ref rf)])) rfl rfl (hb hby d3_109)
  have V16 : Arv Z h16 rf kf .int (16 : Int32) [(.int 0), (.int 0), (.int 0), (.int 0)] (.int 0) := Arv.set Ar16 q16 S16 M16 H16 G16 rfl W16 0 rfl (Nat.le_of_ble_eq_true rfl)
  have N16 := Fr.snoc X16 N13 P23
  have Z16 : n0 ≤ h16.size := Nat.le_trans Z13 (Nat.le_of_eq W16.size.symm)
  have K16 : Keep h0 h16 [a, rp, ro, rs, rf] := K13.wr W16 (Or.inl (by simp))
  refine OE.v st16 ?_
  show OE _ _ _ _ (T16.setTop (mkF m 110 #[rv a, .unset] []))
  refine OE.v (fun t k => XS.aloadN X16.here hx rfl (hb hby d3_110) rfl rfl k) ?_
  refine OE.v (fun t k => XS.dup X16.here hx rfl (hb hby d3_111) rfl rfl k) ?_
  show OE _ _ _ _ (T16.setTop (mkF m 112 #[rv a, .unset] [(.ref a), (.ref a)]))
  obtain ⟨T17, X17, e17, st17⟩ := getF X16 hx hZ hown (host := "") (Or.inl (hw _ (own_w 25 rfl))) Via.refl e16 ((((P5.other W7 (Or.inl (Ne.symm P10))).other W10 (Or.inl (Ne.symm P11))).other W13 (Or.inl (Ne.symm P12))).other W16 (Or.inl (Ne.symm P13))) (g := (mkF m 112 #[rv a, .unset] [(.ref a), (.ref a)])) rfl rfl (hb hby d3_112)
  refine OE.v st17 ?_
  show OE _ _ _ _ (T17.setTop (mkF m 115 #[rv a, .unset] [(.int 0), (.ref a)]))
  refine OE.v (fun t k => XS.dupX1 X17.here hx rfl (hb hby d3_115) rfl rfl rfl k) ?_
  show OE _ _ _ _ (T17.setTop (mkF m 116 #[rv a, .unset] [(.int 0), (.ref a), (.int 0)]))
  refine OE.v (fun t k => XS.iconst X17.here hx rfl (hb hby d3_116) k) ?_
  refine OE.v (fun t k => XS.iadd X17.here hx rfl (hb hby d3_117) rfl k) ?_
  show OE _ _ _ _ (T17.setTop (mkF m 118 #[rv a, .unset] [(.int 1), (.ref a), (.int 0)]))
  obtain ⟨T18, h18, X18, e18, W18, st18⟩ := putF X17 hx hZ hown (host := "") (Or.inl (hw _ (own_w 25 rfl))) Via.refl e17 ((((P5.other W7 (Or.inl (Ne.symm P10))).other W10 (Or.inl (Ne.symm P11))).other W13 (Or.inl (Ne.symm P12))).other W16 (Or.inl (Ne.symm P13))) ((((P0.wr W7).wr W10).wr W13).wr W16) (Or.inl (hw _ (own_w 26 rfl))) (hw _ (own_w 1 rfl)) (ty := .int) (by decide) rfl rfl (g := (mkF m 118 #[rv a, .unset] [(.int 1), (.ref a), (.int 0)])) rfl rfl (hb hby d3_118)
  have Fw18 : Fld Z h18 a "com/example/stratal/stratal/logic/StratumGroups" "mCount" "I" (.int 1) := ((((P5.other W7 (Or.inl (Ne.symm P10))).other W10 (Or.inl (Ne.symm P11))).other W13 (Or.inl (Ne.symm P12))).other W16 (Or.inl (Ne.symm P13))).same W18
  have N18 := Fr.snoc X18 N16 P24
  have Z18 : n0 ≤ h18.size := Nat.le_trans Z16 (Nat.le_of_eq W18.size.symm)
  have K18 : Keep h0 h18 [a, rp, ro, rs, rf] := K16.wr W18 (Or.inl (by simp))
  refine OE.v st18 ?_
  show OE _ _ _ _ (T18.setTop (mkF m 121 #[rv a, .unset] [(.int 0)]))
  obtain ⟨fs, hr, hrun, hended, hW, hsame⟩ := X18.leave (v := some (.int 0)) (fun h => by rw [Bd.returns] at h; cases h)
  refine ⟨_, _, ?_, hrun, hended, _, _, rfl, ?_, ⟨_, rfl⟩, hW, hsame.mono (by decide) (by decide)⟩
  · exact retI X18 hx Bd.returns (hb hby d3_121) hr
  · show QA0 Z a rp ro rs rf kp ko ks kf h0 n0 _ T18.heap _
    rw [e18]
    exact ⟨rfl, N18, K18, (((((P0.wr W7).wr W10).wr W13).wr W16).wr W18), (((((P1.other W7 (Or.inl (Ne.symm P10))).other W10 (Or.inl (Ne.symm P11))).other W13 (Or.inl (Ne.symm P12))).other W16 (Or.inl (Ne.symm P13))).other W18 (Or.inr (slot_ne (Or.inl (hw _ (own_w 11 rfl))) (Or.inl (hw _ (own_w 26 rfl))) (by decide) (t := (.array .int)) (t' := .int) (by decide) (by decide)))), (((((P2.other W7 (Or.inl (Ne.symm P10))).other W10 (Or.inl (Ne.symm P11))).other W13 (Or.inl (Ne.symm P12))).other W16 (Or.inl (Ne.symm P13))).other W18 (Or.inr (slot_ne (Or.inl (hw _ (own_w 13 rfl))) (Or.inl (hw _ (own_w 26 rfl))) (by decide) (t := (.array .int)) (t' := .int) (by decide) (by decide)))), (((((P3.other W7 (Or.inl (Ne.symm P10))).other W10 (Or.inl (Ne.symm P11))).other W13 (Or.inl (Ne.symm P12))).other W16 (Or.inl (Ne.symm P13))).other W18 (Or.inr (slot_ne (Or.inl (hw _ (own_w 15 rfl))) (Or.inl (hw _ (own_w 26 rfl))) (by decide) (t := (.array .int)) (t' := .int) (by decide) (by decide)))), (((((P4.other W7 (Or.inl (Ne.symm P10))).other W10 (Or.inl (Ne.symm P11))).other W13 (Or.inl (Ne.symm P12))).other W16 (Or.inl (Ne.symm P13))).other W18 (Or.inr (slot_ne (Or.inl (hw _ (own_w 17 rfl))) (Or.inl (hw _ (own_w 26 rfl))) (by decide) (t := (.array .int)) (t' := .int) (by decide) (by decide)))), Fw18, ((((V7.other W10 P14).other W13 P15).other W16 P16).other W18 P10), (((V10.other W13 P17).other W16 P18).other W18 P11), ((V13.other W16 P19).other W18 P12), (V16.other W18 P13), (((((P25.other W7 (Or.inl (Ne.symm P10))).other W10 (Or.inl (Ne.symm P11))).other W13 (Or.inl (Ne.symm P12))).other W16 (Or.inl (Ne.symm P13))).other W18 (Or.inr (slot_ne (Or.inl (hw _ (own_w 51 rfl))) (Or.inl (hw _ (own_w 26 rfl))) (by decide) (t := .boolean) (t' := .int) (by decide) (by decide))))⟩

theorem pn_rmA1 : plainName "com/example/stratal/stratal/logic/StratumGroups" = true := by first | (simp [plainName, overriddenIn]; done) | decide +kernel
theorem ef_rmA1 (m : MethodId) (a : Addr) : entryFrame m #[(.ref a)] 2 = mkF m 0 #[rv a, .unset] [] := by first | (simp [entryFrame, mkF, argsToLocals, Value.category]; done) | rfl
def QA1 (Z : State) (a : Addr) (rp : Addr) (ro : Addr) (rs : Addr) (rf : Addr) (kp : ClassId) (ko : ClassId) (ks : ClassId) (kf : ClassId) (h0 : Heap) (n0 : Nat) (v : Option Value) (h : Heap) (L : List Loc) : Prop := v = some (.int 1) ∧ Fr n0 L ∧ Keep h0 h [a, rp, ro, rs, rf] ∧ Exa Z h a "com/example/stratal/stratal/logic/StratumGroups" ∧ Fld Z h a "com/example/stratal/stratal/logic/StratumGroups" "mParent" "[I" (.ref rp) ∧ Fld Z h a "com/example/stratal/stratal/logic/StratumGroups" "mOffset" "[I" (.ref ro) ∧ Fld Z h a "com/example/stratal/stratal/logic/StratumGroups" "mSize" "[I" (.ref rs) ∧ Fld Z h a "com/example/stratal/stratal/logic/StratumGroups" "mFloor" "[I" (.ref rf) ∧ Fld Z h a "com/example/stratal/stratal/logic/StratumGroups" "mCount" "I" (.int 2) ∧ Arv Z h rp kp .int (16 : Int32) [(.int 0), (.int 1), (.int 0), (.int 0)] (.int 0) ∧ Arv Z h ro ko .int (16 : Int32) [(.int 0), (.int 0), (.int 0), (.int 0)] (.int 0) ∧ Arv Z h rs ks .int (16 : Int32) [(.int 1), (.int 1), (.int 0), (.int 0)] (.int 0) ∧ Arv Z h rf kf .int (16 : Int32) [(.int 0), (.int 0), (.int 0), (.int 0)] (.int 0) ∧ Fld Z h a "com/example/stratal/stratal/logic/StratumGroups" "mRecording" "Z" (.int 0)
set_option maxRecDepth 65536 in
set_option maxHeartbeats 40000000 in
theorem rmA1 (l : Launch) (Z : State) (a0 : Array Value) (hw : ∀ d ∈ tables_1, d.before a0 Z = true) (ws : List Jvm.Cond) (a : Addr) (rp : Addr) (ro : Addr) (rs : Addr) (rf : Addr) (kp : ClassId) (ko : ClassId) (ks : ClassId) (kf : ClassId) (h0 : Heap) (n0 : Nat) (Z0 : n0 ≤ h0.size) (P0 : Exa Z h0 a "com/example/stratal/stratal/logic/StratumGroups") (P1 : Fld Z h0 a "com/example/stratal/stratal/logic/StratumGroups" "mParent" "[I" (.ref rp)) (P2 : Fld Z h0 a "com/example/stratal/stratal/logic/StratumGroups" "mOffset" "[I" (.ref ro)) (P3 : Fld Z h0 a "com/example/stratal/stratal/logic/StratumGroups" "mSize" "[I" (.ref rs)) (P4 : Fld Z h0 a "com/example/stratal/stratal/logic/StratumGroups" "mFloor" "[I" (.ref rf)) (P5 : Fld Z h0 a "com/example/stratal/stratal/logic/StratumGroups" "mCount" "I" (.int 1)) (P6 : Arv Z h0 rp kp .int (16 : Int32) [(.int 0), (.int 0), (.int 0), (.int 0)] (.int 0)) (P7 : Arv Z h0 ro ko .int (16 : Int32) [(.int 0), (.int 0), (.int 0), (.int 0)] (.int 0)) (P8 : Arv Z h0 rs ks .int (16 : Int32) [(.int 1), (.int 0), (.int 0), (.int 0)] (.int 0)) (P9 : Arv Z h0 rf kf .int (16 : Int32) [(.int 0), (.int 0), (.int 0), (.int 0)] (.int 0)) (P10 : rp ≠ a) (P11 : ro ≠ a) (P12 : rs ≠ a) (P13 : rf ≠ a) (P14 : rp ≠ ro) (P15 : rp ≠ rs) (P16 : rp ≠ rf) (P17 : ro ≠ rs) (P18 : ro ≠ rf) (P19 : rs ≠ rf) (P20 : n0 ≤ rp) (P21 : n0 ≤ ro) (P22 : n0 ≤ rs) (P23 : n0 ≤ rf) (P24 : n0 ≤ a) (P25 : Fld Z h0 a "com/example/stratal/stratal/logic/StratumGroups" "mRecording" "Z" (.int 0)) :
    MetFree l (⟨"com/example/stratal/stratal/logic/StratumGroups", "add", "()I"⟩ : MethodName) (head1 (Jvm.Cond.code (⟨"com/example/stratal/stratal/logic/StratumGroups", "add", "()I"⟩ : MethodName) prog_53_method_2_code 2 (some .int) :: ws) ({ frames := 0, cells := 0, slots := 0, locals := 0 } : Room)) (fun aa U => aa = #[(.ref a)] ∧ Z.Warmed39 U.vm ∧ U.heap = h0) (fun _ _ _ _ _ => True) (fun _ U o U' => ∃ v L, o = .returned v ∧ QA1 Z a rp ro rs rf kp ko ks kf h0 n0 v U'.heap L ∧ FrameEnd U o U' L ({ frames := 0, cells := 0, slots := 0, locals := 0 } : Room).cells ({ frames := 0, cells := 0, slots := 0, locals := 0 } : Room).slots) := by
  refine MetFree.of_bodySF (plainFor_of_name pn_rmA1) hisR ?_
  intro p e s m args below meth c s₁ Bd hml0 hP hK
  obtain ⟨rfl, hZ, hh⟩ := hP
  have hx := Bd.exec
  have hby := Bd.bytes
  have hml : c.maxLocals = 2 := hml0
  have hown : s.vm.findClass "com/example/stratal/stratal/logic/StratumGroups" = some m.cls := findClass_of_methodNamed Bd.named
  have hnm := (name_of_methodNamed Bd.named Bd.method).1
  have X0 : Stand p l e ({ frames := 0, cells := 0, slots := 0, locals := 0 } : Room) s m #[(.ref a)] below meth c s₁ [] 0 0 := Stand.of_body Bd
  have e0 : s₁.heap = h0 := by rw [← hh, Bd.state]; rfl
  have N0 := Fr.nil n0
  change OE p.tables e below _ _
  refine OE.v (fun t k => castTop (ef_rmA1 m a) k) ?_
  show OE _ _ _ _ (s₁.setTop (mkF m 0 #[rv a, .unset] []))
  refine OE.v (fun t k => XS.aloadN X0.here hx rfl (hb hby d3_0) rfl rfl k) ?_
  show OE _ _ _ _ (s₁.setTop (mkF m 1 #[rv a, .unset] [(.ref a)]))
  obtain ⟨T1, X1, e1, st1⟩ := getF X0 hx hZ hown (host := "") (Or.inl (hw _ (own_w 25 rfl))) Via.refl e0 P5 (g := (mkF m 1 #[rv a, .unset] [(.ref a)])) rfl rfl (hb hby d3_1)
  refine OE.v st1 ?_
  show OE _ _ _ _ (T1.setTop (mkF m 4 #[rv a, .unset] [(.int 1)]))
  refine OE.v (fun t k => XS.aloadN X1.here hx rfl (hb hby d3_4) rfl rfl k) ?_
  show OE _ _ _ _ (T1.setTop (mkF m 5 #[rv a, .unset] [(.ref a), (.int 1)]))
  obtain ⟨T2, X2, e2, st2⟩ := getF X1 hx hZ hown (host := "") (Or.inl (hw _ (own_w 10 rfl))) Via.refl e1 P1 (g := (mkF m 5 #[rv a, .unset] [(.ref a), (.int 1)])) rfl rfl (hb hby d3_5)
  refine OE.v st2 ?_
  show OE _ _ _ _ (T2.setTop (mkF m 8 #[rv a, .unset] [(.ref rp), (.int 1)]))
  obtain ⟨cl3, Ar3, q3, S3, M3, H3, G3⟩ := id P6
  refine OE.v (X2.arraylength hx (by rw [e2]; exact Ar3.1) (State.isArrayOf_alike hZ.alike Ar3.2.1) (g := (mkF m 8 #[rv a, .unset] [(.ref rp), (.int 1)])) rfl rfl (hb hby d3_8)) ?_
  rw [len_of S3 M3]
  show OE _ _ _ _ (T2.setTop (mkF m 9 #[rv a, .unset] [(.int 16), (.int 1)]))
  refine OE.v (fun t k => XS.icmpYes X2.here hx rfl (pc0 := 9) (pc' := 67) rfl (hb hby d3_9) rfl (feq (by decide)).2 (by decide) (by decide) k) ?_
  show OE _ _ _ _ (T2.setTop (mkF m 67 #[rv a, .unset] []))
  refine OE.v (fun t k => XS.aloadN X2.here hx rfl (hb hby d3_67) rfl rfl k) ?_
  show OE _ _ _ _ (T2.setTop (mkF m 68 #[rv a, .unset] [(.ref a)]))
  obtain ⟨T4, X4, e4, st4⟩ := getF X2 hx hZ hown (host := "") (Or.inl (hw _ (own_w 10 rfl))) Via.refl e2 P1 (g := (mkF m 68 #[rv a, .unset] [(.ref a)])) rfl rfl (hb hby d3_68)
  refine OE.v st4 ?_
  show OE _ _ _ _ (T4.setTop (mkF m 71 #[rv a, .unset] [(.ref rp)]))
  refine OE.v (fun t k => XS.aloadN X4.here hx rfl (hb hby d3_71) rfl rfl k) ?_
  show OE _ _ _ _ (T4.setTop (mkF m 72 #[rv a, .unset] [(.ref a), (.ref rp)]))
  obtain ⟨T5, X5, e5, st5⟩ := getF X4 hx hZ hown (host := "") (Or.inl (hw _ (own_w 25 rfl))) Via.refl e4 P5 (g := (mkF m 72 #[rv a, .unset] [(.ref a), (.ref rp)])) rfl rfl (hb hby d3_72)
  refine OE.v st5 ?_
  show OE _ _ _ _ (T5.setTop (mkF m 75 #[rv a, .unset] [(.int 1), (.ref rp)]))
  refine OE.v (fun t k => XS.aloadN X5.here hx rfl (hb hby d3_75) rfl rfl k) ?_
  show OE _ _ _ _ (T5.setTop (mkF m 76 #[rv a, .unset] [(.ref a), (.int 1), (.ref rp)]))
  obtain ⟨T6, X6, e6, st6⟩ := getF X5 hx hZ hown (host := "") (Or.inl (hw _ (own_w 25 rfl))) Via.refl e5 P5 (g := (mkF m 76 #[rv a, .unset] [(.ref a), (.int 1), (.ref rp)])) rfl rfl (hb hby d3_76)
  refine OE.v st6 ?_
  show OE _ _ _ _ (T6.setTop (mkF m 79 #[rv a, .unset] [(.int 1), (.int 1), (.ref rp)]))
  obtain ⟨cl7, Ar7, q7, S7, M7, H7, G7⟩ := id P6
  have hin7 : ¬ ((1 : Int32) < 0 ∨ cl7.slots.size ≤ ((1 : Int32)).toNatClampNeg) := inb_of S7 ⟨by decide, by decide⟩
  obtain ⟨T7, h7, X7, e7, W7, st7⟩ := stI X6 hx hZ e6 Ar7 (j := (1 : Int32)) hin7 (g := (mkF m 79 #[rv a, .unset] [(.int 1), (.int 1), (.ref rp)])) rfl rfl (hb hby d3_79)
  have V7 : Arv Z h7 rp kp .int (16 : Int32) [(.int 0), (.int 1), (.int 0), (.int 0)] (.int 0) := Arv.set Ar7 q7 S7 M7 H7 G7 rfl W7 1 rfl (Nat.le_of_ble_eq_true rfl)
  have N7 := Fr.snoc X7 N0 P20
  have Z7 : n0 ≤ h7.size := Nat.le_trans Z0 (Nat.le_of_eq W7.size.symm)
  have K7 : Keep h0 h7 [a, rp, ro, rs, rf] := (Keep.refl h0 [a, rp, ro, rs, rf]).wr W7 (Or.inl (by simp))
  refine OE.v st7 ?_
  show OE _ _ _ _ (T7.setTop (mkF m 80 #[rv a, .unset] []))
  refine OE.v (fun t k => XS.aloadN X7.here hx rfl (hb hby d3_80) rfl rfl k) ?_
  show OE _ _ _ _ (T7.setTop (mkF m 81 #[rv a, .unset] [(.ref a)]))
  obtain ⟨T8, X8, e8, st8⟩ := getF X7 hx hZ hown (host := "") (Or.inl (hw _ (own_w 12 rfl))) Via.refl e7 (P2.other W7 (Or.inl (Ne.symm P10))) (g := (mkF m 81 #[rv a, .unset] [(.ref a)])) rfl rfl (hb hby d3_81)
  refine OE.v st8 ?_
  show OE _ _ _ _ (T8.setTop (mkF m 84 #[rv a, .unset] [(.ref ro)]))
  refine OE.v (fun t k => XS.aloadN X8.here hx rfl (hb hby d3_84) rfl rfl k) ?_
  show OE _ _ _ _ (T8.setTop (mkF m 85 #[rv a, .unset] [(.ref a), (.ref ro)]))
  obtain ⟨T9, X9, e9, st9⟩ := getF X8 hx hZ hown (host := "") (Or.inl (hw _ (own_w 25 rfl))) Via.refl e8 (P5.other W7 (Or.inl (Ne.symm P10))) (g := (mkF m 85 #[rv a, .unset] [(.ref a), (.ref ro)])) rfl rfl (hb hby d3_85)
  refine OE.v st9 ?_
  show OE _ _ _ _ (T9.setTop (mkF m 88 #[rv a, .unset] [(.int 1), (.ref ro)]))
  refine OE.v (fun t k => XS.iconst X9.here hx rfl (hb hby d3_88) k) ?_
  show OE _ _ _ _ (T9.setTop (mkF m 89 #[rv a, .unset] [(.int 0), (.int 1), (.ref ro)]))
  obtain ⟨cl10, Ar10, q10, S10, M10, H10, G10⟩ := id (P7.other W7 (Ne.symm P14))
  have hin10 : ¬ ((1 : Int32) < 0 ∨ cl10.slots.size ≤ ((1 : Int32)).toNatClampNeg) := inb_of S10 ⟨by decide, by decide⟩
  obtain ⟨T10, h10, X10, e10, W10, st10⟩ := stI X9 hx hZ e9 Ar10 (j := (1 : Int32)) hin10 (g := (mkF m 89 #[rv a, .unset] [(.int 0), (.int 1), (.ref ro)])) rfl rfl (hb hby d3_89)
  have V10 : Arv Z h10 ro ko .int (16 : Int32) [(.int 0), (.int 0), (.int 0), (.int 0)] (.int 0) := Arv.set Ar10 q10 S10 M10 H10 G10 rfl W10 1 rfl (Nat.le_of_ble_eq_true rfl)
  have N10 := Fr.snoc X10 N7 P21
  have Z10 : n0 ≤ h10.size := Nat.le_trans Z7 (Nat.le_of_eq W10.size.symm)
  have K10 : Keep h0 h10 [a, rp, ro, rs, rf] := K7.wr W10 (Or.inl (by simp))
  refine OE.v st10 ?_
  show OE _ _ _ _ (T10.setTop (mkF m 90 #[rv a, .unset] []))
  refine OE.v (fun t k => XS.aloadN X10.here hx rfl (hb hby d3_90) rfl rfl k) ?_
  show OE _ _ _ _ (T10.setTop (mkF m 91 #[rv a, .unset] [(.ref a)]))
  obtain ⟨T11, X11, e11, st11⟩ := getF X10 hx hZ hown (host := "") (Or.inl (hw _ (own_w 14 rfl))) Via.refl e10 ((P3.other W7 (Or.inl (Ne.symm P10))).other W10 (Or.inl (Ne.symm P11))) (g := (mkF m 91 #[rv a, .unset] [(.ref a)])) rfl rfl (hb hby d3_91)
  refine OE.v st11 ?_
  show OE _ _ _ _ (T11.setTop (mkF m 94 #[rv a, .unset] [(.ref rs)]))
  refine OE.v (fun t k => XS.aloadN X11.here hx rfl (hb hby d3_94) rfl rfl k) ?_
  show OE _ _ _ _ (T11.setTop (mkF m 95 #[rv a, .unset] [(.ref a), (.ref rs)]))
  obtain ⟨T12, X12, e12, st12⟩ := getF X11 hx hZ hown (host := "") (Or.inl (hw _ (own_w 25 rfl))) Via.refl e11 ((P5.other W7 (Or.inl (Ne.symm P10))).other W10 (Or.inl (Ne.symm P11))) (g := (mkF m 95 #[rv a, .unset] [(.ref a), (.ref rs)])) rfl rfl (hb hby d3_95)
  refine OE.v st12 ?_
  show OE _ _ _ _ (T12.setTop (mkF m 98 #[rv a, .unset] [(.int 1), (.ref rs)]))
  refine OE.v (fun t k => XS.iconst X12.here hx rfl (hb hby d3_98) k) ?_
  show OE _ _ _ _ (T12.setTop (mkF m 99 #[rv a, .unset] [(.int 1), (.int 1), (.ref rs)]))
  obtain ⟨cl13, Ar13, q13, S13, M13, H13, G13⟩ := id ((P8.other W7 (Ne.symm P15)).other W10 (Ne.symm P17))
  have hin13 : ¬ ((1 : Int32) < 0 ∨ cl13.slots.size ≤ ((1 : Int32)).toNatClampNeg) := inb_of S13 ⟨by decide, by decide⟩
  obtain ⟨T13, h13, X13, e13, W13, st13⟩ := stI X12 hx hZ e12 Ar13 (j := (1 : Int32)) hin13 (g := (mkF m 99 #[rv a, .unset] [(.int 1), (.int 1), (.ref rs)])) rfl rfl (hb hby d3_99)
  have V13 : Arv Z h13 rs ks .int (16 : Int32) [(.int 1), (.int 1), (.int 0), (.int 0)] (.int 0) := Arv.set Ar13 q13 S13 M13 H13 G13 rfl W13 1 rfl (Nat.le_of_ble_eq_true rfl)
  have N13 := Fr.snoc X13 N10 P22
  have Z13 : n0 ≤ h13.size := Nat.le_trans Z10 (Nat.le_of_eq W13.size.symm)
  have K13 : Keep h0 h13 [a, rp, ro, rs, rf] := K10.wr W13 (Or.inl (by simp))
  refine OE.v st13 ?_
  show OE _ _ _ _ (T13.setTop (mkF m 100 #[rv a, .unset] []))
  refine OE.v (fun t k => XS.aloadN X13.here hx rfl (hb hby d3_100) rfl rfl k) ?_
  show OE _ _ _ _ (T13.setTop (mkF m 101 #[rv a, .unset] [(.ref a)]))
  obtain ⟨T14, X14, e14, st14⟩ := getF X13 hx hZ hown (host := "") (Or.inl (hw _ (own_w 16 rfl))) Via.refl e13 (((P4.other W7 (Or.inl (Ne.symm P10))).other W10 (Or.inl (Ne.symm P11))).other W13 (Or.inl (Ne.symm P12))) (g := (mkF m 101 #[rv a, .unset] [(.ref a)])) rfl rfl (hb hby d3_101)
  refine OE.v st14 ?_
  show OE _ _ _ _ (T14.setTop (mkF m 104 #[rv a, .unset] [(.ref rf)]))
  refine OE.v (fun t k => XS.aloadN X14.here hx rfl (hb hby d3_104) rfl rfl k) ?_
  show OE _ _ _ _ (T14.setTop (mkF m 105 #[rv a, .unset] [(.ref a), (.ref rf)]))
  obtain ⟨T15, X15, e15, st15⟩ := getF X14 hx hZ hown (host := "") (Or.inl (hw _ (own_w 25 rfl))) Via.refl e14 (((P5.other W7 (Or.inl (Ne.symm P10))).other W10 (Or.inl (Ne.symm P11))).other W13 (Or.inl (Ne.symm P12))) (g := (mkF m 105 #[rv a, .unset] [(.ref a), (.ref rf)])) rfl rfl (hb hby d3_105)
  refine OE.v st15 ?_
  show OE _ _ _ _ (T15.setTop (mkF m 108 #[rv a, .unset] [(.int 1), (.ref rf)]))
  refine OE.v (fun t k => XS.iconst X15.here hx rfl (hb hby d3_108) k) ?_
  show OE _ _ _ _ (T15.setTop (mkF m 109 #[rv a, .unset] [(.int 0), (.int 1), (.ref rf)]))
  obtain ⟨cl16, Ar16, q16, S16, M16, H16, G16⟩ := id (((P9.other W7 (Ne.symm P16)).other W10 (Ne.symm P18)).other W13 (Ne.symm P19))
  have hin16 : ¬ ((1 : Int32) < 0 ∨ cl16.slots.size ≤ ((1 : Int32)).toNatClampNeg) := inb_of S16 ⟨by decide, by decide⟩
  obtain ⟨T16, h16, X16, e16, W16, st16⟩ := stI X15 hx hZ e15 Ar16 (j := (1 : Int32)) hin16 (g := (mkF m 109 #[rv a, .unset] [(.int 0), (.int 1), (.ref rf)])) rfl rfl (hb hby d3_109)
  have V16 : Arv Z h16 rf kf .int (16 : Int32) [(.int 0), (.int 0), (.int 0), (.int 0)] (.int 0) := Arv.set Ar16 q16 S16 M16 H16 G16 rfl W16 1 rfl (Nat.le_of_ble_eq_true rfl)
  have N16 := Fr.snoc X16 N13 P23
  have Z16 : n0 ≤ h16.size := Nat.le_trans Z13 (Nat.le_of_eq W16.size.symm)
  have K16 : Keep h0 h16 [a, rp, ro, rs, rf] := K13.wr W16 (Or.inl (by simp))
  refine OE.v st16 ?_
  show OE _ _ _ _ (T16.setTop (mkF m 110 #[rv a, .unset] []))
  refine OE.v (fun t k => XS.aloadN X16.here hx rfl (hb hby d3_110) rfl rfl k) ?_
  refine OE.v (fun t k => XS.dup X16.here hx rfl (hb hby d3_111) rfl rfl k) ?_
  show OE _ _ _ _ (T16.setTop (mkF m 112 #[rv a, .unset] [(.ref a), (.ref a)]))
  obtain ⟨T17, X17, e17, st17⟩ := getF X16 hx hZ hown (host := "") (Or.inl (hw _ (own_w 25 rfl))) Via.refl e16 ((((P5.other W7 (Or.inl (Ne.symm P10))).other W10 (Or.inl (Ne.symm P11))).other W13 (Or.inl (Ne.symm P12))).other W16 (Or.inl (Ne.symm P13))) (g := (mkF m 112 #[rv a, .unset] [(.ref a), (.ref a)])) rfl rfl (hb hby d3_112)
  refine OE.v st17 ?_
  show OE _ _ _ _ (T17.setTop (mkF m 115 #[rv a, .unset] [(.int 1), (.ref a)]))
  refine OE.v (fun t k => XS.dupX1 X17.here hx rfl (hb hby d3_115) rfl rfl rfl k) ?_
  show OE _ _ _ _ (T17.setTop (mkF m 116 #[rv a, .unset] [(.int 1), (.ref a), (.int 1)]))
  refine OE.v (fun t k => XS.iconst X17.here hx rfl (hb hby d3_116) k) ?_
  refine OE.v (fun t k => XS.iadd X17.here hx rfl (hb hby d3_117) rfl k) ?_
  show OE _ _ _ _ (T17.setTop (mkF m 118 #[rv a, .unset] [(.int 2), (.ref a), (.int 1)]))
  obtain ⟨T18, h18, X18, e18, W18, st18⟩ := putF X17 hx hZ hown (host := "") (Or.inl (hw _ (own_w 25 rfl))) Via.refl e17 ((((P5.other W7 (Or.inl (Ne.symm P10))).other W10 (Or.inl (Ne.symm P11))).other W13 (Or.inl (Ne.symm P12))).other W16 (Or.inl (Ne.symm P13))) ((((P0.wr W7).wr W10).wr W13).wr W16) (Or.inl (hw _ (own_w 26 rfl))) (hw _ (own_w 1 rfl)) (ty := .int) (by decide) rfl rfl (g := (mkF m 118 #[rv a, .unset] [(.int 2), (.ref a), (.int 1)])) rfl rfl (hb hby d3_118)
  have Fw18 : Fld Z h18 a "com/example/stratal/stratal/logic/StratumGroups" "mCount" "I" (.int 2) := ((((P5.other W7 (Or.inl (Ne.symm P10))).other W10 (Or.inl (Ne.symm P11))).other W13 (Or.inl (Ne.symm P12))).other W16 (Or.inl (Ne.symm P13))).same W18
  have N18 := Fr.snoc X18 N16 P24
  have Z18 : n0 ≤ h18.size := Nat.le_trans Z16 (Nat.le_of_eq W18.size.symm)
  have K18 : Keep h0 h18 [a, rp, ro, rs, rf] := K16.wr W18 (Or.inl (by simp))
  refine OE.v st18 ?_
  show OE _ _ _ _ (T18.setTop (mkF m 121 #[rv a, .unset] [(.int 1)]))
  obtain ⟨fs, hr, hrun, hended, hW, hsame⟩ := X18.leave (v := some (.int 1)) (fun h => by rw [Bd.returns] at h; cases h)
  refine ⟨_, _, ?_, hrun, hended, _, _, rfl, ?_, ⟨_, rfl⟩, hW, hsame.mono (by decide) (by decide)⟩
  · exact retI X18 hx Bd.returns (hb hby d3_121) hr
  · show QA1 Z a rp ro rs rf kp ko ks kf h0 n0 _ T18.heap _
    rw [e18]
    exact ⟨rfl, N18, K18, (((((P0.wr W7).wr W10).wr W13).wr W16).wr W18), (((((P1.other W7 (Or.inl (Ne.symm P10))).other W10 (Or.inl (Ne.symm P11))).other W13 (Or.inl (Ne.symm P12))).other W16 (Or.inl (Ne.symm P13))).other W18 (Or.inr (slot_ne (Or.inl (hw _ (own_w 11 rfl))) (Or.inl (hw _ (own_w 26 rfl))) (by decide) (t := (.array .int)) (t' := .int) (by decide) (by decide)))), (((((P2.other W7 (Or.inl (Ne.symm P10))).other W10 (Or.inl (Ne.symm P11))).other W13 (Or.inl (Ne.symm P12))).other W16 (Or.inl (Ne.symm P13))).other W18 (Or.inr (slot_ne (Or.inl (hw _ (own_w 13 rfl))) (Or.inl (hw _ (own_w 26 rfl))) (by decide) (t := (.array .int)) (t' := .int) (by decide) (by decide)))), (((((P3.other W7 (Or.inl (Ne.symm P10))).other W10 (Or.inl (Ne.symm P11))).other W13 (Or.inl (Ne.symm P12))).other W16 (Or.inl (Ne.symm P13))).other W18 (Or.inr (slot_ne (Or.inl (hw _ (own_w 15 rfl))) (Or.inl (hw _ (own_w 26 rfl))) (by decide) (t := (.array .int)) (t' := .int) (by decide) (by decide)))), (((((P4.other W7 (Or.inl (Ne.symm P10))).other W10 (Or.inl (Ne.symm P11))).other W13 (Or.inl (Ne.symm P12))).other W16 (Or.inl (Ne.symm P13))).other W18 (Or.inr (slot_ne (Or.inl (hw _ (own_w 17 rfl))) (Or.inl (hw _ (own_w 26 rfl))) (by decide) (t := (.array .int)) (t' := .int) (by decide) (by decide)))), Fw18, ((((V7.other W10 P14).other W13 P15).other W16 P16).other W18 P10), (((V10.other W13 P17).other W16 P18).other W18 P11), ((V13.other W16 P19).other W18 P12), (V16.other W18 P13), (((((P25.other W7 (Or.inl (Ne.symm P10))).other W10 (Or.inl (Ne.symm P11))).other W13 (Or.inl (Ne.symm P12))).other W16 (Or.inl (Ne.symm P13))).other W18 (Or.inr (slot_ne (Or.inl (hw _ (own_w 51 rfl))) (Or.inl (hw _ (own_w 26 rfl))) (by decide) (t := .boolean) (t' := .int) (by decide) (by decide))))⟩

theorem pn_rmA2 : plainName "com/example/stratal/stratal/logic/StratumGroups" = true := by first | (simp [plainName, overriddenIn]; done) | decide +kernel
theorem ef_rmA2 (m : MethodId) (a : Addr) : entryFrame m #[(.ref a)] 2 = mkF m 0 #[rv a, .unset] [] := by first | (simp [entryFrame, mkF, argsToLocals, Value.category]; done) | rfl
def QA2 (Z : State) (a : Addr) (rp : Addr) (ro : Addr) (rs : Addr) (rf : Addr) (kp : ClassId) (ko : ClassId) (ks : ClassId) (kf : ClassId) (h0 : Heap) (n0 : Nat) (v : Option Value) (h : Heap) (L : List Loc) : Prop := v = some (.int 2) ∧ Fr n0 L ∧ Keep h0 h [a, rp, ro, rs, rf] ∧ Exa Z h a "com/example/stratal/stratal/logic/StratumGroups" ∧ Fld Z h a "com/example/stratal/stratal/logic/StratumGroups" "mParent" "[I" (.ref rp) ∧ Fld Z h a "com/example/stratal/stratal/logic/StratumGroups" "mOffset" "[I" (.ref ro) ∧ Fld Z h a "com/example/stratal/stratal/logic/StratumGroups" "mSize" "[I" (.ref rs) ∧ Fld Z h a "com/example/stratal/stratal/logic/StratumGroups" "mFloor" "[I" (.ref rf) ∧ Fld Z h a "com/example/stratal/stratal/logic/StratumGroups" "mCount" "I" (.int 3) ∧ Arv Z h rp kp .int (16 : Int32) [(.int 0), (.int 1), (.int 2), (.int 0)] (.int 0) ∧ Arv Z h ro ko .int (16 : Int32) [(.int 0), (.int 0), (.int 0), (.int 0)] (.int 0) ∧ Arv Z h rs ks .int (16 : Int32) [(.int 1), (.int 1), (.int 1), (.int 0)] (.int 0) ∧ Arv Z h rf kf .int (16 : Int32) [(.int 0), (.int 0), (.int 0), (.int 0)] (.int 0) ∧ Fld Z h a "com/example/stratal/stratal/logic/StratumGroups" "mRecording" "Z" (.int 0)
set_option maxRecDepth 65536 in
set_option maxHeartbeats 40000000 in
theorem rmA2 (l : Launch) (Z : State) (a0 : Array Value) (hw : ∀ d ∈ tables_1, d.before a0 Z = true) (ws : List Jvm.Cond) (a : Addr) (rp : Addr) (ro : Addr) (rs : Addr) (rf : Addr) (kp : ClassId) (ko : ClassId) (ks : ClassId) (kf : ClassId) (h0 : Heap) (n0 : Nat) (Z0 : n0 ≤ h0.size) (P0 : Exa Z h0 a "com/example/stratal/stratal/logic/StratumGroups") (P1 : Fld Z h0 a "com/example/stratal/stratal/logic/StratumGroups" "mParent" "[I" (.ref rp)) (P2 : Fld Z h0 a "com/example/stratal/stratal/logic/StratumGroups" "mOffset" "[I" (.ref ro)) (P3 : Fld Z h0 a "com/example/stratal/stratal/logic/StratumGroups" "mSize" "[I" (.ref rs)) (P4 : Fld Z h0 a "com/example/stratal/stratal/logic/StratumGroups" "mFloor" "[I" (.ref rf)) (P5 : Fld Z h0 a "com/example/stratal/stratal/logic/StratumGroups" "mCount" "I" (.int 2)) (P6 : Arv Z h0 rp kp .int (16 : Int32) [(.int 0), (.int 1), (.int 0), (.int 0)] (.int 0)) (P7 : Arv Z h0 ro ko .int (16 : Int32) [(.int 0), (.int 0), (.int 0), (.int 0)] (.int 0)) (P8 : Arv Z h0 rs ks .int (16 : Int32) [(.int 1), (.int 1), (.int 0), (.int 0)] (.int 0)) (P9 : Arv Z h0 rf kf .int (16 : Int32) [(.int 0), (.int 0), (.int 0), (.int 0)] (.int 0)) (P10 : rp ≠ a) (P11 : ro ≠ a) (P12 : rs ≠ a) (P13 : rf ≠ a) (P14 : rp ≠ ro) (P15 : rp ≠ rs) (P16 : rp ≠ rf) (P17 : ro ≠ rs) (P18 : ro ≠ rf) (P19 : rs ≠ rf) (P20 : n0 ≤ rp) (P21 : n0 ≤ ro) (P22 : n0 ≤ rs) (P23 : n0 ≤ rf) (P24 : n0 ≤ a) (P25 : Fld Z h0 a "com/example/stratal/stratal/logic/StratumGroups" "mRecording" "Z" (.int 0)) :
    MetFree l (⟨"com/example/stratal/stratal/logic/StratumGroups", "add", "()I"⟩ : MethodName) (head1 (Jvm.Cond.code (⟨"com/example/stratal/stratal/logic/StratumGroups", "add", "()I"⟩ : MethodName) prog_53_method_2_code 2 (some .int) :: ws) ({ frames := 0, cells := 0, slots := 0, locals := 0 } : Room)) (fun aa U => aa = #[(.ref a)] ∧ Z.Warmed39 U.vm ∧ U.heap = h0) (fun _ _ _ _ _ => True) (fun _ U o U' => ∃ v L, o = .returned v ∧ QA2 Z a rp ro rs rf kp ko ks kf h0 n0 v U'.heap L ∧ FrameEnd U o U' L ({ frames := 0, cells := 0, slots := 0, locals := 0 } : Room).cells ({ frames := 0, cells := 0, slots := 0, locals := 0 } : Room).slots) := by
  refine MetFree.of_bodySF (plainFor_of_name pn_rmA2) hisR ?_
  intro p e s m args below meth c s₁ Bd hml0 hP hK
  obtain ⟨rfl, hZ, hh⟩ := hP
  have hx := Bd.exec
  have hby := Bd.bytes
  have hml : c.maxLocals = 2 := hml0
  have hown : s.vm.findClass "com/example/stratal/stratal/logic/StratumGroups" = some m.cls := findClass_of_methodNamed Bd.named
  have hnm := (name_of_methodNamed Bd.named Bd.method).1
  have X0 : Stand p l e ({ frames := 0, cells := 0, slots := 0, locals := 0 } : Room) s m #[(.ref a)] below meth c s₁ [] 0 0 := Stand.of_body Bd
  have e0 : s₁.heap = h0 := by rw [← hh, Bd.state]; rfl
  have N0 := Fr.nil n0
  change OE p.tables e below _ _
  refine OE.v (fun t k => castTop (ef_rmA2 m a) k) ?_
  show OE _ _ _ _ (s₁.setTop (mkF m 0 #[rv a, .unset] []))
  refine OE.v (fun t k => XS.aloadN X0.here hx rfl (hb hby d3_0) rfl rfl k) ?_
  show OE _ _ _ _ (s₁.setTop (mkF m 1 #[rv a, .unset] [(.ref a)]))
  obtain ⟨T1, X1, e1, st1⟩ := getF X0 hx hZ hown (host := "") (Or.inl (hw _ (own_w 25 rfl))) Via.refl e0 P5 (g := (mkF m 1 #[rv a, .unset] [(.ref a)])) rfl rfl (hb hby d3_1)
  refine OE.v st1 ?_
  show OE _ _ _ _ (T1.setTop (mkF m 4 #[rv a, .unset] [(.int 2)]))
  refine OE.v (fun t k => XS.aloadN X1.here hx rfl (hb hby d3_4) rfl rfl k) ?_
  show OE _ _ _ _ (T1.setTop (mkF m 5 #[rv a, .unset] [(.ref a), (.int 2)]))
  obtain ⟨T2, X2, e2, st2⟩ := getF X1 hx hZ hown (host := "") (Or.inl (hw _ (own_w 10 rfl))) Via.refl e1 P1 (g := (mkF m 5 #[rv a, .unset] [(.ref a), (.int 2)])) rfl rfl (hb hby d3_5)
  refine OE.v st2 ?_
  show OE _ _ _ _ (T2.setTop (mkF m 8 #[rv a, .unset] [(.ref rp), (.int 2)]))
  obtain ⟨cl3, Ar3, q3, S3, M3, H3, G3⟩ := id P6
  refine OE.v (X2.arraylength hx (by rw [e2]; exact Ar3.1) (State.isArrayOf_alike hZ.alike Ar3.2.1) (g := (mkF m 8 #[rv a, .unset] [(.ref rp), (.int 2)])) rfl rfl (hb hby d3_8)) ?_
  rw [len_of S3 M3]
  show OE _ _ _ _ (T2.setTop (mkF m 9 #[rv a, .unset] [(.int 16), (.int 2)]))
  refine OE.v (fun t k => XS.icmpYes X2.here hx rfl (pc0 := 9) (pc' := 67) rfl (hb hby d3_9) rfl (feq (by decide)).2 (by decide) (by decide) k) ?_
  show OE _ _ _ _ (T2.setTop (mkF m 67 #[rv a, .unset] []))
  refine OE.v (fun t k => XS.aloadN X2.here hx rfl (hb hby d3_67) rfl rfl k) ?_
  show OE _ _ _ _ (T2.setTop (mkF m 68 #[rv a, .unset] [(.ref a)]))
  obtain ⟨T4, X4, e4, st4⟩ := getF X2 hx hZ hown (host := "") (Or.inl (hw _ (own_w 10 rfl))) Via.refl e2 P1 (g := (mkF m 68 #[rv a, .unset] [(.ref a)])) rfl rfl (hb hby d3_68)
  refine OE.v st4 ?_
  show OE _ _ _ _ (T4.setTop (mkF m 71 #[rv a, .unset] [(.ref rp)]))
  refine OE.v (fun t k => XS.aloadN X4.here hx rfl (hb hby d3_71) rfl rfl k) ?_
  show OE _ _ _ _ (T4.setTop (mkF m 72 #[rv a, .unset] [(.ref a), (.ref rp)]))
  obtain ⟨T5, X5, e5, st5⟩ := getF X4 hx hZ hown (host := "") (Or.inl (hw _ (own_w 25 rfl))) Via.refl e4 P5 (g := (mkF m 72 #[rv a, .unset] [(.ref a), (.ref rp)])) rfl rfl (hb hby d3_72)
  refine OE.v st5 ?_
  show OE _ _ _ _ (T5.setTop (mkF m 75 #[rv a, .unset] [(.int 2), (.ref rp)]))
  refine OE.v (fun t k => XS.aloadN X5.here hx rfl (hb hby d3_75) rfl rfl k) ?_
  show OE _ _ _ _ (T5.setTop (mkF m 76 #[rv a, .unset] [(.ref a), (.int 2), (.ref rp)]))
  obtain ⟨T6, X6, e6, st6⟩ := getF X5 hx hZ hown (host := "") (Or.inl (hw _ (own_w 25 rfl))) Via.refl e5 P5 (g := (mkF m 76 #[rv a, .unset] [(.ref a), (.int 2), (.ref rp)])) rfl rfl (hb hby d3_76)
  refine OE.v st6 ?_
  show OE _ _ _ _ (T6.setTop (mkF m 79 #[rv a, .unset] [(.int 2), (.int 2), (.ref rp)]))
  obtain ⟨cl7, Ar7, q7, S7, M7, H7, G7⟩ := id P6
  have hin7 : ¬ ((2 : Int32) < 0 ∨ cl7.slots.size ≤ ((2 : Int32)).toNatClampNeg) := inb_of S7 ⟨by decide, by decide⟩
  obtain ⟨T7, h7, X7, e7, W7, st7⟩ := stI X6 hx hZ e6 Ar7 (j := (2 : Int32)) hin7 (g := (mkF m 79 #[rv a, .unset] [(.int 2), (.int 2), (.ref rp)])) rfl rfl (hb hby d3_79)
  have V7 : Arv Z h7 rp kp .int (16 : Int32) [(.int 0), (.int 1), (.int 2), (.int 0)] (.int 0) := Arv.set Ar7 q7 S7 M7 H7 G7 rfl W7 2 rfl (Nat.le_of_ble_eq_true rfl)
  have N7 := Fr.snoc X7 N0 P20
  have Z7 : n0 ≤ h7.size := Nat.le_trans Z0 (Nat.le_of_eq W7.size.symm)
  have K7 : Keep h0 h7 [a, rp, ro, rs, rf] := (Keep.refl h0 [a, rp, ro, rs, rf]).wr W7 (Or.inl (by simp))
  refine OE.v st7 ?_
  show OE _ _ _ _ (T7.setTop (mkF m 80 #[rv a, .unset] []))
  refine OE.v (fun t k => XS.aloadN X7.here hx rfl (hb hby d3_80) rfl rfl k) ?_
  show OE _ _ _ _ (T7.setTop (mkF m 81 #[rv a, .unset] [(.ref a)]))
  obtain ⟨T8, X8, e8, st8⟩ := getF X7 hx hZ hown (host := "") (Or.inl (hw _ (own_w 12 rfl))) Via.refl e7 (P2.other W7 (Or.inl (Ne.symm P10))) (g := (mkF m 81 #[rv a, .unset] [(.ref a)])) rfl rfl (hb hby d3_81)
  refine OE.v st8 ?_
  show OE _ _ _ _ (T8.setTop (mkF m 84 #[rv a, .unset] [(.ref ro)]))
  refine OE.v (fun t k => XS.aloadN X8.here hx rfl (hb hby d3_84) rfl rfl k) ?_
  show OE _ _ _ _ (T8.setTop (mkF m 85 #[rv a, .unset] [(.ref a), (.ref ro)]))
  obtain ⟨T9, X9, e9, st9⟩ := getF X8 hx hZ hown (host := "") (Or.inl (hw _ (own_w 25 rfl))) Via.refl e8 (P5.other W7 (Or.inl (Ne.symm P10))) (g := (mkF m 85 #[rv a, .unset] [(.ref a), (.ref ro)])) rfl rfl (hb hby d3_85)
  refine OE.v st9 ?_
  show OE _ _ _ _ (T9.setTop (mkF m 88 #[rv a, .unset] [(.int 2), (.ref ro)]))
  refine OE.v (fun t k => XS.iconst X9.here hx rfl (hb hby d3_88) k) ?_
  show OE _ _ _ _ (T9.setTop (mkF m 89 #[rv a, .unset] [(.int 0), (.int 2), (.ref ro)]))
  obtain ⟨cl10, Ar10, q10, S10, M10, H10, G10⟩ := id (P7.other W7 (Ne.symm P14))
  have hin10 : ¬ ((2 : Int32) < 0 ∨ cl10.slots.size ≤ ((2 : Int32)).toNatClampNeg) := inb_of S10 ⟨by decide, by decide⟩
  obtain ⟨T10, h10, X10, e10, W10, st10⟩ := stI X9 hx hZ e9 Ar10 (j := (2 : Int32)) hin10 (g := (mkF m 89 #[rv a, .unset] [(.int 0), (.int 2), (.ref ro)])) rfl rfl (hb hby d3_89)
  have V10 : Arv Z h10 ro ko .int (16 : Int32) [(.int 0), (.int 0), (.int 0), (.int 0)] (.int 0) := Arv.set Ar10 q10 S10 M10 H10 G10 rfl W10 2 rfl (Nat.le_of_ble_eq_true rfl)
  have N10 := Fr.snoc X10 N7 P21
  have Z10 : n0 ≤ h10.size := Nat.le_trans Z7 (Nat.le_of_eq W10.size.symm)
  have K10 : Keep h0 h10 [a, rp, ro, rs, rf] := K7.wr W10 (Or.inl (by simp))
  refine OE.v st10 ?_
  show OE _ _ _ _ (T10.setTop (mkF m 90 #[rv a, .unset] []))
  refine OE.v (fun t k => XS.aloadN X10.here hx rfl (hb hby d3_90) rfl rfl k) ?_
  show OE _ _ _ _ (T10.setTop (mkF m 91 #[rv a, .unset] [(.ref a)]))
  obtain ⟨T11, X11, e11, st11⟩ := getF X10 hx hZ hown (host := "") (Or.inl (hw _ (own_w 14 rfl))) Via.refl e10 ((P3.other W7 (Or.inl (Ne.symm P10))).other W10 (Or.inl (Ne.symm P11))) (g := (mkF m 91 #[rv a, .unset] [(.ref a)])) rfl rfl (hb hby d3_91)
  refine OE.v st11 ?_
  show OE _ _ _ _ (T11.setTop (mkF m 94 #[rv a, .unset] [(.ref rs)]))
  refine OE.v (fun t k => XS.aloadN X11.here hx rfl (hb hby d3_94) rfl rfl k) ?_
  show OE _ _ _ _ (T11.setTop (mkF m 95 #[rv a, .unset] [(.ref a), (.ref rs)]))
  obtain ⟨T12, X12, e12, st12⟩ := getF X11 hx hZ hown (host := "") (Or.inl (hw _ (own_w 25 rfl))) Via.refl e11 ((P5.other W7 (Or.inl (Ne.symm P10))).other W10 (Or.inl (Ne.symm P11))) (g := (mkF m 95 #[rv a, .unset] [(.ref a), (.ref rs)])) rfl rfl (hb hby d3_95)
  refine OE.v st12 ?_
  show OE _ _ _ _ (T12.setTop (mkF m 98 #[rv a, .unset] [(.int 2), (.ref rs)]))
  refine OE.v (fun t k => XS.iconst X12.here hx rfl (hb hby d3_98) k) ?_
  show OE _ _ _ _ (T12.setTop (mkF m 99 #[rv a, .unset] [(.int 1), (.int 2), (.ref rs)]))
  obtain ⟨cl13, Ar13, q13, S13, M13, H13, G13⟩ := id ((P8.other W7 (Ne.symm P15)).other W10 (Ne.symm P17))
  have hin13 : ¬ ((2 : Int32) < 0 ∨ cl13.slots.size ≤ ((2 : Int32)).toNatClampNeg) := inb_of S13 ⟨by decide, by decide⟩
  obtain ⟨T13, h13, X13, e13, W13, st13⟩ := stI X12 hx hZ e12 Ar13 (j := (2 : Int32)) hin13 (g := (mkF m 99 #[rv a, .unset] [(.int 1), (.int 2), (.ref rs)])) rfl rfl (hb hby d3_99)
  have V13 : Arv Z h13 rs ks .int (16 : Int32) [(.int 1), (.int 1), (.int 1), (.int 0)] (.int 0) := Arv.set Ar13 q13 S13 M13 H13 G13 rfl W13 2 rfl (Nat.le_of_ble_eq_true rfl)
  have N13 := Fr.snoc X13 N10 P22
  have Z13 : n0 ≤ h13.size := Nat.le_trans Z10 (Nat.le_of_eq W13.size.symm)
  have K13 : Keep h0 h13 [a, rp, ro, rs, rf] := K10.wr W13 (Or.inl (by simp))
  refine OE.v st13 ?_
  show OE _ _ _ _ (T13.setTop (mkF m 100 #[rv a, .unset] []))
  refine OE.v (fun t k => XS.aloadN X13.here hx rfl (hb hby d3_100) rfl rfl k) ?_
  show OE _ _ _ _ (T13.setTop (mkF m 101 #[rv a, .unset] [(.ref a)]))
  obtain ⟨T14, X14, e14, st14⟩ := getF X13 hx hZ hown (host := "") (Or.inl (hw _ (own_w 16 rfl))) Via.refl e13 (((P4.other W7 (Or.inl (Ne.symm P10))).other W10 (Or.inl (Ne.symm P11))).other W13 (Or.inl (Ne.symm P12))) (g := (mkF m 101 #[rv a, .unset] [(.ref a)])) rfl rfl (hb hby d3_101)
  refine OE.v st14 ?_
  show OE _ _ _ _ (T14.setTop (mkF m 104 #[rv a, .unset] [(.ref rf)]))
  refine OE.v (fun t k => XS.aloadN X14.here hx rfl (hb hby d3_104) rfl rfl k) ?_
  show OE _ _ _ _ (T14.setTop (mkF m 105 #[rv a, .unset] [(.ref a), (.ref rf)]))
  obtain ⟨T15, X15, e15, st15⟩ := getF X14 hx hZ hown (host := "") (Or.inl (hw _ (own_w 25 rfl))) Via.refl e14 (((P5.other W7 (Or.inl (Ne.symm P10))).other W10 (Or.inl (Ne.symm P11))).other W13 (Or.inl (Ne.symm P12))) (g := (mkF m 105 #[rv a, .unset] [(.ref a), (.ref rf)])) rfl rfl (hb hby d3_105)
  refine OE.v st15 ?_
  show OE _ _ _ _ (T15.setTop (mkF m 108 #[rv a, .unset] [(.int 2), (.ref rf)]))
  refine OE.v (fun t k => XS.iconst X15.here hx rfl (hb hby d3_108) k) ?_
  show OE _ _ _ _ (T15.setTop (mkF m 109 #[rv a, .unset] [(.int 0), (.int 2), (.ref rf)]))
  obtain ⟨cl16, Ar16, q16, S16, M16, H16, G16⟩ := id (((P9.other W7 (Ne.symm P16)).other W10 (Ne.symm P18)).other W13 (Ne.symm P19))
  have hin16 : ¬ ((2 : Int32) < 0 ∨ cl16.slots.size ≤ ((2 : Int32)).toNatClampNeg) := inb_of S16 ⟨by decide, by decide⟩
  obtain ⟨T16, h16, X16, e16, W16, st16⟩ := stI X15 hx hZ e15 Ar16 (j := (2 : Int32)) hin16 (g := (mkF m 109 #[rv a, .unset] [(.int 0), (.int 2), (.ref rf)])) rfl rfl (hb hby d3_109)
  have V16 : Arv Z h16 rf kf .int (16 : Int32) [(.int 0), (.int 0), (.int 0), (.int 0)] (.int 0) := Arv.set Ar16 q16 S16 M16 H16 G16 rfl W16 2 rfl (Nat.le_of_ble_eq_true rfl)
  have N16 := Fr.snoc X16 N13 P23
  have Z16 : n0 ≤ h16.size := Nat.le_trans Z13 (Nat.le_of_eq W16.size.symm)
  have K16 : Keep h0 h16 [a, rp, ro, rs, rf] := K13.wr W16 (Or.inl (by simp))
  refine OE.v st16 ?_
  show OE _ _ _ _ (T16.setTop (mkF m 110 #[rv a, .unset] []))
  refine OE.v (fun t k => XS.aloadN X16.here hx rfl (hb hby d3_110) rfl rfl k) ?_
  refine OE.v (fun t k => XS.dup X16.here hx rfl (hb hby d3_111) rfl rfl k) ?_
  show OE _ _ _ _ (T16.setTop (mkF m 112 #[rv a, .unset] [(.ref a), (.ref a)]))
  obtain ⟨T17, X17, e17, st17⟩ := getF X16 hx hZ hown (host := "") (Or.inl (hw _ (own_w 25 rfl))) Via.refl e16 ((((P5.other W7 (Or.inl (Ne.symm P10))).other W10 (Or.inl (Ne.symm P11))).other W13 (Or.inl (Ne.symm P12))).other W16 (Or.inl (Ne.symm P13))) (g := (mkF m 112 #[rv a, .unset] [(.ref a), (.ref a)])) rfl rfl (hb hby d3_112)
  refine OE.v st17 ?_
  show OE _ _ _ _ (T17.setTop (mkF m 115 #[rv a, .unset] [(.int 2), (.ref a)]))
  refine OE.v (fun t k => XS.dupX1 X17.here hx rfl (hb hby d3_115) rfl rfl rfl k) ?_
  show OE _ _ _ _ (T17.setTop (mkF m 116 #[rv a, .unset] [(.int 2), (.ref a), (.int 2)]))
  refine OE.v (fun t k => XS.iconst X17.here hx rfl (hb hby d3_116) k) ?_
  refine OE.v (fun t k => XS.iadd X17.here hx rfl (hb hby d3_117) rfl k) ?_
  show OE _ _ _ _ (T17.setTop (mkF m 118 #[rv a, .unset] [(.int 3), (.ref a), (.int 2)]))
  obtain ⟨T18, h18, X18, e18, W18, st18⟩ := putF X17 hx hZ hown (host := "") (Or.inl (hw _ (own_w 25 rfl))) Via.refl e17 ((((P5.other W7 (Or.inl (Ne.symm P10))).other W10 (Or.inl (Ne.symm P11))).other W13 (Or.inl (Ne.symm P12))).other W16 (Or.inl (Ne.symm P13))) ((((P0.wr W7).wr W10).wr W13).wr W16) (Or.inl (hw _ (own_w 26 rfl))) (hw _ (own_w 1 rfl)) (ty := .int) (by decide) rfl rfl (g := (mkF m 118 #[rv a, .unset] [(.int 3), (.ref a), (.int 2)])) rfl rfl (hb hby d3_118)
  have Fw18 : Fld Z h18 a "com/example/stratal/stratal/logic/StratumGroups" "mCount" "I" (.int 3) := ((((P5.other W7 (Or.inl (Ne.symm P10))).other W10 (Or.inl (Ne.symm P11))).other W13 (Or.inl (Ne.symm P12))).other W16 (Or.inl (Ne.symm P13))).same W18
  have N18 := Fr.snoc X18 N16 P24
  have Z18 : n0 ≤ h18.size := Nat.le_trans Z16 (Nat.le_of_eq W18.size.symm)
  have K18 : Keep h0 h18 [a, rp, ro, rs, rf] := K16.wr W18 (Or.inl (by simp))
  refine OE.v st18 ?_
  show OE _ _ _ _ (T18.setTop (mkF m 121 #[rv a, .unset] [(.int 2)]))
  obtain ⟨fs, hr, hrun, hended, hW, hsame⟩ := X18.leave (v := some (.int 2)) (fun h => by rw [Bd.returns] at h; cases h)
  refine ⟨_, _, ?_, hrun, hended, _, _, rfl, ?_, ⟨_, rfl⟩, hW, hsame.mono (by decide) (by decide)⟩
  · exact retI X18 hx Bd.returns (hb hby d3_121) hr
  · show QA2 Z a rp ro rs rf kp ko ks kf h0 n0 _ T18.heap _
    rw [e18]
    exact ⟨rfl, N18, K18, (((((P0.wr W7).wr W10).wr W13).wr W16).wr W18), (((((P1.other W7 (Or.inl (Ne.symm P10))).other W10 (Or.inl (Ne.symm P11))).other W13 (Or.inl (Ne.symm P12))).other W16 (Or.inl (Ne.symm P13))).other W18 (Or.inr (slot_ne (Or.inl (hw _ (own_w 11 rfl))) (Or.inl (hw _ (own_w 26 rfl))) (by decide) (t := (.array .int)) (t' := .int) (by decide) (by decide)))), (((((P2.other W7 (Or.inl (Ne.symm P10))).other W10 (Or.inl (Ne.symm P11))).other W13 (Or.inl (Ne.symm P12))).other W16 (Or.inl (Ne.symm P13))).other W18 (Or.inr (slot_ne (Or.inl (hw _ (own_w 13 rfl))) (Or.inl (hw _ (own_w 26 rfl))) (by decide) (t := (.array .int)) (t' := .int) (by decide) (by decide)))), (((((P3.other W7 (Or.inl (Ne.symm P10))).other W10 (Or.inl (Ne.symm P11))).other W13 (Or.inl (Ne.symm P12))).other W16 (Or.inl (Ne.symm P13))).other W18 (Or.inr (slot_ne (Or.inl (hw _ (own_w 15 rfl))) (Or.inl (hw _ (own_w 26 rfl))) (by decide) (t := (.array .int)) (t' := .int) (by decide) (by decide)))), (((((P4.other W7 (Or.inl (Ne.symm P10))).other W10 (Or.inl (Ne.symm P11))).other W13 (Or.inl (Ne.symm P12))).other W16 (Or.inl (Ne.symm P13))).other W18 (Or.inr (slot_ne (Or.inl (hw _ (own_w 17 rfl))) (Or.inl (hw _ (own_w 26 rfl))) (by decide) (t := (.array .int)) (t' := .int) (by decide) (by decide)))), Fw18, ((((V7.other W10 P14).other W13 P15).other W16 P16).other W18 P10), (((V10.other W13 P17).other W16 P18).other W18 P11), ((V13.other W16 P19).other W18 P12), (V16.other W18 P13), (((((P25.other W7 (Or.inl (Ne.symm P10))).other W10 (Or.inl (Ne.symm P11))).other W13 (Or.inl (Ne.symm P12))).other W16 (Or.inl (Ne.symm P13))).other W18 (Or.inr (slot_ne (Or.inl (hw _ (own_w 51 rfl))) (Or.inl (hw _ (own_w 26 rfl))) (by decide) (t := .boolean) (t' := .int) (by decide) (by decide))))⟩

theorem pn_rmA3 : plainName "com/example/stratal/stratal/logic/StratumGroups" = true := by first | (simp [plainName, overriddenIn]; done) | decide +kernel
theorem ef_rmA3 (m : MethodId) (a : Addr) : entryFrame m #[(.ref a)] 2 = mkF m 0 #[rv a, .unset] [] := by first | (simp [entryFrame, mkF, argsToLocals, Value.category]; done) | rfl
def QA3 (Z : State) (a : Addr) (rp : Addr) (ro : Addr) (rs : Addr) (rf : Addr) (kp : ClassId) (ko : ClassId) (ks : ClassId) (kf : ClassId) (h0 : Heap) (n0 : Nat) (v : Option Value) (h : Heap) (L : List Loc) : Prop := v = some (.int 3) ∧ Fr n0 L ∧ Keep h0 h [a, rp, ro, rs, rf] ∧ Exa Z h a "com/example/stratal/stratal/logic/StratumGroups" ∧ Fld Z h a "com/example/stratal/stratal/logic/StratumGroups" "mParent" "[I" (.ref rp) ∧ Fld Z h a "com/example/stratal/stratal/logic/StratumGroups" "mOffset" "[I" (.ref ro) ∧ Fld Z h a "com/example/stratal/stratal/logic/StratumGroups" "mSize" "[I" (.ref rs) ∧ Fld Z h a "com/example/stratal/stratal/logic/StratumGroups" "mFloor" "[I" (.ref rf) ∧ Fld Z h a "com/example/stratal/stratal/logic/StratumGroups" "mCount" "I" (.int 4) ∧ Arv Z h rp kp .int (16 : Int32) [(.int 0), (.int 1), (.int 2), (.int 3)] (.int 0) ∧ Arv Z h ro ko .int (16 : Int32) [(.int 0), (.int 0), (.int 0), (.int 0)] (.int 0) ∧ Arv Z h rs ks .int (16 : Int32) [(.int 1), (.int 1), (.int 1), (.int 1)] (.int 0) ∧ Arv Z h rf kf .int (16 : Int32) [(.int 0), (.int 0), (.int 0), (.int 0)] (.int 0) ∧ Fld Z h a "com/example/stratal/stratal/logic/StratumGroups" "mRecording" "Z" (.int 0)
set_option maxRecDepth 65536 in
set_option maxHeartbeats 40000000 in
theorem rmA3 (l : Launch) (Z : State) (a0 : Array Value) (hw : ∀ d ∈ tables_1, d.before a0 Z = true) (ws : List Jvm.Cond) (a : Addr) (rp : Addr) (ro : Addr) (rs : Addr) (rf : Addr) (kp : ClassId) (ko : ClassId) (ks : ClassId) (kf : ClassId) (h0 : Heap) (n0 : Nat) (Z0 : n0 ≤ h0.size) (P0 : Exa Z h0 a "com/example/stratal/stratal/logic/StratumGroups") (P1 : Fld Z h0 a "com/example/stratal/stratal/logic/StratumGroups" "mParent" "[I" (.ref rp)) (P2 : Fld Z h0 a "com/example/stratal/stratal/logic/StratumGroups" "mOffset" "[I" (.ref ro)) (P3 : Fld Z h0 a "com/example/stratal/stratal/logic/StratumGroups" "mSize" "[I" (.ref rs)) (P4 : Fld Z h0 a "com/example/stratal/stratal/logic/StratumGroups" "mFloor" "[I" (.ref rf)) (P5 : Fld Z h0 a "com/example/stratal/stratal/logic/StratumGroups" "mCount" "I" (.int 3)) (P6 : Arv Z h0 rp kp .int (16 : Int32) [(.int 0), (.int 1), (.int 2), (.int 0)] (.int 0)) (P7 : Arv Z h0 ro ko .int (16 : Int32) [(.int 0), (.int 0), (.int 0), (.int 0)] (.int 0)) (P8 : Arv Z h0 rs ks .int (16 : Int32) [(.int 1), (.int 1), (.int 1), (.int 0)] (.int 0)) (P9 : Arv Z h0 rf kf .int (16 : Int32) [(.int 0), (.int 0), (.int 0), (.int 0)] (.int 0)) (P10 : rp ≠ a) (P11 : ro ≠ a) (P12 : rs ≠ a) (P13 : rf ≠ a) (P14 : rp ≠ ro) (P15 : rp ≠ rs) (P16 : rp ≠ rf) (P17 : ro ≠ rs) (P18 : ro ≠ rf) (P19 : rs ≠ rf) (P20 : n0 ≤ rp) (P21 : n0 ≤ ro) (P22 : n0 ≤ rs) (P23 : n0 ≤ rf) (P24 : n0 ≤ a) (P25 : Fld Z h0 a "com/example/stratal/stratal/logic/StratumGroups" "mRecording" "Z" (.int 0)) :
    MetFree l (⟨"com/example/stratal/stratal/logic/StratumGroups", "add", "()I"⟩ : MethodName) (head1 (Jvm.Cond.code (⟨"com/example/stratal/stratal/logic/StratumGroups", "add", "()I"⟩ : MethodName) prog_53_method_2_code 2 (some .int) :: ws) ({ frames := 0, cells := 0, slots := 0, locals := 0 } : Room)) (fun aa U => aa = #[(.ref a)] ∧ Z.Warmed39 U.vm ∧ U.heap = h0) (fun _ _ _ _ _ => True) (fun _ U o U' => ∃ v L, o = .returned v ∧ QA3 Z a rp ro rs rf kp ko ks kf h0 n0 v U'.heap L ∧ FrameEnd U o U' L ({ frames := 0, cells := 0, slots := 0, locals := 0 } : Room).cells ({ frames := 0, cells := 0, slots := 0, locals := 0 } : Room).slots) := by
  refine MetFree.of_bodySF (plainFor_of_name pn_rmA3) hisR ?_
  intro p e s m args below meth c s₁ Bd hml0 hP hK
  obtain ⟨rfl, hZ, hh⟩ := hP
  have hx := Bd.exec
  have hby := Bd.bytes
  have hml : c.maxLocals = 2 := hml0
  have hown : s.vm.findClass "com/example/stratal/stratal/logic/StratumGroups" = some m.cls := findClass_of_methodNamed Bd.named
  have hnm := (name_of_methodNamed Bd.named Bd.method).1
  have X0 : Stand p l e ({ frames := 0, cells := 0, slots := 0, locals := 0 } : Room) s m #[(.ref a)] below meth c s₁ [] 0 0 := Stand.of_body Bd
  have e0 : s₁.heap = h0 := by rw [← hh, Bd.state]; rfl
  have N0 := Fr.nil n0
  change OE p.tables e below _ _
  refine OE.v (fun t k => castTop (ef_rmA3 m a) k) ?_
  show OE _ _ _ _ (s₁.setTop (mkF m 0 #[rv a, .unset] []))
  refine OE.v (fun t k => XS.aloadN X0.here hx rfl (hb hby d3_0) rfl rfl k) ?_
  show OE _ _ _ _ (s₁.setTop (mkF m 1 #[rv a, .unset] [(.ref a)]))
  obtain ⟨T1, X1, e1, st1⟩ := getF X0 hx hZ hown (host := "") (Or.inl (hw _ (own_w 25 rfl))) Via.refl e0 P5 (g := (mkF m 1 #[rv a, .unset] [(.ref a)])) rfl rfl (hb hby d3_1)
  refine OE.v st1 ?_
  show OE _ _ _ _ (T1.setTop (mkF m 4 #[rv a, .unset] [(.int 3)]))
  refine OE.v (fun t k => XS.aloadN X1.here hx rfl (hb hby d3_4) rfl rfl k) ?_
  show OE _ _ _ _ (T1.setTop (mkF m 5 #[rv a, .unset] [(.ref a), (.int 3)]))
  obtain ⟨T2, X2, e2, st2⟩ := getF X1 hx hZ hown (host := "") (Or.inl (hw _ (own_w 10 rfl))) Via.refl e1 P1 (g := (mkF m 5 #[rv a, .unset] [(.ref a), (.int 3)])) rfl rfl (hb hby d3_5)
  refine OE.v st2 ?_
  show OE _ _ _ _ (T2.setTop (mkF m 8 #[rv a, .unset] [(.ref rp), (.int 3)]))
  obtain ⟨cl3, Ar3, q3, S3, M3, H3, G3⟩ := id P6
  refine OE.v (X2.arraylength hx (by rw [e2]; exact Ar3.1) (State.isArrayOf_alike hZ.alike Ar3.2.1) (g := (mkF m 8 #[rv a, .unset] [(.ref rp), (.int 3)])) rfl rfl (hb hby d3_8)) ?_
  rw [len_of S3 M3]
  show OE _ _ _ _ (T2.setTop (mkF m 9 #[rv a, .unset] [(.int 16), (.int 3)]))
  refine OE.v (fun t k => XS.icmpYes X2.here hx rfl (pc0 := 9) (pc' := 67) rfl (hb hby d3_9) rfl (feq (by decide)).2 (by decide) (by decide) k) ?_
  show OE _ _ _ _ (T2.setTop (mkF m 67 #[rv a, .unset] []))
  refine OE.v (fun t k => XS.aloadN X2.here hx rfl (hb hby d3_67) rfl rfl k) ?_
  show OE _ _ _ _ (T2.setTop (mkF m 68 #[rv a, .unset] [(.ref a)]))
  obtain ⟨T4, X4, e4, st4⟩ := getF X2 hx hZ hown (host := "") (Or.inl (hw _ (own_w 10 rfl))) Via.refl e2 P1 (g := (mkF m 68 #[rv a, .unset] [(.ref a)])) rfl rfl (hb hby d3_68)
  refine OE.v st4 ?_
  show OE _ _ _ _ (T4.setTop (mkF m 71 #[rv a, .unset] [(.ref rp)]))
  refine OE.v (fun t k => XS.aloadN X4.here hx rfl (hb hby d3_71) rfl rfl k) ?_
  show OE _ _ _ _ (T4.setTop (mkF m 72 #[rv a, .unset] [(.ref a), (.ref rp)]))
  obtain ⟨T5, X5, e5, st5⟩ := getF X4 hx hZ hown (host := "") (Or.inl (hw _ (own_w 25 rfl))) Via.refl e4 P5 (g := (mkF m 72 #[rv a, .unset] [(.ref a), (.ref rp)])) rfl rfl (hb hby d3_72)
  refine OE.v st5 ?_
  show OE _ _ _ _ (T5.setTop (mkF m 75 #[rv a, .unset] [(.int 3), (.ref rp)]))
  refine OE.v (fun t k => XS.aloadN X5.here hx rfl (hb hby d3_75) rfl rfl k) ?_
  show OE _ _ _ _ (T5.setTop (mkF m 76 #[rv a, .unset] [(.ref a), (.int 3), (.ref rp)]))
  obtain ⟨T6, X6, e6, st6⟩ := getF X5 hx hZ hown (host := "") (Or.inl (hw _ (own_w 25 rfl))) Via.refl e5 P5 (g := (mkF m 76 #[rv a, .unset] [(.ref a), (.int 3), (.ref rp)])) rfl rfl (hb hby d3_76)
  refine OE.v st6 ?_
  show OE _ _ _ _ (T6.setTop (mkF m 79 #[rv a, .unset] [(.int 3), (.int 3), (.ref rp)]))
  obtain ⟨cl7, Ar7, q7, S7, M7, H7, G7⟩ := id P6
  have hin7 : ¬ ((3 : Int32) < 0 ∨ cl7.slots.size ≤ ((3 : Int32)).toNatClampNeg) := inb_of S7 ⟨by decide, by decide⟩
  obtain ⟨T7, h7, X7, e7, W7, st7⟩ := stI X6 hx hZ e6 Ar7 (j := (3 : Int32)) hin7 (g := (mkF m 79 #[rv a, .unset] [(.int 3), (.int 3), (.ref rp)])) rfl rfl (hb hby d3_79)
  have V7 : Arv Z h7 rp kp .int (16 : Int32) [(.int 0), (.int 1), (.int 2), (.int 3)] (.int 0) := Arv.set Ar7 q7 S7 M7 H7 G7 rfl W7 3 rfl (Nat.le_of_ble_eq_true rfl)
  have N7 := Fr.snoc X7 N0 P20
  have Z7 : n0 ≤ h7.size := Nat.le_trans Z0 (Nat.le_of_eq W7.size.symm)
  have K7 : Keep h0 h7 [a, rp, ro, rs, rf] := (Keep.refl h0 [a, rp, ro, rs, rf]).wr W7 (Or.inl (by simp))
  refine OE.v st7 ?_
  show OE _ _ _ _ (T7.setTop (mkF m 80 #[rv a, .unset] []))
  refine OE.v (fun t k => XS.aloadN X7.here hx rfl (hb hby d3_80) rfl rfl k) ?_
  show OE _ _ _ _ (T7.setTop (mkF m 81 #[rv a, .unset] [(.ref a)]))
  obtain ⟨T8, X8, e8, st8⟩ := getF X7 hx hZ hown (host := "") (Or.inl (hw _ (own_w 12 rfl))) Via.refl e7 (P2.other W7 (Or.inl (Ne.symm P10))) (g := (mkF m 81 #[rv a, .unset] [(.ref a)])) rfl rfl (hb hby d3_81)
  refine OE.v st8 ?_
  show OE _ _ _ _ (T8.setTop (mkF m 84 #[rv a, .unset] [(.ref ro)]))
  refine OE.v (fun t k => XS.aloadN X8.here hx rfl (hb hby d3_84) rfl rfl k) ?_
  show OE _ _ _ _ (T8.setTop (mkF m 85 #[rv a, .unset] [(.ref a), (.ref ro)]))
  obtain ⟨T9, X9, e9, st9⟩ := getF X8 hx hZ hown (host := "") (Or.inl (hw _ (own_w 25 rfl))) Via.refl e8 (P5.other W7 (Or.inl (Ne.symm P10))) (g := (mkF m 85 #[rv a, .unset] [(.ref a), (.ref ro)])) rfl rfl (hb hby d3_85)
  refine OE.v st9 ?_
  show OE _ _ _ _ (T9.setTop (mkF m 88 #[rv a, .unset] [(.int 3), (.ref ro)]))
  refine OE.v (fun t k => XS.iconst X9.here hx rfl (hb hby d3_88) k) ?_
  show OE _ _ _ _ (T9.setTop (mkF m 89 #[rv a, .unset] [(.int 0), (.int 3), (.ref ro)]))
  obtain ⟨cl10, Ar10, q10, S10, M10, H10, G10⟩ := id (P7.other W7 (Ne.symm P14))
  have hin10 : ¬ ((3 : Int32) < 0 ∨ cl10.slots.size ≤ ((3 : Int32)).toNatClampNeg) := inb_of S10 ⟨by decide, by decide⟩
  obtain ⟨T10, h10, X10, e10, W10, st10⟩ := stI X9 hx hZ e9 Ar10 (j := (3 : Int32)) hin10 (g := (mkF m 89 #[rv a, .unset] [(.int 0), (.int 3), (.ref ro)])) rfl rfl (hb hby d3_89)
  have V10 : Arv Z h10 ro ko .int (16 : Int32) [(.int 0), (.int 0), (.int 0), (.int 0)] (.int 0) := Arv.set Ar10 q10 S10 M10 H10 G10 rfl W10 3 rfl (Nat.le_of_ble_eq_true rfl)
  have N10 := Fr.snoc X10 N7 P21
  have Z10 : n0 ≤ h10.size := Nat.le_trans Z7 (Nat.le_of_eq W10.size.symm)
  have K10 : Keep h0 h10 [a, rp, ro, rs, rf] := K7.wr W10 (Or.inl (by simp))
  refine OE.v st10 ?_
  show OE _ _ _ _ (T10.setTop (mkF m 90 #[rv a, .unset] []))
  refine OE.v (fun t k => XS.aloadN X10.here hx rfl (hb hby d3_90) rfl rfl k) ?_
  show OE _ _ _ _ (T10.setTop (mkF m 91 #[rv a, .unset] [(.ref a)]))
  obtain ⟨T11, X11, e11, st11⟩ := getF X10 hx hZ hown (host := "") (Or.inl (hw _ (own_w 14 rfl))) Via.refl e10 ((P3.other W7 (Or.inl (Ne.symm P10))).other W10 (Or.inl (Ne.symm P11))) (g := (mkF m 91 #[rv a, .unset] [(.ref a)])) rfl rfl (hb hby d3_91)
  refine OE.v st11 ?_
  show OE _ _ _ _ (T11.setTop (mkF m 94 #[rv a, .unset] [(.ref rs)]))
  refine OE.v (fun t k => XS.aloadN X11.here hx rfl (hb hby d3_94) rfl rfl k) ?_
  show OE _ _ _ _ (T11.setTop (mkF m 95 #[rv a, .unset] [(.ref a), (.ref rs)]))
  obtain ⟨T12, X12, e12, st12⟩ := getF X11 hx hZ hown (host := "") (Or.inl (hw _ (own_w 25 rfl))) Via.refl e11 ((P5.other W7 (Or.inl (Ne.symm P10))).other W10 (Or.inl (Ne.symm P11))) (g := (mkF m 95 #[rv a, .unset] [(.ref a), (.ref rs)])) rfl rfl (hb hby d3_95)
  refine OE.v st12 ?_
  show OE _ _ _ _ (T12.setTop (mkF m 98 #[rv a, .unset] [(.int 3), (.ref rs)]))
  refine OE.v (fun t k => XS.iconst X12.here hx rfl (hb hby d3_98) k) ?_
  show OE _ _ _ _ (T12.setTop (mkF m 99 #[rv a, .unset] [(.int 1), (.int 3), (.ref rs)]))
  obtain ⟨cl13, Ar13, q13, S13, M13, H13, G13⟩ := id ((P8.other W7 (Ne.symm P15)).other W10 (Ne.symm P17))
  have hin13 : ¬ ((3 : Int32) < 0 ∨ cl13.slots.size ≤ ((3 : Int32)).toNatClampNeg) := inb_of S13 ⟨by decide, by decide⟩
  obtain ⟨T13, h13, X13, e13, W13, st13⟩ := stI X12 hx hZ e12 Ar13 (j := (3 : Int32)) hin13 (g := (mkF m 99 #[rv a, .unset] [(.int 1), (.int 3), (.ref rs)])) rfl rfl (hb hby d3_99)
  have V13 : Arv Z h13 rs ks .int (16 : Int32) [(.int 1), (.int 1), (.int 1), (.int 1)] (.int 0) := Arv.set Ar13 q13 S13 M13 H13 G13 rfl W13 3 rfl (Nat.le_of_ble_eq_true rfl)
  have N13 := Fr.snoc X13 N10 P22
  have Z13 : n0 ≤ h13.size := Nat.le_trans Z10 (Nat.le_of_eq W13.size.symm)
  have K13 : Keep h0 h13 [a, rp, ro, rs, rf] := K10.wr W13 (Or.inl (by simp))
  refine OE.v st13 ?_
  show OE _ _ _ _ (T13.setTop (mkF m 100 #[rv a, .unset] []))
  refine OE.v (fun t k => XS.aloadN X13.here hx rfl (hb hby d3_100) rfl rfl k) ?_
  show OE _ _ _ _ (T13.setTop (mkF m 101 #[rv a, .unset] [(.ref a)]))
  obtain ⟨T14, X14, e14, st14⟩ := getF X13 hx hZ hown (host := "") (Or.inl (hw _ (own_w 16 rfl))) Via.refl e13 (((P4.other W7 (Or.inl (Ne.symm P10))).other W10 (Or.inl (Ne.symm P11))).other W13 (Or.inl (Ne.symm P12))) (g := (mkF m 101 #[rv a, .unset] [(.ref a)])) rfl rfl (hb hby d3_101)
  refine OE.v st14 ?_
  show OE _ _ _ _ (T14.setTop (mkF m 104 #[rv a, .unset] [(.ref rf)]))
  refine OE.v (fun t k => XS.aloadN X14.here hx rfl (hb hby d3_104) rfl rfl k) ?_
  show OE _ _ _ _ (T14.setTop (mkF m 105 #[rv a, .unset] [(.ref a), (.ref rf)]))
  obtain ⟨T15, X15, e15, st15⟩ := getF X14 hx hZ hown (host := "") (Or.inl (hw _ (own_w 25 rfl))) Via.refl e14 (((P5.other W7 (Or.inl (Ne.symm P10))).other W10 (Or.inl (Ne.symm P11))).other W13 (Or.inl (Ne.symm P12))) (g := (mkF m 105 #[rv a, .unset] [(.ref a), (.ref rf)])) rfl rfl (hb hby d3_105)
  refine OE.v st15 ?_
  show OE _ _ _ _ (T15.setTop (mkF m 108 #[rv a, .unset] [(.int 3), (.ref rf)]))
  refine OE.v (fun t k => XS.iconst X15.here hx rfl (hb hby d3_108) k) ?_
  show OE _ _ _ _ (T15.setTop (mkF m 109 #[rv a, .unset] [(.int 0), (.int 3), (.ref rf)]))
  obtain ⟨cl16, Ar16, q16, S16, M16, H16, G16⟩ := id (((P9.other W7 (Ne.symm P16)).other W10 (Ne.symm P18)).other W13 (Ne.symm P19))
  have hin16 : ¬ ((3 : Int32) < 0 ∨ cl16.slots.size ≤ ((3 : Int32)).toNatClampNeg) := inb_of S16 ⟨by decide, by decide⟩
  obtain ⟨T16, h16, X16, e16, W16, st16⟩ := stI X15 hx hZ e15 Ar16 (j := (3 : Int32)) hin16 (g := (mkF m 109 #[rv a, .unset] [(.int 0), (.int 3), (.ref rf)])) rfl rfl (hb hby d3_109)
  have V16 : Arv Z h16 rf kf .int (16 : Int32) [(.int 0), (.int 0), (.int 0), (.int 0)] (.int 0) := Arv.set Ar16 q16 S16 M16 H16 G16 rfl W16 3 rfl (Nat.le_of_ble_eq_true rfl)
  have N16 := Fr.snoc X16 N13 P23
  have Z16 : n0 ≤ h16.size := Nat.le_trans Z13 (Nat.le_of_eq W16.size.symm)
  have K16 : Keep h0 h16 [a, rp, ro, rs, rf] := K13.wr W16 (Or.inl (by simp))
  refine OE.v st16 ?_
  show OE _ _ _ _ (T16.setTop (mkF m 110 #[rv a, .unset] []))
  refine OE.v (fun t k => XS.aloadN X16.here hx rfl (hb hby d3_110) rfl rfl k) ?_
  refine OE.v (fun t k => XS.dup X16.here hx rfl (hb hby d3_111) rfl rfl k) ?_
  show OE _ _ _ _ (T16.setTop (mkF m 112 #[rv a, .unset] [(.ref a), (.ref a)]))
  obtain ⟨T17, X17, e17, st17⟩ := getF X16 hx hZ hown (host := "") (Or.inl (hw _ (own_w 25 rfl))) Via.refl e16 ((((P5.other W7 (Or.inl (Ne.symm P10))).other W10 (Or.inl (Ne.symm P11))).other W13 (Or.inl (Ne.symm P12))).other W16 (Or.inl (Ne.symm P13))) (g := (mkF m 112 #[rv a, .unset] [(.ref a), (.ref a)])) rfl rfl (hb hby d3_112)
  refine OE.v st17 ?_
  show OE _ _ _ _ (T17.setTop (mkF m 115 #[rv a, .unset] [(.int 3), (.ref a)]))
  refine OE.v (fun t k => XS.dupX1 X17.here hx rfl (hb hby d3_115) rfl rfl rfl k) ?_
  show OE _ _ _ _ (T17.setTop (mkF m 116 #[rv a, .unset] [(.int 3), (.ref a), (.int 3)]))
  refine OE.v (fun t k => XS.iconst X17.here hx rfl (hb hby d3_116) k) ?_
  refine OE.v (fun t k => XS.iadd X17.here hx rfl (hb hby d3_117) rfl k) ?_
  show OE _ _ _ _ (T17.setTop (mkF m 118 #[rv a, .unset] [(.int 4), (.ref a), (.int 3)]))
  obtain ⟨T18, h18, X18, e18, W18, st18⟩ := putF X17 hx hZ hown (host := "") (Or.inl (hw _ (own_w 25 rfl))) Via.refl e17 ((((P5.other W7 (Or.inl (Ne.symm P10))).other W10 (Or.inl (Ne.symm P11))).other W13 (Or.inl (Ne.symm P12))).other W16 (Or.inl (Ne.symm P13))) ((((P0.wr W7).wr W10).wr W13).wr W16) (Or.inl (hw _ (own_w 26 rfl))) (hw _ (own_w 1 rfl)) (ty := .int) (by decide) rfl rfl (g := (mkF m 118 #[rv a, .unset] [(.int 4), (.ref a), (.int 3)])) rfl rfl (hb hby d3_118)
  have Fw18 : Fld Z h18 a "com/example/stratal/stratal/logic/StratumGroups" "mCount" "I" (.int 4) := ((((P5.other W7 (Or.inl (Ne.symm P10))).other W10 (Or.inl (Ne.symm P11))).other W13 (Or.inl (Ne.symm P12))).other W16 (Or.inl (Ne.symm P13))).same W18
  have N18 := Fr.snoc X18 N16 P24
  have Z18 : n0 ≤ h18.size := Nat.le_trans Z16 (Nat.le_of_eq W18.size.symm)
  have K18 : Keep h0 h18 [a, rp, ro, rs, rf] := K16.wr W18 (Or.inl (by simp))
  refine OE.v st18 ?_
  show OE _ _ _ _ (T18.setTop (mkF m 121 #[rv a, .unset] [(.int 3)]))
  obtain ⟨fs, hr, hrun, hended, hW, hsame⟩ := X18.leave (v := some (.int 3)) (fun h => by rw [Bd.returns] at h; cases h)
  refine ⟨_, _, ?_, hrun, hended, _, _, rfl, ?_, ⟨_, rfl⟩, hW, hsame.mono (by decide) (by decide)⟩
  · exact retI X18 hx Bd.returns (hb hby d3_121) hr
  · show QA3 Z a rp ro rs rf kp ko ks kf h0 n0 _ T18.heap _
    rw [e18]
    exact ⟨rfl, N18, K18, (((((P0.wr W7).wr W10).wr W13).wr W16).wr W18), (((((P1.other W7 (Or.inl (Ne.symm P10))).other W10 (Or.inl (Ne.symm P11))).other W13 (Or.inl (Ne.symm P12))).other W16 (Or.inl (Ne.symm P13))).other W18 (Or.inr (slot_ne (Or.inl (hw _ (own_w 11 rfl))) (Or.inl (hw _ (own_w 26 rfl))) (by decide) (t := (.array .int)) (t' := .int) (by decide) (by decide)))), (((((P2.other W7 (Or.inl (Ne.symm P10))).other W10 (Or.inl (Ne.symm P11))).other W13 (Or.inl (Ne.symm P12))).other W16 (Or.inl (Ne.symm P13))).other W18 (Or.inr (slot_ne (Or.inl (hw _ (own_w 13 rfl))) (Or.inl (hw _ (own_w 26 rfl))) (by decide) (t := (.array .int)) (t' := .int) (by decide) (by decide)))), (((((P3.other W7 (Or.inl (Ne.symm P10))).other W10 (Or.inl (Ne.symm P11))).other W13 (Or.inl (Ne.symm P12))).other W16 (Or.inl (Ne.symm P13))).other W18 (Or.inr (slot_ne (Or.inl (hw _ (own_w 15 rfl))) (Or.inl (hw _ (own_w 26 rfl))) (by decide) (t := (.array .int)) (t' := .int) (by decide) (by decide)))), (((((P4.other W7 (Or.inl (Ne.symm P10))).other W10 (Or.inl (Ne.symm P11))).other W13 (Or.inl (Ne.symm P12))).other W16 (Or.inl (Ne.symm P13))).other W18 (Or.inr (slot_ne (Or.inl (hw _ (own_w 17 rfl))) (Or.inl (hw _ (own_w 26 rfl))) (by decide) (t := (.array .int)) (t' := .int) (by decide) (by decide)))), Fw18, ((((V7.other W10 P14).other W13 P15).other W16 P16).other W18 P10), (((V10.other W13 P17).other W16 P18).other W18 P11), ((V13.other W16 P19).other W18 P12), (V16.other W18 P13), (((((P25.other W7 (Or.inl (Ne.symm P10))).other W10 (Or.inl (Ne.symm P11))).other W13 (Or.inl (Ne.symm P12))).other W16 (Or.inl (Ne.symm P13))).other W18 (Or.inr (slot_ne (Or.inl (hw _ (own_w 51 rfl))) (Or.inl (hw _ (own_w 26 rfl))) (by decide) (t := .boolean) (t' := .int) (by decide) (by decide))))⟩

theorem own_01 (x : Int32) : x &&& (1 : Int32) = (0 : Int32) ∨ x &&& (1 : Int32) = (1 : Int32) := by
  have hm := c_mask x (1 : Int32) 1 (by decide) (by decide)
  rw [← Int32.toInt_inj, ← Int32.toInt_inj]
  have z0 : (0 : Int32).toInt = 0 := by decide
  have z1 : (1 : Int32).toInt = 1 := by decide
  omega
theorem own_03 (x : Int32) : x &&& (3 : Int32) = (0 : Int32) ∨ x &&& (3 : Int32) = (1 : Int32) ∨ x &&& (3 : Int32) = (2 : Int32) ∨ x &&& (3 : Int32) = (3 : Int32) := by
  have hm := c_mask x (3 : Int32) 2 (by decide) (by decide)
  rw [← Int32.toInt_inj, ← Int32.toInt_inj, ← Int32.toInt_inj, ← Int32.toInt_inj]
  have z0 : (0 : Int32).toInt = 0 := by decide
  have z1 : (1 : Int32).toInt = 1 := by decide
  have z2 : (2 : Int32).toInt = 2 := by decide
  have z3 : (3 : Int32).toInt = 3 := by decide
  omega

theorem d5_0 : decode prog_53_method_3_code 0 = .ok (.iload_n 1, 1) := by decide +kernel
theorem d5_1 : decode prog_53_method_3_code 1 = .ok (.istore_n 2, 1) := by decide +kernel
theorem d5_2 : decode prog_53_method_3_code 2 = .ok (.aload_n 0, 1) := by decide +kernel
theorem d5_3 : decode prog_53_method_3_code 3 = .ok (.getfield 7, 3) := by decide +kernel
theorem d5_6 : decode prog_53_method_3_code 6 = .ok (.iload_n 2, 1) := by decide +kernel
theorem d5_7 : decode prog_53_method_3_code 7 = .ok (.iaload, 1) := by decide +kernel
theorem d5_8 : decode prog_53_method_3_code 8 = .ok (.iload_n 2, 1) := by decide +kernel
theorem d5_9 : decode prog_53_method_3_code 9 = .ok (.if_icmp .eq 13, 3) := by decide +kernel
theorem d5_22 : decode prog_53_method_3_code 22 = .ok (.iload_n 2, 1) := by decide +kernel
theorem d5_23 : decode prog_53_method_3_code 23 = .ok (.ireturn, 1) := by decide +kernel
theorem pn_rmf0_0123 : plainName "com/example/stratal/stratal/logic/StratumGroups" = true := by first | (simp [plainName, overriddenIn]; done) | decide +kernel
theorem ef_rmf0_0123 (m : MethodId) (a : Addr) : entryFrame m #[(.ref a), (.int 0)] 3 = mkF m 0 #[rv a, iv 0, .unset] [] := by first | (simp [entryFrame, mkF, argsToLocals, Value.category]; done) | rfl
def Qf0_0123 (Z : State) (a : Addr) (rp : Addr) (kp : ClassId) (h0 : Heap) (n0 : Nat) (v : Option Value) (h : Heap) (L : List Loc) : Prop := v = some (.int 0) ∧ Fr n0 L ∧ h = h0
set_option maxRecDepth 65536 in
set_option maxHeartbeats 40000000 in
theorem rmf0_0123 (l : Launch) (Z : State) (a0 : Array Value) (hw : ∀ d ∈ tables_1, d.before a0 Z = true) (ws : List Jvm.Cond) (a : Addr) (rp : Addr) (kp : ClassId) (h0 : Heap) (n0 : Nat) (Z0 : n0 ≤ h0.size) (P0 : Fld Z h0 a "com/example/stratal/stratal/logic/StratumGroups" "mParent" "[I" (.ref rp)) (P1 : Arv Z h0 rp kp .int (16 : Int32) [(.int 0), (.int 1), (.int 2), (.int 3)] (.int 0)) :
    MetFree l (⟨"com/example/stratal/stratal/logic/StratumGroups", "find", "(I)I"⟩ : MethodName) (head1 (Jvm.Cond.code (⟨"com/example/stratal/stratal/logic/StratumGroups", "find", "(I)I"⟩ : MethodName) prog_53_method_3_code 3 (some .int) :: ws) ({ frames := 0, cells := 0, slots := 0, locals := 0 } : Room)) (fun aa U => aa = #[(.ref a), (.int 0)] ∧ Z.Warmed39 U.vm ∧ U.heap = h0) (fun _ _ _ _ _ => True) (fun _ U o U' => ∃ v L, o = .returned v ∧ Qf0_0123 Z a rp kp h0 n0 v U'.heap L ∧ FrameEnd U o U' L ({ frames := 0, cells := 0, slots := 0, locals := 0 } : Room).cells ({ frames := 0, cells := 0, slots := 0, locals := 0 } : Room).slots) := by
  refine MetFree.of_bodySF (plainFor_of_name pn_rmf0_0123) hisR ?_
  intro p e s m args below meth c s₁ Bd hml0 hP hK
  obtain ⟨rfl, hZ, hh⟩ := hP
  have hx := Bd.exec
  have hby := Bd.bytes
  have hml : c.maxLocals = 3 := hml0
  have hown : s.vm.findClass "com/example/stratal/stratal/logic/StratumGroups" = some m.cls := findClass_of_methodNamed Bd.named
  have hnm := (name_of_methodNamed Bd.named Bd.method).1
  have X0 : Stand p l e ({ frames := 0, cells := 0, slots := 0, locals := 0 } : Room) s m #[(.ref a), (.int 0)] below meth c s₁ [] 0 0 := Stand.of_body Bd
  have e0 : s₁.heap = h0 := by rw [← hh, Bd.state]; rfl
  have N0 := Fr.nil n0
  change OE p.tables e below _ _
  refine OE.v (fun t k => castTop (ef_rmf0_0123 m a) k) ?_
  show OE _ _ _ _ (s₁.setTop (mkF m 0 #[rv a, iv 0, .unset] []))
  refine OE.v (fun t k => XS.iloadN X0.here hx rfl (hb hby d5_0) rfl k) ?_
  refine OE.v (fun t k => XS.istoreN X0.here hx rfl (hb hby d5_1) rfl (l' := #[rv a, iv 0, iv 0]) rfl k) ?_
  refine OE.v (fun t k => XS.aloadN X0.here hx rfl (hb hby d5_2) rfl rfl k) ?_
  show OE _ _ _ _ (s₁.setTop (mkF m 3 #[rv a, iv 0, iv 0] [(.ref a)]))
  obtain ⟨T1, X1, e1, st1⟩ := getF X0 hx hZ hown (host := "") (Or.inl (hw _ (own_w 10 rfl))) Via.refl e0 P0 (g := (mkF m 3 #[rv a, iv 0, iv 0] [(.ref a)])) rfl rfl (hb hby d5_3)
  refine OE.v st1 ?_
  show OE _ _ _ _ (T1.setTop (mkF m 6 #[rv a, iv 0, iv 0] [(.ref rp)]))
  refine OE.v (fun t k => XS.iloadN X1.here hx rfl (hb hby d5_6) rfl k) ?_
  show OE _ _ _ _ (T1.setTop (mkF m 7 #[rv a, iv 0, iv 0] [(.int 0), (.ref rp)]))
  obtain ⟨cl2, Ar2, q2, S2, M2, H2, G2⟩ := id P1
  have hin2 : ¬ ((0 : Int32) < 0 ∨ cl2.slots.size ≤ ((0 : Int32)).toNatClampNeg) := inb_of S2 ⟨by decide, by decide⟩
  have hat2 : cl2.slots[((0 : Int32)).toNatClampNeg]? = some (.int 0) := H2.at hin2 rfl
  refine OE.v (X1.iaload hx (j := (0 : Int32)) (v := (.int 0)) (by rw [e1]; exact Ar2.1) (State.isArrayOf_alike hZ.alike Ar2.2.1) Ar2.2.2 hin2 hat2 (g := (mkF m 7 #[rv a, iv 0, iv 0] [(.int 0), (.ref rp)])) rfl rfl (hb hby d5_7)) ?_
  show OE _ _ _ _ (T1.setTop (mkF m 8 #[rv a, iv 0, iv 0] [(.int 0)]))
  refine OE.v (fun t k => XS.iloadN X1.here hx rfl (hb hby d5_8) rfl k) ?_
  show OE _ _ _ _ (T1.setTop (mkF m 9 #[rv a, iv 0, iv 0] [(.int 0), (.int 0)]))
  refine OE.v (fun t k => XS.icmpYes X1.here hx rfl (pc0 := 9) (pc' := 22) rfl (hb hby d5_9) rfl (teq (by decide)).1 (by decide) (by decide) k) ?_
  show OE _ _ _ _ (T1.setTop (mkF m 22 #[rv a, iv 0, iv 0] []))
  refine OE.v (fun t k => XS.iloadN X1.here hx rfl (hb hby d5_22) rfl k) ?_
  show OE _ _ _ _ (T1.setTop (mkF m 23 #[rv a, iv 0, iv 0] [(.int 0)]))
  obtain ⟨fs, hr, hrun, hended, hW, hsame⟩ := X1.leave (v := some (.int 0)) (fun h => by rw [Bd.returns] at h; cases h)
  refine ⟨_, _, ?_, hrun, hended, _, _, rfl, ?_, ⟨_, rfl⟩, hW, hsame.mono (by decide) (by decide)⟩
  · exact retI X1 hx Bd.returns (hb hby d5_23) hr
  · show Qf0_0123 Z a rp kp h0 n0 _ T1.heap _
    rw [e1]
    exact ⟨rfl, N0, rfl⟩

theorem pn_rmf1_0123 : plainName "com/example/stratal/stratal/logic/StratumGroups" = true := by first | (simp [plainName, overriddenIn]; done) | decide +kernel
theorem ef_rmf1_0123 (m : MethodId) (a : Addr) : entryFrame m #[(.ref a), (.int 1)] 3 = mkF m 0 #[rv a, iv 1, .unset] [] := by first | (simp [entryFrame, mkF, argsToLocals, Value.category]; done) | rfl
def Qf1_0123 (Z : State) (a : Addr) (rp : Addr) (kp : ClassId) (h0 : Heap) (n0 : Nat) (v : Option Value) (h : Heap) (L : List Loc) : Prop := v = some (.int 1) ∧ Fr n0 L ∧ h = h0
set_option maxRecDepth 65536 in
set_option maxHeartbeats 40000000 in
theorem rmf1_0123 (l : Launch) (Z : State) (a0 : Array Value) (hw : ∀ d ∈ tables_1, d.before a0 Z = true) (ws : List Jvm.Cond) (a : Addr) (rp : Addr) (kp : ClassId) (h0 : Heap) (n0 : Nat) (Z0 : n0 ≤ h0.size) (P0 : Fld Z h0 a "com/example/stratal/stratal/logic/StratumGroups" "mParent" "[I" (.ref rp)) (P1 : Arv Z h0 rp kp .int (16 : Int32) [(.int 0), (.int 1), (.int 2), (.int 3)] (.int 0)) :
    MetFree l (⟨"com/example/stratal/stratal/logic/StratumGroups", "find", "(I)I"⟩ : MethodName) (head1 (Jvm.Cond.code (⟨"com/example/stratal/stratal/logic/StratumGroups", "find", "(I)I"⟩ : MethodName) prog_53_method_3_code 3 (some .int) :: ws) ({ frames := 0, cells := 0, slots := 0, locals := 0 } : Room)) (fun aa U => aa = #[(.ref a), (.int 1)] ∧ Z.Warmed39 U.vm ∧ U.heap = h0) (fun _ _ _ _ _ => True) (fun _ U o U' => ∃ v L, o = .returned v ∧ Qf1_0123 Z a rp kp h0 n0 v U'.heap L ∧ FrameEnd U o U' L ({ frames := 0, cells := 0, slots := 0, locals := 0 } : Room).cells ({ frames := 0, cells := 0, slots := 0, locals := 0 } : Room).slots) := by
  refine MetFree.of_bodySF (plainFor_of_name pn_rmf1_0123) hisR ?_
  intro p e s m args below meth c s₁ Bd hml0 hP hK
  obtain ⟨rfl, hZ, hh⟩ := hP
  have hx := Bd.exec
  have hby := Bd.bytes
  have hml : c.maxLocals = 3 := hml0
  have hown : s.vm.findClass "com/example/stratal/stratal/logic/StratumGroups" = some m.cls := findClass_of_methodNamed Bd.named
  have hnm := (name_of_methodNamed Bd.named Bd.method).1
  have X0 : Stand p l e ({ frames := 0, cells := 0, slots := 0, locals := 0 } : Room) s m #[(.ref a), (.int 1)] below meth c s₁ [] 0 0 := Stand.of_body Bd
  have e0 : s₁.heap = h0 := by rw [← hh, Bd.state]; rfl
  have N0 := Fr.nil n0
  change OE p.tables e below _ _
  refine OE.v (fun t k => castTop (ef_rmf1_0123 m a) k) ?_
  show OE _ _ _ _ (s₁.setTop (mkF m 0 #[rv a, iv 1, .unset] []))
  refine OE.v (fun t k => XS.iloadN X0.here hx rfl (hb hby d5_0) rfl k) ?_
  refine OE.v (fun t k => XS.istoreN X0.here hx rfl (hb hby d5_1) rfl (l' := #[rv a, iv 1, iv 1]) rfl k) ?_
  refine OE.v (fun t k => XS.aloadN X0.here hx rfl (hb hby d5_2) rfl rfl k) ?_
  show OE _ _ _ _ (s₁.setTop (mkF m 3 #[rv a, iv 1, iv 1] [(.ref a)]))
  obtain ⟨T1, X1, e1, st1⟩ := getF X0 hx hZ hown (host := "") (Or.inl (hw _ (own_w 10 rfl))) Via.refl e0 P0 (g := (mkF m 3 #[rv a, iv 1, iv 1] [(.ref a)])) rfl rfl (hb hby d5_3)
  refine OE.v st1 ?_
  show OE _ _ _ _ (T1.setTop (mkF m 6 #[rv a, iv 1, iv 1] [(.ref rp)]))
  refine OE.v (fun t k => XS.iloadN X1.here hx rfl (hb hby d5_6) rfl k) ?_
  show OE _ _ _ _ (T1.setTop (mkF m 7 #[rv a, iv 1, iv 1] [(.int 1), (.ref rp)]))
  obtain ⟨cl2, Ar2, q2, S2, M2, H2, G2⟩ := id P1
  have hin2 : ¬ ((1 : Int32) < 0 ∨ cl2.slots.size ≤ ((1 : Int32)).toNatClampNeg) := inb_of S2 ⟨by decide, by decide⟩
  have hat2 : cl2.slots[((1 : Int32)).toNatClampNeg]? = some (.int 1) := H2.at hin2 rfl
  refine OE.v (X1.iaload hx (j := (1 : Int32)) (v := (.int 1)) (by rw [e1]; exact Ar2.1) (State.isArrayOf_alike hZ.alike Ar2.2.1) Ar2.2.2 hin2 hat2 (g := (mkF m 7 #[rv a, iv 1, iv 1] [(.int 1), (.ref rp)])) rfl rfl (hb hby d5_7)) ?_
  show OE _ _ _ _ (T1.setTop (mkF m 8 #[rv a, iv 1, iv 1] [(.int 1)]))
  refine OE.v (fun t k => XS.iloadN X1.here hx rfl (hb hby d5_8) rfl k) ?_
  show OE _ _ _ _ (T1.setTop (mkF m 9 #[rv a, iv 1, iv 1] [(.int 1), (.int 1)]))
  refine OE.v (fun t k => XS.icmpYes X1.here hx rfl (pc0 := 9) (pc' := 22) rfl (hb hby d5_9) rfl (teq (by decide)).1 (by decide) (by decide) k) ?_
  show OE _ _ _ _ (T1.setTop (mkF m 22 #[rv a, iv 1, iv 1] []))
  refine OE.v (fun t k => XS.iloadN X1.here hx rfl (hb hby d5_22) rfl k) ?_
  show OE _ _ _ _ (T1.setTop (mkF m 23 #[rv a, iv 1, iv 1] [(.int 1)]))
  obtain ⟨fs, hr, hrun, hended, hW, hsame⟩ := X1.leave (v := some (.int 1)) (fun h => by rw [Bd.returns] at h; cases h)
  refine ⟨_, _, ?_, hrun, hended, _, _, rfl, ?_, ⟨_, rfl⟩, hW, hsame.mono (by decide) (by decide)⟩
  · exact retI X1 hx Bd.returns (hb hby d5_23) hr
  · show Qf1_0123 Z a rp kp h0 n0 _ T1.heap _
    rw [e1]
    exact ⟨rfl, N0, rfl⟩

theorem d6_0 : decode prog_53_method_4_code 0 = .ok (.iconst 0, 1) := by decide +kernel
theorem d6_1 : decode prog_53_method_4_code 1 = .ok (.istore_n 2, 1) := by decide +kernel
theorem d6_2 : decode prog_53_method_4_code 2 = .ok (.iload_n 1, 1) := by decide +kernel
theorem d6_3 : decode prog_53_method_4_code 3 = .ok (.istore_n 3, 1) := by decide +kernel
theorem d6_4 : decode prog_53_method_4_code 4 = .ok (.aload_n 0, 1) := by decide +kernel
theorem d6_5 : decode prog_53_method_4_code 5 = .ok (.getfield 7, 3) := by decide +kernel
theorem d6_8 : decode prog_53_method_4_code 8 = .ok (.iload_n 3, 1) := by decide +kernel
theorem d6_9 : decode prog_53_method_4_code 9 = .ok (.iaload, 1) := by decide +kernel
theorem d6_10 : decode prog_53_method_4_code 10 = .ok (.iload_n 3, 1) := by decide +kernel
theorem d6_11 : decode prog_53_method_4_code 11 = .ok (.if_icmp .eq 22, 3) := by decide +kernel
theorem d6_33 : decode prog_53_method_4_code 33 = .ok (.iload_n 2, 1) := by decide +kernel
theorem d6_34 : decode prog_53_method_4_code 34 = .ok (.ireturn, 1) := by decide +kernel
theorem pn_rmo0_0123 : plainName "com/example/stratal/stratal/logic/StratumGroups" = true := by first | (simp [plainName, overriddenIn]; done) | decide +kernel
theorem ef_rmo0_0123 (m : MethodId) (a : Addr) : entryFrame m #[(.ref a), (.int 0)] 4 = mkF m 0 #[rv a, iv 0, .unset, .unset] [] := by first | (simp [entryFrame, mkF, argsToLocals, Value.category]; done) | rfl
def Qo0_0123 (Z : State) (a : Addr) (rp : Addr) (kp : ClassId) (ro : Addr) (ko : ClassId) (ov0 : Int32) (ov1 : Int32) (ov2 : Int32) (ov3 : Int32) (h0 : Heap) (n0 : Nat) (v : Option Value) (h : Heap) (L : List Loc) : Prop := v = some (.int 0) ∧ Fr n0 L ∧ h = h0
set_option maxRecDepth 65536 in
set_option maxHeartbeats 40000000 in
theorem rmo0_0123 (l : Launch) (Z : State) (a0 : Array Value) (hw : ∀ d ∈ tables_1, d.before a0 Z = true) (ws : List Jvm.Cond) (a : Addr) (rp : Addr) (kp : ClassId) (ro : Addr) (ko : ClassId) (ov0 : Int32) (ov1 : Int32) (ov2 : Int32) (ov3 : Int32) (h0 : Heap) (n0 : Nat) (Z0 : n0 ≤ h0.size) (P0 : Fld Z h0 a "com/example/stratal/stratal/logic/StratumGroups" "mParent" "[I" (.ref rp)) (P1 : Arv Z h0 rp kp .int (16 : Int32) [(.int 0), (.int 1), (.int 2), (.int 3)] (.int 0)) (P2 : Fld Z h0 a "com/example/stratal/stratal/logic/StratumGroups" "mOffset" "[I" (.ref ro)) (P3 : Arv Z h0 ro ko .int (16 : Int32) [(.int ov0), (.int ov1), (.int ov2), (.int ov3)] (.int 0)) :
    MetFree l (⟨"com/example/stratal/stratal/logic/StratumGroups", "offset", "(I)I"⟩ : MethodName) (head1 (Jvm.Cond.code (⟨"com/example/stratal/stratal/logic/StratumGroups", "offset", "(I)I"⟩ : MethodName) prog_53_method_4_code 4 (some .int) :: ws) ({ frames := 0, cells := 0, slots := 0, locals := 0 } : Room)) (fun aa U => aa = #[(.ref a), (.int 0)] ∧ Z.Warmed39 U.vm ∧ U.heap = h0) (fun _ _ _ _ _ => True) (fun _ U o U' => ∃ v L, o = .returned v ∧ Qo0_0123 Z a rp kp ro ko ov0 ov1 ov2 ov3 h0 n0 v U'.heap L ∧ FrameEnd U o U' L ({ frames := 0, cells := 0, slots := 0, locals := 0 } : Room).cells ({ frames := 0, cells := 0, slots := 0, locals := 0 } : Room).slots) := by
  refine MetFree.of_bodySF (plainFor_of_name pn_rmo0_0123) hisR ?_
  intro p e s m args below meth c s₁ Bd hml0 hP hK
  obtain ⟨rfl, hZ, hh⟩ := hP
  have hx := Bd.exec
  have hby := Bd.bytes
  have hml : c.maxLocals = 4 := hml0
  have hown : s.vm.findClass "com/example/stratal/stratal/logic/StratumGroups" = some m.cls := findClass_of_methodNamed Bd.named
  have hnm := (name_of_methodNamed Bd.named Bd.method).1
  have X0 : Stand p l e ({ frames := 0, cells := 0, slots := 0, locals := 0 } : Room) s m #[(.ref a), (.int 0)] below meth c s₁ [] 0 0 := Stand.of_body Bd
  have e0 : s₁.heap = h0 := by rw [← hh, Bd.state]; rfl
  have N0 := Fr.nil n0
  change OE p.tables e below _ _
  refine OE.v (fun t k => castTop (ef_rmo0_0123 m a) k) ?_
  show OE _ _ _ _ (s₁.setTop (mkF m 0 #[rv a, iv 0, .unset, .unset] []))
  refine OE.v (fun t k => XS.iconst X0.here hx rfl (hb hby d6_0) k) ?_
  refine OE.v (fun t k => XS.istoreN X0.here hx rfl (hb hby d6_1) rfl (l' := #[rv a, iv 0, iv 0, .unset]) rfl k) ?_
  refine OE.v (fun t k => XS.iloadN X0.here hx rfl (hb hby d6_2) rfl k) ?_
  refine OE.v (fun t k => XS.istoreN X0.here hx rfl (hb hby d6_3) rfl (l' := #[rv a, iv 0, iv 0, iv 0]) rfl k) ?_
  refine OE.v (fun t k => XS.aloadN X0.here hx rfl (hb hby d6_4) rfl rfl k) ?_
  show OE _ _ _ _ (s₁.setTop (mkF m 5 #[rv a, iv 0, iv 0, iv 0] [(.ref a)]))
  obtain ⟨T1, X1, e1, st1⟩ := getF X0 hx hZ hown (host := "") (Or.inl (hw _ (own_w 10 rfl))) Via.refl e0 P0 (g := (mkF m 5 #[rv a, iv 0, iv 0, iv 0] [(.ref a)])) rfl rfl (hb hby d6_5)
  refine OE.v st1 ?_
  show OE _ _ _ _ (T1.setTop (mkF m 8 #[rv a, iv 0, iv 0, iv 0] [(.ref rp)]))
  refine OE.v (fun t k => XS.iloadN X1.here hx rfl (hb hby d6_8) rfl k) ?_
  show OE _ _ _ _ (T1.setTop (mkF m 9 #[rv a, iv 0, iv 0, iv 0] [(.int 0), (.ref rp)]))
  obtain ⟨cl2, Ar2, q2, S2, M2, H2, G2⟩ := id P1
  have hin2 : ¬ ((0 : Int32) < 0 ∨ cl2.slots.size ≤ ((0 : Int32)).toNatClampNeg) := inb_of S2 ⟨by decide, by decide⟩
  have hat2 : cl2.slots[((0 : Int32)).toNatClampNeg]? = some (.int 0) := H2.at hin2 rfl
  refine OE.v (X1.iaload hx (j := (0 : Int32)) (v := (.int 0)) (by rw [e1]; exact Ar2.1) (State.isArrayOf_alike hZ.alike Ar2.2.1) Ar2.2.2 hin2 hat2 (g := (mkF m 9 #[rv a, iv 0, iv 0, iv 0] [(.int 0), (.ref rp)])) rfl rfl (hb hby d6_9)) ?_
  show OE _ _ _ _ (T1.setTop (mkF m 10 #[rv a, iv 0, iv 0, iv 0] [(.int 0)]))
  refine OE.v (fun t k => XS.iloadN X1.here hx rfl (hb hby d6_10) rfl k) ?_
  show OE _ _ _ _ (T1.setTop (mkF m 11 #[rv a, iv 0, iv 0, iv 0] [(.int 0), (.int 0)]))
  refine OE.v (fun t k => XS.icmpYes X1.here hx rfl (pc0 := 11) (pc' := 33) rfl (hb hby d6_11) rfl (teq (by decide)).1 (by decide) (by decide) k) ?_
  show OE _ _ _ _ (T1.setTop (mkF m 33 #[rv a, iv 0, iv 0, iv 0] []))
  refine OE.v (fun t k => XS.iloadN X1.here hx rfl (hb hby d6_33) rfl k) ?_
  show OE _ _ _ _ (T1.setTop (mkF m 34 #[rv a, iv 0, iv 0, iv 0] [(.int 0)]))
  obtain ⟨fs, hr, hrun, hended, hW, hsame⟩ := X1.leave (v := some (.int 0)) (fun h => by rw [Bd.returns] at h; cases h)
  refine ⟨_, _, ?_, hrun, hended, _, _, rfl, ?_, ⟨_, rfl⟩, hW, hsame.mono (by decide) (by decide)⟩
  · exact retI X1 hx Bd.returns (hb hby d6_34) hr
  · show Qo0_0123 Z a rp kp ro ko ov0 ov1 ov2 ov3 h0 n0 _ T1.heap _
    rw [e1]
    exact ⟨rfl, N0, rfl⟩

theorem pn_rmo1_0123 : plainName "com/example/stratal/stratal/logic/StratumGroups" = true := by first | (simp [plainName, overriddenIn]; done) | decide +kernel
theorem ef_rmo1_0123 (m : MethodId) (a : Addr) : entryFrame m #[(.ref a), (.int 1)] 4 = mkF m 0 #[rv a, iv 1, .unset, .unset] [] := by first | (simp [entryFrame, mkF, argsToLocals, Value.category]; done) | rfl
def Qo1_0123 (Z : State) (a : Addr) (rp : Addr) (kp : ClassId) (ro : Addr) (ko : ClassId) (ov0 : Int32) (ov1 : Int32) (ov2 : Int32) (ov3 : Int32) (h0 : Heap) (n0 : Nat) (v : Option Value) (h : Heap) (L : List Loc) : Prop := v = some (.int 0) ∧ Fr n0 L ∧ h = h0
set_option maxRecDepth 65536 in
set_option maxHeartbeats 40000000 in
theorem rmo1_0123 (l : Launch) (Z : State) (a0 : Array Value) (hw : ∀ d ∈ tables_1, d.before a0 Z = true) (ws : List Jvm.Cond) (a : Addr) (rp : Addr) (kp : ClassId) (ro : Addr) (ko : ClassId) (ov0 : Int32) (ov1 : Int32) (ov2 : Int32) (ov3 : Int32) (h0 : Heap) (n0 : Nat) (Z0 : n0 ≤ h0.size) (P0 : Fld Z h0 a "com/example/stratal/stratal/logic/StratumGroups" "mParent" "[I" (.ref rp)) (P1 : Arv Z h0 rp kp .int (16 : Int32) [(.int 0), (.int 1), (.int 2), (.int 3)] (.int 0)) (P2 : Fld Z h0 a "com/example/stratal/stratal/logic/StratumGroups" "mOffset" "[I" (.ref ro)) (P3 : Arv Z h0 ro ko .int (16 : Int32) [(.int ov0), (.int ov1), (.int ov2), (.int ov3)] (.int 0)) :
    MetFree l (⟨"com/example/stratal/stratal/logic/StratumGroups", "offset", "(I)I"⟩ : MethodName) (head1 (Jvm.Cond.code (⟨"com/example/stratal/stratal/logic/StratumGroups", "offset", "(I)I"⟩ : MethodName) prog_53_method_4_code 4 (some .int) :: ws) ({ frames := 0, cells := 0, slots := 0, locals := 0 } : Room)) (fun aa U => aa = #[(.ref a), (.int 1)] ∧ Z.Warmed39 U.vm ∧ U.heap = h0) (fun _ _ _ _ _ => True) (fun _ U o U' => ∃ v L, o = .returned v ∧ Qo1_0123 Z a rp kp ro ko ov0 ov1 ov2 ov3 h0 n0 v U'.heap L ∧ FrameEnd U o U' L ({ frames := 0, cells := 0, slots := 0, locals := 0 } : Room).cells ({ frames := 0, cells := 0, slots := 0, locals := 0 } : Room).slots) := by
  refine MetFree.of_bodySF (plainFor_of_name pn_rmo1_0123) hisR ?_
  intro p e s m args below meth c s₁ Bd hml0 hP hK
  obtain ⟨rfl, hZ, hh⟩ := hP
  have hx := Bd.exec
  have hby := Bd.bytes
  have hml : c.maxLocals = 4 := hml0
  have hown : s.vm.findClass "com/example/stratal/stratal/logic/StratumGroups" = some m.cls := findClass_of_methodNamed Bd.named
  have hnm := (name_of_methodNamed Bd.named Bd.method).1
  have X0 : Stand p l e ({ frames := 0, cells := 0, slots := 0, locals := 0 } : Room) s m #[(.ref a), (.int 1)] below meth c s₁ [] 0 0 := Stand.of_body Bd
  have e0 : s₁.heap = h0 := by rw [← hh, Bd.state]; rfl
  have N0 := Fr.nil n0
  change OE p.tables e below _ _
  refine OE.v (fun t k => castTop (ef_rmo1_0123 m a) k) ?_
  show OE _ _ _ _ (s₁.setTop (mkF m 0 #[rv a, iv 1, .unset, .unset] []))
  refine OE.v (fun t k => XS.iconst X0.here hx rfl (hb hby d6_0) k) ?_
  refine OE.v (fun t k => XS.istoreN X0.here hx rfl (hb hby d6_1) rfl (l' := #[rv a, iv 1, iv 0, .unset]) rfl k) ?_
  refine OE.v (fun t k => XS.iloadN X0.here hx rfl (hb hby d6_2) rfl k) ?_
  refine OE.v (fun t k => XS.istoreN X0.here hx rfl (hb hby d6_3) rfl (l' := #[rv a, iv 1, iv 0, iv 1]) rfl k) ?_
  refine OE.v (fun t k => XS.aloadN X0.here hx rfl (hb hby d6_4) rfl rfl k) ?_
  show OE _ _ _ _ (s₁.setTop (mkF m 5 #[rv a, iv 1, iv 0, iv 1] [(.ref a)]))
  obtain ⟨T1, X1, e1, st1⟩ := getF X0 hx hZ hown (host := "") (Or.inl (hw _ (own_w 10 rfl))) Via.refl e0 P0 (g := (mkF m 5 #[rv a, iv 1, iv 0, iv 1] [(.ref a)])) rfl rfl (hb hby d6_5)
  refine OE.v st1 ?_
  show OE _ _ _ _ (T1.setTop (mkF m 8 #[rv a, iv 1, iv 0, iv 1] [(.ref rp)]))
  refine OE.v (fun t k => XS.iloadN X1.here hx rfl (hb hby d6_8) rfl k) ?_
  show OE _ _ _ _ (T1.setTop (mkF m 9 #[rv a, iv 1, iv 0, iv 1] [(.int 1), (.ref rp)]))
  obtain ⟨cl2, Ar2, q2, S2, M2, H2, G2⟩ := id P1
  have hin2 : ¬ ((1 : Int32) < 0 ∨ cl2.slots.size ≤ ((1 : Int32)).toNatClampNeg) := inb_of S2 ⟨by decide, by decide⟩
  have hat2 : cl2.slots[((1 : Int32)).toNatClampNeg]? = some (.int 1) := H2.at hin2 rfl
  refine OE.v (X1.iaload hx (j := (1 : Int32)) (v := (.int 1)) (by rw [e1]; exact Ar2.1) (State.isArrayOf_alike hZ.alike Ar2.2.1) Ar2.2.2 hin2 hat2 (g := (mkF m 9 #[rv a, iv 1, iv 0, iv 1] [(.int 1), (.ref rp)])) rfl rfl (hb hby d6_9)) ?_
  show OE _ _ _ _ (T1.setTop (mkF m 10 #[rv a, iv 1, iv 0, iv 1] [(.int 1)]))
  refine OE.v (fun t k => XS.iloadN X1.here hx rfl (hb hby d6_10) rfl k) ?_
  show OE _ _ _ _ (T1.setTop (mkF m 11 #[rv a, iv 1, iv 0, iv 1] [(.int 1), (.int 1)]))
  refine OE.v (fun t k => XS.icmpYes X1.here hx rfl (pc0 := 11) (pc' := 33) rfl (hb hby d6_11) rfl (teq (by decide)).1 (by decide) (by decide) k) ?_
  show OE _ _ _ _ (T1.setTop (mkF m 33 #[rv a, iv 1, iv 0, iv 1] []))
  refine OE.v (fun t k => XS.iloadN X1.here hx rfl (hb hby d6_33) rfl k) ?_
  show OE _ _ _ _ (T1.setTop (mkF m 34 #[rv a, iv 1, iv 0, iv 1] [(.int 0)]))
  obtain ⟨fs, hr, hrun, hended, hW, hsame⟩ := X1.leave (v := some (.int 0)) (fun h => by rw [Bd.returns] at h; cases h)
  refine ⟨_, _, ?_, hrun, hended, _, _, rfl, ?_, ⟨_, rfl⟩, hW, hsame.mono (by decide) (by decide)⟩
  · exact retI X1 hx Bd.returns (hb hby d6_34) hr
  · show Qo1_0123 Z a rp kp ro ko ov0 ov1 ov2 ov3 h0 n0 _ T1.heap _
    rw [e1]
    exact ⟨rfl, N0, rfl⟩

theorem d7_0 : decode prog_53_method_11_code 0 = .ok (.aload_n 0, 1) := by decide +kernel
theorem d7_1 : decode prog_53_method_11_code 1 = .ok (.iconst 0, 1) := by decide +kernel
theorem d7_2 : decode prog_53_method_11_code 2 = .ok (.iload_n 1, 1) := by decide +kernel
theorem d7_3 : decode prog_53_method_11_code 3 = .ok (.aload_n 0, 1) := by decide +kernel
theorem d7_4 : decode prog_53_method_11_code 4 = .ok (.getfield 19, 3) := by decide +kernel
theorem d7_7 : decode prog_53_method_11_code 7 = .ok (.iload_n 2, 1) := by decide +kernel
theorem d7_8 : decode prog_53_method_11_code 8 = .ok (.iaload, 1) := by decide +kernel
theorem d7_9 : decode prog_53_method_11_code 9 = .ok (.invokevirtual 45, 3) := by decide +kernel
theorem d7_12 : decode prog_53_method_11_code 12 = .ok (.aload_n 0, 1) := by decide +kernel
theorem d7_13 : decode prog_53_method_11_code 13 = .ok (.getfield 7, 3) := by decide +kernel
theorem d7_16 : decode prog_53_method_11_code 16 = .ok (.iload_n 1, 1) := by decide +kernel
theorem d7_17 : decode prog_53_method_11_code 17 = .ok (.iload_n 2, 1) := by decide +kernel
theorem d7_18 : decode prog_53_method_11_code 18 = .ok (.iastore, 1) := by decide +kernel
theorem d7_19 : decode prog_53_method_11_code 19 = .ok (.aload_n 0, 1) := by decide +kernel
theorem d7_20 : decode prog_53_method_11_code 20 = .ok (.getfield 13, 3) := by decide +kernel
theorem d7_23 : decode prog_53_method_11_code 23 = .ok (.iload_n 1, 1) := by decide +kernel
theorem d7_24 : decode prog_53_method_11_code 24 = .ok (.iload_n 3, 1) := by decide +kernel
theorem d7_25 : decode prog_53_method_11_code 25 = .ok (.iastore, 1) := by decide +kernel
theorem d7_26 : decode prog_53_method_11_code 26 = .ok (.aload_n 0, 1) := by decide +kernel
theorem d7_27 : decode prog_53_method_11_code 27 = .ok (.getfield 16, 3) := by decide +kernel
theorem d7_30 : decode prog_53_method_11_code 30 = .ok (.iload_n 2, 1) := by decide +kernel
theorem d7_31 : decode prog_53_method_11_code 31 = .ok (.dup2, 1) := by decide +kernel
theorem d7_32 : decode prog_53_method_11_code 32 = .ok (.iaload, 1) := by decide +kernel
theorem d7_33 : decode prog_53_method_11_code 33 = .ok (.aload_n 0, 1) := by decide +kernel
theorem d7_34 : decode prog_53_method_11_code 34 = .ok (.getfield 16, 3) := by decide +kernel
theorem d7_37 : decode prog_53_method_11_code 37 = .ok (.iload_n 1, 1) := by decide +kernel
theorem d7_38 : decode prog_53_method_11_code 38 = .ok (.iaload, 1) := by decide +kernel
theorem d7_39 : decode prog_53_method_11_code 39 = .ok (.iadd, 1) := by decide +kernel
theorem d7_40 : decode prog_53_method_11_code 40 = .ok (.iastore, 1) := by decide +kernel
theorem d7_41 : decode prog_53_method_11_code 41 = .ok (.aload_n 0, 1) := by decide +kernel
theorem d7_42 : decode prog_53_method_11_code 42 = .ok (.getfield 19, 3) := by decide +kernel
theorem d7_45 : decode prog_53_method_11_code 45 = .ok (.iload_n 2, 1) := by decide +kernel
theorem d7_46 : decode prog_53_method_11_code 46 = .ok (.aload_n 0, 1) := by decide +kernel
theorem d7_47 : decode prog_53_method_11_code 47 = .ok (.getfield 19, 3) := by decide +kernel
theorem d7_50 : decode prog_53_method_11_code 50 = .ok (.iload_n 2, 1) := by decide +kernel
theorem d7_51 : decode prog_53_method_11_code 51 = .ok (.iaload, 1) := by decide +kernel
theorem d7_52 : decode prog_53_method_11_code 52 = .ok (.aload_n 0, 1) := by decide +kernel
theorem d7_53 : decode prog_53_method_11_code 53 = .ok (.getfield 19, 3) := by decide +kernel
theorem d7_56 : decode prog_53_method_11_code 56 = .ok (.iload_n 1, 1) := by decide +kernel
theorem d7_57 : decode prog_53_method_11_code 57 = .ok (.iaload, 1) := by decide +kernel
theorem d7_58 : decode prog_53_method_11_code 58 = .ok (.iload_n 3, 1) := by decide +kernel
theorem d7_59 : decode prog_53_method_11_code 59 = .ok (.isub, 1) := by decide +kernel
theorem d7_60 : decode prog_53_method_11_code 60 = .ok (.invokestatic 72, 3) := by decide +kernel
theorem d7_63 : decode prog_53_method_11_code 63 = .ok (.iastore, 1) := by decide +kernel
theorem d7_64 : decode prog_53_method_11_code 64 = .ok (.return_, 1) := by decide +kernel
theorem pn_rmH10_0123 : plainName "com/example/stratal/stratal/logic/StratumGroups" = true := by first | (simp [plainName, overriddenIn]; done) | decide +kernel
theorem pd_2 : parseMethodDescriptor "(III)V" = some ⟨[.int, .int, .int], none⟩ := by decide +kernel
theorem pd_3 : parseMethodDescriptor "(II)I" = some ⟨[.int, .int], some .int⟩ := by decide +kernel
theorem ef_rmH10_0123 (m : MethodId) (a : Addr) (dl : Int32) : entryFrame m #[(.ref a), (.int 1), (.int 0), (.int dl)] 4 = mkF m 0 #[rv a, iv 1, iv 0, iv dl] [] := by first | (simp [entryFrame, mkF, argsToLocals, Value.category]; done) | rfl
def QH10_0123 (Z : State) (a : Addr) (rp : Addr) (ro : Addr) (rs : Addr) (rf : Addr) (kp : ClassId) (ko : ClassId) (ks : ClassId) (kf : ClassId) (ov0 : Int32) (ov1 : Int32) (ov2 : Int32) (ov3 : Int32) (fv0 : Int32) (fv1 : Int32) (fv2 : Int32) (fv3 : Int32) (dl : Int32) (h0 : Heap) (n0 : Nat) (v : Option Value) (h : Heap) (L : List Loc) : Prop := v = none ∧ Fr n0 L ∧ Keep h0 h [rp, ro, rs, rf] ∧ Arv Z h rp kp .int (16 : Int32) [(.int 0), (.int 0), (.int 2), (.int 3)] (.int 0) ∧ Arv Z h ro ko .int (16 : Int32) [(.int ov0), (.int dl), (.int ov2), (.int ov3)] (.int 0) ∧ Arv Z h rs ks .int (16 : Int32) [(.int 2), (.int 1), (.int 1), (.int 1)] (.int 0) ∧ Arv Z h rf kf .int (16 : Int32) [(.int (own_max fv0 (fv1 - dl))), (.int fv1), (.int fv2), (.int fv3)] (.int 0)
set_option maxRecDepth 65536 in
set_option maxHeartbeats 40000000 in
theorem rmH10_0123 (l : Launch) (Z : State) (a0 : Array Value) (hw : ∀ d ∈ tables_1, d.before a0 Z = true) (ws : List Jvm.Cond) (a : Addr) (rp : Addr) (ro : Addr) (rs : Addr) (rf : Addr) (kp : ClassId) (ko : ClassId) (ks : ClassId) (kf : ClassId) (ov0 : Int32) (ov1 : Int32) (ov2 : Int32) (ov3 : Int32) (fv0 : Int32) (fv1 : Int32) (fv2 : Int32) (fv3 : Int32) (dl : Int32) (h0 : Heap) (n0 : Nat) (Z0 : n0 ≤ h0.size) (P0 : Exa Z h0 a "com/example/stratal/stratal/logic/StratumGroups") (P1 : Fld Z h0 a "com/example/stratal/stratal/logic/StratumGroups" "mParent" "[I" (.ref rp)) (P2 : Fld Z h0 a "com/example/stratal/stratal/logic/StratumGroups" "mOffset" "[I" (.ref ro)) (P3 : Fld Z h0 a "com/example/stratal/stratal/logic/StratumGroups" "mSize" "[I" (.ref rs)) (P4 : Fld Z h0 a "com/example/stratal/stratal/logic/StratumGroups" "mFloor" "[I" (.ref rf)) (P5 : Fld Z h0 a "com/example/stratal/stratal/logic/StratumGroups" "mRecording" "Z" (.int 0)) (P6 : Arv Z h0 rp kp .int (16 : Int32) [(.int 0), (.int 1), (.int 2), (.int 3)] (.int 0)) (P7 : Arv Z h0 ro ko .int (16 : Int32) [(.int ov0), (.int ov1), (.int ov2), (.int ov3)] (.int 0)) (P8 : Arv Z h0 rs ks .int (16 : Int32) [(.int 1), (.int 1), (.int 1), (.int 1)] (.int 0)) (P9 : Arv Z h0 rf kf .int (16 : Int32) [(.int fv0), (.int fv1), (.int fv2), (.int fv3)] (.int 0)) (P10 : rp ≠ a) (P11 : ro ≠ a) (P12 : rs ≠ a) (P13 : rf ≠ a) (P14 : rp ≠ ro) (P15 : rp ≠ rs) (P16 : rp ≠ rf) (P17 : ro ≠ rs) (P18 : ro ≠ rf) (P19 : rs ≠ rf) (P20 : n0 ≤ rp) (P21 : n0 ≤ ro) (P22 : n0 ≤ rs) (P23 : n0 ≤ rf) :
    MetFree l (⟨"com/example/stratal/stratal/logic/StratumGroups", "hang", "(III)V"⟩ : MethodName) (head1 (Jvm.Cond.code (⟨"com/example/stratal/stratal/logic/StratumGroups", "hang", "(III)V"⟩ : MethodName) prog_53_method_11_code 4 none :: ws) ({ frames := 1, cells := 0, slots := 0, locals := 15 } : Room)) (fun aa U => aa = #[(.ref a), (.int 1), (.int 0), (.int dl)] ∧ Z.Warmed39 U.vm ∧ U.heap = h0) (fun _ _ _ _ _ => True) (fun _ U o U' => ∃ v L, o = .returned v ∧ QH10_0123 Z a rp ro rs rf kp ko ks kf ov0 ov1 ov2 ov3 fv0 fv1 fv2 fv3 dl h0 n0 v U'.heap L ∧ FrameEnd U o U' L ({ frames := 1, cells := 0, slots := 0, locals := 15 } : Room).cells ({ frames := 1, cells := 0, slots := 0, locals := 15 } : Room).slots) := by
  refine MetFree.of_bodySF (plainFor_of_name pn_rmH10_0123) hisR ?_
  intro p e s m args below meth c s₁ Bd hml0 hP hK
  obtain ⟨rfl, hZ, hh⟩ := hP
  have hx := Bd.exec
  have hby := Bd.bytes
  have hml : c.maxLocals = 4 := hml0
  have hown : s.vm.findClass "com/example/stratal/stratal/logic/StratumGroups" = some m.cls := findClass_of_methodNamed Bd.named
  have hnm := (name_of_methodNamed Bd.named Bd.method).1
  have X0 : Stand p l e ({ frames := 1, cells := 0, slots := 0, locals := 15 } : Room) s m #[(.ref a), (.int 1), (.int 0), (.int dl)] below meth c s₁ [] 0 0 := Stand.of_body Bd
  have e0 : s₁.heap = h0 := by rw [← hh, Bd.state]; rfl
  have N0 := Fr.nil n0
  change OE p.tables e below _ _
  refine OE.v (fun t k => castTop (ef_rmH10_0123 m a dl) k) ?_
  show OE _ _ _ _ (s₁.setTop (mkF m 0 #[rv a, iv 1, iv 0, iv dl] []))
  refine OE.v (fun t k => XS.aloadN X0.here hx rfl (hb hby d7_0) rfl rfl k) ?_
  refine OE.v (fun t k => XS.iconst X0.here hx rfl (hb hby d7_1) k) ?_
  refine OE.v (fun t k => XS.iloadN X0.here hx rfl (hb hby d7_2) rfl k) ?_
  refine OE.v (fun t k => XS.aloadN X0.here hx rfl (hb hby d7_3) rfl rfl k) ?_
  show OE _ _ _ _ (s₁.setTop (mkF m 4 #[rv a, iv 1, iv 0, iv dl] [(.ref a), (.int 1), (.int 0), (.ref a)]))
  obtain ⟨T1, X1, e1, st1⟩ := getF X0 hx hZ hown (host := "") (Or.inl (hw _ (own_w 16 rfl))) Via.refl e0 P4 (g := (mkF m 4 #[rv a, iv 1, iv 0, iv dl] [(.ref a), (.int 1), (.int 0), (.ref a)])) rfl rfl (hb hby d7_4)
  refine OE.v st1 ?_
  show OE _ _ _ _ (T1.setTop (mkF m 7 #[rv a, iv 1, iv 0, iv dl] [(.ref rf), (.int 1), (.int 0), (.ref a)]))
  refine OE.v (fun t k => XS.iloadN X1.here hx rfl (hb hby d7_7) rfl k) ?_
  show OE _ _ _ _ (T1.setTop (mkF m 8 #[rv a, iv 1, iv 0, iv dl] [(.int 0), (.ref rf), (.int 1), (.int 0), (.ref a)]))
  obtain ⟨cl2, Ar2, q2, S2, M2, H2, G2⟩ := id P9
  have hin2 : ¬ ((0 : Int32) < 0 ∨ cl2.slots.size ≤ ((0 : Int32)).toNatClampNeg) := inb_of S2 ⟨by decide, by decide⟩
  have hat2 : cl2.slots[((0 : Int32)).toNatClampNeg]? = some (.int fv0) := H2.at hin2 rfl
  refine OE.v (X1.iaload hx (j := (0 : Int32)) (v := (.int fv0)) (by rw [e1]; exact Ar2.1) (State.isArrayOf_alike hZ.alike Ar2.2.1) Ar2.2.2 hin2 hat2 (g := (mkF m 8 #[rv a, iv 1, iv 0, iv dl] [(.int 0), (.ref rf), (.int 1), (.int 0), (.ref a)])) rfl rfl (hb hby d7_8)) ?_
  show OE _ _ _ _ (T1.setTop (mkF m 9 #[rv a, iv 1, iv 0, iv dl] [(.int fv0), (.int 1), (.int 0), (.ref a)]))
  obtain ⟨cq3, q3, q3'⟩ := P0.cell
  obtain ⟨_, _, ⟨T3, L3, k3, n3⟩, -, X3, ⟨Lc3, hQ3, l3, y3, z3⟩, st3⟩ := X1.privateBack hx (y := (⟨"com/example/stratal/stratal/logic/StratumGroups", "record", "(III)V"⟩ : MethodName)) hown (mvT hZ (hw _ (own_w 46 rfl))) (mvT hZ (hw _ (own_w 47 rfl))) (own_selp (mvT hZ (hw _ (own_w 1 rfl))) (Cond.privateMethod_at (mvP hZ (hw _ (own_w 48 rfl)) (args := #[]))) (mvT hZ (hw _ (own_w 47 rfl))) (by decide)) (Cond.privateMethod_at (mvP hZ (hw _ (own_w 48 rfl)) (args := #[]))) (mvT hZ (hw _ (own_w 49 rfl))) (by decide) (backOf (W := 0) (rm8 l Z a0 hw [] a (0 : Int32) (1 : Int32) fv0 h0 n0 Z0 P5) hZ (hw _ (own_w 49 rfl)) (hw _ (own_w 2 rfl)) (by decide) (by decide)) (g := (mkF m 9 #[rv a, iv 1, iv 0, iv dl] [(.int fv0), (.int 1), (.int 0), (.ref a)])) rfl (by rw [hml]; rfl) (Steps.refl _) (a := a) (by rw [e1]; exact q3) q3' (argsL := [(.int 0), (.int 1), (.int fv0)]) (rest := []) (lenOf pd_2 rfl) rfl (Nat.le_of_eq rfl) (hb hby d7_9) (fun _ _ => ⟨rfl, e1, (by decide : 0 + 0 ≤ _), (by decide : 0 + 0 ≤ _)⟩)
  dsimp only [Pt.U, Pt.locs, Pt.cells, Pt.slots] at X3 l3 y3 z3 st3 hQ3
  subst l3 y3 z3
  obtain ⟨rfl, Nq3, e3⟩ := hQ3
  have N3 := Fr.app N0 Nq3
  refine OE.v (fun t k => st3.trans k) ?_
  show OE _ _ _ _ (T3.setTop (mkF m 12 #[rv a, iv 1, iv 0, iv dl] []))
  refine OE.v (fun t k => XS.aloadN X3.here hx rfl (hb hby d7_12) rfl rfl k) ?_
  show OE _ _ _ _ (T3.setTop (mkF m 13 #[rv a, iv 1, iv 0, iv dl] [(.ref a)]))
  obtain ⟨T4, X4, e4, st4⟩ := getF X3 hx hZ hown (host := "") (Or.inl (hw _ (own_w 10 rfl))) Via.refl e3 P1 (g := (mkF m 13 #[rv a, iv 1, iv 0, iv dl] [(.ref a)])) rfl rfl (hb hby d7_13)
  refine OE.v st4 ?_
  show OE _ _ _ _ (T4.setTop (mkF m 16 #[rv a, iv 1, iv 0, iv dl] [(.ref rp)]))
  refine OE.v (fun t k => XS.iloadN X4.here hx rfl (hb hby d7_16) rfl k) ?_
  refine OE.v (fun t k => XS.iloadN X4.here hx rfl (hb hby d7_17) rfl k) ?_
  show OE _ _ _ _ (T4.setTop (mkF m 18 #[rv a, iv 1, iv 0, iv dl] [(.int 0), (.int 1), (.ref rp)]))
  obtain ⟨cl5, Ar5, q5, S5, M5, H5, G5⟩ := id P6
  have hin5 : ¬ ((1 : Int32) < 0 ∨ cl5.slots.size ≤ ((1 : Int32)).toNatClampNeg) := inb_of S5 ⟨by decide, by decide⟩
  obtain ⟨T5, h5, X5, e5, W5, st5⟩ := stI X4 hx hZ e4 Ar5 (j := (1 : Int32)) hin5 (g := (mkF m 18 #[rv a, iv 1, iv 0, iv dl] [(.int 0), (.int 1), (.ref rp)])) rfl rfl (hb hby d7_18)
  have V5 : Arv Z h5 rp kp .int (16 : Int32) [(.int 0), (.int 0), (.int 2), (.int 3)] (.int 0) := Arv.set Ar5 q5 S5 M5 H5 G5 rfl W5 1 rfl (Nat.le_of_ble_eq_true rfl)
  have N5 := Fr.snoc X5 N3 P20
  have Z5 : n0 ≤ h5.size := Nat.le_trans Z0 (Nat.le_of_eq W5.size.symm)
  have K5 : Keep h0 h5 [rp, ro, rs, rf] := (Keep.refl h0 [rp, ro, rs, rf]).wr W5 (Or.inl (by simp))
  refine OE.v st5 ?_
  show OE _ _ _ _ (T5.setTop (mkF m 19 #[rv a, iv 1, iv 0, iv dl] []))
  refine OE.v (fun t k => XS.aloadN X5.here hx rfl (hb hby d7_19) rfl rfl k) ?_
  show OE _ _ _ _ (T5.setTop (mkF m 20 #[rv a, iv 1, iv 0, iv dl] [(.ref a)]))
  obtain ⟨T6, X6, e6, st6⟩ := getF X5 hx hZ hown (host := "") (Or.inl (hw _ (own_w 12 rfl))) Via.refl e5 (P2.other W5 (Or.inl (Ne.symm P10))) (g := (mkF m 20 #[rv a, iv 1, iv 0, iv dl] [(.ref a)])) rfl rfl (hb hby d7_20)
  refine OE.v st6 ?_
  show OE _ _ _ _ (T6.setTop (mkF m 23 #[rv a, iv 1, iv 0, iv dl] [(.ref ro)]))
  refine OE.v (fun t k => XS.iloadN X6.here hx rfl (hb hby d7_23) rfl k) ?_
  refine OE.v (fun t k => XS.iloadN X6.here hx rfl (hb hby d7_24) rfl k) ?_
  show OE _ _ _ _ (T6.setTop (mkF m 25 #[rv a, iv 1, iv 0, iv dl] [(.int dl), (.int 1), (.ref ro)]))
  obtain ⟨cl7, Ar7, q7, S7, M7, H7, G7⟩ := id (P7.other W5 (Ne.symm P14))
  have hin7 : ¬ ((1 : Int32) < 0 ∨ cl7.slots.size ≤ ((1 : Int32)).toNatClampNeg) := inb_of S7 ⟨by decide, by decide⟩
  obtain ⟨T7, h7, X7, e7, W7, st7⟩ := stI X6 hx hZ e6 Ar7 (j := (1 : Int32)) hin7 (g := (mkF m 25 #[rv a, iv 1, iv 0, iv dl] [(.int dl), (.int 1), (.ref ro)])) rfl rfl (hb hby d7_25)
  have V7 : Arv Z h7 ro ko .int (16 : Int32) [(.int ov0), (.int dl), (.int ov2), (.int ov3)] (.int 0) := Arv.set Ar7 q7 S7 M7 H7 G7 rfl W7 1 rfl (Nat.le_of_ble_eq_true rfl)
  have N7 := Fr.snoc X7 N5 P21
  have Z7 : n0 ≤ h7.size := Nat.le_trans Z5 (Nat.le_of_eq W7.size.symm)
  have K7 : Keep h0 h7 [rp, ro, rs, rf] := K5.wr W7 (Or.inl (by simp))
  refine OE.v st7 ?_
  show OE _ _ _ _ (T7.setTop (mkF m 26 #[rv a, iv 1, iv 0, iv dl] []))
  refine OE.v (fun t k => XS.aloadN X7.here hx rfl (hb hby d7_26) rfl rfl k) ?_
  show OE _ _ _ _ (T7.setTop (mkF m 27 #[rv a, iv 1, iv 0, iv dl] [(.ref a)]))
  obtain ⟨T8, X8, e8, st8⟩ := getF X7 hx hZ hown (host := "") (Or.inl (hw _ (own_w 14 rfl))) Via.refl e7 ((P3.other W5 (Or.inl (Ne.symm P10))).other W7 (Or.inl (Ne.symm P11))) (g := (mkF m 27 #[rv a, iv 1, iv 0, iv dl] [(.ref a)])) rfl rfl (hb hby d7_27)
  refine OE.v st8 ?_
  show OE _ _ _ _ (T8.setTop (mkF m 30 #[rv a, iv 1, iv 0, iv dl] [(.ref rs)]))
  refine OE.v (fun t k => XS.iloadN X8.here hx rfl (hb hby d7_30) rfl k) ?_
  show OE _ _ _ _ (T8.setTop (mkF m 31 #[rv a, iv 1, iv 0, iv dl] [(.int 0), (.ref rs)]))
  refine OE.v (fun t k => Jvm.Free.XT.dup2 X8.here hx rfl (hb hby d7_31) rfl rfl rfl k) ?_
  show OE _ _ _ _ (T8.setTop (mkF m 32 #[rv a, iv 1, iv 0, iv dl] [(.int 0), (.ref rs), (.int 0), (.ref rs)]))
  obtain ⟨cl9, Ar9, q9, S9, M9, H9, G9⟩ := id ((P8.other W5 (Ne.symm P15)).other W7 (Ne.symm P17))
  have hin9 : ¬ ((0 : Int32) < 0 ∨ cl9.slots.size ≤ ((0 : Int32)).toNatClampNeg) := inb_of S9 ⟨by decide, by decide⟩
  have hat9 : cl9.slots[((0 : Int32)).toNatClampNeg]? = some (.int 1) := H9.at hin9 rfl
  refine OE.v (X8.iaload hx (j := (0 : Int32)) (v := (.int 1)) (by rw [e8]; exact Ar9.1) (State.isArrayOf_alike hZ.alike Ar9.2.1) Ar9.2.2 hin9 hat9 (g := (mkF m 32 #[rv a, iv 1, iv 0, iv dl] [(.int 0), (.ref rs), (.int 0), (.ref rs)])) rfl rfl (hb hby d7_32)) ?_
  show OE _ _ _ _ (T8.setTop (mkF m 33 #[rv a, iv 1, iv 0, iv dl] [(.int 1), (.int 0), (.ref rs)]))
  refine OE.v (fun t k => XS.aloadN X8.here hx rfl (hb hby d7_33) rfl rfl k) ?_
  show OE _ _ _ _ (T8.setTop (mkF m 34 #[rv a, iv 1, iv 0, iv dl] [(.ref a), (.int 1), (.int 0), (.ref rs)]))
  obtain ⟨T10, X10, e10, st10⟩ := getF X8 hx hZ hown (host := "") (Or.inl (hw _ (own_w 14 rfl))) Via.refl e8 ((P3.other W5 (Or.inl (Ne.symm P10))).other W7 (Or.inl (Ne.symm P11))) (g := (mkF m 34 #[rv a, iv 1, iv 0, iv dl] [(.ref a), (.int 1), (.int 0), (.ref rs)])) rfl rfl (hb hby d7_34)
  refine OE.v st10 ?_
  show OE _ _ _ _ (T10.setTop (mkF m 37 #[rv a, iv 1, iv 0, iv dl] [(.ref rs), (.int 1), (.int 0), (.ref rs)]))
  refine OE.v (fun t k => XS.iloadN X10.here hx rfl (hb hby d7_37) rfl k) ?_
  show OE _ _ _ _ (T10.setTop (mkF m 38 #[rv a, iv 1, iv 0, iv dl] [(.int 1), (.ref rs), (.int 1), (.int 0), (.ref rs)]))
  obtain ⟨cl11, Ar11, q11, S11, M11, H11, G11⟩ := id ((P8.other W5 (Ne.symm P15)).other W7 (Ne.symm P17))
  have hin11 : ¬ ((1 : Int32) < 0 ∨ cl11.slots.size ≤ ((1 : Int32)).toNatClampNeg) := inb_of S11 ⟨by decide, by decide⟩
  have hat11 : cl11.slots[((1 : Int32)).toNatClampNeg]? = some (.int 1) := H11.at hin11 rfl
  refine OE.v (X10.iaload hx (j := (1 : Int32)) (v := (.int 1)) (by rw [e10]; exact Ar11.1) (State.isArrayOf_alike hZ.alike Ar11.2.1) Ar11.2.2 hin11 hat11 (g := (mkF m 38 #[rv a, iv 1, iv 0, iv dl] [(.int 1), (.ref rs), (.int 1), (.int 0), (.ref rs)])) rfl rfl (hb hby d7_38)) ?_
  show OE _ _ _ _ (T10.setTop (mkF m 39 #[rv a, iv 1, iv 0, iv dl] [(.int 1), (.int 1), (.int 0), (.ref rs)]))
  refine OE.v (fun t k => XS.iadd X10.here hx rfl (hb hby d7_39) rfl k) ?_
  show OE _ _ _ _ (T10.setTop (mkF m 40 #[rv a, iv 1, iv 0, iv dl] [(.int 2), (.int 0), (.ref rs)]))
  obtain ⟨cl12, Ar12, q12, S12, M12, H12, G12⟩ := id ((P8.other W5 (Ne.symm P15)).other W7 (Ne.symm P17))
  have hin12 : ¬ ((0 : Int32) < 0 ∨ cl12.slots.size ≤ ((0 : Int32)).toNatClampNeg) := inb_of S12 ⟨by decide, by decide⟩
  obtain ⟨T12, h12, X12, e12, W12, st12⟩ := stI X10 hx hZ e10 Ar12 (j := (0 : Int32)) hin12 (g := (mkF m 40 #[rv a, iv 1, iv 0, iv dl] [(.int 2), (.int 0), (.ref rs)])) rfl rfl (hb hby d7_40)
  have V12 : Arv Z h12 rs ks .int (16 : Int32) [(.int 2), (.int 1), (.int 1), (.int 1)] (.int 0) := Arv.set Ar12 q12 S12 M12 H12 G12 rfl W12 0 rfl (Nat.le_of_ble_eq_true rfl)
  have N12 := Fr.snoc X12 N7 P22
  have Z12 : n0 ≤ h12.size := Nat.le_trans Z7 (Nat.le_of_eq W12.size.symm)
  have K12 : Keep h0 h12 [rp, ro, rs, rf] := K7.wr W12 (Or.inl (by simp))
  refine OE.v st12 ?_
  show OE _ _ _ _ (T12.setTop (mkF m 41 #[rv a, iv 1, iv 0, iv dl] []))
  refine OE.v (fun t k => XS.aloadN X12.here hx rfl (hb hby d7_41) rfl rfl k) ?_
  show OE _ _ _ _ (T12.setTop (mkF m 42 #[rv a, iv 1, iv 0, iv dl] [(.ref a)]))
  obtain ⟨T13, X13, e13, st13⟩ := getF X12 hx hZ hown (host := "") (Or.inl (hw _ (own_w 16 rfl))) Via.refl e12 (((P4.other W5 (Or.inl (Ne.symm P10))).other W7 (Or.inl (Ne.symm P11))).other W12 (Or.inl (Ne.symm P12))) (g := (mkF m 42 #[rv a, iv 1, iv 0, iv dl] [(.ref a)])) rfl rfl (hb hby d7_42)
  refine OE.v st13 ?_
  show OE _ _ _ _ (T13.setTop (mkF m 45 #[rv a, iv 1, iv 0, iv dl] [(.ref rf)]))
  refine OE.v (fun t k => XS.iloadN X13.here hx rfl (hb hby d7_45) rfl k) ?_
  refine OE.v (fun t k => XS.aloadN X13.here hx rfl (hb hby d7_46) rfl rfl k) ?_
  show OE _ _ _ _ (T13.setTop (mkF m 47 #[rv a, iv 1, iv 0, iv dl] [(.ref a), (.int 0), (.ref rf)]))
  obtain ⟨T14, X14, e14, st14⟩ := getF X13 hx hZ hown (host := "") (Or.inl (hw _ (own_w 16 rfl))) Via.refl e13 (((P4.other W5 (Or.inl (Ne.symm P10))).other W7 (Or.inl (Ne.symm P11))).other W12 (Or.inl (Ne.symm P12))) (g := (mkF m 47 #[rv a, iv 1, iv 0, iv dl] [(.ref a), (.int 0), (.ref rf)])) rfl rfl (hb hby d7_47)
  refine OE.v st14 ?_
  show OE _ _ _ _ (T14.setTop (mkF m 50 #[rv a, iv 1, iv 0, iv dl] [(.ref rf), (.int 0), (.ref rf)]))
  refine OE.v (fun t k => XS.iloadN X14.here hx rfl (hb hby d7_50) rfl k) ?_
  show OE _ _ _ _ (T14.setTop (mkF m 51 #[rv a, iv 1, iv 0, iv dl] [(.int 0), (.ref rf), (.int 0), (.ref rf)]))
  obtain ⟨cl15, Ar15, q15, S15, M15, H15, G15⟩ := id (((P9.other W5 (Ne.symm P16)).other W7 (Ne.symm P18)).other W12 (Ne.symm P19))
  have hin15 : ¬ ((0 : Int32) < 0 ∨ cl15.slots.size ≤ ((0 : Int32)).toNatClampNeg) := inb_of S15 ⟨by decide, by decide⟩
  have hat15 : cl15.slots[((0 : Int32)).toNatClampNeg]? = some (.int fv0) := H15.at hin15 rfl
  refine OE.v (X14.iaload hx (j := (0 : Int32)) (v := (.int fv0)) (by rw [e14]; exact Ar15.1) (State.isArrayOf_alike hZ.alike Ar15.2.1) Ar15.2.2 hin15 hat15 (g := (mkF m 51 #[rv a, iv 1, iv 0, iv dl] [(.int 0), (.ref rf), (.int 0), (.ref rf)])) rfl rfl (hb hby d7_51)) ?_
  show OE _ _ _ _ (T14.setTop (mkF m 52 #[rv a, iv 1, iv 0, iv dl] [(.int fv0), (.int 0), (.ref rf)]))
  refine OE.v (fun t k => XS.aloadN X14.here hx rfl (hb hby d7_52) rfl rfl k) ?_
  show OE _ _ _ _ (T14.setTop (mkF m 53 #[rv a, iv 1, iv 0, iv dl] [(.ref a), (.int fv0), (.int 0), (.ref rf)]))
  obtain ⟨T16, X16, e16, st16⟩ := getF X14 hx hZ hown (host := "") (Or.inl (hw _ (own_w 16 rfl))) Via.refl e14 (((P4.other W5 (Or.inl (Ne.symm P10))).other W7 (Or.inl (Ne.symm P11))).other W12 (Or.inl (Ne.symm P12))) (g := (mkF m 53 #[rv a, iv 1, iv 0, iv dl] [(.ref a), (.int fv0), (.int 0), (.ref rf)])) rfl rfl (hb hby d7_53)
  refine OE.v st16 ?_
  show OE _ _ _ _ (T16.setTop (mkF m 56 #[rv a, iv 1, iv 0, iv dl] [(.ref rf), (.int fv0), (.int 0), (.ref rf)]))
  refine OE.v (fun t k => XS.iloadN X16.here hx rfl (hb hby d7_56) rfl k) ?_
  show OE _ _ _ _ (T16.setTop (mkF m 57 #[rv a, iv 1, iv 0, iv dl] [(.int 1), (.ref rf), (.int fv0), (.int 0), (.ref rf)]))
  obtain ⟨cl17, Ar17, q17, S17, M17, H17, G17⟩ := id (((P9.other W5 (Ne.symm P16)).other W7 (Ne.symm P18)).other W12 (Ne.symm P19))
  have hin17 : ¬ ((1 : Int32) < 0 ∨ cl17.slots.size ≤ ((1 : Int32)).toNatClampNeg) := inb_of S17 ⟨by decide, by decide⟩
  have hat17 : cl17.slots[((1 : Int32)).toNatClampNeg]? = some (.int fv1) := H17.at hin17 rfl
  refine OE.v (X16.iaload hx (j := (1 : Int32)) (v := (.int fv1)) (by rw [e16]; exact Ar17.1) (State.isArrayOf_alike hZ.alike Ar17.2.1) Ar17.2.2 hin17 hat17 (g := (mkF m 57 #[rv a, iv 1, iv 0, iv dl] [(.int 1), (.ref rf), (.int fv0), (.int 0), (.ref rf)])) rfl rfl (hb hby d7_57)) ?_
  show OE _ _ _ _ (T16.setTop (mkF m 58 #[rv a, iv 1, iv 0, iv dl] [(.int fv1), (.int fv0), (.int 0), (.ref rf)]))
  refine OE.v (fun t k => XS.iloadN X16.here hx rfl (hb hby d7_58) rfl k) ?_
  refine OE.v (fun t k => XS.isub X16.here hx rfl (hb hby d7_59) rfl k) ?_
  show OE _ _ _ _ (T16.setTop (mkF m 60 #[rv a, iv 1, iv 0, iv dl] [(.int (fv1 - dl)), (.int fv0), (.int 0), (.ref rf)]))
  obtain ⟨_, _, ⟨T18, L18, k18, n18⟩, -, X18, ⟨Lc18, hQ18, l18, y18, z18⟩, st18⟩ := Jvm.LawKit.callS X16 hx (y := (⟨"java/lang/Math", "max", "(II)I"⟩ : MethodName)) hown (mvT hZ (hw _ (own_w 52 rfl))) (mvT hZ (hw _ (own_w 53 rfl))) (mvT hZ (hw _ (own_w 54 rfl))) (mvT hZ (hw _ (own_w 55 rfl))) (by decide) (backOf (W := 2) (rm9 l Z a0 hw [] fv0 (fv1 - dl) h12 n0 Z12 ) hZ (hw _ (own_w 55 rfl)) (hw _ (own_w 54 rfl)) (by decide) (by decide)) (g := (mkF m 60 #[rv a, iv 1, iv 0, iv dl] [(.int (fv1 - dl)), (.int fv0), (.int 0), (.ref rf)])) rfl (by rw [hml]; rfl) (argsL := [(.int fv0), (.int (fv1 - dl))]) (rest := [(.int 0), (.ref rf)]) (lenOf pd_3 rfl) rfl (Nat.le_of_eq rfl) (hb hby d7_60) (fun _ _ => ⟨rfl, e16, (by decide : 0 + 0 ≤ _), (by decide : 0 + 0 ≤ _)⟩)
  dsimp only [Pt.U, Pt.locs, Pt.cells, Pt.slots] at X18 l18 y18 z18 st18 hQ18
  subst l18 y18 z18
  obtain ⟨rfl, Nq18, e18⟩ := hQ18
  have N18 := Fr.app N12 Nq18
  refine OE.v st18 ?_
  show OE _ _ _ _ (T18.setTop (mkF m 63 #[rv a, iv 1, iv 0, iv dl] [(.int (own_max fv0 (fv1 - dl))), (.int 0), (.ref rf)]))
  obtain ⟨cl19, Ar19, q19, S19, M19, H19, G19⟩ := id (((P9.other W5 (Ne.symm P16)).other W7 (Ne.symm P18)).other W12 (Ne.symm P19))
  have hin19 : ¬ ((0 : Int32) < 0 ∨ cl19.slots.size ≤ ((0 : Int32)).toNatClampNeg) := inb_of S19 ⟨by decide, by decide⟩
  obtain ⟨T19, h19, X19, e19, W19, st19⟩ := stI X18 hx hZ e18 Ar19 (j := (0 : Int32)) hin19 (g := (mkF m 63 #[rv a, iv 1, iv 0, iv dl] [(.int (own_max fv0 (fv1 - dl))), (.int 0), (.ref rf)])) rfl rfl (hb hby d7_63)
  have V19 : Arv Z h19 rf kf .int (16 : Int32) [(.int (own_max fv0 (fv1 - dl))), (.int fv1), (.int fv2), (.int fv3)] (.int 0) := Arv.set Ar19 q19 S19 M19 H19 G19 rfl W19 0 rfl (Nat.le_of_ble_eq_true rfl)
  have N19 := Fr.snoc X19 N18 P23
  have Z19 : n0 ≤ h19.size := Nat.le_trans Z12 (Nat.le_of_eq W19.size.symm)
  have K19 : Keep h0 h19 [rp, ro, rs, rf] := K12.wr W19 (Or.inl (by simp))
  refine OE.v st19 ?_
  show OE _ _ _ _ (T19.setTop (mkF m 64 #[rv a, iv 1, iv 0, iv dl] []))
  obtain ⟨fs, hr, hrun, hended, hW, hsame⟩ := X19.leave (v := none) (fun _ => rfl)
  refine ⟨_, _, ?_, hrun, hended, _, _, rfl, ?_, ⟨_, rfl⟩, hW, hsame.mono (by decide) (by decide)⟩
  · exact X19.returnOut hx Bd.returns (hb hby d7_64) hr
  · show QH10_0123 Z a rp ro rs rf kp ko ks kf ov0 ov1 ov2 ov3 fv0 fv1 fv2 fv3 dl h0 n0 _ T19.heap _
    rw [e19]
    exact ⟨rfl, N19, K19, (((V5.other W7 P14).other W12 P15).other W19 P16), ((V7.other W12 P17).other W19 P18), (V12.other W19 P19), V19⟩

theorem d4_0 : decode prog_53_method_5_code 0 = .ok (.aload_n 0, 1) := by decide +kernel
theorem d4_1 : decode prog_53_method_5_code 1 = .ok (.iload_n 1, 1) := by decide +kernel
theorem d4_2 : decode prog_53_method_5_code 2 = .ok (.invokevirtual 35, 3) := by decide +kernel
theorem d4_5 : decode prog_53_method_5_code 5 = .ok (.istore 4, 2) := by decide +kernel
theorem d4_7 : decode prog_53_method_5_code 7 = .ok (.aload_n 0, 1) := by decide +kernel
theorem d4_8 : decode prog_53_method_5_code 8 = .ok (.iload_n 2, 1) := by decide +kernel
theorem d4_9 : decode prog_53_method_5_code 9 = .ok (.invokevirtual 35, 3) := by decide +kernel
theorem d4_12 : decode prog_53_method_5_code 12 = .ok (.istore 5, 2) := by decide +kernel
theorem d4_14 : decode prog_53_method_5_code 14 = .ok (.aload_n 0, 1) := by decide +kernel
theorem d4_15 : decode prog_53_method_5_code 15 = .ok (.iload_n 1, 1) := by decide +kernel
theorem d4_16 : decode prog_53_method_5_code 16 = .ok (.invokevirtual 39, 3) := by decide +kernel
theorem d4_19 : decode prog_53_method_5_code 19 = .ok (.istore 6, 2) := by decide +kernel
theorem d4_21 : decode prog_53_method_5_code 21 = .ok (.aload_n 0, 1) := by decide +kernel
theorem d4_22 : decode prog_53_method_5_code 22 = .ok (.iload_n 2, 1) := by decide +kernel
theorem d4_23 : decode prog_53_method_5_code 23 = .ok (.invokevirtual 39, 3) := by decide +kernel
theorem d4_26 : decode prog_53_method_5_code 26 = .ok (.istore 7, 2) := by decide +kernel
theorem d4_28 : decode prog_53_method_5_code 28 = .ok (.iload 4, 2) := by decide +kernel
theorem d4_30 : decode prog_53_method_5_code 30 = .ok (.iload 5, 2) := by decide +kernel
theorem d4_32 : decode prog_53_method_5_code 32 = .ok (.if_icmp .ne 35, 3) := by decide +kernel
theorem d4_67 : decode prog_53_method_5_code 67 = .ok (.aload_n 0, 1) := by decide +kernel
theorem d4_68 : decode prog_53_method_5_code 68 = .ok (.getfield 16, 3) := by decide +kernel
theorem d4_71 : decode prog_53_method_5_code 71 = .ok (.iload 4, 2) := by decide +kernel
theorem d4_73 : decode prog_53_method_5_code 73 = .ok (.iaload, 1) := by decide +kernel
theorem d4_74 : decode prog_53_method_5_code 74 = .ok (.aload_n 0, 1) := by decide +kernel
theorem d4_75 : decode prog_53_method_5_code 75 = .ok (.getfield 16, 3) := by decide +kernel
theorem d4_78 : decode prog_53_method_5_code 78 = .ok (.iload 5, 2) := by decide +kernel
theorem d4_80 : decode prog_53_method_5_code 80 = .ok (.iaload, 1) := by decide +kernel
theorem d4_81 : decode prog_53_method_5_code 81 = .ok (.if_icmp .ge 20, 3) := by decide +kernel
theorem d4_101 : decode prog_53_method_5_code 101 = .ok (.aload_n 0, 1) := by decide +kernel
theorem d4_102 : decode prog_53_method_5_code 102 = .ok (.iload 5, 2) := by decide +kernel
theorem d4_104 : decode prog_53_method_5_code 104 = .ok (.iload 4, 2) := by decide +kernel
theorem d4_106 : decode prog_53_method_5_code 106 = .ok (.iload 6, 2) := by decide +kernel
theorem d4_108 : decode prog_53_method_5_code 108 = .ok (.iload_n 3, 1) := by decide +kernel
theorem d4_109 : decode prog_53_method_5_code 109 = .ok (.iadd, 1) := by decide +kernel
theorem d4_110 : decode prog_53_method_5_code 110 = .ok (.iload 7, 2) := by decide +kernel
theorem d4_112 : decode prog_53_method_5_code 112 = .ok (.isub, 1) := by decide +kernel
theorem d4_113 : decode prog_53_method_5_code 113 = .ok (.invokevirtual 49, 3) := by decide +kernel
theorem d4_116 : decode prog_53_method_5_code 116 = .ok (.iload_n 2, 1) := by decide +kernel
theorem d4_117 : decode prog_53_method_5_code 117 = .ok (.ireturn, 1) := by decide +kernel
theorem pn_rmJ01_0123 : plainName "com/example/stratal/stratal/logic/StratumGroups" = true := by first | (simp [plainName, overriddenIn]; done) | decide +kernel
theorem pd_4 : parseMethodDescriptor "(I)I" = some ⟨[.int], some .int⟩ := by decide +kernel
theorem ef_rmJ01_0123 (m : MethodId) (a : Addr) (jr : Int32) : entryFrame m #[(.ref a), (.int 0), (.int 1), (.int jr)] 8 = mkF m 0 #[rv a, iv 0, iv 1, iv jr, .unset, .unset, .unset, .unset] [] := by first | (simp [entryFrame, mkF, argsToLocals, Value.category]; done) | rfl
def QJ01_0123 (Z : State) (a : Addr) (rp : Addr) (ro : Addr) (rs : Addr) (rf : Addr) (kp : ClassId) (ko : ClassId) (ks : ClassId) (kf : ClassId) (ov0 : Int32) (ov1 : Int32) (ov2 : Int32) (ov3 : Int32) (fv0 : Int32) (fv1 : Int32) (fv2 : Int32) (fv3 : Int32) (jr : Int32) (h0 : Heap) (n0 : Nat) (v : Option Value) (h : Heap) (L : List Loc) : Prop := v = some (.int 1) ∧ Fr n0 L ∧ Keep h0 h [rp, ro, rs, rf] ∧ Arv Z h rp kp .int (16 : Int32) [(.int 0), (.int 0), (.int 2), (.int 3)] (.int 0) ∧ Arv Z h ro ko .int (16 : Int32) [(.int ov0), (.int (((0 : Int32) + jr) - (0 : Int32))), (.int ov2), (.int ov3)] (.int 0) ∧ Arv Z h rs ks .int (16 : Int32) [(.int 2), (.int 1), (.int 1), (.int 1)] (.int 0) ∧ Arv Z h rf kf .int (16 : Int32) [(.int (own_max fv0 (fv1 - (((0 : Int32) + jr) - (0 : Int32))))), (.int fv1), (.int fv2), (.int fv3)] (.int 0)
set_option maxRecDepth 65536 in
set_option maxHeartbeats 40000000 in
theorem rmJ01_0123 (l : Launch) (Z : State) (a0 : Array Value) (hw : ∀ d ∈ tables_1, d.before a0 Z = true) (ws : List Jvm.Cond) (a : Addr) (rp : Addr) (ro : Addr) (rs : Addr) (rf : Addr) (kp : ClassId) (ko : ClassId) (ks : ClassId) (kf : ClassId) (ov0 : Int32) (ov1 : Int32) (ov2 : Int32) (ov3 : Int32) (fv0 : Int32) (fv1 : Int32) (fv2 : Int32) (fv3 : Int32) (jr : Int32) (h0 : Heap) (n0 : Nat) (Z0 : n0 ≤ h0.size) (P0 : Exa Z h0 a "com/example/stratal/stratal/logic/StratumGroups") (P1 : Fld Z h0 a "com/example/stratal/stratal/logic/StratumGroups" "mParent" "[I" (.ref rp)) (P2 : Fld Z h0 a "com/example/stratal/stratal/logic/StratumGroups" "mOffset" "[I" (.ref ro)) (P3 : Fld Z h0 a "com/example/stratal/stratal/logic/StratumGroups" "mSize" "[I" (.ref rs)) (P4 : Fld Z h0 a "com/example/stratal/stratal/logic/StratumGroups" "mFloor" "[I" (.ref rf)) (P5 : Fld Z h0 a "com/example/stratal/stratal/logic/StratumGroups" "mRecording" "Z" (.int 0)) (P6 : Arv Z h0 rp kp .int (16 : Int32) [(.int 0), (.int 1), (.int 2), (.int 3)] (.int 0)) (P7 : Arv Z h0 ro ko .int (16 : Int32) [(.int ov0), (.int ov1), (.int ov2), (.int ov3)] (.int 0)) (P8 : Arv Z h0 rs ks .int (16 : Int32) [(.int 1), (.int 1), (.int 1), (.int 1)] (.int 0)) (P9 : Arv Z h0 rf kf .int (16 : Int32) [(.int fv0), (.int fv1), (.int fv2), (.int fv3)] (.int 0)) (P10 : rp ≠ a) (P11 : ro ≠ a) (P12 : rs ≠ a) (P13 : rf ≠ a) (P14 : rp ≠ ro) (P15 : rp ≠ rs) (P16 : rp ≠ rf) (P17 : ro ≠ rs) (P18 : ro ≠ rf) (P19 : rs ≠ rf) (P20 : n0 ≤ rp) (P21 : n0 ≤ ro) (P22 : n0 ≤ rs) (P23 : n0 ≤ rf) :
    MetFree l (⟨"com/example/stratal/stratal/logic/StratumGroups", "join", "(III)I"⟩ : MethodName) (head1 (Jvm.Cond.code (⟨"com/example/stratal/stratal/logic/StratumGroups", "join", "(III)I"⟩ : MethodName) prog_53_method_5_code 8 (some .int) :: ws) ({ frames := 2, cells := 0, slots := 0, locals := 30 } : Room)) (fun aa U => aa = #[(.ref a), (.int 0), (.int 1), (.int jr)] ∧ Z.Warmed39 U.vm ∧ U.heap = h0) (fun _ _ _ _ _ => True) (fun _ U o U' => ∃ v L, o = .returned v ∧ QJ01_0123 Z a rp ro rs rf kp ko ks kf ov0 ov1 ov2 ov3 fv0 fv1 fv2 fv3 jr h0 n0 v U'.heap L ∧ FrameEnd U o U' L ({ frames := 2, cells := 0, slots := 0, locals := 30 } : Room).cells ({ frames := 2, cells := 0, slots := 0, locals := 30 } : Room).slots) := by
  refine MetFree.of_bodySF (plainFor_of_name pn_rmJ01_0123) hisR ?_
  intro p e s m args below meth c s₁ Bd hml0 hP hK
  obtain ⟨rfl, hZ, hh⟩ := hP
  have hx := Bd.exec
  have hby := Bd.bytes
  have hml : c.maxLocals = 8 := hml0
  have hown : s.vm.findClass "com/example/stratal/stratal/logic/StratumGroups" = some m.cls := findClass_of_methodNamed Bd.named
  have hnm := (name_of_methodNamed Bd.named Bd.method).1
  have X0 : Stand p l e ({ frames := 2, cells := 0, slots := 0, locals := 30 } : Room) s m #[(.ref a), (.int 0), (.int 1), (.int jr)] below meth c s₁ [] 0 0 := Stand.of_body Bd
  have e0 : s₁.heap = h0 := by rw [← hh, Bd.state]; rfl
  have N0 := Fr.nil n0
  change OE p.tables e below _ _
  refine OE.v (fun t k => castTop (ef_rmJ01_0123 m a jr) k) ?_
  show OE _ _ _ _ (s₁.setTop (mkF m 0 #[rv a, iv 0, iv 1, iv jr, .unset, .unset, .unset, .unset] []))
  refine OE.v (fun t k => XS.aloadN X0.here hx rfl (hb hby d4_0) rfl rfl k) ?_
  refine OE.v (fun t k => XS.iloadN X0.here hx rfl (hb hby d4_1) rfl k) ?_
  show OE _ _ _ _ (s₁.setTop (mkF m 2 #[rv a, iv 0, iv 1, iv jr, .unset, .unset, .unset, .unset] [(.int 0), (.ref a)]))
  obtain ⟨cq1, kq1, q1a, q1b, q1c⟩ := isOf hZ e0 P0
  obtain ⟨_, _, ⟨T1, L1, k1, n1⟩, -, X1, ⟨Lc1, hQ1, l1, y1, z1⟩, st1⟩ := X0.virtualBack hx (y := (⟨"com/example/stratal/stratal/logic/StratumGroups", "find", "(I)I"⟩ : MethodName)) (z := (⟨"com/example/stratal/stratal/logic/StratumGroups", "find", "(I)I"⟩ : MethodName)) hown (mvT hZ (hw _ (own_w 32 rfl))) (mvT hZ (hw _ (own_w 33 rfl))) (notFace_of_selects (args := #[]) (mvT hZ (hw _ (own_w 35 rfl)))) (mvT hZ (hw _ (own_w 35 rfl))) (mvT hZ (hw _ (own_w 34 rfl))) (by decide) (backOf (W := 0) (rmf0_0123 l Z a0 hw [] a rp kp h0 n0 Z0 P1 P6) hZ (hw _ (own_w 36 rfl)) (hw _ (own_w 2 rfl)) (by decide) (by decide)) q1a q1c (g := (mkF m 2 #[rv a, iv 0, iv 1, iv jr, .unset, .unset, .unset, .unset] [(.int 0), (.ref a)])) rfl (by rw [hml]; rfl) (Steps.refl _) (argsL := [(.int 0)]) (rest := []) (lenOf pd_4 rfl) rfl (Nat.le_of_eq rfl) (hb hby d4_2) (fun _ _ => ⟨rfl, e0, (by decide : 0 + 0 ≤ _), (by decide : 0 + 0 ≤ _)⟩)
  dsimp only [Pt.U, Pt.locs, Pt.cells, Pt.slots] at X1 l1 y1 z1 st1 hQ1
  subst l1 y1 z1
  obtain ⟨rfl, Nq1, e1⟩ := hQ1
  have N1 := Fr.app N0 Nq1
  refine OE.v (fun t k => st1.trans k) ?_
  show OE _ _ _ _ (T1.setTop (mkF m 5 #[rv a, iv 0, iv 1, iv jr, .unset, .unset, .unset, .unset] [(.int 0)]))
  refine OE.v (fun t k => XS.istore X1.here hx rfl (hb hby d4_5) rfl (l' := #[rv a, iv 0, iv 1, iv jr, iv 0, .unset, .unset, .unset]) rfl k) ?_
  refine OE.v (fun t k => XS.aloadN X1.here hx rfl (hb hby d4_7) rfl rfl k) ?_
  refine OE.v (fun t k => XS.iloadN X1.here hx rfl (hb hby d4_8) rfl k) ?_
  show OE _ _ _ _ (T1.setTop (mkF m 9 #[rv a, iv 0, iv 1, iv jr, iv 0, .unset, .unset, .unset] [(.int 1), (.ref a)]))
  obtain ⟨cq2, kq2, q2a, q2b, q2c⟩ := isOf hZ e1 P0
  obtain ⟨_, _, ⟨T2, L2, k2, n2⟩, -, X2, ⟨Lc2, hQ2, l2, y2, z2⟩, st2⟩ := X1.virtualBack hx (y := (⟨"com/example/stratal/stratal/logic/StratumGroups", "find", "(I)I"⟩ : MethodName)) (z := (⟨"com/example/stratal/stratal/logic/StratumGroups", "find", "(I)I"⟩ : MethodName)) hown (mvT hZ (hw _ (own_w 32 rfl))) (mvT hZ (hw _ (own_w 33 rfl))) (notFace_of_selects (args := #[]) (mvT hZ (hw _ (own_w 35 rfl)))) (mvT hZ (hw _ (own_w 35 rfl))) (mvT hZ (hw _ (own_w 34 rfl))) (by decide) (backOf (W := 0) (rmf1_0123 l Z a0 hw [] a rp kp h0 n0 Z0 P1 P6) hZ (hw _ (own_w 36 rfl)) (hw _ (own_w 2 rfl)) (by decide) (by decide)) q2a q2c (g := (mkF m 9 #[rv a, iv 0, iv 1, iv jr, iv 0, .unset, .unset, .unset] [(.int 1), (.ref a)])) rfl (by rw [hml]; rfl) (Steps.refl _) (argsL := [(.int 1)]) (rest := []) (lenOf pd_4 rfl) rfl (Nat.le_of_eq rfl) (hb hby d4_9) (fun _ _ => ⟨rfl, e1, (by decide : 0 + 0 ≤ _), (by decide : 0 + 0 ≤ _)⟩)
  dsimp only [Pt.U, Pt.locs, Pt.cells, Pt.slots] at X2 l2 y2 z2 st2 hQ2
  subst l2 y2 z2
  obtain ⟨rfl, Nq2, e2⟩ := hQ2
  have N2 := Fr.app N1 Nq2
  refine OE.v (fun t k => st2.trans k) ?_
  show OE _ _ _ _ (T2.setTop (mkF m 12 #[rv a, iv 0, iv 1, iv jr, iv 0, .unset, .unset, .unset] [(.int 1)]))
  refine OE.v (fun t k => XS.istore X2.here hx rfl (hb hby d4_12) rfl (l' := #[rv a, iv 0, iv 1, iv jr, iv 0, iv 1, .unset, .unset]) rfl k) ?_
  refine OE.v (fun t k => XS.aloadN X2.here hx rfl (hb hby d4_14) rfl rfl k) ?_
  refine OE.v (fun t k => XS.iloadN X2.here hx rfl (hb hby d4_15) rfl k) ?_
  show OE _ _ _ _ (T2.setTop (mkF m 16 #[rv a, iv 0, iv 1, iv jr, iv 0, iv 1, .unset, .unset] [(.int 0), (.ref a)]))
  obtain ⟨cq3, kq3, q3a, q3b, q3c⟩ := isOf hZ e2 P0
  obtain ⟨_, _, ⟨T3, L3, k3, n3⟩, -, X3, ⟨Lc3, hQ3, l3, y3, z3⟩, st3⟩ := X2.virtualBack hx (y := (⟨"com/example/stratal/stratal/logic/StratumGroups", "offset", "(I)I"⟩ : MethodName)) (z := (⟨"com/example/stratal/stratal/logic/StratumGroups", "offset", "(I)I"⟩ : MethodName)) hown (mvT hZ (hw _ (own_w 37 rfl))) (mvT hZ (hw _ (own_w 38 rfl))) (notFace_of_selects (args := #[]) (mvT hZ (hw _ (own_w 40 rfl)))) (mvT hZ (hw _ (own_w 40 rfl))) (mvT hZ (hw _ (own_w 39 rfl))) (by decide) (backOf (W := 0) (rmo0_0123 l Z a0 hw [] a rp kp ro ko ov0 ov1 ov2 ov3 h0 n0 Z0 P1 P6 P2 P7) hZ (hw _ (own_w 41 rfl)) (hw _ (own_w 2 rfl)) (by decide) (by decide)) q3a q3c (g := (mkF m 16 #[rv a, iv 0, iv 1, iv jr, iv 0, iv 1, .unset, .unset] [(.int 0), (.ref a)])) rfl (by rw [hml]; rfl) (Steps.refl _) (argsL := [(.int 0)]) (rest := []) (lenOf pd_4 rfl) rfl (Nat.le_of_eq rfl) (hb hby d4_16) (fun _ _ => ⟨rfl, e2, (by decide : 0 + 0 ≤ _), (by decide : 0 + 0 ≤ _)⟩)
  dsimp only [Pt.U, Pt.locs, Pt.cells, Pt.slots] at X3 l3 y3 z3 st3 hQ3
  subst l3 y3 z3
  obtain ⟨rfl, Nq3, e3⟩ := hQ3
  have N3 := Fr.app N2 Nq3
  refine OE.v (fun t k => st3.trans k) ?_
  show OE _ _ _ _ (T3.setTop (mkF m 19 #[rv a, iv 0, iv 1, iv jr, iv 0, iv 1, .unset, .unset] [(.int 0)]))
  refine OE.v (fun t k => XS.istore X3.here hx rfl (hb hby d4_19) rfl (l' := #[rv a, iv 0, iv 1, iv jr, iv 0, iv 1, iv 0, .unset]) rfl k) ?_
  refine OE.v (fun t k => XS.aloadN X3.here hx rfl (hb hby d4_21) rfl rfl k) ?_
  refine OE.v (fun t k => XS.iloadN X3.here hx rfl (hb hby d4_22) rfl k) ?_
  show OE _ _ _ _ (T3.setTop (mkF m 23 #[rv a, iv 0, iv 1, iv jr, iv 0, iv 1, iv 0, .unset] [(.int 1), (.ref a)]))
  obtain ⟨cq4, kq4, q4a, q4b, q4c⟩ := isOf hZ e3 P0
  obtain ⟨_, _, ⟨T4, L4, k4, n4⟩, -, X4, ⟨Lc4, hQ4, l4, y4, z4⟩, st4⟩ := X3.virtualBack hx (y := (⟨"com/example/stratal/stratal/logic/StratumGroups", "offset", "(I)I"⟩ : MethodName)) (z := (⟨"com/example/stratal/stratal/logic/StratumGroups", "offset", "(I)I"⟩ : MethodName)) hown (mvT hZ (hw _ (own_w 37 rfl))) (mvT hZ (hw _ (own_w 38 rfl))) (notFace_of_selects (args := #[]) (mvT hZ (hw _ (own_w 40 rfl)))) (mvT hZ (hw _ (own_w 40 rfl))) (mvT hZ (hw _ (own_w 39 rfl))) (by decide) (backOf (W := 0) (rmo1_0123 l Z a0 hw [] a rp kp ro ko ov0 ov1 ov2 ov3 h0 n0 Z0 P1 P6 P2 P7) hZ (hw _ (own_w 41 rfl)) (hw _ (own_w 2 rfl)) (by decide) (by decide)) q4a q4c (g := (mkF m 23 #[rv a, iv 0, iv 1, iv jr, iv 0, iv 1, iv 0, .unset] [(.int 1), (.ref a)])) rfl (by rw [hml]; rfl) (Steps.refl _) (argsL := [(.int 1)]) (rest := []) (lenOf pd_4 rfl) rfl (Nat.le_of_eq rfl) (hb hby d4_23) (fun _ _ => ⟨rfl, e3, (by decide : 0 + 0 ≤ _), (by decide : 0 + 0 ≤ _)⟩)
  dsimp only [Pt.U, Pt.locs, Pt.cells, Pt.slots] at X4 l4 y4 z4 st4 hQ4
  subst l4 y4 z4
  obtain ⟨rfl, Nq4, e4⟩ := hQ4
  have N4 := Fr.app N3 Nq4
  refine OE.v (fun t k => st4.trans k) ?_
  show OE _ _ _ _ (T4.setTop (mkF m 26 #[rv a, iv 0, iv 1, iv jr, iv 0, iv 1, iv 0, .unset] [(.int 0)]))
  refine OE.v (fun t k => XS.istore X4.here hx rfl (hb hby d4_26) rfl (l' := #[rv a, iv 0, iv 1, iv jr, iv 0, iv 1, iv 0, iv 0]) rfl k) ?_
  refine OE.v (fun t k => XS.iload X4.here hx rfl (hb hby d4_28) rfl k) ?_
  refine OE.v (fun t k => XS.iload X4.here hx rfl (hb hby d4_30) rfl k) ?_
  show OE _ _ _ _ (T4.setTop (mkF m 32 #[rv a, iv 0, iv 1, iv jr, iv 0, iv 1, iv 0, iv 0] [(.int 1), (.int 0)]))
  refine OE.v (fun t k => XS.icmpYes X4.here hx rfl (pc0 := 32) (pc' := 67) rfl (hb hby d4_32) rfl (feq (by decide)).2 (by decide) (by decide) k) ?_
  show OE _ _ _ _ (T4.setTop (mkF m 67 #[rv a, iv 0, iv 1, iv jr, iv 0, iv 1, iv 0, iv 0] []))
  refine OE.v (fun t k => XS.aloadN X4.here hx rfl (hb hby d4_67) rfl rfl k) ?_
  show OE _ _ _ _ (T4.setTop (mkF m 68 #[rv a, iv 0, iv 1, iv jr, iv 0, iv 1, iv 0, iv 0] [(.ref a)]))
  obtain ⟨T5, X5, e5, st5⟩ := getF X4 hx hZ hown (host := "") (Or.inl (hw _ (own_w 14 rfl))) Via.refl e4 P3 (g := (mkF m 68 #[rv a, iv 0, iv 1, iv jr, iv 0, iv 1, iv 0, iv 0] [(.ref a)])) rfl rfl (hb hby d4_68)
  refine OE.v st5 ?_
  show OE _ _ _ _ (T5.setTop (mkF m 71 #[rv a, iv 0, iv 1, iv jr, iv 0, iv 1, iv 0, iv 0] [(.ref rs)]))
  refine OE.v (fun t k => XS.iload X5.here hx rfl (hb hby d4_71) rfl k) ?_
  show OE _ _ _ _ (T5.setTop (mkF m 73 #[rv a, iv 0, iv 1, iv jr, iv 0, iv 1, iv 0, iv 0] [(.int 0), (.ref rs)]))
  obtain ⟨cl6, Ar6, q6, S6, M6, H6, G6⟩ := id P8
  have hin6 : ¬ ((0 : Int32) < 0 ∨ cl6.slots.size ≤ ((0 : Int32)).toNatClampNeg) := inb_of S6 ⟨by decide, by decide⟩
  have hat6 : cl6.slots[((0 : Int32)).toNatClampNeg]? = some (.int 1) := H6.at hin6 rfl
  refine OE.v (X5.iaload hx (j := (0 : Int32)) (v := (.int 1)) (by rw [e5]; exact Ar6.1) (State.isArrayOf_alike hZ.alike Ar6.2.1) Ar6.2.2 hin6 hat6 (g := (mkF m 73 #[rv a, iv 0, iv 1, iv jr, iv 0, iv 1, iv 0, iv 0] [(.int 0), (.ref rs)])) rfl rfl (hb hby d4_73)) ?_
  show OE _ _ _ _ (T5.setTop (mkF m 74 #[rv a, iv 0, iv 1, iv jr, iv 0, iv 1, iv 0, iv 0] [(.int 1)]))
  refine OE.v (fun t k => XS.aloadN X5.here hx rfl (hb hby d4_74) rfl rfl k) ?_
  show OE _ _ _ _ (T5.setTop (mkF m 75 #[rv a, iv 0, iv 1, iv jr, iv 0, iv 1, iv 0, iv 0] [(.ref a), (.int 1)]))
  obtain ⟨T7, X7, e7, st7⟩ := getF X5 hx hZ hown (host := "") (Or.inl (hw _ (own_w 14 rfl))) Via.refl e5 P3 (g := (mkF m 75 #[rv a, iv 0, iv 1, iv jr, iv 0, iv 1, iv 0, iv 0] [(.ref a), (.int 1)])) rfl rfl (hb hby d4_75)
  refine OE.v st7 ?_
  show OE _ _ _ _ (T7.setTop (mkF m 78 #[rv a, iv 0, iv 1, iv jr, iv 0, iv 1, iv 0, iv 0] [(.ref rs), (.int 1)]))
  refine OE.v (fun t k => XS.iload X7.here hx rfl (hb hby d4_78) rfl k) ?_
  show OE _ _ _ _ (T7.setTop (mkF m 80 #[rv a, iv 0, iv 1, iv jr, iv 0, iv 1, iv 0, iv 0] [(.int 1), (.ref rs), (.int 1)]))
  obtain ⟨cl8, Ar8, q8, S8, M8, H8, G8⟩ := id P8
  have hin8 : ¬ ((1 : Int32) < 0 ∨ cl8.slots.size ≤ ((1 : Int32)).toNatClampNeg) := inb_of S8 ⟨by decide, by decide⟩
  have hat8 : cl8.slots[((1 : Int32)).toNatClampNeg]? = some (.int 1) := H8.at hin8 rfl
  refine OE.v (X7.iaload hx (j := (1 : Int32)) (v := (.int 1)) (by rw [e7]; exact Ar8.1) (State.isArrayOf_alike hZ.alike Ar8.2.1) Ar8.2.2 hin8 hat8 (g := (mkF m 80 #[rv a, iv 0, iv 1, iv jr, iv 0, iv 1, iv 0, iv 0] [(.int 1), (.ref rs), (.int 1)])) rfl rfl (hb hby d4_80)) ?_
  show OE _ _ _ _ (T7.setTop (mkF m 81 #[rv a, iv 0, iv 1, iv jr, iv 0, iv 1, iv 0, iv 0] [(.int 1), (.int 1)]))
  refine OE.v (fun t k => XS.icmpYes X7.here hx rfl (pc0 := 81) (pc' := 101) rfl (hb hby d4_81) rfl (flt (by decide)).2.1 (by decide) (by decide) k) ?_
  show OE _ _ _ _ (T7.setTop (mkF m 101 #[rv a, iv 0, iv 1, iv jr, iv 0, iv 1, iv 0, iv 0] []))
  refine OE.v (fun t k => XS.aloadN X7.here hx rfl (hb hby d4_101) rfl rfl k) ?_
  refine OE.v (fun t k => XS.iload X7.here hx rfl (hb hby d4_102) rfl k) ?_
  refine OE.v (fun t k => XS.iload X7.here hx rfl (hb hby d4_104) rfl k) ?_
  refine OE.v (fun t k => XS.iload X7.here hx rfl (hb hby d4_106) rfl k) ?_
  refine OE.v (fun t k => XS.iloadN X7.here hx rfl (hb hby d4_108) rfl k) ?_
  refine OE.v (fun t k => XS.iadd X7.here hx rfl (hb hby d4_109) rfl k) ?_
  show OE _ _ _ _ (T7.setTop (mkF m 110 #[rv a, iv 0, iv 1, iv jr, iv 0, iv 1, iv 0, iv 0] [(.int ((0 : Int32) + jr)), (.int 0), (.int 1), (.ref a)]))
  refine OE.v (fun t k => XS.iload X7.here hx rfl (hb hby d4_110) rfl k) ?_
  refine OE.v (fun t k => XS.isub X7.here hx rfl (hb hby d4_112) rfl k) ?_
  show OE _ _ _ _ (T7.setTop (mkF m 113 #[rv a, iv 0, iv 1, iv jr, iv 0, iv 1, iv 0, iv 0] [(.int (((0 : Int32) + jr) - (0 : Int32))), (.int 0), (.int 1), (.ref a)]))
  obtain ⟨cq9, q9, q9'⟩ := P0.cell
  obtain ⟨_, _, ⟨T9, L9, k9, n9⟩, -, X9, ⟨Lc9, hQ9, l9, y9, z9⟩, st9⟩ := X7.privateBack hx (y := (⟨"com/example/stratal/stratal/logic/StratumGroups", "hang", "(III)V"⟩ : MethodName)) hown (mvT hZ (hw _ (own_w 42 rfl))) (mvT hZ (hw _ (own_w 43 rfl))) (own_selp (mvT hZ (hw _ (own_w 1 rfl))) (Cond.privateMethod_at (mvP hZ (hw _ (own_w 44 rfl)) (args := #[]))) (mvT hZ (hw _ (own_w 43 rfl))) (by decide)) (Cond.privateMethod_at (mvP hZ (hw _ (own_w 44 rfl)) (args := #[]))) (mvT hZ (hw _ (own_w 45 rfl))) (by decide) (backOf (W := 0) (rmH10_0123 l Z a0 hw [] a rp ro rs rf kp ko ks kf ov0 ov1 ov2 ov3 fv0 fv1 fv2 fv3 (((0 : Int32) + jr) - (0 : Int32)) h0 n0 Z0 P0 P1 P2 P3 P4 P5 P6 P7 P8 P9 P10 P11 P12 P13 P14 P15 P16 P17 P18 P19 P20 P21 P22 P23) hZ (hw _ (own_w 45 rfl)) (hw _ (own_w 2 rfl)) (by decide) (by decide)) (g := (mkF m 113 #[rv a, iv 0, iv 1, iv jr, iv 0, iv 1, iv 0, iv 0] [(.int (((0 : Int32) + jr) - (0 : Int32))), (.int 0), (.int 1), (.ref a)])) rfl (by rw [hml]; rfl) (Steps.refl _) (a := a) (by rw [e7]; exact q9) q9' (argsL := [(.int 1), (.int 0), (.int (((0 : Int32) + jr) - (0 : Int32)))]) (rest := []) (lenOf pd_2 rfl) rfl (Nat.le_of_eq rfl) (hb hby d4_113) (fun _ _ => ⟨rfl, e7, (by decide : 0 + 0 ≤ _), (by decide : 0 + 0 ≤ _)⟩)
  dsimp only [Pt.U, Pt.locs, Pt.cells, Pt.slots] at X9 l9 y9 z9 st9 hQ9
  subst l9 y9 z9
  obtain ⟨h9, e9⟩ : ∃ z, T9.heap = z := ⟨_, rfl⟩
  rw [e9] at hQ9
  obtain ⟨rfl, Nq9, Kq9, q9_0, q9_1, q9_2, q9_3⟩ := hQ9
  have Z9 : n0 ≤ h9.size := Nat.le_trans Z0 Kq9.1
  have K9 : Keep h0 h9 [rp, ro, rs, rf] := (Keep.refl h0 [rp, ro, rs, rf]).trans Kq9 (allS (Or.inl (by simp)) (allS (Or.inl (by simp)) (allS (Or.inl (by simp)) (allS (Or.inl (by simp)) all0))))
  have N9 := Fr.app N4 Nq9
  refine OE.v (fun t k => st9.trans k) ?_
  show OE _ _ _ _ (T9.setTop (mkF m 116 #[rv a, iv 0, iv 1, iv jr, iv 0, iv 1, iv 0, iv 0] []))
  refine OE.v (fun t k => XS.iloadN X9.here hx rfl (hb hby d4_116) rfl k) ?_
  show OE _ _ _ _ (T9.setTop (mkF m 117 #[rv a, iv 0, iv 1, iv jr, iv 0, iv 1, iv 0, iv 0] [(.int 1)]))
  obtain ⟨fs, hr, hrun, hended, hW, hsame⟩ := X9.leave (v := some (.int 1)) (fun h => by rw [Bd.returns] at h; cases h)
  refine ⟨_, _, ?_, hrun, hended, _, _, rfl, ?_, ⟨_, rfl⟩, hW, hsame.mono (by decide) (by decide)⟩
  · exact retI X9 hx Bd.returns (hb hby d4_117) hr
  · show QJ01_0123 Z a rp ro rs rf kp ko ks kf ov0 ov1 ov2 ov3 fv0 fv1 fv2 fv3 jr h0 n0 _ T9.heap _
    rw [e9]
    exact ⟨rfl, N9, K9, q9_0, q9_1, q9_2, q9_3⟩

theorem pn_rmf2_0023 : plainName "com/example/stratal/stratal/logic/StratumGroups" = true := by first | (simp [plainName, overriddenIn]; done) | decide +kernel
theorem ef_rmf2_0023 (m : MethodId) (a : Addr) : entryFrame m #[(.ref a), (.int 2)] 3 = mkF m 0 #[rv a, iv 2, .unset] [] := by first | (simp [entryFrame, mkF, argsToLocals, Value.category]; done) | rfl
def Qf2_0023 (Z : State) (a : Addr) (rp : Addr) (kp : ClassId) (h0 : Heap) (n0 : Nat) (v : Option Value) (h : Heap) (L : List Loc) : Prop := v = some (.int 2) ∧ Fr n0 L ∧ h = h0
set_option maxRecDepth 65536 in
set_option maxHeartbeats 40000000 in
theorem rmf2_0023 (l : Launch) (Z : State) (a0 : Array Value) (hw : ∀ d ∈ tables_1, d.before a0 Z = true) (ws : List Jvm.Cond) (a : Addr) (rp : Addr) (kp : ClassId) (h0 : Heap) (n0 : Nat) (Z0 : n0 ≤ h0.size) (P0 : Fld Z h0 a "com/example/stratal/stratal/logic/StratumGroups" "mParent" "[I" (.ref rp)) (P1 : Arv Z h0 rp kp .int (16 : Int32) [(.int 0), (.int 0), (.int 2), (.int 3)] (.int 0)) :
    MetFree l (⟨"com/example/stratal/stratal/logic/StratumGroups", "find", "(I)I"⟩ : MethodName) (head1 (Jvm.Cond.code (⟨"com/example/stratal/stratal/logic/StratumGroups", "find", "(I)I"⟩ : MethodName) prog_53_method_3_code 3 (some .int) :: ws) ({ frames := 0, cells := 0, slots := 0, locals := 0 } : Room)) (fun aa U => aa = #[(.ref a), (.int 2)] ∧ Z.Warmed39 U.vm ∧ U.heap = h0) (fun _ _ _ _ _ => True) (fun _ U o U' => ∃ v L, o = .returned v ∧ Qf2_0023 Z a rp kp h0 n0 v U'.heap L ∧ FrameEnd U o U' L ({ frames := 0, cells := 0, slots := 0, locals := 0 } : Room).cells ({ frames := 0, cells := 0, slots := 0, locals := 0 } : Room).slots) := by
  refine MetFree.of_bodySF (plainFor_of_name pn_rmf2_0023) hisR ?_
  intro p e s m args below meth c s₁ Bd hml0 hP hK
  obtain ⟨rfl, hZ, hh⟩ := hP
  have hx := Bd.exec
  have hby := Bd.bytes
  have hml : c.maxLocals = 3 := hml0
  have hown : s.vm.findClass "com/example/stratal/stratal/logic/StratumGroups" = some m.cls := findClass_of_methodNamed Bd.named
  have hnm := (name_of_methodNamed Bd.named Bd.method).1
  have X0 : Stand p l e ({ frames := 0, cells := 0, slots := 0, locals := 0 } : Room) s m #[(.ref a), (.int 2)] below meth c s₁ [] 0 0 := Stand.of_body Bd
  have e0 : s₁.heap = h0 := by rw [← hh, Bd.state]; rfl
  have N0 := Fr.nil n0
  change OE p.tables e below _ _
  refine OE.v (fun t k => castTop (ef_rmf2_0023 m a) k) ?_
  show OE _ _ _ _ (s₁.setTop (mkF m 0 #[rv a, iv 2, .unset] []))
  refine OE.v (fun t k => XS.iloadN X0.here hx rfl (hb hby d5_0) rfl k) ?_
  refine OE.v (fun t k => XS.istoreN X0.here hx rfl (hb hby d5_1) rfl (l' := #[rv a, iv 2, iv 2]) rfl k) ?_
  refine OE.v (fun t k => XS.aloadN X0.here hx rfl (hb hby d5_2) rfl rfl k) ?_
  show OE _ _ _ _ (s₁.setTop (mkF m 3 #[rv a, iv 2, iv 2] [(.ref a)]))
  obtain ⟨T1, X1, e1, st1⟩ := getF X0 hx hZ hown (host := "") (Or.inl (hw _ (own_w 10 rfl))) Via.refl e0 P0 (g := (mkF m 3 #[rv a, iv 2, iv 2] [(.ref a)])) rfl rfl (hb hby d5_3)
  refine OE.v st1 ?_
  show OE _ _ _ _ (T1.setTop (mkF m 6 #[rv a, iv 2, iv 2] [(.ref rp)]))
  refine OE.v (fun t k => XS.iloadN X1.here hx rfl (hb hby d5_6) rfl k) ?_
  show OE _ _ _ _ (T1.setTop (mkF m 7 #[rv a, iv 2, iv 2] [(.int 2), (.ref rp)]))
  obtain ⟨cl2, Ar2, q2, S2, M2, H2, G2⟩ := id P1
  have hin2 : ¬ ((2 : Int32) < 0 ∨ cl2.slots.size ≤ ((2 : Int32)).toNatClampNeg) := inb_of S2 ⟨by decide, by decide⟩
  have hat2 : cl2.slots[((2 : Int32)).toNatClampNeg]? = some (.int 2) := H2.at hin2 rfl
  refine OE.v (X1.iaload hx (j := (2 : Int32)) (v := (.int 2)) (by rw [e1]; exact Ar2.1) (State.isArrayOf_alike hZ.alike Ar2.2.1) Ar2.2.2 hin2 hat2 (g := (mkF m 7 #[rv a, iv 2, iv 2] [(.int 2), (.ref rp)])) rfl rfl (hb hby d5_7)) ?_
  show OE _ _ _ _ (T1.setTop (mkF m 8 #[rv a, iv 2, iv 2] [(.int 2)]))
  refine OE.v (fun t k => XS.iloadN X1.here hx rfl (hb hby d5_8) rfl k) ?_
  show OE _ _ _ _ (T1.setTop (mkF m 9 #[rv a, iv 2, iv 2] [(.int 2), (.int 2)]))
  refine OE.v (fun t k => XS.icmpYes X1.here hx rfl (pc0 := 9) (pc' := 22) rfl (hb hby d5_9) rfl (teq (by decide)).1 (by decide) (by decide) k) ?_
  show OE _ _ _ _ (T1.setTop (mkF m 22 #[rv a, iv 2, iv 2] []))
  refine OE.v (fun t k => XS.iloadN X1.here hx rfl (hb hby d5_22) rfl k) ?_
  show OE _ _ _ _ (T1.setTop (mkF m 23 #[rv a, iv 2, iv 2] [(.int 2)]))
  obtain ⟨fs, hr, hrun, hended, hW, hsame⟩ := X1.leave (v := some (.int 2)) (fun h => by rw [Bd.returns] at h; cases h)
  refine ⟨_, _, ?_, hrun, hended, _, _, rfl, ?_, ⟨_, rfl⟩, hW, hsame.mono (by decide) (by decide)⟩
  · exact retI X1 hx Bd.returns (hb hby d5_23) hr
  · show Qf2_0023 Z a rp kp h0 n0 _ T1.heap _
    rw [e1]
    exact ⟨rfl, N0, rfl⟩

theorem pn_rmf3_0023 : plainName "com/example/stratal/stratal/logic/StratumGroups" = true := by first | (simp [plainName, overriddenIn]; done) | decide +kernel
theorem ef_rmf3_0023 (m : MethodId) (a : Addr) : entryFrame m #[(.ref a), (.int 3)] 3 = mkF m 0 #[rv a, iv 3, .unset] [] := by first | (simp [entryFrame, mkF, argsToLocals, Value.category]; done) | rfl
def Qf3_0023 (Z : State) (a : Addr) (rp : Addr) (kp : ClassId) (h0 : Heap) (n0 : Nat) (v : Option Value) (h : Heap) (L : List Loc) : Prop := v = some (.int 3) ∧ Fr n0 L ∧ h = h0
set_option maxRecDepth 65536 in
set_option maxHeartbeats 40000000 in
theorem rmf3_0023 (l : Launch) (Z : State) (a0 : Array Value) (hw : ∀ d ∈ tables_1, d.before a0 Z = true) (ws : List Jvm.Cond) (a : Addr) (rp : Addr) (kp : ClassId) (h0 : Heap) (n0 : Nat) (Z0 : n0 ≤ h0.size) (P0 : Fld Z h0 a "com/example/stratal/stratal/logic/StratumGroups" "mParent" "[I" (.ref rp)) (P1 : Arv Z h0 rp kp .int (16 : Int32) [(.int 0), (.int 0), (.int 2), (.int 3)] (.int 0)) :
    MetFree l (⟨"com/example/stratal/stratal/logic/StratumGroups", "find", "(I)I"⟩ : MethodName) (head1 (Jvm.Cond.code (⟨"com/example/stratal/stratal/logic/StratumGroups", "find", "(I)I"⟩ : MethodName) prog_53_method_3_code 3 (some .int) :: ws) ({ frames := 0, cells := 0, slots := 0, locals := 0 } : Room)) (fun aa U => aa = #[(.ref a), (.int 3)] ∧ Z.Warmed39 U.vm ∧ U.heap = h0) (fun _ _ _ _ _ => True) (fun _ U o U' => ∃ v L, o = .returned v ∧ Qf3_0023 Z a rp kp h0 n0 v U'.heap L ∧ FrameEnd U o U' L ({ frames := 0, cells := 0, slots := 0, locals := 0 } : Room).cells ({ frames := 0, cells := 0, slots := 0, locals := 0 } : Room).slots) := by
  refine MetFree.of_bodySF (plainFor_of_name pn_rmf3_0023) hisR ?_
  intro p e s m args below meth c s₁ Bd hml0 hP hK
  obtain ⟨rfl, hZ, hh⟩ := hP
  have hx := Bd.exec
  have hby := Bd.bytes
  have hml : c.maxLocals = 3 := hml0
  have hown : s.vm.findClass "com/example/stratal/stratal/logic/StratumGroups" = some m.cls := findClass_of_methodNamed Bd.named
  have hnm := (name_of_methodNamed Bd.named Bd.method).1
  have X0 : Stand p l e ({ frames := 0, cells := 0, slots := 0, locals := 0 } : Room) s m #[(.ref a), (.int 3)] below meth c s₁ [] 0 0 := Stand.of_body Bd
  have e0 : s₁.heap = h0 := by rw [← hh, Bd.state]; rfl
  have N0 := Fr.nil n0
  change OE p.tables e below _ _
  refine OE.v (fun t k => castTop (ef_rmf3_0023 m a) k) ?_
  show OE _ _ _ _ (s₁.setTop (mkF m 0 #[rv a, iv 3, .unset] []))
  refine OE.v (fun t k => XS.iloadN X0.here hx rfl (hb hby d5_0) rfl k) ?_
  refine OE.v (fun t k => XS.istoreN X0.here hx rfl (hb hby d5_1) rfl (l' := #[rv a, iv 3, iv 3]) rfl k) ?_
  refine OE.v (fun t k => XS.aloadN X0.here hx rfl (hb hby d5_2) rfl rfl k) ?_
  show OE _ _ _ _ (s₁.setTop (mkF m 3 #[rv a, iv 3, iv 3] [(.ref a)]))
  obtain ⟨T1, X1, e1, st1⟩ := getF X0 hx hZ hown (host := "") (Or.inl (hw _ (own_w 10 rfl))) Via.refl e0 P0 (g := (mkF m 3 #[rv a, iv 3, iv 3] [(.ref a)])) rfl rfl (hb hby d5_3)
  refine OE.v st1 ?_
  show OE _ _ _ _ (T1.setTop (mkF m 6 #[rv a, iv 3, iv 3] [(.ref rp)]))
  refine OE.v (fun t k => XS.iloadN X1.here hx rfl (hb hby d5_6) rfl k) ?_
  show OE _ _ _ _ (T1.setTop (mkF m 7 #[rv a, iv 3, iv 3] [(.int 3), (.ref rp)]))
  obtain ⟨cl2, Ar2, q2, S2, M2, H2, G2⟩ := id P1
  have hin2 : ¬ ((3 : Int32) < 0 ∨ cl2.slots.size ≤ ((3 : Int32)).toNatClampNeg) := inb_of S2 ⟨by decide, by decide⟩
  have hat2 : cl2.slots[((3 : Int32)).toNatClampNeg]? = some (.int 3) := H2.at hin2 rfl
  refine OE.v (X1.iaload hx (j := (3 : Int32)) (v := (.int 3)) (by rw [e1]; exact Ar2.1) (State.isArrayOf_alike hZ.alike Ar2.2.1) Ar2.2.2 hin2 hat2 (g := (mkF m 7 #[rv a, iv 3, iv 3] [(.int 3), (.ref rp)])) rfl rfl (hb hby d5_7)) ?_
  show OE _ _ _ _ (T1.setTop (mkF m 8 #[rv a, iv 3, iv 3] [(.int 3)]))
  refine OE.v (fun t k => XS.iloadN X1.here hx rfl (hb hby d5_8) rfl k) ?_
  show OE _ _ _ _ (T1.setTop (mkF m 9 #[rv a, iv 3, iv 3] [(.int 3), (.int 3)]))
  refine OE.v (fun t k => XS.icmpYes X1.here hx rfl (pc0 := 9) (pc' := 22) rfl (hb hby d5_9) rfl (teq (by decide)).1 (by decide) (by decide) k) ?_
  show OE _ _ _ _ (T1.setTop (mkF m 22 #[rv a, iv 3, iv 3] []))
  refine OE.v (fun t k => XS.iloadN X1.here hx rfl (hb hby d5_22) rfl k) ?_
  show OE _ _ _ _ (T1.setTop (mkF m 23 #[rv a, iv 3, iv 3] [(.int 3)]))
  obtain ⟨fs, hr, hrun, hended, hW, hsame⟩ := X1.leave (v := some (.int 3)) (fun h => by rw [Bd.returns] at h; cases h)
  refine ⟨_, _, ?_, hrun, hended, _, _, rfl, ?_, ⟨_, rfl⟩, hW, hsame.mono (by decide) (by decide)⟩
  · exact retI X1 hx Bd.returns (hb hby d5_23) hr
  · show Qf3_0023 Z a rp kp h0 n0 _ T1.heap _
    rw [e1]
    exact ⟨rfl, N0, rfl⟩

theorem pn_rmo2_0023 : plainName "com/example/stratal/stratal/logic/StratumGroups" = true := by first | (simp [plainName, overriddenIn]; done) | decide +kernel
theorem ef_rmo2_0023 (m : MethodId) (a : Addr) : entryFrame m #[(.ref a), (.int 2)] 4 = mkF m 0 #[rv a, iv 2, .unset, .unset] [] := by first | (simp [entryFrame, mkF, argsToLocals, Value.category]; done) | rfl
def Qo2_0023 (Z : State) (a : Addr) (rp : Addr) (kp : ClassId) (ro : Addr) (ko : ClassId) (ov0 : Int32) (ov1 : Int32) (ov2 : Int32) (ov3 : Int32) (h0 : Heap) (n0 : Nat) (v : Option Value) (h : Heap) (L : List Loc) : Prop := v = some (.int 0) ∧ Fr n0 L ∧ h = h0
set_option maxRecDepth 65536 in
set_option maxHeartbeats 40000000 in
theorem rmo2_0023 (l : Launch) (Z : State) (a0 : Array Value) (hw : ∀ d ∈ tables_1, d.before a0 Z = true) (ws : List Jvm.Cond) (a : Addr) (rp : Addr) (kp : ClassId) (ro : Addr) (ko : ClassId) (ov0 : Int32) (ov1 : Int32) (ov2 : Int32) (ov3 : Int32) (h0 : Heap) (n0 : Nat) (Z0 : n0 ≤ h0.size) (P0 : Fld Z h0 a "com/example/stratal/stratal/logic/StratumGroups" "mParent" "[I" (.ref rp)) (P1 : Arv Z h0 rp kp .int (16 : Int32) [(.int 0), (.int 0), (.int 2), (.int 3)] (.int 0)) (P2 : Fld Z h0 a "com/example/stratal/stratal/logic/StratumGroups" "mOffset" "[I" (.ref ro)) (P3 : Arv Z h0 ro ko .int (16 : Int32) [(.int ov0), (.int ov1), (.int ov2), (.int ov3)] (.int 0)) :
    MetFree l (⟨"com/example/stratal/stratal/logic/StratumGroups", "offset", "(I)I"⟩ : MethodName) (head1 (Jvm.Cond.code (⟨"com/example/stratal/stratal/logic/StratumGroups", "offset", "(I)I"⟩ : MethodName) prog_53_method_4_code 4 (some .int) :: ws) ({ frames := 0, cells := 0, slots := 0, locals := 0 } : Room)) (fun aa U => aa = #[(.ref a), (.int 2)] ∧ Z.Warmed39 U.vm ∧ U.heap = h0) (fun _ _ _ _ _ => True) (fun _ U o U' => ∃ v L, o = .returned v ∧ Qo2_0023 Z a rp kp ro ko ov0 ov1 ov2 ov3 h0 n0 v U'.heap L ∧ FrameEnd U o U' L ({ frames := 0, cells := 0, slots := 0, locals := 0 } : Room).cells ({ frames := 0, cells := 0, slots := 0, locals := 0 } : Room).slots) := by
  refine MetFree.of_bodySF (plainFor_of_name pn_rmo2_0023) hisR ?_
  intro p e s m args below meth c s₁ Bd hml0 hP hK
  obtain ⟨rfl, hZ, hh⟩ := hP
  have hx := Bd.exec
  have hby := Bd.bytes
  have hml : c.maxLocals = 4 := hml0
  have hown : s.vm.findClass "com/example/stratal/stratal/logic/StratumGroups" = some m.cls := findClass_of_methodNamed Bd.named
  have hnm := (name_of_methodNamed Bd.named Bd.method).1
  have X0 : Stand p l e ({ frames := 0, cells := 0, slots := 0, locals := 0 } : Room) s m #[(.ref a), (.int 2)] below meth c s₁ [] 0 0 := Stand.of_body Bd
  have e0 : s₁.heap = h0 := by rw [← hh, Bd.state]; rfl
  have N0 := Fr.nil n0
  change OE p.tables e below _ _
  refine OE.v (fun t k => castTop (ef_rmo2_0023 m a) k) ?_
  show OE _ _ _ _ (s₁.setTop (mkF m 0 #[rv a, iv 2, .unset, .unset] []))
  refine OE.v (fun t k => XS.iconst X0.here hx rfl (hb hby d6_0) k) ?_
  refine OE.v (fun t k => XS.istoreN X0.here hx rfl (hb hby d6_1) rfl (l' := #[rv a, iv 2, iv 0, .unset]) rfl k) ?_
  refine OE.v (fun t k => XS.iloadN X0.here hx rfl (hb hby d6_2) rfl k) ?_
  refine OE.v (fun t k => XS.istoreN X0.here hx rfl (hb hby d6_3) rfl (l' := #[rv a, iv 2, iv 0, iv 2]) rfl k) ?_
  refine OE.v (fun t k => XS.aloadN X0.here hx rfl (hb hby d6_4) rfl rfl k) ?_
  show OE _ _ _ _ (s₁.setTop (mkF m 5 #[rv a, iv 2, iv 0, iv 2] [(.ref a)]))
  obtain ⟨T1, X1, e1, st1⟩ := getF X0 hx hZ hown (host := "") (Or.inl (hw _ (own_w 10 rfl))) Via.refl e0 P0 (g := (mkF m 5 #[rv a, iv 2, iv 0, iv 2] [(.ref a)])) rfl rfl (hb hby d6_5)
  refine OE.v st1 ?_
  show OE _ _ _ _ (T1.setTop (mkF m 8 #[rv a, iv 2, iv 0, iv 2] [(.ref rp)]))
  refine OE.v (fun t k => XS.iloadN X1.here hx rfl (hb hby d6_8) rfl k) ?_
  show OE _ _ _ _ (T1.setTop (mkF m 9 #[rv a, iv 2, iv 0, iv 2] [(.int 2), (.ref rp)]))
  obtain ⟨cl2, Ar2, q2, S2, M2, H2, G2⟩ := id P1
  have hin2 : ¬ ((2 : Int32) < 0 ∨ cl2.slots.size ≤ ((2 : Int32)).toNatClampNeg) := inb_of S2 ⟨by decide, by decide⟩
  have hat2 : cl2.slots[((2 : Int32)).toNatClampNeg]? = some (.int 2) := H2.at hin2 rfl
  refine OE.v (X1.iaload hx (j := (2 : Int32)) (v := (.int 2)) (by rw [e1]; exact Ar2.1) (State.isArrayOf_alike hZ.alike Ar2.2.1) Ar2.2.2 hin2 hat2 (g := (mkF m 9 #[rv a, iv 2, iv 0, iv 2] [(.int 2), (.ref rp)])) rfl rfl (hb hby d6_9)) ?_
  show OE _ _ _ _ (T1.setTop (mkF m 10 #[rv a, iv 2, iv 0, iv 2] [(.int 2)]))
  refine OE.v (fun t k => XS.iloadN X1.here hx rfl (hb hby d6_10) rfl k) ?_
  show OE _ _ _ _ (T1.setTop (mkF m 11 #[rv a, iv 2, iv 0, iv 2] [(.int 2), (.int 2)]))
  refine OE.v (fun t k => XS.icmpYes X1.here hx rfl (pc0 := 11) (pc' := 33) rfl (hb hby d6_11) rfl (teq (by decide)).1 (by decide) (by decide) k) ?_
  show OE _ _ _ _ (T1.setTop (mkF m 33 #[rv a, iv 2, iv 0, iv 2] []))
  refine OE.v (fun t k => XS.iloadN X1.here hx rfl (hb hby d6_33) rfl k) ?_
  show OE _ _ _ _ (T1.setTop (mkF m 34 #[rv a, iv 2, iv 0, iv 2] [(.int 0)]))
  obtain ⟨fs, hr, hrun, hended, hW, hsame⟩ := X1.leave (v := some (.int 0)) (fun h => by rw [Bd.returns] at h; cases h)
  refine ⟨_, _, ?_, hrun, hended, _, _, rfl, ?_, ⟨_, rfl⟩, hW, hsame.mono (by decide) (by decide)⟩
  · exact retI X1 hx Bd.returns (hb hby d6_34) hr
  · show Qo2_0023 Z a rp kp ro ko ov0 ov1 ov2 ov3 h0 n0 _ T1.heap _
    rw [e1]
    exact ⟨rfl, N0, rfl⟩

theorem pn_rmo3_0023 : plainName "com/example/stratal/stratal/logic/StratumGroups" = true := by first | (simp [plainName, overriddenIn]; done) | decide +kernel
theorem ef_rmo3_0023 (m : MethodId) (a : Addr) : entryFrame m #[(.ref a), (.int 3)] 4 = mkF m 0 #[rv a, iv 3, .unset, .unset] [] := by first | (simp [entryFrame, mkF, argsToLocals, Value.category]; done) | rfl
def Qo3_0023 (Z : State) (a : Addr) (rp : Addr) (kp : ClassId) (ro : Addr) (ko : ClassId) (ov0 : Int32) (ov1 : Int32) (ov2 : Int32) (ov3 : Int32) (h0 : Heap) (n0 : Nat) (v : Option Value) (h : Heap) (L : List Loc) : Prop := v = some (.int 0) ∧ Fr n0 L ∧ h = h0
set_option maxRecDepth 65536 in
set_option maxHeartbeats 40000000 in
theorem rmo3_0023 (l : Launch) (Z : State) (a0 : Array Value) (hw : ∀ d ∈ tables_1, d.before a0 Z = true) (ws : List Jvm.Cond) (a : Addr) (rp : Addr) (kp : ClassId) (ro : Addr) (ko : ClassId) (ov0 : Int32) (ov1 : Int32) (ov2 : Int32) (ov3 : Int32) (h0 : Heap) (n0 : Nat) (Z0 : n0 ≤ h0.size) (P0 : Fld Z h0 a "com/example/stratal/stratal/logic/StratumGroups" "mParent" "[I" (.ref rp)) (P1 : Arv Z h0 rp kp .int (16 : Int32) [(.int 0), (.int 0), (.int 2), (.int 3)] (.int 0)) (P2 : Fld Z h0 a "com/example/stratal/stratal/logic/StratumGroups" "mOffset" "[I" (.ref ro)) (P3 : Arv Z h0 ro ko .int (16 : Int32) [(.int ov0), (.int ov1), (.int ov2), (.int ov3)] (.int 0)) :
    MetFree l (⟨"com/example/stratal/stratal/logic/StratumGroups", "offset", "(I)I"⟩ : MethodName) (head1 (Jvm.Cond.code (⟨"com/example/stratal/stratal/logic/StratumGroups", "offset", "(I)I"⟩ : MethodName) prog_53_method_4_code 4 (some .int) :: ws) ({ frames := 0, cells := 0, slots := 0, locals := 0 } : Room)) (fun aa U => aa = #[(.ref a), (.int 3)] ∧ Z.Warmed39 U.vm ∧ U.heap = h0) (fun _ _ _ _ _ => True) (fun _ U o U' => ∃ v L, o = .returned v ∧ Qo3_0023 Z a rp kp ro ko ov0 ov1 ov2 ov3 h0 n0 v U'.heap L ∧ FrameEnd U o U' L ({ frames := 0, cells := 0, slots := 0, locals := 0 } : Room).cells ({ frames := 0, cells := 0, slots := 0, locals := 0 } : Room).slots) := by
  refine MetFree.of_bodySF (plainFor_of_name pn_rmo3_0023) hisR ?_
  intro p e s m args below meth c s₁ Bd hml0 hP hK
  obtain ⟨rfl, hZ, hh⟩ := hP
  have hx := Bd.exec
  have hby := Bd.bytes
  have hml : c.maxLocals = 4 := hml0
  have hown : s.vm.findClass "com/example/stratal/stratal/logic/StratumGroups" = some m.cls := findClass_of_methodNamed Bd.named
  have hnm := (name_of_methodNamed Bd.named Bd.method).1
  have X0 : Stand p l e ({ frames := 0, cells := 0, slots := 0, locals := 0 } : Room) s m #[(.ref a), (.int 3)] below meth c s₁ [] 0 0 := Stand.of_body Bd
  have e0 : s₁.heap = h0 := by rw [← hh, Bd.state]; rfl
  have N0 := Fr.nil n0
  change OE p.tables e below _ _
  refine OE.v (fun t k => castTop (ef_rmo3_0023 m a) k) ?_
  show OE _ _ _ _ (s₁.setTop (mkF m 0 #[rv a, iv 3, .unset, .unset] []))
  refine OE.v (fun t k => XS.iconst X0.here hx rfl (hb hby d6_0) k) ?_
  refine OE.v (fun t k => XS.istoreN X0.here hx rfl (hb hby d6_1) rfl (l' := #[rv a, iv 3, iv 0, .unset]) rfl k) ?_
  refine OE.v (fun t k => XS.iloadN X0.here hx rfl (hb hby d6_2) rfl k) ?_
  refine OE.v (fun t k => XS.istoreN X0.here hx rfl (hb hby d6_3) rfl (l' := #[rv a, iv 3, iv 0, iv 3]) rfl k) ?_
  refine OE.v (fun t k => XS.aloadN X0.here hx rfl (hb hby d6_4) rfl rfl k) ?_
  show OE _ _ _ _ (s₁.setTop (mkF m 5 #[rv a, iv 3, iv 0, iv 3] [(.ref a)]))
  obtain ⟨T1, X1, e1, st1⟩ := getF X0 hx hZ hown (host := "") (Or.inl (hw _ (own_w 10 rfl))) Via.refl e0 P0 (g := (mkF m 5 #[rv a, iv 3, iv 0, iv 3] [(.ref a)])) rfl rfl (hb hby d6_5)
  refine OE.v st1 ?_
  show OE _ _ _ _ (T1.setTop (mkF m 8 #[rv a, iv 3, iv 0, iv 3] [(.ref rp)]))
  refine OE.v (fun t k => XS.iloadN X1.here hx rfl (hb hby d6_8) rfl k) ?_
  show OE _ _ _ _ (T1.setTop (mkF m 9 #[rv a, iv 3, iv 0, iv 3] [(.int 3), (.ref rp)]))
  obtain ⟨cl2, Ar2, q2, S2, M2, H2, G2⟩ := id P1
  have hin2 : ¬ ((3 : Int32) < 0 ∨ cl2.slots.size ≤ ((3 : Int32)).toNatClampNeg) := inb_of S2 ⟨by decide, by decide⟩
  have hat2 : cl2.slots[((3 : Int32)).toNatClampNeg]? = some (.int 3) := H2.at hin2 rfl
  refine OE.v (X1.iaload hx (j := (3 : Int32)) (v := (.int 3)) (by rw [e1]; exact Ar2.1) (State.isArrayOf_alike hZ.alike Ar2.2.1) Ar2.2.2 hin2 hat2 (g := (mkF m 9 #[rv a, iv 3, iv 0, iv 3] [(.int 3), (.ref rp)])) rfl rfl (hb hby d6_9)) ?_
  show OE _ _ _ _ (T1.setTop (mkF m 10 #[rv a, iv 3, iv 0, iv 3] [(.int 3)]))
  refine OE.v (fun t k => XS.iloadN X1.here hx rfl (hb hby d6_10) rfl k) ?_
  show OE _ _ _ _ (T1.setTop (mkF m 11 #[rv a, iv 3, iv 0, iv 3] [(.int 3), (.int 3)]))
  refine OE.v (fun t k => XS.icmpYes X1.here hx rfl (pc0 := 11) (pc' := 33) rfl (hb hby d6_11) rfl (teq (by decide)).1 (by decide) (by decide) k) ?_
  show OE _ _ _ _ (T1.setTop (mkF m 33 #[rv a, iv 3, iv 0, iv 3] []))
  refine OE.v (fun t k => XS.iloadN X1.here hx rfl (hb hby d6_33) rfl k) ?_
  show OE _ _ _ _ (T1.setTop (mkF m 34 #[rv a, iv 3, iv 0, iv 3] [(.int 0)]))
  obtain ⟨fs, hr, hrun, hended, hW, hsame⟩ := X1.leave (v := some (.int 0)) (fun h => by rw [Bd.returns] at h; cases h)
  refine ⟨_, _, ?_, hrun, hended, _, _, rfl, ?_, ⟨_, rfl⟩, hW, hsame.mono (by decide) (by decide)⟩
  · exact retI X1 hx Bd.returns (hb hby d6_34) hr
  · show Qo3_0023 Z a rp kp ro ko ov0 ov1 ov2 ov3 h0 n0 _ T1.heap _
    rw [e1]
    exact ⟨rfl, N0, rfl⟩

theorem pn_rmH32_0023 : plainName "com/example/stratal/stratal/logic/StratumGroups" = true := by first | (simp [plainName, overriddenIn]; done) | decide +kernel
theorem ef_rmH32_0023 (m : MethodId) (a : Addr) (dl : Int32) : entryFrame m #[(.ref a), (.int 3), (.int 2), (.int dl)] 4 = mkF m 0 #[rv a, iv 3, iv 2, iv dl] [] := by first | (simp [entryFrame, mkF, argsToLocals, Value.category]; done) | rfl
def QH32_0023 (Z : State) (a : Addr) (rp : Addr) (ro : Addr) (rs : Addr) (rf : Addr) (kp : ClassId) (ko : ClassId) (ks : ClassId) (kf : ClassId) (ov0 : Int32) (ov1 : Int32) (ov2 : Int32) (ov3 : Int32) (fv0 : Int32) (fv1 : Int32) (fv2 : Int32) (fv3 : Int32) (dl : Int32) (h0 : Heap) (n0 : Nat) (v : Option Value) (h : Heap) (L : List Loc) : Prop := v = none ∧ Fr n0 L ∧ Keep h0 h [rp, ro, rs, rf] ∧ Arv Z h rp kp .int (16 : Int32) [(.int 0), (.int 0), (.int 2), (.int 2)] (.int 0) ∧ Arv Z h ro ko .int (16 : Int32) [(.int ov0), (.int ov1), (.int ov2), (.int dl)] (.int 0) ∧ Arv Z h rs ks .int (16 : Int32) [(.int 2), (.int 1), (.int 2), (.int 1)] (.int 0) ∧ Arv Z h rf kf .int (16 : Int32) [(.int fv0), (.int fv1), (.int (own_max fv2 (fv3 - dl))), (.int fv3)] (.int 0)
set_option maxRecDepth 65536 in
set_option maxHeartbeats 40000000 in
theorem rmH32_0023 (l : Launch) (Z : State) (a0 : Array Value) (hw : ∀ d ∈ tables_1, d.before a0 Z = true) (ws : List Jvm.Cond) (a : Addr) (rp : Addr) (ro : Addr) (rs : Addr) (rf : Addr) (kp : ClassId) (ko : ClassId) (ks : ClassId) (kf : ClassId) (ov0 : Int32) (ov1 : Int32) (ov2 : Int32) (ov3 : Int32) (fv0 : Int32) (fv1 : Int32) (fv2 : Int32) (fv3 : Int32) (dl : Int32) (h0 : Heap) (n0 : Nat) (Z0 : n0 ≤ h0.size) (P0 : Exa Z h0 a "com/example/stratal/stratal/logic/StratumGroups") (P1 : Fld Z h0 a "com/example/stratal/stratal/logic/StratumGroups" "mParent" "[I" (.ref rp)) (P2 : Fld Z h0 a "com/example/stratal/stratal/logic/StratumGroups" "mOffset" "[I" (.ref ro)) (P3 : Fld Z h0 a "com/example/stratal/stratal/logic/StratumGroups" "mSize" "[I" (.ref rs)) (P4 : Fld Z h0 a "com/example/stratal/stratal/logic/StratumGroups" "mFloor" "[I" (.ref rf)) (P5 : Fld Z h0 a "com/example/stratal/stratal/logic/StratumGroups" "mRecording" "Z" (.int 0)) (P6 : Arv Z h0 rp kp .int (16 : Int32) [(.int 0), (.int 0), (.int 2), (.int 3)] (.int 0)) (P7 : Arv Z h0 ro ko .int (16 : Int32) [(.int ov0), (.int ov1), (.int ov2), (.int ov3)] (.int 0)) (P8 : Arv Z h0 rs ks .int (16 : Int32) [(.int 2), (.int 1), (.int 1), (.int 1)] (.int 0)) (P9 : Arv Z h0 rf kf .int (16 : Int32) [(.int fv0), (.int fv1), (.int fv2), (.int fv3)] (.int 0)) (P10 : rp ≠ a) (P11 : ro ≠ a) (P12 : rs ≠ a) (P13 : rf ≠ a) (P14 : rp ≠ ro) (P15 : rp ≠ rs) (P16 : rp ≠ rf) (P17 : ro ≠ rs) (P18 : ro ≠ rf) (P19 : rs ≠ rf) (P20 : n0 ≤ rp) (P21 : n0 ≤ ro) (P22 : n0 ≤ rs) (P23 : n0 ≤ rf) :
    MetFree l (⟨"com/example/stratal/stratal/logic/StratumGroups", "hang", "(III)V"⟩ : MethodName) (head1 (Jvm.Cond.code (⟨"com/example/stratal/stratal/logic/StratumGroups", "hang", "(III)V"⟩ : MethodName) prog_53_method_11_code 4 none :: ws) ({ frames := 1, cells := 0, slots := 0, locals := 15 } : Room)) (fun aa U => aa = #[(.ref a), (.int 3), (.int 2), (.int dl)] ∧ Z.Warmed39 U.vm ∧ U.heap = h0) (fun _ _ _ _ _ => True) (fun _ U o U' => ∃ v L, o = .returned v ∧ QH32_0023 Z a rp ro rs rf kp ko ks kf ov0 ov1 ov2 ov3 fv0 fv1 fv2 fv3 dl h0 n0 v U'.heap L ∧ FrameEnd U o U' L ({ frames := 1, cells := 0, slots := 0, locals := 15 } : Room).cells ({ frames := 1, cells := 0, slots := 0, locals := 15 } : Room).slots) := by
  refine MetFree.of_bodySF (plainFor_of_name pn_rmH32_0023) hisR ?_
  intro p e s m args below meth c s₁ Bd hml0 hP hK
  obtain ⟨rfl, hZ, hh⟩ := hP
  have hx := Bd.exec
  have hby := Bd.bytes
  have hml : c.maxLocals = 4 := hml0
  have hown : s.vm.findClass "com/example/stratal/stratal/logic/StratumGroups" = some m.cls := findClass_of_methodNamed Bd.named
  have hnm := (name_of_methodNamed Bd.named Bd.method).1
  have X0 : Stand p l e ({ frames := 1, cells := 0, slots := 0, locals := 15 } : Room) s m #[(.ref a), (.int 3), (.int 2), (.int dl)] below meth c s₁ [] 0 0 := Stand.of_body Bd
  have e0 : s₁.heap = h0 := by rw [← hh, Bd.state]; rfl
  have N0 := Fr.nil n0
  change OE p.tables e below _ _
  refine OE.v (fun t k => castTop (ef_rmH32_0023 m a dl) k) ?_
  show OE _ _ _ _ (s₁.setTop (mkF m 0 #[rv a, iv 3, iv 2, iv dl] []))
  refine OE.v (fun t k => XS.aloadN X0.here hx rfl (hb hby d7_0) rfl rfl k) ?_
  refine OE.v (fun t k => XS.iconst X0.here hx rfl (hb hby d7_1) k) ?_
  refine OE.v (fun t k => XS.iloadN X0.here hx rfl (hb hby d7_2) rfl k) ?_
  refine OE.v (fun t k => XS.aloadN X0.here hx rfl (hb hby d7_3) rfl rfl k) ?_
  show OE _ _ _ _ (s₁.setTop (mkF m 4 #[rv a, iv 3, iv 2, iv dl] [(.ref a), (.int 3), (.int 0), (.ref a)]))
  obtain ⟨T1, X1, e1, st1⟩ := getF X0 hx hZ hown (host := "") (Or.inl (hw _ (own_w 16 rfl))) Via.refl e0 P4 (g := (mkF m 4 #[rv a, iv 3, iv 2, iv dl] [(.ref a), (.int 3), (.int 0), (.ref a)])) rfl rfl (hb hby d7_4)
  refine OE.v st1 ?_
  show OE _ _ _ _ (T1.setTop (mkF m 7 #[rv a, iv 3, iv 2, iv dl] [(.ref rf), (.int 3), (.int 0), (.ref a)]))
  refine OE.v (fun t k => XS.iloadN X1.here hx rfl (hb hby d7_7) rfl k) ?_
  show OE _ _ _ _ (T1.setTop (mkF m 8 #[rv a, iv 3, iv 2, iv dl] [(.int 2), (.ref rf), (.int 3), (.int 0), (.ref a)]))
  obtain ⟨cl2, Ar2, q2, S2, M2, H2, G2⟩ := id P9
  have hin2 : ¬ ((2 : Int32) < 0 ∨ cl2.slots.size ≤ ((2 : Int32)).toNatClampNeg) := inb_of S2 ⟨by decide, by decide⟩
  have hat2 : cl2.slots[((2 : Int32)).toNatClampNeg]? = some (.int fv2) := H2.at hin2 rfl
  refine OE.v (X1.iaload hx (j := (2 : Int32)) (v := (.int fv2)) (by rw [e1]; exact Ar2.1) (State.isArrayOf_alike hZ.alike Ar2.2.1) Ar2.2.2 hin2 hat2 (g := (mkF m 8 #[rv a, iv 3, iv 2, iv dl] [(.int 2), (.ref rf), (.int 3), (.int 0), (.ref a)])) rfl rfl (hb hby d7_8)) ?_
  show OE _ _ _ _ (T1.setTop (mkF m 9 #[rv a, iv 3, iv 2, iv dl] [(.int fv2), (.int 3), (.int 0), (.ref a)]))
  obtain ⟨cq3, q3, q3'⟩ := P0.cell
  obtain ⟨_, _, ⟨T3, L3, k3, n3⟩, -, X3, ⟨Lc3, hQ3, l3, y3, z3⟩, st3⟩ := X1.privateBack hx (y := (⟨"com/example/stratal/stratal/logic/StratumGroups", "record", "(III)V"⟩ : MethodName)) hown (mvT hZ (hw _ (own_w 46 rfl))) (mvT hZ (hw _ (own_w 47 rfl))) (own_selp (mvT hZ (hw _ (own_w 1 rfl))) (Cond.privateMethod_at (mvP hZ (hw _ (own_w 48 rfl)) (args := #[]))) (mvT hZ (hw _ (own_w 47 rfl))) (by decide)) (Cond.privateMethod_at (mvP hZ (hw _ (own_w 48 rfl)) (args := #[]))) (mvT hZ (hw _ (own_w 49 rfl))) (by decide) (backOf (W := 0) (rm8 l Z a0 hw [] a (0 : Int32) (3 : Int32) fv2 h0 n0 Z0 P5) hZ (hw _ (own_w 49 rfl)) (hw _ (own_w 2 rfl)) (by decide) (by decide)) (g := (mkF m 9 #[rv a, iv 3, iv 2, iv dl] [(.int fv2), (.int 3), (.int 0), (.ref a)])) rfl (by rw [hml]; rfl) (Steps.refl _) (a := a) (by rw [e1]; exact q3) q3' (argsL := [(.int 0), (.int 3), (.int fv2)]) (rest := []) (lenOf pd_2 rfl) rfl (Nat.le_of_eq rfl) (hb hby d7_9) (fun _ _ => ⟨rfl, e1, (by decide : 0 + 0 ≤ _), (by decide : 0 + 0 ≤ _)⟩)
  dsimp only [Pt.U, Pt.locs, Pt.cells, Pt.slots] at X3 l3 y3 z3 st3 hQ3
  subst l3 y3 z3
  obtain ⟨rfl, Nq3, e3⟩ := hQ3
  have N3 := Fr.app N0 Nq3
  refine OE.v (fun t k => st3.trans k) ?_
  show OE _ _ _ _ (T3.setTop (mkF m 12 #[rv a, iv 3, iv 2, iv dl] []))
  refine OE.v (fun t k => XS.aloadN X3.here hx rfl (hb hby d7_12) rfl rfl k) ?_
  show OE _ _ _ _ (T3.setTop (mkF m 13 #[rv a, iv 3, iv 2, iv dl] [(.ref a)]))
  obtain ⟨T4, X4, e4, st4⟩ := getF X3 hx hZ hown (host := "") (Or.inl (hw _ (own_w 10 rfl))) Via.refl e3 P1 (g := (mkF m 13 #[rv a, iv 3, iv 2, iv dl] [(.ref a)])) rfl rfl (hb hby d7_13)
  refine OE.v st4 ?_
  show OE _ _ _ _ (T4.setTop (mkF m 16 #[rv a, iv 3, iv 2, iv dl] [(.ref rp)]))
  refine OE.v (fun t k => XS.iloadN X4.here hx rfl (hb hby d7_16) rfl k) ?_
  refine OE.v (fun t k => XS.iloadN X4.here hx rfl (hb hby d7_17) rfl k) ?_
  show OE _ _ _ _ (T4.setTop (mkF m 18 #[rv a, iv 3, iv 2, iv dl] [(.int 2), (.int 3), (.ref rp)]))
  obtain ⟨cl5, Ar5, q5, S5, M5, H5, G5⟩ := id P6
  have hin5 : ¬ ((3 : Int32) < 0 ∨ cl5.slots.size ≤ ((3 : Int32)).toNatClampNeg) := inb_of S5 ⟨by decide, by decide⟩
  obtain ⟨T5, h5, X5, e5, W5, st5⟩ := stI X4 hx hZ e4 Ar5 (j := (3 : Int32)) hin5 (g := (mkF m 18 #[rv a, iv 3, iv 2, iv dl] [(.int 2), (.int 3), (.ref rp)])) rfl rfl (hb hby d7_18)
  have V5 : Arv Z h5 rp kp .int (16 : Int32) [(.int 0), (.int 0), (.int 2), (.int 2)] (.int 0) := Arv.set Ar5 q5 S5 M5 H5 G5 rfl W5 3 rfl (Nat.le_of_ble_eq_true rfl)
  have N5 := Fr.snoc X5 N3 P20
  have Z5 : n0 ≤ h5.size := Nat.le_trans Z0 (Nat.le_of_eq W5.size.symm)
  have K5 : Keep h0 h5 [rp, ro, rs, rf] := (Keep.refl h0 [rp, ro, rs, rf]).wr W5 (Or.inl (by simp))
  refine OE.v st5 ?_
  show OE _ _ _ _ (T5.setTop (mkF m 19 #[rv a, iv 3, iv 2, iv dl] []))
  refine OE.v (fun t k => XS.aloadN X5.here hx rfl (hb hby d7_19) rfl rfl k) ?_
  show OE _ _ _ _ (T5.setTop (mkF m 20 #[rv a, iv 3, iv 2, iv dl] [(.ref a)]))
  obtain ⟨T6, X6, e6, st6⟩ := getF X5 hx hZ hown (host := "") (Or.inl (hw _ (own_w 12 rfl))) Via.refl e5 (P2.other W5 (Or.inl (Ne.symm P10))) (g := (mkF m 20 #[rv a, iv 3, iv 2, iv dl] [(.ref a)])) rfl rfl (hb hby d7_20)
  refine OE.v st6 ?_
  show OE _ _ _ _ (T6.setTop (mkF m 23 #[rv a, iv 3, iv 2, iv dl] [(.ref ro)]))
  refine OE.v (fun t k => XS.iloadN X6.here hx rfl (hb hby d7_23) rfl k) ?_
  refine OE.v (fun t k => XS.iloadN X6.here hx rfl (hb hby d7_24) rfl k) ?_
  show OE _ _ _ _ (T6.setTop (mkF m 25 #[rv a, iv 3, iv 2, iv dl] [(.int dl), (.int 3), (.ref ro)]))
  obtain ⟨cl7, Ar7, q7, S7, M7, H7, G7⟩ := id (P7.other W5 (Ne.symm P14))
  have hin7 : ¬ ((3 : Int32) < 0 ∨ cl7.slots.size ≤ ((3 : Int32)).toNatClampNeg) := inb_of S7 ⟨by decide, by decide⟩
  obtain ⟨T7, h7, X7, e7, W7, st7⟩ := stI X6 hx hZ e6 Ar7 (j := (3 : Int32)) hin7 (g := (mkF m 25 #[rv a, iv 3, iv 2, iv dl] [(.int dl), (.int 3), (.ref ro)])) rfl rfl (hb hby d7_25)
  have V7 : Arv Z h7 ro ko .int (16 : Int32) [(.int ov0), (.int ov1), (.int ov2), (.int dl)] (.int 0) := Arv.set Ar7 q7 S7 M7 H7 G7 rfl W7 3 rfl (Nat.le_of_ble_eq_true rfl)
  have N7 := Fr.snoc X7 N5 P21
  have Z7 : n0 ≤ h7.size := Nat.le_trans Z5 (Nat.le_of_eq W7.size.symm)
  have K7 : Keep h0 h7 [rp, ro, rs, rf] := K5.wr W7 (Or.inl (by simp))
  refine OE.v st7 ?_
  show OE _ _ _ _ (T7.setTop (mkF m 26 #[rv a, iv 3, iv 2, iv dl] []))
  refine OE.v (fun t k => XS.aloadN X7.here hx rfl (hb hby d7_26) rfl rfl k) ?_
  show OE _ _ _ _ (T7.setTop (mkF m 27 #[rv a, iv 3, iv 2, iv dl] [(.ref a)]))
  obtain ⟨T8, X8, e8, st8⟩ := getF X7 hx hZ hown (host := "") (Or.inl (hw _ (own_w 14 rfl))) Via.refl e7 ((P3.other W5 (Or.inl (Ne.symm P10))).other W7 (Or.inl (Ne.symm P11))) (g := (mkF m 27 #[rv a, iv 3, iv 2, iv dl] [(.ref a)])) rfl rfl (hb hby d7_27)
  refine OE.v st8 ?_
  show OE _ _ _ _ (T8.setTop (mkF m 30 #[rv a, iv 3, iv 2, iv dl] [(.ref rs)]))
  refine OE.v (fun t k => XS.iloadN X8.here hx rfl (hb hby d7_30) rfl k) ?_
  show OE _ _ _ _ (T8.setTop (mkF m 31 #[rv a, iv 3, iv 2, iv dl] [(.int 2), (.ref rs)]))
  refine OE.v (fun t k => Jvm.Free.XT.dup2 X8.here hx rfl (hb hby d7_31) rfl rfl rfl k) ?_
  show OE _ _ _ _ (T8.setTop (mkF m 32 #[rv a, iv 3, iv 2, iv dl] [(.int 2), (.ref rs), (.int 2), (.ref rs)]))
  obtain ⟨cl9, Ar9, q9, S9, M9, H9, G9⟩ := id ((P8.other W5 (Ne.symm P15)).other W7 (Ne.symm P17))
  have hin9 : ¬ ((2 : Int32) < 0 ∨ cl9.slots.size ≤ ((2 : Int32)).toNatClampNeg) := inb_of S9 ⟨by decide, by decide⟩
  have hat9 : cl9.slots[((2 : Int32)).toNatClampNeg]? = some (.int 1) := H9.at hin9 rfl
  refine OE.v (X8.iaload hx (j := (2 : Int32)) (v := (.int 1)) (by rw [e8]; exact Ar9.1) (State.isArrayOf_alike hZ.alike Ar9.2.1) Ar9.2.2 hin9 hat9 (g := (mkF m 32 #[rv a, iv 3, iv 2, iv dl] [(.int 2), (.ref rs), (.int 2), (.ref rs)])) rfl rfl (hb hby d7_32)) ?_
  show OE _ _ _ _ (T8.setTop (mkF m 33 #[rv a, iv 3, iv 2, iv dl] [(.int 1), (.int 2), (.ref rs)]))
  refine OE.v (fun t k => XS.aloadN X8.here hx rfl (hb hby d7_33) rfl rfl k) ?_
  show OE _ _ _ _ (T8.setTop (mkF m 34 #[rv a, iv 3, iv 2, iv dl] [(.ref a), (.int 1), (.int 2), (.ref rs)]))
  obtain ⟨T10, X10, e10, st10⟩ := getF X8 hx hZ hown (host := "") (Or.inl (hw _ (own_w 14 rfl))) Via.refl e8 ((P3.other W5 (Or.inl (Ne.symm P10))).other W7 (Or.inl (Ne.symm P11))) (g := (mkF m 34 #[rv a, iv 3, iv 2, iv dl] [(.ref a), (.int 1), (.int 2), (.ref rs)])) rfl rfl (hb hby d7_34)
  refine OE.v st10 ?_
  show OE _ _ _ _ (T10.setTop (mkF m 37 #[rv a, iv 3, iv 2, iv dl] [(.ref rs), (.int 1), (.int 2), (.ref rs)]))
  refine OE.v (fun t k => XS.iloadN X10.here hx rfl (hb hby d7_37) rfl k) ?_
  show OE _ _ _ _ (T10.setTop (mkF m 38 #[rv a, iv 3, iv 2, iv dl] [(.int 3), (.ref rs), (.int 1), (.int 2), (.ref rs)]))
  obtain ⟨cl11, Ar11, q11, S11, M11, H11, G11⟩ := id ((P8.other W5 (Ne.symm P15)).other W7 (Ne.symm P17))
  have hin11 : ¬ ((3 : Int32) < 0 ∨ cl11.slots.size ≤ ((3 : Int32)).toNatClampNeg) := inb_of S11 ⟨by decide, by decide⟩
  have hat11 : cl11.slots[((3 : Int32)).toNatClampNeg]? = some (.int 1) := H11.at hin11 rfl
  refine OE.v (X10.iaload hx (j := (3 : Int32)) (v := (.int 1)) (by rw [e10]; exact Ar11.1) (State.isArrayOf_alike hZ.alike Ar11.2.1) Ar11.2.2 hin11 hat11 (g := (mkF m 38 #[rv a, iv 3, iv 2, iv dl] [(.int 3), (.ref rs), (.int 1), (.int 2), (.ref rs)])) rfl rfl (hb hby d7_38)) ?_
  show OE _ _ _ _ (T10.setTop (mkF m 39 #[rv a, iv 3, iv 2, iv dl] [(.int 1), (.int 1), (.int 2), (.ref rs)]))
  refine OE.v (fun t k => XS.iadd X10.here hx rfl (hb hby d7_39) rfl k) ?_
  show OE _ _ _ _ (T10.setTop (mkF m 40 #[rv a, iv 3, iv 2, iv dl] [(.int 2), (.int 2), (.ref rs)]))
  obtain ⟨cl12, Ar12, q12, S12, M12, H12, G12⟩ := id ((P8.other W5 (Ne.symm P15)).other W7 (Ne.symm P17))
  have hin12 : ¬ ((2 : Int32) < 0 ∨ cl12.slots.size ≤ ((2 : Int32)).toNatClampNeg) := inb_of S12 ⟨by decide, by decide⟩
  obtain ⟨T12, h12, X12, e12, W12, st12⟩ := stI X10 hx hZ e10 Ar12 (j := (2 : Int32)) hin12 (g := (mkF m 40 #[rv a, iv 3, iv 2, iv dl] [(.int 2), (.int 2), (.ref rs)])) rfl rfl (hb hby d7_40)
  have V12 : Arv Z h12 rs ks .int (16 : Int32) [(.int 2), (.int 1), (.int 2), (.int 1)] (.int 0) := Arv.set Ar12 q12 S12 M12 H12 G12 rfl W12 2 rfl (Nat.le_of_ble_eq_true rfl)
  have N12 := Fr.snoc X12 N7 P22
  have Z12 : n0 ≤ h12.size := Nat.le_trans Z7 (Nat.le_of_eq W12.size.symm)
  have K12 : Keep h0 h12 [rp, ro, rs, rf] := K7.wr W12 (Or.inl (by simp))
  refine OE.v st12 ?_
  show OE _ _ _ _ (T12.setTop (mkF m 41 #[rv a, iv 3, iv 2, iv dl] []))
  refine OE.v (fun t k => XS.aloadN X12.here hx rfl (hb hby d7_41) rfl rfl k) ?_
  show OE _ _ _ _ (T12.setTop (mkF m 42 #[rv a, iv 3, iv 2, iv dl] [(.ref a)]))
  obtain ⟨T13, X13, e13, st13⟩ := getF X12 hx hZ hown (host := "") (Or.inl (hw _ (own_w 16 rfl))) Via.refl e12 (((P4.other W5 (Or.inl (Ne.symm P10))).other W7 (Or.inl (Ne.symm P11))).other W12 (Or.inl (Ne.symm P12))) (g := (mkF m 42 #[rv a, iv 3, iv 2, iv dl] [(.ref a)])) rfl rfl (hb hby d7_42)
  refine OE.v st13 ?_
  show OE _ _ _ _ (T13.setTop (mkF m 45 #[rv a, iv 3, iv 2, iv dl] [(.ref rf)]))
  refine OE.v (fun t k => XS.iloadN X13.here hx rfl (hb hby d7_45) rfl k) ?_
  refine OE.v (fun t k => XS.aloadN X13.here hx rfl (hb hby d7_46) rfl rfl k) ?_
  show OE _ _ _ _ (T13.setTop (mkF m 47 #[rv a, iv 3, iv 2, iv dl] [(.ref a), (.int 2), (.ref rf)]))
  obtain ⟨T14, X14, e14, st14⟩ := getF X13 hx hZ hown (host := "") (Or.inl (hw _ (own_w 16 rfl))) Via.refl e13 (((P4.other W5 (Or.inl (Ne.symm P10))).other W7 (Or.inl (Ne.symm P11))).other W12 (Or.inl (Ne.symm P12))) (g := (mkF m 47 #[rv a, iv 3, iv 2, iv dl] [(.ref a), (.int 2), (.ref rf)])) rfl rfl (hb hby d7_47)
  refine OE.v st14 ?_
  show OE _ _ _ _ (T14.setTop (mkF m 50 #[rv a, iv 3, iv 2, iv dl] [(.ref rf), (.int 2), (.ref rf)]))
  refine OE.v (fun t k => XS.iloadN X14.here hx rfl (hb hby d7_50) rfl k) ?_
  show OE _ _ _ _ (T14.setTop (mkF m 51 #[rv a, iv 3, iv 2, iv dl] [(.int 2), (.ref rf), (.int 2), (.ref rf)]))
  obtain ⟨cl15, Ar15, q15, S15, M15, H15, G15⟩ := id (((P9.other W5 (Ne.symm P16)).other W7 (Ne.symm P18)).other W12 (Ne.symm P19))
  have hin15 : ¬ ((2 : Int32) < 0 ∨ cl15.slots.size ≤ ((2 : Int32)).toNatClampNeg) := inb_of S15 ⟨by decide, by decide⟩
  have hat15 : cl15.slots[((2 : Int32)).toNatClampNeg]? = some (.int fv2) := H15.at hin15 rfl
  refine OE.v (X14.iaload hx (j := (2 : Int32)) (v := (.int fv2)) (by rw [e14]; exact Ar15.1) (State.isArrayOf_alike hZ.alike Ar15.2.1) Ar15.2.2 hin15 hat15 (g := (mkF m 51 #[rv a, iv 3, iv 2, iv dl] [(.int 2), (.ref rf), (.int 2), (.ref rf)])) rfl rfl (hb hby d7_51)) ?_
  show OE _ _ _ _ (T14.setTop (mkF m 52 #[rv a, iv 3, iv 2, iv dl] [(.int fv2), (.int 2), (.ref rf)]))
  refine OE.v (fun t k => XS.aloadN X14.here hx rfl (hb hby d7_52) rfl rfl k) ?_
  show OE _ _ _ _ (T14.setTop (mkF m 53 #[rv a, iv 3, iv 2, iv dl] [(.ref a), (.int fv2), (.int 2), (.ref rf)]))
  obtain ⟨T16, X16, e16, st16⟩ := getF X14 hx hZ hown (host := "") (Or.inl (hw _ (own_w 16 rfl))) Via.refl e14 (((P4.other W5 (Or.inl (Ne.symm P10))).other W7 (Or.inl (Ne.symm P11))).other W12 (Or.inl (Ne.symm P12))) (g := (mkF m 53 #[rv a, iv 3, iv 2, iv dl] [(.ref a), (.int fv2), (.int 2), (.ref rf)])) rfl rfl (hb hby d7_53)
  refine OE.v st16 ?_
  show OE _ _ _ _ (T16.setTop (mkF m 56 #[rv a, iv 3, iv 2, iv dl] [(.ref rf), (.int fv2), (.int 2), (.ref rf)]))
  refine OE.v (fun t k => XS.iloadN X16.here hx rfl (hb hby d7_56) rfl k) ?_
  show OE _ _ _ _ (T16.setTop (mkF m 57 #[rv a, iv 3, iv 2, iv dl] [(.int 3), (.ref rf), (.int fv2), (.int 2), (.ref rf)]))
  obtain ⟨cl17, Ar17, q17, S17, M17, H17, G17⟩ := id (((P9.other W5 (Ne.symm P16)).other W7 (Ne.symm P18)).other W12 (Ne.symm P19))
  have hin17 : ¬ ((3 : Int32) < 0 ∨ cl17.slots.size ≤ ((3 : Int32)).toNatClampNeg) := inb_of S17 ⟨by decide, by decide⟩
  have hat17 : cl17.slots[((3 : Int32)).toNatClampNeg]? = some (.int fv3) := H17.at hin17 rfl
  refine OE.v (X16.iaload hx (j := (3 : Int32)) (v := (.int fv3)) (by rw [e16]; exact Ar17.1) (State.isArrayOf_alike hZ.alike Ar17.2.1) Ar17.2.2 hin17 hat17 (g := (mkF m 57 #[rv a, iv 3, iv 2, iv dl] [(.int 3), (.ref rf), (.int fv2), (.int 2), (.ref rf)])) rfl rfl (hb hby d7_57)) ?_
  show OE _ _ _ _ (T16.setTop (mkF m 58 #[rv a, iv 3, iv 2, iv dl] [(.int fv3), (.int fv2), (.int 2), (.ref rf)]))
  refine OE.v (fun t k => XS.iloadN X16.here hx rfl (hb hby d7_58) rfl k) ?_
  refine OE.v (fun t k => XS.isub X16.here hx rfl (hb hby d7_59) rfl k) ?_
  show OE _ _ _ _ (T16.setTop (mkF m 60 #[rv a, iv 3, iv 2, iv dl] [(.int (fv3 - dl)), (.int fv2), (.int 2), (.ref rf)]))
  obtain ⟨_, _, ⟨T18, L18, k18, n18⟩, -, X18, ⟨Lc18, hQ18, l18, y18, z18⟩, st18⟩ := Jvm.LawKit.callS X16 hx (y := (⟨"java/lang/Math", "max", "(II)I"⟩ : MethodName)) hown (mvT hZ (hw _ (own_w 52 rfl))) (mvT hZ (hw _ (own_w 53 rfl))) (mvT hZ (hw _ (own_w 54 rfl))) (mvT hZ (hw _ (own_w 55 rfl))) (by decide) (backOf (W := 2) (rm9 l Z a0 hw [] fv2 (fv3 - dl) h12 n0 Z12 ) hZ (hw _ (own_w 55 rfl)) (hw _ (own_w 54 rfl)) (by decide) (by decide)) (g := (mkF m 60 #[rv a, iv 3, iv 2, iv dl] [(.int (fv3 - dl)), (.int fv2), (.int 2), (.ref rf)])) rfl (by rw [hml]; rfl) (argsL := [(.int fv2), (.int (fv3 - dl))]) (rest := [(.int 2), (.ref rf)]) (lenOf pd_3 rfl) rfl (Nat.le_of_eq rfl) (hb hby d7_60) (fun _ _ => ⟨rfl, e16, (by decide : 0 + 0 ≤ _), (by decide : 0 + 0 ≤ _)⟩)
  dsimp only [Pt.U, Pt.locs, Pt.cells, Pt.slots] at X18 l18 y18 z18 st18 hQ18
  subst l18 y18 z18
  obtain ⟨rfl, Nq18, e18⟩ := hQ18
  have N18 := Fr.app N12 Nq18
  refine OE.v st18 ?_
  show OE _ _ _ _ (T18.setTop (mkF m 63 #[rv a, iv 3, iv 2, iv dl] [(.int (own_max fv2 (fv3 - dl))), (.int 2), (.ref rf)]))
  obtain ⟨cl19, Ar19, q19, S19, M19, H19, G19⟩ := id (((P9.other W5 (Ne.symm P16)).other W7 (Ne.symm P18)).other W12 (Ne.symm P19))
  have hin19 : ¬ ((2 : Int32) < 0 ∨ cl19.slots.size ≤ ((2 : Int32)).toNatClampNeg) := inb_of S19 ⟨by decide, by decide⟩
  obtain ⟨T19, h19, X19, e19, W19, st19⟩ := stI X18 hx hZ e18 Ar19 (j := (2 : Int32)) hin19 (g := (mkF m 63 #[rv a, iv 3, iv 2, iv dl] [(.int (own_max fv2 (fv3 - dl))), (.int 2), (.ref rf)])) rfl rfl (hb hby d7_63)
  have V19 : Arv Z h19 rf kf .int (16 : Int32) [(.int fv0), (.int fv1), (.int (own_max fv2 (fv3 - dl))), (.int fv3)] (.int 0) := Arv.set Ar19 q19 S19 M19 H19 G19 rfl W19 2 rfl (Nat.le_of_ble_eq_true rfl)
  have N19 := Fr.snoc X19 N18 P23
  have Z19 : n0 ≤ h19.size := Nat.le_trans Z12 (Nat.le_of_eq W19.size.symm)
  have K19 : Keep h0 h19 [rp, ro, rs, rf] := K12.wr W19 (Or.inl (by simp))
  refine OE.v st19 ?_
  show OE _ _ _ _ (T19.setTop (mkF m 64 #[rv a, iv 3, iv 2, iv dl] []))
  obtain ⟨fs, hr, hrun, hended, hW, hsame⟩ := X19.leave (v := none) (fun _ => rfl)
  refine ⟨_, _, ?_, hrun, hended, _, _, rfl, ?_, ⟨_, rfl⟩, hW, hsame.mono (by decide) (by decide)⟩
  · exact X19.returnOut hx Bd.returns (hb hby d7_64) hr
  · show QH32_0023 Z a rp ro rs rf kp ko ks kf ov0 ov1 ov2 ov3 fv0 fv1 fv2 fv3 dl h0 n0 _ T19.heap _
    rw [e19]
    exact ⟨rfl, N19, K19, (((V5.other W7 P14).other W12 P15).other W19 P16), ((V7.other W12 P17).other W19 P18), (V12.other W19 P19), V19⟩

theorem pn_rmJ23_0023 : plainName "com/example/stratal/stratal/logic/StratumGroups" = true := by first | (simp [plainName, overriddenIn]; done) | decide +kernel
theorem ef_rmJ23_0023 (m : MethodId) (a : Addr) (jr : Int32) : entryFrame m #[(.ref a), (.int 2), (.int 3), (.int jr)] 8 = mkF m 0 #[rv a, iv 2, iv 3, iv jr, .unset, .unset, .unset, .unset] [] := by first | (simp [entryFrame, mkF, argsToLocals, Value.category]; done) | rfl
def QJ23_0023 (Z : State) (a : Addr) (rp : Addr) (ro : Addr) (rs : Addr) (rf : Addr) (kp : ClassId) (ko : ClassId) (ks : ClassId) (kf : ClassId) (ov0 : Int32) (ov1 : Int32) (ov2 : Int32) (ov3 : Int32) (fv0 : Int32) (fv1 : Int32) (fv2 : Int32) (fv3 : Int32) (jr : Int32) (h0 : Heap) (n0 : Nat) (v : Option Value) (h : Heap) (L : List Loc) : Prop := v = some (.int 3) ∧ Fr n0 L ∧ Keep h0 h [rp, ro, rs, rf] ∧ Arv Z h rp kp .int (16 : Int32) [(.int 0), (.int 0), (.int 2), (.int 2)] (.int 0) ∧ Arv Z h ro ko .int (16 : Int32) [(.int ov0), (.int ov1), (.int ov2), (.int (((0 : Int32) + jr) - (0 : Int32)))] (.int 0) ∧ Arv Z h rs ks .int (16 : Int32) [(.int 2), (.int 1), (.int 2), (.int 1)] (.int 0) ∧ Arv Z h rf kf .int (16 : Int32) [(.int fv0), (.int fv1), (.int (own_max fv2 (fv3 - (((0 : Int32) + jr) - (0 : Int32))))), (.int fv3)] (.int 0)
set_option maxRecDepth 65536 in
set_option maxHeartbeats 40000000 in
theorem rmJ23_0023 (l : Launch) (Z : State) (a0 : Array Value) (hw : ∀ d ∈ tables_1, d.before a0 Z = true) (ws : List Jvm.Cond) (a : Addr) (rp : Addr) (ro : Addr) (rs : Addr) (rf : Addr) (kp : ClassId) (ko : ClassId) (ks : ClassId) (kf : ClassId) (ov0 : Int32) (ov1 : Int32) (ov2 : Int32) (ov3 : Int32) (fv0 : Int32) (fv1 : Int32) (fv2 : Int32) (fv3 : Int32) (jr : Int32) (h0 : Heap) (n0 : Nat) (Z0 : n0 ≤ h0.size) (P0 : Exa Z h0 a "com/example/stratal/stratal/logic/StratumGroups") (P1 : Fld Z h0 a "com/example/stratal/stratal/logic/StratumGroups" "mParent" "[I" (.ref rp)) (P2 : Fld Z h0 a "com/example/stratal/stratal/logic/StratumGroups" "mOffset" "[I" (.ref ro)) (P3 : Fld Z h0 a "com/example/stratal/stratal/logic/StratumGroups" "mSize" "[I" (.ref rs)) (P4 : Fld Z h0 a "com/example/stratal/stratal/logic/StratumGroups" "mFloor" "[I" (.ref rf)) (P5 : Fld Z h0 a "com/example/stratal/stratal/logic/StratumGroups" "mRecording" "Z" (.int 0)) (P6 : Arv Z h0 rp kp .int (16 : Int32) [(.int 0), (.int 0), (.int 2), (.int 3)] (.int 0)) (P7 : Arv Z h0 ro ko .int (16 : Int32) [(.int ov0), (.int ov1), (.int ov2), (.int ov3)] (.int 0)) (P8 : Arv Z h0 rs ks .int (16 : Int32) [(.int 2), (.int 1), (.int 1), (.int 1)] (.int 0)) (P9 : Arv Z h0 rf kf .int (16 : Int32) [(.int fv0), (.int fv1), (.int fv2), (.int fv3)] (.int 0)) (P10 : rp ≠ a) (P11 : ro ≠ a) (P12 : rs ≠ a) (P13 : rf ≠ a) (P14 : rp ≠ ro) (P15 : rp ≠ rs) (P16 : rp ≠ rf) (P17 : ro ≠ rs) (P18 : ro ≠ rf) (P19 : rs ≠ rf) (P20 : n0 ≤ rp) (P21 : n0 ≤ ro) (P22 : n0 ≤ rs) (P23 : n0 ≤ rf) :
    MetFree l (⟨"com/example/stratal/stratal/logic/StratumGroups", "join", "(III)I"⟩ : MethodName) (head1 (Jvm.Cond.code (⟨"com/example/stratal/stratal/logic/StratumGroups", "join", "(III)I"⟩ : MethodName) prog_53_method_5_code 8 (some .int) :: ws) ({ frames := 2, cells := 0, slots := 0, locals := 30 } : Room)) (fun aa U => aa = #[(.ref a), (.int 2), (.int 3), (.int jr)] ∧ Z.Warmed39 U.vm ∧ U.heap = h0) (fun _ _ _ _ _ => True) (fun _ U o U' => ∃ v L, o = .returned v ∧ QJ23_0023 Z a rp ro rs rf kp ko ks kf ov0 ov1 ov2 ov3 fv0 fv1 fv2 fv3 jr h0 n0 v U'.heap L ∧ FrameEnd U o U' L ({ frames := 2, cells := 0, slots := 0, locals := 30 } : Room).cells ({ frames := 2, cells := 0, slots := 0, locals := 30 } : Room).slots) := by
  refine MetFree.of_bodySF (plainFor_of_name pn_rmJ23_0023) hisR ?_
  intro p e s m args below meth c s₁ Bd hml0 hP hK
  obtain ⟨rfl, hZ, hh⟩ := hP
  have hx := Bd.exec
  have hby := Bd.bytes
  have hml : c.maxLocals = 8 := hml0
  have hown : s.vm.findClass "com/example/stratal/stratal/logic/StratumGroups" = some m.cls := findClass_of_methodNamed Bd.named
  have hnm := (name_of_methodNamed Bd.named Bd.method).1
  have X0 : Stand p l e ({ frames := 2, cells := 0, slots := 0, locals := 30 } : Room) s m #[(.ref a), (.int 2), (.int 3), (.int jr)] below meth c s₁ [] 0 0 := Stand.of_body Bd
  have e0 : s₁.heap = h0 := by rw [← hh, Bd.state]; rfl
  have N0 := Fr.nil n0
  change OE p.tables e below _ _
  refine OE.v (fun t k => castTop (ef_rmJ23_0023 m a jr) k) ?_
  show OE _ _ _ _ (s₁.setTop (mkF m 0 #[rv a, iv 2, iv 3, iv jr, .unset, .unset, .unset, .unset] []))
  refine OE.v (fun t k => XS.aloadN X0.here hx rfl (hb hby d4_0) rfl rfl k) ?_
  refine OE.v (fun t k => XS.iloadN X0.here hx rfl (hb hby d4_1) rfl k) ?_
  show OE _ _ _ _ (s₁.setTop (mkF m 2 #[rv a, iv 2, iv 3, iv jr, .unset, .unset, .unset, .unset] [(.int 2), (.ref a)]))
  obtain ⟨cq1, kq1, q1a, q1b, q1c⟩ := isOf hZ e0 P0
  obtain ⟨_, _, ⟨T1, L1, k1, n1⟩, -, X1, ⟨Lc1, hQ1, l1, y1, z1⟩, st1⟩ := X0.virtualBack hx (y := (⟨"com/example/stratal/stratal/logic/StratumGroups", "find", "(I)I"⟩ : MethodName)) (z := (⟨"com/example/stratal/stratal/logic/StratumGroups", "find", "(I)I"⟩ : MethodName)) hown (mvT hZ (hw _ (own_w 32 rfl))) (mvT hZ (hw _ (own_w 33 rfl))) (notFace_of_selects (args := #[]) (mvT hZ (hw _ (own_w 35 rfl)))) (mvT hZ (hw _ (own_w 35 rfl))) (mvT hZ (hw _ (own_w 34 rfl))) (by decide) (backOf (W := 0) (rmf2_0023 l Z a0 hw [] a rp kp h0 n0 Z0 P1 P6) hZ (hw _ (own_w 36 rfl)) (hw _ (own_w 2 rfl)) (by decide) (by decide)) q1a q1c (g := (mkF m 2 #[rv a, iv 2, iv 3, iv jr, .unset, .unset, .unset, .unset] [(.int 2), (.ref a)])) rfl (by rw [hml]; rfl) (Steps.refl _) (argsL := [(.int 2)]) (rest := []) (lenOf pd_4 rfl) rfl (Nat.le_of_eq rfl) (hb hby d4_2) (fun _ _ => ⟨rfl, e0, (by decide : 0 + 0 ≤ _), (by decide : 0 + 0 ≤ _)⟩)
  dsimp only [Pt.U, Pt.locs, Pt.cells, Pt.slots] at X1 l1 y1 z1 st1 hQ1
  subst l1 y1 z1
  obtain ⟨rfl, Nq1, e1⟩ := hQ1
  have N1 := Fr.app N0 Nq1
  refine OE.v (fun t k => st1.trans k) ?_
  show OE _ _ _ _ (T1.setTop (mkF m 5 #[rv a, iv 2, iv 3, iv jr, .unset, .unset, .unset, .unset] [(.int 2)]))
  refine OE.v (fun t k => XS.istore X1.here hx rfl (hb hby d4_5) rfl (l' := #[rv a, iv 2, iv 3, iv jr, iv 2, .unset, .unset, .unset]) rfl k) ?_
  refine OE.v (fun t k => XS.aloadN X1.here hx rfl (hb hby d4_7) rfl rfl k) ?_
  refine OE.v (fun t k => XS.iloadN X1.here hx rfl (hb hby d4_8) rfl k) ?_
  show OE _ _ _ _ (T1.setTop (mkF m 9 #[rv a, iv 2, iv 3, iv jr, iv 2, .unset, .unset, .unset] [(.int 3), (.ref a)]))
  obtain ⟨cq2, kq2, q2a, q2b, q2c⟩ := isOf hZ e1 P0
  obtain ⟨_, _, ⟨T2, L2, k2, n2⟩, -, X2, ⟨Lc2, hQ2, l2, y2, z2⟩, st2⟩ := X1.virtualBack hx (y := (⟨"com/example/stratal/stratal/logic/StratumGroups", "find", "(I)I"⟩ : MethodName)) (z := (⟨"com/example/stratal/stratal/logic/StratumGroups", "find", "(I)I"⟩ : MethodName)) hown (mvT hZ (hw _ (own_w 32 rfl))) (mvT hZ (hw _ (own_w 33 rfl))) (notFace_of_selects (args := #[]) (mvT hZ (hw _ (own_w 35 rfl)))) (mvT hZ (hw _ (own_w 35 rfl))) (mvT hZ (hw _ (own_w 34 rfl))) (by decide) (backOf (W := 0) (rmf3_0023 l Z a0 hw [] a rp kp h0 n0 Z0 P1 P6) hZ (hw _ (own_w 36 rfl)) (hw _ (own_w 2 rfl)) (by decide) (by decide)) q2a q2c (g := (mkF m 9 #[rv a, iv 2, iv 3, iv jr, iv 2, .unset, .unset, .unset] [(.int 3), (.ref a)])) rfl (by rw [hml]; rfl) (Steps.refl _) (argsL := [(.int 3)]) (rest := []) (lenOf pd_4 rfl) rfl (Nat.le_of_eq rfl) (hb hby d4_9) (fun _ _ => ⟨rfl, e1, (by decide : 0 + 0 ≤ _), (by decide : 0 + 0 ≤ _)⟩)
  dsimp only [Pt.U, Pt.locs, Pt.cells, Pt.slots] at X2 l2 y2 z2 st2 hQ2
  subst l2 y2 z2
  obtain ⟨rfl, Nq2, e2⟩ := hQ2
  have N2 := Fr.app N1 Nq2
  refine OE.v (fun t k => st2.trans k) ?_
  show OE _ _ _ _ (T2.setTop (mkF m 12 #[rv a, iv 2, iv 3, iv jr, iv 2, .unset, .unset, .unset] [(.int 3)]))
  refine OE.v (fun t k => XS.istore X2.here hx rfl (hb hby d4_12) rfl (l' := #[rv a, iv 2, iv 3, iv jr, iv 2, iv 3, .unset, .unset]) rfl k) ?_
  refine OE.v (fun t k => XS.aloadN X2.here hx rfl (hb hby d4_14) rfl rfl k) ?_
  refine OE.v (fun t k => XS.iloadN X2.here hx rfl (hb hby d4_15) rfl k) ?_
  show OE _ _ _ _ (T2.setTop (mkF m 16 #[rv a, iv 2, iv 3, iv jr, iv 2, iv 3, .unset, .unset] [(.int 2), (.ref a)]))
  obtain ⟨cq3, kq3, q3a, q3b, q3c⟩ := isOf hZ e2 P0
  obtain ⟨_, _, ⟨T3, L3, k3, n3⟩, -, X3, ⟨Lc3, hQ3, l3, y3, z3⟩, st3⟩ := X2.virtualBack hx (y := (⟨"com/example/stratal/stratal/logic/StratumGroups", "offset", "(I)I"⟩ : MethodName)) (z := (⟨"com/example/stratal/stratal/logic/StratumGroups", "offset", "(I)I"⟩ : MethodName)) hown (mvT hZ (hw _ (own_w 37 rfl))) (mvT hZ (hw _ (own_w 38 rfl))) (notFace_of_selects (args := #[]) (mvT hZ (hw _ (own_w 40 rfl)))) (mvT hZ (hw _ (own_w 40 rfl))) (mvT hZ (hw _ (own_w 39 rfl))) (by decide) (backOf (W := 0) (rmo2_0023 l Z a0 hw [] a rp kp ro ko ov0 ov1 ov2 ov3 h0 n0 Z0 P1 P6 P2 P7) hZ (hw _ (own_w 41 rfl)) (hw _ (own_w 2 rfl)) (by decide) (by decide)) q3a q3c (g := (mkF m 16 #[rv a, iv 2, iv 3, iv jr, iv 2, iv 3, .unset, .unset] [(.int 2), (.ref a)])) rfl (by rw [hml]; rfl) (Steps.refl _) (argsL := [(.int 2)]) (rest := []) (lenOf pd_4 rfl) rfl (Nat.le_of_eq rfl) (hb hby d4_16) (fun _ _ => ⟨rfl, e2, (by decide : 0 + 0 ≤ _), (by decide : 0 + 0 ≤ _)⟩)
  dsimp only [Pt.U, Pt.locs, Pt.cells, Pt.slots] at X3 l3 y3 z3 st3 hQ3
  subst l3 y3 z3
  obtain ⟨rfl, Nq3, e3⟩ := hQ3
  have N3 := Fr.app N2 Nq3
  refine OE.v (fun t k => st3.trans k) ?_
  show OE _ _ _ _ (T3.setTop (mkF m 19 #[rv a, iv 2, iv 3, iv jr, iv 2, iv 3, .unset, .unset] [(.int 0)]))
  refine OE.v (fun t k => XS.istore X3.here hx rfl (hb hby d4_19) rfl (l' := #[rv a, iv 2, iv 3, iv jr, iv 2, iv 3, iv 0, .unset]) rfl k) ?_
  refine OE.v (fun t k => XS.aloadN X3.here hx rfl (hb hby d4_21) rfl rfl k) ?_
  refine OE.v (fun t k => XS.iloadN X3.here hx rfl (hb hby d4_22) rfl k) ?_
  show OE _ _ _ _ (T3.setTop (mkF m 23 #[rv a, iv 2, iv 3, iv jr, iv 2, iv 3, iv 0, .unset] [(.int 3), (.ref a)]))
  obtain ⟨cq4, kq4, q4a, q4b, q4c⟩ := isOf hZ e3 P0
  obtain ⟨_, _, ⟨T4, L4, k4, n4⟩, -, X4, ⟨Lc4, hQ4, l4, y4, z4⟩, st4⟩ := X3.virtualBack hx (y := (⟨"com/example/stratal/stratal/logic/StratumGroups", "offset", "(I)I"⟩ : MethodName)) (z := (⟨"com/example/stratal/stratal/logic/StratumGroups", "offset", "(I)I"⟩ : MethodName)) hown (mvT hZ (hw _ (own_w 37 rfl))) (mvT hZ (hw _ (own_w 38 rfl))) (notFace_of_selects (args := #[]) (mvT hZ (hw _ (own_w 40 rfl)))) (mvT hZ (hw _ (own_w 40 rfl))) (mvT hZ (hw _ (own_w 39 rfl))) (by decide) (backOf (W := 0) (rmo3_0023 l Z a0 hw [] a rp kp ro ko ov0 ov1 ov2 ov3 h0 n0 Z0 P1 P6 P2 P7) hZ (hw _ (own_w 41 rfl)) (hw _ (own_w 2 rfl)) (by decide) (by decide)) q4a q4c (g := (mkF m 23 #[rv a, iv 2, iv 3, iv jr, iv 2, iv 3, iv 0, .unset] [(.int 3), (.ref a)])) rfl (by rw [hml]; rfl) (Steps.refl _) (argsL := [(.int 3)]) (rest := []) (lenOf pd_4 rfl) rfl (Nat.le_of_eq rfl) (hb hby d4_23) (fun _ _ => ⟨rfl, e3, (by decide : 0 + 0 ≤ _), (by decide : 0 + 0 ≤ _)⟩)
  dsimp only [Pt.U, Pt.locs, Pt.cells, Pt.slots] at X4 l4 y4 z4 st4 hQ4
  subst l4 y4 z4
  obtain ⟨rfl, Nq4, e4⟩ := hQ4
  have N4 := Fr.app N3 Nq4
  refine OE.v (fun t k => st4.trans k) ?_
  show OE _ _ _ _ (T4.setTop (mkF m 26 #[rv a, iv 2, iv 3, iv jr, iv 2, iv 3, iv 0, .unset] [(.int 0)]))
  refine OE.v (fun t k => XS.istore X4.here hx rfl (hb hby d4_26) rfl (l' := #[rv a, iv 2, iv 3, iv jr, iv 2, iv 3, iv 0, iv 0]) rfl k) ?_
  refine OE.v (fun t k => XS.iload X4.here hx rfl (hb hby d4_28) rfl k) ?_
  refine OE.v (fun t k => XS.iload X4.here hx rfl (hb hby d4_30) rfl k) ?_
  show OE _ _ _ _ (T4.setTop (mkF m 32 #[rv a, iv 2, iv 3, iv jr, iv 2, iv 3, iv 0, iv 0] [(.int 3), (.int 2)]))
  refine OE.v (fun t k => XS.icmpYes X4.here hx rfl (pc0 := 32) (pc' := 67) rfl (hb hby d4_32) rfl (feq (by decide)).2 (by decide) (by decide) k) ?_
  show OE _ _ _ _ (T4.setTop (mkF m 67 #[rv a, iv 2, iv 3, iv jr, iv 2, iv 3, iv 0, iv 0] []))
  refine OE.v (fun t k => XS.aloadN X4.here hx rfl (hb hby d4_67) rfl rfl k) ?_
  show OE _ _ _ _ (T4.setTop (mkF m 68 #[rv a, iv 2, iv 3, iv jr, iv 2, iv 3, iv 0, iv 0] [(.ref a)]))
  obtain ⟨T5, X5, e5, st5⟩ := getF X4 hx hZ hown (host := "") (Or.inl (hw _ (own_w 14 rfl))) Via.refl e4 P3 (g := (mkF m 68 #[rv a, iv 2, iv 3, iv jr, iv 2, iv 3, iv 0, iv 0] [(.ref a)])) rfl rfl (hb hby d4_68)
  refine OE.v st5 ?_
  show OE _ _ _ _ (T5.setTop (mkF m 71 #[rv a, iv 2, iv 3, iv jr, iv 2, iv 3, iv 0, iv 0] [(.ref rs)]))
  refine OE.v (fun t k => XS.iload X5.here hx rfl (hb hby d4_71) rfl k) ?_
  show OE _ _ _ _ (T5.setTop (mkF m 73 #[rv a, iv 2, iv 3, iv jr, iv 2, iv 3, iv 0, iv 0] [(.int 2), (.ref rs)]))
  obtain ⟨cl6, Ar6, q6, S6, M6, H6, G6⟩ := id P8
  have hin6 : ¬ ((2 : Int32) < 0 ∨ cl6.slots.size ≤ ((2 : Int32)).toNatClampNeg) := inb_of S6 ⟨by decide, by decide⟩
  have hat6 : cl6.slots[((2 : Int32)).toNatClampNeg]? = some (.int 1) := H6.at hin6 rfl
  refine OE.v (X5.iaload hx (j := (2 : Int32)) (v := (.int 1)) (by rw [e5]; exact Ar6.1) (State.isArrayOf_alike hZ.alike Ar6.2.1) Ar6.2.2 hin6 hat6 (g := (mkF m 73 #[rv a, iv 2, iv 3, iv jr, iv 2, iv 3, iv 0, iv 0] [(.int 2), (.ref rs)])) rfl rfl (hb hby d4_73)) ?_
  show OE _ _ _ _ (T5.setTop (mkF m 74 #[rv a, iv 2, iv 3, iv jr, iv 2, iv 3, iv 0, iv 0] [(.int 1)]))
  refine OE.v (fun t k => XS.aloadN X5.here hx rfl (hb hby d4_74) rfl rfl k) ?_
  show OE _ _ _ _ (T5.setTop (mkF m 75 #[rv a, iv 2, iv 3, iv jr, iv 2, iv 3, iv 0, iv 0] [(.ref a), (.int 1)]))
  obtain ⟨T7, X7, e7, st7⟩ := getF X5 hx hZ hown (host := "") (Or.inl (hw _ (own_w 14 rfl))) Via.refl e5 P3 (g := (mkF m 75 #[rv a, iv 2, iv 3, iv jr, iv 2, iv 3, iv 0, iv 0] [(.ref a), (.int 1)])) rfl rfl (hb hby d4_75)
  refine OE.v st7 ?_
  show OE _ _ _ _ (T7.setTop (mkF m 78 #[rv a, iv 2, iv 3, iv jr, iv 2, iv 3, iv 0, iv 0] [(.ref rs), (.int 1)]))
  refine OE.v (fun t k => XS.iload X7.here hx rfl (hb hby d4_78) rfl k) ?_
  show OE _ _ _ _ (T7.setTop (mkF m 80 #[rv a, iv 2, iv 3, iv jr, iv 2, iv 3, iv 0, iv 0] [(.int 3), (.ref rs), (.int 1)]))
  obtain ⟨cl8, Ar8, q8, S8, M8, H8, G8⟩ := id P8
  have hin8 : ¬ ((3 : Int32) < 0 ∨ cl8.slots.size ≤ ((3 : Int32)).toNatClampNeg) := inb_of S8 ⟨by decide, by decide⟩
  have hat8 : cl8.slots[((3 : Int32)).toNatClampNeg]? = some (.int 1) := H8.at hin8 rfl
  refine OE.v (X7.iaload hx (j := (3 : Int32)) (v := (.int 1)) (by rw [e7]; exact Ar8.1) (State.isArrayOf_alike hZ.alike Ar8.2.1) Ar8.2.2 hin8 hat8 (g := (mkF m 80 #[rv a, iv 2, iv 3, iv jr, iv 2, iv 3, iv 0, iv 0] [(.int 3), (.ref rs), (.int 1)])) rfl rfl (hb hby d4_80)) ?_
  show OE _ _ _ _ (T7.setTop (mkF m 81 #[rv a, iv 2, iv 3, iv jr, iv 2, iv 3, iv 0, iv 0] [(.int 1), (.int 1)]))
  refine OE.v (fun t k => XS.icmpYes X7.here hx rfl (pc0 := 81) (pc' := 101) rfl (hb hby d4_81) rfl (flt (by decide)).2.1 (by decide) (by decide) k) ?_
  show OE _ _ _ _ (T7.setTop (mkF m 101 #[rv a, iv 2, iv 3, iv jr, iv 2, iv 3, iv 0, iv 0] []))
  refine OE.v (fun t k => XS.aloadN X7.here hx rfl (hb hby d4_101) rfl rfl k) ?_
  refine OE.v (fun t k => XS.iload X7.here hx rfl (hb hby d4_102) rfl k) ?_
  refine OE.v (fun t k => XS.iload X7.here hx rfl (hb hby d4_104) rfl k) ?_
  refine OE.v (fun t k => XS.iload X7.here hx rfl (hb hby d4_106) rfl k) ?_
  refine OE.v (fun t k => XS.iloadN X7.here hx rfl (hb hby d4_108) rfl k) ?_
  refine OE.v (fun t k => XS.iadd X7.here hx rfl (hb hby d4_109) rfl k) ?_
  show OE _ _ _ _ (T7.setTop (mkF m 110 #[rv a, iv 2, iv 3, iv jr, iv 2, iv 3, iv 0, iv 0] [(.int ((0 : Int32) + jr)), (.int 2), (.int 3), (.ref a)]))
  refine OE.v (fun t k => XS.iload X7.here hx rfl (hb hby d4_110) rfl k) ?_
  refine OE.v (fun t k => XS.isub X7.here hx rfl (hb hby d4_112) rfl k) ?_
  show OE _ _ _ _ (T7.setTop (mkF m 113 #[rv a, iv 2, iv 3, iv jr, iv 2, iv 3, iv 0, iv 0] [(.int (((0 : Int32) + jr) - (0 : Int32))), (.int 2), (.int 3), (.ref a)]))
  obtain ⟨cq9, q9, q9'⟩ := P0.cell
  obtain ⟨_, _, ⟨T9, L9, k9, n9⟩, -, X9, ⟨Lc9, hQ9, l9, y9, z9⟩, st9⟩ := X7.privateBack hx (y := (⟨"com/example/stratal/stratal/logic/StratumGroups", "hang", "(III)V"⟩ : MethodName)) hown (mvT hZ (hw _ (own_w 42 rfl))) (mvT hZ (hw _ (own_w 43 rfl))) (own_selp (mvT hZ (hw _ (own_w 1 rfl))) (Cond.privateMethod_at (mvP hZ (hw _ (own_w 44 rfl)) (args := #[]))) (mvT hZ (hw _ (own_w 43 rfl))) (by decide)) (Cond.privateMethod_at (mvP hZ (hw _ (own_w 44 rfl)) (args := #[]))) (mvT hZ (hw _ (own_w 45 rfl))) (by decide) (backOf (W := 0) (rmH32_0023 l Z a0 hw [] a rp ro rs rf kp ko ks kf ov0 ov1 ov2 ov3 fv0 fv1 fv2 fv3 (((0 : Int32) + jr) - (0 : Int32)) h0 n0 Z0 P0 P1 P2 P3 P4 P5 P6 P7 P8 P9 P10 P11 P12 P13 P14 P15 P16 P17 P18 P19 P20 P21 P22 P23) hZ (hw _ (own_w 45 rfl)) (hw _ (own_w 2 rfl)) (by decide) (by decide)) (g := (mkF m 113 #[rv a, iv 2, iv 3, iv jr, iv 2, iv 3, iv 0, iv 0] [(.int (((0 : Int32) + jr) - (0 : Int32))), (.int 2), (.int 3), (.ref a)])) rfl (by rw [hml]; rfl) (Steps.refl _) (a := a) (by rw [e7]; exact q9) q9' (argsL := [(.int 3), (.int 2), (.int (((0 : Int32) + jr) - (0 : Int32)))]) (rest := []) (lenOf pd_2 rfl) rfl (Nat.le_of_eq rfl) (hb hby d4_113) (fun _ _ => ⟨rfl, e7, (by decide : 0 + 0 ≤ _), (by decide : 0 + 0 ≤ _)⟩)
  dsimp only [Pt.U, Pt.locs, Pt.cells, Pt.slots] at X9 l9 y9 z9 st9 hQ9
  subst l9 y9 z9
  obtain ⟨h9, e9⟩ : ∃ z, T9.heap = z := ⟨_, rfl⟩
  rw [e9] at hQ9
  obtain ⟨rfl, Nq9, Kq9, q9_0, q9_1, q9_2, q9_3⟩ := hQ9
  have Z9 : n0 ≤ h9.size := Nat.le_trans Z0 Kq9.1
  have K9 : Keep h0 h9 [rp, ro, rs, rf] := (Keep.refl h0 [rp, ro, rs, rf]).trans Kq9 (allS (Or.inl (by simp)) (allS (Or.inl (by simp)) (allS (Or.inl (by simp)) (allS (Or.inl (by simp)) all0))))
  have N9 := Fr.app N4 Nq9
  refine OE.v (fun t k => st9.trans k) ?_
  show OE _ _ _ _ (T9.setTop (mkF m 116 #[rv a, iv 2, iv 3, iv jr, iv 2, iv 3, iv 0, iv 0] []))
  refine OE.v (fun t k => XS.iloadN X9.here hx rfl (hb hby d4_116) rfl k) ?_
  show OE _ _ _ _ (T9.setTop (mkF m 117 #[rv a, iv 2, iv 3, iv jr, iv 2, iv 3, iv 0, iv 0] [(.int 3)]))
  obtain ⟨fs, hr, hrun, hended, hW, hsame⟩ := X9.leave (v := some (.int 3)) (fun h => by rw [Bd.returns] at h; cases h)
  refine ⟨_, _, ?_, hrun, hended, _, _, rfl, ?_, ⟨_, rfl⟩, hW, hsame.mono (by decide) (by decide)⟩
  · exact retI X9 hx Bd.returns (hb hby d4_117) hr
  · show QJ23_0023 Z a rp ro rs rf kp ko ks kf ov0 ov1 ov2 ov3 fv0 fv1 fv2 fv3 jr h0 n0 _ T9.heap _
    rw [e9]
    exact ⟨rfl, N9, K9, q9_0, q9_1, q9_2, q9_3⟩

theorem pn_rmo0_0022 : plainName "com/example/stratal/stratal/logic/StratumGroups" = true := by first | (simp [plainName, overriddenIn]; done) | decide +kernel
theorem ef_rmo0_0022 (m : MethodId) (a : Addr) : entryFrame m #[(.ref a), (.int 0)] 4 = mkF m 0 #[rv a, iv 0, .unset, .unset] [] := by first | (simp [entryFrame, mkF, argsToLocals, Value.category]; done) | rfl
def Qo0_0022 (Z : State) (a : Addr) (rp : Addr) (kp : ClassId) (ro : Addr) (ko : ClassId) (ov0 : Int32) (ov1 : Int32) (ov2 : Int32) (ov3 : Int32) (h0 : Heap) (n0 : Nat) (v : Option Value) (h : Heap) (L : List Loc) : Prop := v = some (.int 0) ∧ Fr n0 L ∧ h = h0
set_option maxRecDepth 65536 in
set_option maxHeartbeats 40000000 in
theorem rmo0_0022 (l : Launch) (Z : State) (a0 : Array Value) (hw : ∀ d ∈ tables_1, d.before a0 Z = true) (ws : List Jvm.Cond) (a : Addr) (rp : Addr) (kp : ClassId) (ro : Addr) (ko : ClassId) (ov0 : Int32) (ov1 : Int32) (ov2 : Int32) (ov3 : Int32) (h0 : Heap) (n0 : Nat) (Z0 : n0 ≤ h0.size) (P0 : Fld Z h0 a "com/example/stratal/stratal/logic/StratumGroups" "mParent" "[I" (.ref rp)) (P1 : Arv Z h0 rp kp .int (16 : Int32) [(.int 0), (.int 0), (.int 2), (.int 2)] (.int 0)) (P2 : Fld Z h0 a "com/example/stratal/stratal/logic/StratumGroups" "mOffset" "[I" (.ref ro)) (P3 : Arv Z h0 ro ko .int (16 : Int32) [(.int ov0), (.int ov1), (.int ov2), (.int ov3)] (.int 0)) :
    MetFree l (⟨"com/example/stratal/stratal/logic/StratumGroups", "offset", "(I)I"⟩ : MethodName) (head1 (Jvm.Cond.code (⟨"com/example/stratal/stratal/logic/StratumGroups", "offset", "(I)I"⟩ : MethodName) prog_53_method_4_code 4 (some .int) :: ws) ({ frames := 0, cells := 0, slots := 0, locals := 0 } : Room)) (fun aa U => aa = #[(.ref a), (.int 0)] ∧ Z.Warmed39 U.vm ∧ U.heap = h0) (fun _ _ _ _ _ => True) (fun _ U o U' => ∃ v L, o = .returned v ∧ Qo0_0022 Z a rp kp ro ko ov0 ov1 ov2 ov3 h0 n0 v U'.heap L ∧ FrameEnd U o U' L ({ frames := 0, cells := 0, slots := 0, locals := 0 } : Room).cells ({ frames := 0, cells := 0, slots := 0, locals := 0 } : Room).slots) := by
  refine MetFree.of_bodySF (plainFor_of_name pn_rmo0_0022) hisR ?_
  intro p e s m args below meth c s₁ Bd hml0 hP hK
  obtain ⟨rfl, hZ, hh⟩ := hP
  have hx := Bd.exec
  have hby := Bd.bytes
  have hml : c.maxLocals = 4 := hml0
  have hown : s.vm.findClass "com/example/stratal/stratal/logic/StratumGroups" = some m.cls := findClass_of_methodNamed Bd.named
  have hnm := (name_of_methodNamed Bd.named Bd.method).1
  have X0 : Stand p l e ({ frames := 0, cells := 0, slots := 0, locals := 0 } : Room) s m #[(.ref a), (.int 0)] below meth c s₁ [] 0 0 := Stand.of_body Bd
  have e0 : s₁.heap = h0 := by rw [← hh, Bd.state]; rfl
  have N0 := Fr.nil n0
  change OE p.tables e below _ _
  refine OE.v (fun t k => castTop (ef_rmo0_0022 m a) k) ?_
  show OE _ _ _ _ (s₁.setTop (mkF m 0 #[rv a, iv 0, .unset, .unset] []))
  refine OE.v (fun t k => XS.iconst X0.here hx rfl (hb hby d6_0) k) ?_
  refine OE.v (fun t k => XS.istoreN X0.here hx rfl (hb hby d6_1) rfl (l' := #[rv a, iv 0, iv 0, .unset]) rfl k) ?_
  refine OE.v (fun t k => XS.iloadN X0.here hx rfl (hb hby d6_2) rfl k) ?_
  refine OE.v (fun t k => XS.istoreN X0.here hx rfl (hb hby d6_3) rfl (l' := #[rv a, iv 0, iv 0, iv 0]) rfl k) ?_
  refine OE.v (fun t k => XS.aloadN X0.here hx rfl (hb hby d6_4) rfl rfl k) ?_
  show OE _ _ _ _ (s₁.setTop (mkF m 5 #[rv a, iv 0, iv 0, iv 0] [(.ref a)]))
  obtain ⟨T1, X1, e1, st1⟩ := getF X0 hx hZ hown (host := "") (Or.inl (hw _ (own_w 10 rfl))) Via.refl e0 P0 (g := (mkF m 5 #[rv a, iv 0, iv 0, iv 0] [(.ref a)])) rfl rfl (hb hby d6_5)
  refine OE.v st1 ?_
  show OE _ _ _ _ (T1.setTop (mkF m 8 #[rv a, iv 0, iv 0, iv 0] [(.ref rp)]))
  refine OE.v (fun t k => XS.iloadN X1.here hx rfl (hb hby d6_8) rfl k) ?_
  show OE _ _ _ _ (T1.setTop (mkF m 9 #[rv a, iv 0, iv 0, iv 0] [(.int 0), (.ref rp)]))
  obtain ⟨cl2, Ar2, q2, S2, M2, H2, G2⟩ := id P1
  have hin2 : ¬ ((0 : Int32) < 0 ∨ cl2.slots.size ≤ ((0 : Int32)).toNatClampNeg) := inb_of S2 ⟨by decide, by decide⟩
  have hat2 : cl2.slots[((0 : Int32)).toNatClampNeg]? = some (.int 0) := H2.at hin2 rfl
  refine OE.v (X1.iaload hx (j := (0 : Int32)) (v := (.int 0)) (by rw [e1]; exact Ar2.1) (State.isArrayOf_alike hZ.alike Ar2.2.1) Ar2.2.2 hin2 hat2 (g := (mkF m 9 #[rv a, iv 0, iv 0, iv 0] [(.int 0), (.ref rp)])) rfl rfl (hb hby d6_9)) ?_
  show OE _ _ _ _ (T1.setTop (mkF m 10 #[rv a, iv 0, iv 0, iv 0] [(.int 0)]))
  refine OE.v (fun t k => XS.iloadN X1.here hx rfl (hb hby d6_10) rfl k) ?_
  show OE _ _ _ _ (T1.setTop (mkF m 11 #[rv a, iv 0, iv 0, iv 0] [(.int 0), (.int 0)]))
  refine OE.v (fun t k => XS.icmpYes X1.here hx rfl (pc0 := 11) (pc' := 33) rfl (hb hby d6_11) rfl (teq (by decide)).1 (by decide) (by decide) k) ?_
  show OE _ _ _ _ (T1.setTop (mkF m 33 #[rv a, iv 0, iv 0, iv 0] []))
  refine OE.v (fun t k => XS.iloadN X1.here hx rfl (hb hby d6_33) rfl k) ?_
  show OE _ _ _ _ (T1.setTop (mkF m 34 #[rv a, iv 0, iv 0, iv 0] [(.int 0)]))
  obtain ⟨fs, hr, hrun, hended, hW, hsame⟩ := X1.leave (v := some (.int 0)) (fun h => by rw [Bd.returns] at h; cases h)
  refine ⟨_, _, ?_, hrun, hended, _, _, rfl, ?_, ⟨_, rfl⟩, hW, hsame.mono (by decide) (by decide)⟩
  · exact retI X1 hx Bd.returns (hb hby d6_34) hr
  · show Qo0_0022 Z a rp kp ro ko ov0 ov1 ov2 ov3 h0 n0 _ T1.heap _
    rw [e1]
    exact ⟨rfl, N0, rfl⟩

theorem d6_14 : decode prog_53_method_4_code 14 = .ok (.iload_n 2, 1) := by decide +kernel
theorem d6_15 : decode prog_53_method_4_code 15 = .ok (.aload_n 0, 1) := by decide +kernel
theorem d6_16 : decode prog_53_method_4_code 16 = .ok (.getfield 13, 3) := by decide +kernel
theorem d6_19 : decode prog_53_method_4_code 19 = .ok (.iload_n 3, 1) := by decide +kernel
theorem d6_20 : decode prog_53_method_4_code 20 = .ok (.iaload, 1) := by decide +kernel
theorem d6_21 : decode prog_53_method_4_code 21 = .ok (.iadd, 1) := by decide +kernel
theorem d6_22 : decode prog_53_method_4_code 22 = .ok (.istore_n 2, 1) := by decide +kernel
theorem d6_23 : decode prog_53_method_4_code 23 = .ok (.aload_n 0, 1) := by decide +kernel
theorem d6_24 : decode prog_53_method_4_code 24 = .ok (.getfield 7, 3) := by decide +kernel
theorem d6_27 : decode prog_53_method_4_code 27 = .ok (.iload_n 3, 1) := by decide +kernel
theorem d6_28 : decode prog_53_method_4_code 28 = .ok (.iaload, 1) := by decide +kernel
theorem d6_29 : decode prog_53_method_4_code 29 = .ok (.istore_n 3, 1) := by decide +kernel
theorem d6_30 : decode prog_53_method_4_code 30 = .ok (.goto (-26), 3) := by decide +kernel
theorem pn_rmo1_0022 : plainName "com/example/stratal/stratal/logic/StratumGroups" = true := by first | (simp [plainName, overriddenIn]; done) | decide +kernel
theorem ef_rmo1_0022 (m : MethodId) (a : Addr) : entryFrame m #[(.ref a), (.int 1)] 4 = mkF m 0 #[rv a, iv 1, .unset, .unset] [] := by first | (simp [entryFrame, mkF, argsToLocals, Value.category]; done) | rfl
def Qo1_0022 (Z : State) (a : Addr) (rp : Addr) (kp : ClassId) (ro : Addr) (ko : ClassId) (ov0 : Int32) (ov1 : Int32) (ov2 : Int32) (ov3 : Int32) (h0 : Heap) (n0 : Nat) (v : Option Value) (h : Heap) (L : List Loc) : Prop := v = some (.int ((0 : Int32) + ov1)) ∧ Fr n0 L ∧ h = h0
set_option maxRecDepth 65536 in
set_option maxHeartbeats 40000000 in
theorem rmo1_0022 (l : Launch) (Z : State) (a0 : Array Value) (hw : ∀ d ∈ tables_1, d.before a0 Z = true) (ws : List Jvm.Cond) (a : Addr) (rp : Addr) (kp : ClassId) (ro : Addr) (ko : ClassId) (ov0 : Int32) (ov1 : Int32) (ov2 : Int32) (ov3 : Int32) (h0 : Heap) (n0 : Nat) (Z0 : n0 ≤ h0.size) (P0 : Fld Z h0 a "com/example/stratal/stratal/logic/StratumGroups" "mParent" "[I" (.ref rp)) (P1 : Arv Z h0 rp kp .int (16 : Int32) [(.int 0), (.int 0), (.int 2), (.int 2)] (.int 0)) (P2 : Fld Z h0 a "com/example/stratal/stratal/logic/StratumGroups" "mOffset" "[I" (.ref ro)) (P3 : Arv Z h0 ro ko .int (16 : Int32) [(.int ov0), (.int ov1), (.int ov2), (.int ov3)] (.int 0)) :
    MetFree l (⟨"com/example/stratal/stratal/logic/StratumGroups", "offset", "(I)I"⟩ : MethodName) (head1 (Jvm.Cond.code (⟨"com/example/stratal/stratal/logic/StratumGroups", "offset", "(I)I"⟩ : MethodName) prog_53_method_4_code 4 (some .int) :: ws) ({ frames := 0, cells := 0, slots := 0, locals := 0 } : Room)) (fun aa U => aa = #[(.ref a), (.int 1)] ∧ Z.Warmed39 U.vm ∧ U.heap = h0) (fun _ _ _ _ _ => True) (fun _ U o U' => ∃ v L, o = .returned v ∧ Qo1_0022 Z a rp kp ro ko ov0 ov1 ov2 ov3 h0 n0 v U'.heap L ∧ FrameEnd U o U' L ({ frames := 0, cells := 0, slots := 0, locals := 0 } : Room).cells ({ frames := 0, cells := 0, slots := 0, locals := 0 } : Room).slots) := by
  refine MetFree.of_bodySF (plainFor_of_name pn_rmo1_0022) hisR ?_
  intro p e s m args below meth c s₁ Bd hml0 hP hK
  obtain ⟨rfl, hZ, hh⟩ := hP
  have hx := Bd.exec
  have hby := Bd.bytes
  have hml : c.maxLocals = 4 := hml0
  have hown : s.vm.findClass "com/example/stratal/stratal/logic/StratumGroups" = some m.cls := findClass_of_methodNamed Bd.named
  have hnm := (name_of_methodNamed Bd.named Bd.method).1
  have X0 : Stand p l e ({ frames := 0, cells := 0, slots := 0, locals := 0 } : Room) s m #[(.ref a), (.int 1)] below meth c s₁ [] 0 0 := Stand.of_body Bd
  have e0 : s₁.heap = h0 := by rw [← hh, Bd.state]; rfl
  have N0 := Fr.nil n0
  change OE p.tables e below _ _
  refine OE.v (fun t k => castTop (ef_rmo1_0022 m a) k) ?_
  show OE _ _ _ _ (s₁.setTop (mkF m 0 #[rv a, iv 1, .unset, .unset] []))
  refine OE.v (fun t k => XS.iconst X0.here hx rfl (hb hby d6_0) k) ?_
  refine OE.v (fun t k => XS.istoreN X0.here hx rfl (hb hby d6_1) rfl (l' := #[rv a, iv 1, iv 0, .unset]) rfl k) ?_
  refine OE.v (fun t k => XS.iloadN X0.here hx rfl (hb hby d6_2) rfl k) ?_
  refine OE.v (fun t k => XS.istoreN X0.here hx rfl (hb hby d6_3) rfl (l' := #[rv a, iv 1, iv 0, iv 1]) rfl k) ?_
  refine OE.v (fun t k => XS.aloadN X0.here hx rfl (hb hby d6_4) rfl rfl k) ?_
  show OE _ _ _ _ (s₁.setTop (mkF m 5 #[rv a, iv 1, iv 0, iv 1] [(.ref a)]))
  obtain ⟨T1, X1, e1, st1⟩ := getF X0 hx hZ hown (host := "") (Or.inl (hw _ (own_w 10 rfl))) Via.refl e0 P0 (g := (mkF m 5 #[rv a, iv 1, iv 0, iv 1] [(.ref a)])) rfl rfl (hb hby d6_5)
  refine OE.v st1 ?_
  show OE _ _ _ _ (T1.setTop (mkF m 8 #[rv a, iv 1, iv 0, iv 1] [(.ref rp)]))
  refine OE.v (fun t k => XS.iloadN X1.here hx rfl (hb hby d6_8) rfl k) ?_
  show OE _ _ _ _ (T1.setTop (mkF m 9 #[rv a, iv 1, iv 0, iv 1] [(.int 1), (.ref rp)]))
  obtain ⟨cl2, Ar2, q2, S2, M2, H2, G2⟩ := id P1
  have hin2 : ¬ ((1 : Int32) < 0 ∨ cl2.slots.size ≤ ((1 : Int32)).toNatClampNeg) := inb_of S2 ⟨by decide, by decide⟩
  have hat2 : cl2.slots[((1 : Int32)).toNatClampNeg]? = some (.int 0) := H2.at hin2 rfl
  refine OE.v (X1.iaload hx (j := (1 : Int32)) (v := (.int 0)) (by rw [e1]; exact Ar2.1) (State.isArrayOf_alike hZ.alike Ar2.2.1) Ar2.2.2 hin2 hat2 (g := (mkF m 9 #[rv a, iv 1, iv 0, iv 1] [(.int 1), (.ref rp)])) rfl rfl (hb hby d6_9)) ?_
  show OE _ _ _ _ (T1.setTop (mkF m 10 #[rv a, iv 1, iv 0, iv 1] [(.int 0)]))
  refine OE.v (fun t k => XS.iloadN X1.here hx rfl (hb hby d6_10) rfl k) ?_
  show OE _ _ _ _ (T1.setTop (mkF m 11 #[rv a, iv 1, iv 0, iv 1] [(.int 1), (.int 0)]))
  refine OE.v (fun t k => XS.icmpNo X1.here hx rfl (hb hby d6_11) rfl (feq (by decide)).1 k) ?_
  show OE _ _ _ _ (T1.setTop (mkF m 14 #[rv a, iv 1, iv 0, iv 1] []))
  refine OE.v (fun t k => XS.iloadN X1.here hx rfl (hb hby d6_14) rfl k) ?_
  refine OE.v (fun t k => XS.aloadN X1.here hx rfl (hb hby d6_15) rfl rfl k) ?_
  show OE _ _ _ _ (T1.setTop (mkF m 16 #[rv a, iv 1, iv 0, iv 1] [(.ref a), (.int 0)]))
  obtain ⟨T3, X3, e3, st3⟩ := getF X1 hx hZ hown (host := "") (Or.inl (hw _ (own_w 12 rfl))) Via.refl e1 P2 (g := (mkF m 16 #[rv a, iv 1, iv 0, iv 1] [(.ref a), (.int 0)])) rfl rfl (hb hby d6_16)
  refine OE.v st3 ?_
  show OE _ _ _ _ (T3.setTop (mkF m 19 #[rv a, iv 1, iv 0, iv 1] [(.ref ro), (.int 0)]))
  refine OE.v (fun t k => XS.iloadN X3.here hx rfl (hb hby d6_19) rfl k) ?_
  show OE _ _ _ _ (T3.setTop (mkF m 20 #[rv a, iv 1, iv 0, iv 1] [(.int 1), (.ref ro), (.int 0)]))
  obtain ⟨cl4, Ar4, q4, S4, M4, H4, G4⟩ := id P3
  have hin4 : ¬ ((1 : Int32) < 0 ∨ cl4.slots.size ≤ ((1 : Int32)).toNatClampNeg) := inb_of S4 ⟨by decide, by decide⟩
  have hat4 : cl4.slots[((1 : Int32)).toNatClampNeg]? = some (.int ov1) := H4.at hin4 rfl
  refine OE.v (X3.iaload hx (j := (1 : Int32)) (v := (.int ov1)) (by rw [e3]; exact Ar4.1) (State.isArrayOf_alike hZ.alike Ar4.2.1) Ar4.2.2 hin4 hat4 (g := (mkF m 20 #[rv a, iv 1, iv 0, iv 1] [(.int 1), (.ref ro), (.int 0)])) rfl rfl (hb hby d6_20)) ?_
  show OE _ _ _ _ (T3.setTop (mkF m 21 #[rv a, iv 1, iv 0, iv 1] [(.int ov1), (.int 0)]))
  refine OE.v (fun t k => XS.iadd X3.here hx rfl (hb hby d6_21) rfl k) ?_
  refine OE.v (fun t k => XS.istoreN X3.here hx rfl (hb hby d6_22) rfl (l' := #[rv a, iv 1, iv ((0 : Int32) + ov1), iv 1]) rfl k) ?_
  refine OE.v (fun t k => XS.aloadN X3.here hx rfl (hb hby d6_23) rfl rfl k) ?_
  show OE _ _ _ _ (T3.setTop (mkF m 24 #[rv a, iv 1, iv ((0 : Int32) + ov1), iv 1] [(.ref a)]))
  obtain ⟨T5, X5, e5, st5⟩ := getF X3 hx hZ hown (host := "") (Or.inl (hw _ (own_w 10 rfl))) Via.refl e3 P0 (g := (mkF m 24 #[rv a, iv 1, iv ((0 : Int32) + ov1), iv 1] [(.ref a)])) rfl rfl (hb hby d6_24)
  refine OE.v st5 ?_
  show OE _ _ _ _ (T5.setTop (mkF m 27 #[rv a, iv 1, iv ((0 : Int32) + ov1), iv 1] [(.ref rp)]))
  refine OE.v (fun t k => XS.iloadN X5.here hx rfl (hb hby d6_27) rfl k) ?_
  show OE _ _ _ _ (T5.setTop (mkF m 28 #[rv a, iv 1, iv ((0 : Int32) + ov1), iv 1] [(.int 1), (.ref rp)]))
  obtain ⟨cl6, Ar6, q6, S6, M6, H6, G6⟩ := id P1
  have hin6 : ¬ ((1 : Int32) < 0 ∨ cl6.slots.size ≤ ((1 : Int32)).toNatClampNeg) := inb_of S6 ⟨by decide, by decide⟩
  have hat6 : cl6.slots[((1 : Int32)).toNatClampNeg]? = some (.int 0) := H6.at hin6 rfl
  refine OE.v (X5.iaload hx (j := (1 : Int32)) (v := (.int 0)) (by rw [e5]; exact Ar6.1) (State.isArrayOf_alike hZ.alike Ar6.2.1) Ar6.2.2 hin6 hat6 (g := (mkF m 28 #[rv a, iv 1, iv ((0 : Int32) + ov1), iv 1] [(.int 1), (.ref rp)])) rfl rfl (hb hby d6_28)) ?_
  show OE _ _ _ _ (T5.setTop (mkF m 29 #[rv a, iv 1, iv ((0 : Int32) + ov1), iv 1] [(.int 0)]))
  refine OE.v (fun t k => XS.istoreN X5.here hx rfl (hb hby d6_29) rfl (l' := #[rv a, iv 1, iv ((0 : Int32) + ov1), iv 0]) rfl k) ?_
  refine OE.v (fun t k => XS.goto X5.here hx rfl (pc0 := 30) (pc' := 4) rfl (hb hby d6_30) (by decide) (by decide) k) ?_
  refine OE.v (fun t k => XS.aloadN X5.here hx rfl (hb hby d6_4) rfl rfl k) ?_
  show OE _ _ _ _ (T5.setTop (mkF m 5 #[rv a, iv 1, iv ((0 : Int32) + ov1), iv 0] [(.ref a)]))
  obtain ⟨T7, X7, e7, st7⟩ := getF X5 hx hZ hown (host := "") (Or.inl (hw _ (own_w 10 rfl))) Via.refl e5 P0 (g := (mkF m 5 #[rv a, iv 1, iv ((0 : Int32) + ov1), iv 0] [(.ref a)])) rfl rfl (hb hby d6_5)
  refine OE.v st7 ?_
  show OE _ _ _ _ (T7.setTop (mkF m 8 #[rv a, iv 1, iv ((0 : Int32) + ov1), iv 0] [(.ref rp)]))
  refine OE.v (fun t k => XS.iloadN X7.here hx rfl (hb hby d6_8) rfl k) ?_
  show OE _ _ _ _ (T7.setTop (mkF m 9 #[rv a, iv 1, iv ((0 : Int32) + ov1), iv 0] [(.int 0), (.ref rp)]))
  obtain ⟨cl8, Ar8, q8, S8, M8, H8, G8⟩ := id P1
  have hin8 : ¬ ((0 : Int32) < 0 ∨ cl8.slots.size ≤ ((0 : Int32)).toNatClampNeg) := inb_of S8 ⟨by decide, by decide⟩
  have hat8 : cl8.slots[((0 : Int32)).toNatClampNeg]? = some (.int 0) := H8.at hin8 rfl
  refine OE.v (X7.iaload hx (j := (0 : Int32)) (v := (.int 0)) (by rw [e7]; exact Ar8.1) (State.isArrayOf_alike hZ.alike Ar8.2.1) Ar8.2.2 hin8 hat8 (g := (mkF m 9 #[rv a, iv 1, iv ((0 : Int32) + ov1), iv 0] [(.int 0), (.ref rp)])) rfl rfl (hb hby d6_9)) ?_
  show OE _ _ _ _ (T7.setTop (mkF m 10 #[rv a, iv 1, iv ((0 : Int32) + ov1), iv 0] [(.int 0)]))
  refine OE.v (fun t k => XS.iloadN X7.here hx rfl (hb hby d6_10) rfl k) ?_
  show OE _ _ _ _ (T7.setTop (mkF m 11 #[rv a, iv 1, iv ((0 : Int32) + ov1), iv 0] [(.int 0), (.int 0)]))
  refine OE.v (fun t k => XS.icmpYes X7.here hx rfl (pc0 := 11) (pc' := 33) rfl (hb hby d6_11) rfl (teq (by decide)).1 (by decide) (by decide) k) ?_
  show OE _ _ _ _ (T7.setTop (mkF m 33 #[rv a, iv 1, iv ((0 : Int32) + ov1), iv 0] []))
  refine OE.v (fun t k => XS.iloadN X7.here hx rfl (hb hby d6_33) rfl k) ?_
  show OE _ _ _ _ (T7.setTop (mkF m 34 #[rv a, iv 1, iv ((0 : Int32) + ov1), iv 0] [(.int ((0 : Int32) + ov1))]))
  obtain ⟨fs, hr, hrun, hended, hW, hsame⟩ := X7.leave (v := some (.int ((0 : Int32) + ov1))) (fun h => by rw [Bd.returns] at h; cases h)
  refine ⟨_, _, ?_, hrun, hended, _, _, rfl, ?_, ⟨_, rfl⟩, hW, hsame.mono (by decide) (by decide)⟩
  · exact retI X7 hx Bd.returns (hb hby d6_34) hr
  · show Qo1_0022 Z a rp kp ro ko ov0 ov1 ov2 ov3 h0 n0 _ T7.heap _
    rw [e7]
    exact ⟨rfl, N0, rfl⟩

theorem pn_rmo2_0022 : plainName "com/example/stratal/stratal/logic/StratumGroups" = true := by first | (simp [plainName, overriddenIn]; done) | decide +kernel
theorem ef_rmo2_0022 (m : MethodId) (a : Addr) : entryFrame m #[(.ref a), (.int 2)] 4 = mkF m 0 #[rv a, iv 2, .unset, .unset] [] := by first | (simp [entryFrame, mkF, argsToLocals, Value.category]; done) | rfl
def Qo2_0022 (Z : State) (a : Addr) (rp : Addr) (kp : ClassId) (ro : Addr) (ko : ClassId) (ov0 : Int32) (ov1 : Int32) (ov2 : Int32) (ov3 : Int32) (h0 : Heap) (n0 : Nat) (v : Option Value) (h : Heap) (L : List Loc) : Prop := v = some (.int 0) ∧ Fr n0 L ∧ h = h0
set_option maxRecDepth 65536 in
set_option maxHeartbeats 40000000 in
theorem rmo2_0022 (l : Launch) (Z : State) (a0 : Array Value) (hw : ∀ d ∈ tables_1, d.before a0 Z = true) (ws : List Jvm.Cond) (a : Addr) (rp : Addr) (kp : ClassId) (ro : Addr) (ko : ClassId) (ov0 : Int32) (ov1 : Int32) (ov2 : Int32) (ov3 : Int32) (h0 : Heap) (n0 : Nat) (Z0 : n0 ≤ h0.size) (P0 : Fld Z h0 a "com/example/stratal/stratal/logic/StratumGroups" "mParent" "[I" (.ref rp)) (P1 : Arv Z h0 rp kp .int (16 : Int32) [(.int 0), (.int 0), (.int 2), (.int 2)] (.int 0)) (P2 : Fld Z h0 a "com/example/stratal/stratal/logic/StratumGroups" "mOffset" "[I" (.ref ro)) (P3 : Arv Z h0 ro ko .int (16 : Int32) [(.int ov0), (.int ov1), (.int ov2), (.int ov3)] (.int 0)) :
    MetFree l (⟨"com/example/stratal/stratal/logic/StratumGroups", "offset", "(I)I"⟩ : MethodName) (head1 (Jvm.Cond.code (⟨"com/example/stratal/stratal/logic/StratumGroups", "offset", "(I)I"⟩ : MethodName) prog_53_method_4_code 4 (some .int) :: ws) ({ frames := 0, cells := 0, slots := 0, locals := 0 } : Room)) (fun aa U => aa = #[(.ref a), (.int 2)] ∧ Z.Warmed39 U.vm ∧ U.heap = h0) (fun _ _ _ _ _ => True) (fun _ U o U' => ∃ v L, o = .returned v ∧ Qo2_0022 Z a rp kp ro ko ov0 ov1 ov2 ov3 h0 n0 v U'.heap L ∧ FrameEnd U o U' L ({ frames := 0, cells := 0, slots := 0, locals := 0 } : Room).cells ({ frames := 0, cells := 0, slots := 0, locals := 0 } : Room).slots) := by
  refine MetFree.of_bodySF (plainFor_of_name pn_rmo2_0022) hisR ?_
  intro p e s m args below meth c s₁ Bd hml0 hP hK
  obtain ⟨rfl, hZ, hh⟩ := hP
  have hx := Bd.exec
  have hby := Bd.bytes
  have hml : c.maxLocals = 4 := hml0
  have hown : s.vm.findClass "com/example/stratal/stratal/logic/StratumGroups" = some m.cls := findClass_of_methodNamed Bd.named
  have hnm := (name_of_methodNamed Bd.named Bd.method).1
  have X0 : Stand p l e ({ frames := 0, cells := 0, slots := 0, locals := 0 } : Room) s m #[(.ref a), (.int 2)] below meth c s₁ [] 0 0 := Stand.of_body Bd
  have e0 : s₁.heap = h0 := by rw [← hh, Bd.state]; rfl
  have N0 := Fr.nil n0
  change OE p.tables e below _ _
  refine OE.v (fun t k => castTop (ef_rmo2_0022 m a) k) ?_
  show OE _ _ _ _ (s₁.setTop (mkF m 0 #[rv a, iv 2, .unset, .unset] []))
  refine OE.v (fun t k => XS.iconst X0.here hx rfl (hb hby d6_0) k) ?_
  refine OE.v (fun t k => XS.istoreN X0.here hx rfl (hb hby d6_1) rfl (l' := #[rv a, iv 2, iv 0, .unset]) rfl k) ?_
  refine OE.v (fun t k => XS.iloadN X0.here hx rfl (hb hby d6_2) rfl k) ?_
  refine OE.v (fun t k => XS.istoreN X0.here hx rfl (hb hby d6_3) rfl (l' := #[rv a, iv 2, iv 0, iv 2]) rfl k) ?_
  refine OE.v (fun t k => XS.aloadN X0.here hx rfl (hb hby d6_4) rfl rfl k) ?_
  show OE _ _ _ _ (s₁.setTop (mkF m 5 #[rv a, iv 2, iv 0, iv 2] [(.ref a)]))
  obtain ⟨T1, X1, e1, st1⟩ := getF X0 hx hZ hown (host := "") (Or.inl (hw _ (own_w 10 rfl))) Via.refl e0 P0 (g := (mkF m 5 #[rv a, iv 2, iv 0, iv 2] [(.ref a)])) rfl rfl (hb hby d6_5)
  refine OE.v st1 ?_
  show OE _ _ _ _ (T1.setTop (mkF m 8 #[rv a, iv 2, iv 0, iv 2] [(.ref rp)]))
  refine OE.v (fun t k => XS.iloadN X1.here hx rfl (hb hby d6_8) rfl k) ?_
  show OE _ _ _ _ (T1.setTop (mkF m 9 #[rv a, iv 2, iv 0, iv 2] [(.int 2), (.ref rp)]))
  obtain ⟨cl2, Ar2, q2, S2, M2, H2, G2⟩ := id P1
  have hin2 : ¬ ((2 : Int32) < 0 ∨ cl2.slots.size ≤ ((2 : Int32)).toNatClampNeg) := inb_of S2 ⟨by decide, by decide⟩
  have hat2 : cl2.slots[((2 : Int32)).toNatClampNeg]? = some (.int 2) := H2.at hin2 rfl
  refine OE.v (X1.iaload hx (j := (2 : Int32)) (v := (.int 2)) (by rw [e1]; exact Ar2.1) (State.isArrayOf_alike hZ.alike Ar2.2.1) Ar2.2.2 hin2 hat2 (g := (mkF m 9 #[rv a, iv 2, iv 0, iv 2] [(.int 2), (.ref rp)])) rfl rfl (hb hby d6_9)) ?_
  show OE _ _ _ _ (T1.setTop (mkF m 10 #[rv a, iv 2, iv 0, iv 2] [(.int 2)]))
  refine OE.v (fun t k => XS.iloadN X1.here hx rfl (hb hby d6_10) rfl k) ?_
  show OE _ _ _ _ (T1.setTop (mkF m 11 #[rv a, iv 2, iv 0, iv 2] [(.int 2), (.int 2)]))
  refine OE.v (fun t k => XS.icmpYes X1.here hx rfl (pc0 := 11) (pc' := 33) rfl (hb hby d6_11) rfl (teq (by decide)).1 (by decide) (by decide) k) ?_
  show OE _ _ _ _ (T1.setTop (mkF m 33 #[rv a, iv 2, iv 0, iv 2] []))
  refine OE.v (fun t k => XS.iloadN X1.here hx rfl (hb hby d6_33) rfl k) ?_
  show OE _ _ _ _ (T1.setTop (mkF m 34 #[rv a, iv 2, iv 0, iv 2] [(.int 0)]))
  obtain ⟨fs, hr, hrun, hended, hW, hsame⟩ := X1.leave (v := some (.int 0)) (fun h => by rw [Bd.returns] at h; cases h)
  refine ⟨_, _, ?_, hrun, hended, _, _, rfl, ?_, ⟨_, rfl⟩, hW, hsame.mono (by decide) (by decide)⟩
  · exact retI X1 hx Bd.returns (hb hby d6_34) hr
  · show Qo2_0022 Z a rp kp ro ko ov0 ov1 ov2 ov3 h0 n0 _ T1.heap _
    rw [e1]
    exact ⟨rfl, N0, rfl⟩

theorem pn_rmo3_0022 : plainName "com/example/stratal/stratal/logic/StratumGroups" = true := by first | (simp [plainName, overriddenIn]; done) | decide +kernel
theorem ef_rmo3_0022 (m : MethodId) (a : Addr) : entryFrame m #[(.ref a), (.int 3)] 4 = mkF m 0 #[rv a, iv 3, .unset, .unset] [] := by first | (simp [entryFrame, mkF, argsToLocals, Value.category]; done) | rfl
def Qo3_0022 (Z : State) (a : Addr) (rp : Addr) (kp : ClassId) (ro : Addr) (ko : ClassId) (ov0 : Int32) (ov1 : Int32) (ov2 : Int32) (ov3 : Int32) (h0 : Heap) (n0 : Nat) (v : Option Value) (h : Heap) (L : List Loc) : Prop := v = some (.int ((0 : Int32) + ov3)) ∧ Fr n0 L ∧ h = h0
set_option maxRecDepth 65536 in
set_option maxHeartbeats 40000000 in
theorem rmo3_0022 (l : Launch) (Z : State) (a0 : Array Value) (hw : ∀ d ∈ tables_1, d.before a0 Z = true) (ws : List Jvm.Cond) (a : Addr) (rp : Addr) (kp : ClassId) (ro : Addr) (ko : ClassId) (ov0 : Int32) (ov1 : Int32) (ov2 : Int32) (ov3 : Int32) (h0 : Heap) (n0 : Nat) (Z0 : n0 ≤ h0.size) (P0 : Fld Z h0 a "com/example/stratal/stratal/logic/StratumGroups" "mParent" "[I" (.ref rp)) (P1 : Arv Z h0 rp kp .int (16 : Int32) [(.int 0), (.int 0), (.int 2), (.int 2)] (.int 0)) (P2 : Fld Z h0 a "com/example/stratal/stratal/logic/StratumGroups" "mOffset" "[I" (.ref ro)) (P3 : Arv Z h0 ro ko .int (16 : Int32) [(.int ov0), (.int ov1), (.int ov2), (.int ov3)] (.int 0)) :
    MetFree l (⟨"com/example/stratal/stratal/logic/StratumGroups", "offset", "(I)I"⟩ : MethodName) (head1 (Jvm.Cond.code (⟨"com/example/stratal/stratal/logic/StratumGroups", "offset", "(I)I"⟩ : MethodName) prog_53_method_4_code 4 (some .int) :: ws) ({ frames := 0, cells := 0, slots := 0, locals := 0 } : Room)) (fun aa U => aa = #[(.ref a), (.int 3)] ∧ Z.Warmed39 U.vm ∧ U.heap = h0) (fun _ _ _ _ _ => True) (fun _ U o U' => ∃ v L, o = .returned v ∧ Qo3_0022 Z a rp kp ro ko ov0 ov1 ov2 ov3 h0 n0 v U'.heap L ∧ FrameEnd U o U' L ({ frames := 0, cells := 0, slots := 0, locals := 0 } : Room).cells ({ frames := 0, cells := 0, slots := 0, locals := 0 } : Room).slots) := by
  refine MetFree.of_bodySF (plainFor_of_name pn_rmo3_0022) hisR ?_
  intro p e s m args below meth c s₁ Bd hml0 hP hK
  obtain ⟨rfl, hZ, hh⟩ := hP
  have hx := Bd.exec
  have hby := Bd.bytes
  have hml : c.maxLocals = 4 := hml0
  have hown : s.vm.findClass "com/example/stratal/stratal/logic/StratumGroups" = some m.cls := findClass_of_methodNamed Bd.named
  have hnm := (name_of_methodNamed Bd.named Bd.method).1
  have X0 : Stand p l e ({ frames := 0, cells := 0, slots := 0, locals := 0 } : Room) s m #[(.ref a), (.int 3)] below meth c s₁ [] 0 0 := Stand.of_body Bd
  have e0 : s₁.heap = h0 := by rw [← hh, Bd.state]; rfl
  have N0 := Fr.nil n0
  change OE p.tables e below _ _
  refine OE.v (fun t k => castTop (ef_rmo3_0022 m a) k) ?_
  show OE _ _ _ _ (s₁.setTop (mkF m 0 #[rv a, iv 3, .unset, .unset] []))
  refine OE.v (fun t k => XS.iconst X0.here hx rfl (hb hby d6_0) k) ?_
  refine OE.v (fun t k => XS.istoreN X0.here hx rfl (hb hby d6_1) rfl (l' := #[rv a, iv 3, iv 0, .unset]) rfl k) ?_
  refine OE.v (fun t k => XS.iloadN X0.here hx rfl (hb hby d6_2) rfl k) ?_
  refine OE.v (fun t k => XS.istoreN X0.here hx rfl (hb hby d6_3) rfl (l' := #[rv a, iv 3, iv 0, iv 3]) rfl k) ?_
  refine OE.v (fun t k => XS.aloadN X0.here hx rfl (hb hby d6_4) rfl rfl k) ?_
  show OE _ _ _ _ (s₁.setTop (mkF m 5 #[rv a, iv 3, iv 0, iv 3] [(.ref a)]))
  obtain ⟨T1, X1, e1, st1⟩ := getF X0 hx hZ hown (host := "") (Or.inl (hw _ (own_w 10 rfl))) Via.refl e0 P0 (g := (mkF m 5 #[rv a, iv 3, iv 0, iv 3] [(.ref a)])) rfl rfl (hb hby d6_5)
  refine OE.v st1 ?_
  show OE _ _ _ _ (T1.setTop (mkF m 8 #[rv a, iv 3, iv 0, iv 3] [(.ref rp)]))
  refine OE.v (fun t k => XS.iloadN X1.here hx rfl (hb hby d6_8) rfl k) ?_
  show OE _ _ _ _ (T1.setTop (mkF m 9 #[rv a, iv 3, iv 0, iv 3] [(.int 3), (.ref rp)]))
  obtain ⟨cl2, Ar2, q2, S2, M2, H2, G2⟩ := id P1
  have hin2 : ¬ ((3 : Int32) < 0 ∨ cl2.slots.size ≤ ((3 : Int32)).toNatClampNeg) := inb_of S2 ⟨by decide, by decide⟩
  have hat2 : cl2.slots[((3 : Int32)).toNatClampNeg]? = some (.int 2) := H2.at hin2 rfl
  refine OE.v (X1.iaload hx (j := (3 : Int32)) (v := (.int 2)) (by rw [e1]; exact Ar2.1) (State.isArrayOf_alike hZ.alike Ar2.2.1) Ar2.2.2 hin2 hat2 (g := (mkF m 9 #[rv a, iv 3, iv 0, iv 3] [(.int 3), (.ref rp)])) rfl rfl (hb hby d6_9)) ?_
  show OE _ _ _ _ (T1.setTop (mkF m 10 #[rv a, iv 3, iv 0, iv 3] [(.int 2)]))
  refine OE.v (fun t k => XS.iloadN X1.here hx rfl (hb hby d6_10) rfl k) ?_
  show OE _ _ _ _ (T1.setTop (mkF m 11 #[rv a, iv 3, iv 0, iv 3] [(.int 3), (.int 2)]))
  refine OE.v (fun t k => XS.icmpNo X1.here hx rfl (hb hby d6_11) rfl (feq (by decide)).1 k) ?_
  show OE _ _ _ _ (T1.setTop (mkF m 14 #[rv a, iv 3, iv 0, iv 3] []))
  refine OE.v (fun t k => XS.iloadN X1.here hx rfl (hb hby d6_14) rfl k) ?_
  refine OE.v (fun t k => XS.aloadN X1.here hx rfl (hb hby d6_15) rfl rfl k) ?_
  show OE _ _ _ _ (T1.setTop (mkF m 16 #[rv a, iv 3, iv 0, iv 3] [(.ref a), (.int 0)]))
  obtain ⟨T3, X3, e3, st3⟩ := getF X1 hx hZ hown (host := "") (Or.inl (hw _ (own_w 12 rfl))) Via.refl e1 P2 (g := (mkF m 16 #[rv a, iv 3, iv 0, iv 3] [(.ref a), (.int 0)])) rfl rfl (hb hby d6_16)
  refine OE.v st3 ?_
  show OE _ _ _ _ (T3.setTop (mkF m 19 #[rv a, iv 3, iv 0, iv 3] [(.ref ro), (.int 0)]))
  refine OE.v (fun t k => XS.iloadN X3.here hx rfl (hb hby d6_19) rfl k) ?_
  show OE _ _ _ _ (T3.setTop (mkF m 20 #[rv a, iv 3, iv 0, iv 3] [(.int 3), (.ref ro), (.int 0)]))
  obtain ⟨cl4, Ar4, q4, S4, M4, H4, G4⟩ := id P3
  have hin4 : ¬ ((3 : Int32) < 0 ∨ cl4.slots.size ≤ ((3 : Int32)).toNatClampNeg) := inb_of S4 ⟨by decide, by decide⟩
  have hat4 : cl4.slots[((3 : Int32)).toNatClampNeg]? = some (.int ov3) := H4.at hin4 rfl
  refine OE.v (X3.iaload hx (j := (3 : Int32)) (v := (.int ov3)) (by rw [e3]; exact Ar4.1) (State.isArrayOf_alike hZ.alike Ar4.2.1) Ar4.2.2 hin4 hat4 (g := (mkF m 20 #[rv a, iv 3, iv 0, iv 3] [(.int 3), (.ref ro), (.int 0)])) rfl rfl (hb hby d6_20)) ?_
  show OE _ _ _ _ (T3.setTop (mkF m 21 #[rv a, iv 3, iv 0, iv 3] [(.int ov3), (.int 0)]))
  refine OE.v (fun t k => XS.iadd X3.here hx rfl (hb hby d6_21) rfl k) ?_
  refine OE.v (fun t k => XS.istoreN X3.here hx rfl (hb hby d6_22) rfl (l' := #[rv a, iv 3, iv ((0 : Int32) + ov3), iv 3]) rfl k) ?_
  refine OE.v (fun t k => XS.aloadN X3.here hx rfl (hb hby d6_23) rfl rfl k) ?_
  show OE _ _ _ _ (T3.setTop (mkF m 24 #[rv a, iv 3, iv ((0 : Int32) + ov3), iv 3] [(.ref a)]))
  obtain ⟨T5, X5, e5, st5⟩ := getF X3 hx hZ hown (host := "") (Or.inl (hw _ (own_w 10 rfl))) Via.refl e3 P0 (g := (mkF m 24 #[rv a, iv 3, iv ((0 : Int32) + ov3), iv 3] [(.ref a)])) rfl rfl (hb hby d6_24)
  refine OE.v st5 ?_
  show OE _ _ _ _ (T5.setTop (mkF m 27 #[rv a, iv 3, iv ((0 : Int32) + ov3), iv 3] [(.ref rp)]))
  refine OE.v (fun t k => XS.iloadN X5.here hx rfl (hb hby d6_27) rfl k) ?_
  show OE _ _ _ _ (T5.setTop (mkF m 28 #[rv a, iv 3, iv ((0 : Int32) + ov3), iv 3] [(.int 3), (.ref rp)]))
  obtain ⟨cl6, Ar6, q6, S6, M6, H6, G6⟩ := id P1
  have hin6 : ¬ ((3 : Int32) < 0 ∨ cl6.slots.size ≤ ((3 : Int32)).toNatClampNeg) := inb_of S6 ⟨by decide, by decide⟩
  have hat6 : cl6.slots[((3 : Int32)).toNatClampNeg]? = some (.int 2) := H6.at hin6 rfl
  refine OE.v (X5.iaload hx (j := (3 : Int32)) (v := (.int 2)) (by rw [e5]; exact Ar6.1) (State.isArrayOf_alike hZ.alike Ar6.2.1) Ar6.2.2 hin6 hat6 (g := (mkF m 28 #[rv a, iv 3, iv ((0 : Int32) + ov3), iv 3] [(.int 3), (.ref rp)])) rfl rfl (hb hby d6_28)) ?_
  show OE _ _ _ _ (T5.setTop (mkF m 29 #[rv a, iv 3, iv ((0 : Int32) + ov3), iv 3] [(.int 2)]))
  refine OE.v (fun t k => XS.istoreN X5.here hx rfl (hb hby d6_29) rfl (l' := #[rv a, iv 3, iv ((0 : Int32) + ov3), iv 2]) rfl k) ?_
  refine OE.v (fun t k => XS.goto X5.here hx rfl (pc0 := 30) (pc' := 4) rfl (hb hby d6_30) (by decide) (by decide) k) ?_
  refine OE.v (fun t k => XS.aloadN X5.here hx rfl (hb hby d6_4) rfl rfl k) ?_
  show OE _ _ _ _ (T5.setTop (mkF m 5 #[rv a, iv 3, iv ((0 : Int32) + ov3), iv 2] [(.ref a)]))
  obtain ⟨T7, X7, e7, st7⟩ := getF X5 hx hZ hown (host := "") (Or.inl (hw _ (own_w 10 rfl))) Via.refl e5 P0 (g := (mkF m 5 #[rv a, iv 3, iv ((0 : Int32) + ov3), iv 2] [(.ref a)])) rfl rfl (hb hby d6_5)
  refine OE.v st7 ?_
  show OE _ _ _ _ (T7.setTop (mkF m 8 #[rv a, iv 3, iv ((0 : Int32) + ov3), iv 2] [(.ref rp)]))
  refine OE.v (fun t k => XS.iloadN X7.here hx rfl (hb hby d6_8) rfl k) ?_
  show OE _ _ _ _ (T7.setTop (mkF m 9 #[rv a, iv 3, iv ((0 : Int32) + ov3), iv 2] [(.int 2), (.ref rp)]))
  obtain ⟨cl8, Ar8, q8, S8, M8, H8, G8⟩ := id P1
  have hin8 : ¬ ((2 : Int32) < 0 ∨ cl8.slots.size ≤ ((2 : Int32)).toNatClampNeg) := inb_of S8 ⟨by decide, by decide⟩
  have hat8 : cl8.slots[((2 : Int32)).toNatClampNeg]? = some (.int 2) := H8.at hin8 rfl
  refine OE.v (X7.iaload hx (j := (2 : Int32)) (v := (.int 2)) (by rw [e7]; exact Ar8.1) (State.isArrayOf_alike hZ.alike Ar8.2.1) Ar8.2.2 hin8 hat8 (g := (mkF m 9 #[rv a, iv 3, iv ((0 : Int32) + ov3), iv 2] [(.int 2), (.ref rp)])) rfl rfl (hb hby d6_9)) ?_
  show OE _ _ _ _ (T7.setTop (mkF m 10 #[rv a, iv 3, iv ((0 : Int32) + ov3), iv 2] [(.int 2)]))
  refine OE.v (fun t k => XS.iloadN X7.here hx rfl (hb hby d6_10) rfl k) ?_
  show OE _ _ _ _ (T7.setTop (mkF m 11 #[rv a, iv 3, iv ((0 : Int32) + ov3), iv 2] [(.int 2), (.int 2)]))
  refine OE.v (fun t k => XS.icmpYes X7.here hx rfl (pc0 := 11) (pc' := 33) rfl (hb hby d6_11) rfl (teq (by decide)).1 (by decide) (by decide) k) ?_
  show OE _ _ _ _ (T7.setTop (mkF m 33 #[rv a, iv 3, iv ((0 : Int32) + ov3), iv 2] []))
  refine OE.v (fun t k => XS.iloadN X7.here hx rfl (hb hby d6_33) rfl k) ?_
  show OE _ _ _ _ (T7.setTop (mkF m 34 #[rv a, iv 3, iv ((0 : Int32) + ov3), iv 2] [(.int ((0 : Int32) + ov3))]))
  obtain ⟨fs, hr, hrun, hended, hW, hsame⟩ := X7.leave (v := some (.int ((0 : Int32) + ov3))) (fun h => by rw [Bd.returns] at h; cases h)
  refine ⟨_, _, ?_, hrun, hended, _, _, rfl, ?_, ⟨_, rfl⟩, hW, hsame.mono (by decide) (by decide)⟩
  · exact retI X7 hx Bd.returns (hb hby d6_34) hr
  · show Qo3_0022 Z a rp kp ro ko ov0 ov1 ov2 ov3 h0 n0 _ T7.heap _
    rw [e7]
    exact ⟨rfl, N0, rfl⟩

theorem pn_rmf0_0022 : plainName "com/example/stratal/stratal/logic/StratumGroups" = true := by first | (simp [plainName, overriddenIn]; done) | decide +kernel
theorem ef_rmf0_0022 (m : MethodId) (a : Addr) : entryFrame m #[(.ref a), (.int 0)] 3 = mkF m 0 #[rv a, iv 0, .unset] [] := by first | (simp [entryFrame, mkF, argsToLocals, Value.category]; done) | rfl
def Qf0_0022 (Z : State) (a : Addr) (rp : Addr) (kp : ClassId) (h0 : Heap) (n0 : Nat) (v : Option Value) (h : Heap) (L : List Loc) : Prop := v = some (.int 0) ∧ Fr n0 L ∧ h = h0
set_option maxRecDepth 65536 in
set_option maxHeartbeats 40000000 in
theorem rmf0_0022 (l : Launch) (Z : State) (a0 : Array Value) (hw : ∀ d ∈ tables_1, d.before a0 Z = true) (ws : List Jvm.Cond) (a : Addr) (rp : Addr) (kp : ClassId) (h0 : Heap) (n0 : Nat) (Z0 : n0 ≤ h0.size) (P0 : Fld Z h0 a "com/example/stratal/stratal/logic/StratumGroups" "mParent" "[I" (.ref rp)) (P1 : Arv Z h0 rp kp .int (16 : Int32) [(.int 0), (.int 0), (.int 2), (.int 2)] (.int 0)) :
    MetFree l (⟨"com/example/stratal/stratal/logic/StratumGroups", "find", "(I)I"⟩ : MethodName) (head1 (Jvm.Cond.code (⟨"com/example/stratal/stratal/logic/StratumGroups", "find", "(I)I"⟩ : MethodName) prog_53_method_3_code 3 (some .int) :: ws) ({ frames := 0, cells := 0, slots := 0, locals := 0 } : Room)) (fun aa U => aa = #[(.ref a), (.int 0)] ∧ Z.Warmed39 U.vm ∧ U.heap = h0) (fun _ _ _ _ _ => True) (fun _ U o U' => ∃ v L, o = .returned v ∧ Qf0_0022 Z a rp kp h0 n0 v U'.heap L ∧ FrameEnd U o U' L ({ frames := 0, cells := 0, slots := 0, locals := 0 } : Room).cells ({ frames := 0, cells := 0, slots := 0, locals := 0 } : Room).slots) := by
  refine MetFree.of_bodySF (plainFor_of_name pn_rmf0_0022) hisR ?_
  intro p e s m args below meth c s₁ Bd hml0 hP hK
  obtain ⟨rfl, hZ, hh⟩ := hP
  have hx := Bd.exec
  have hby := Bd.bytes
  have hml : c.maxLocals = 3 := hml0
  have hown : s.vm.findClass "com/example/stratal/stratal/logic/StratumGroups" = some m.cls := findClass_of_methodNamed Bd.named
  have hnm := (name_of_methodNamed Bd.named Bd.method).1
  have X0 : Stand p l e ({ frames := 0, cells := 0, slots := 0, locals := 0 } : Room) s m #[(.ref a), (.int 0)] below meth c s₁ [] 0 0 := Stand.of_body Bd
  have e0 : s₁.heap = h0 := by rw [← hh, Bd.state]; rfl
  have N0 := Fr.nil n0
  change OE p.tables e below _ _
  refine OE.v (fun t k => castTop (ef_rmf0_0022 m a) k) ?_
  show OE _ _ _ _ (s₁.setTop (mkF m 0 #[rv a, iv 0, .unset] []))
  refine OE.v (fun t k => XS.iloadN X0.here hx rfl (hb hby d5_0) rfl k) ?_
  refine OE.v (fun t k => XS.istoreN X0.here hx rfl (hb hby d5_1) rfl (l' := #[rv a, iv 0, iv 0]) rfl k) ?_
  refine OE.v (fun t k => XS.aloadN X0.here hx rfl (hb hby d5_2) rfl rfl k) ?_
  show OE _ _ _ _ (s₁.setTop (mkF m 3 #[rv a, iv 0, iv 0] [(.ref a)]))
  obtain ⟨T1, X1, e1, st1⟩ := getF X0 hx hZ hown (host := "") (Or.inl (hw _ (own_w 10 rfl))) Via.refl e0 P0 (g := (mkF m 3 #[rv a, iv 0, iv 0] [(.ref a)])) rfl rfl (hb hby d5_3)
  refine OE.v st1 ?_
  show OE _ _ _ _ (T1.setTop (mkF m 6 #[rv a, iv 0, iv 0] [(.ref rp)]))
  refine OE.v (fun t k => XS.iloadN X1.here hx rfl (hb hby d5_6) rfl k) ?_
  show OE _ _ _ _ (T1.setTop (mkF m 7 #[rv a, iv 0, iv 0] [(.int 0), (.ref rp)]))
  obtain ⟨cl2, Ar2, q2, S2, M2, H2, G2⟩ := id P1
  have hin2 : ¬ ((0 : Int32) < 0 ∨ cl2.slots.size ≤ ((0 : Int32)).toNatClampNeg) := inb_of S2 ⟨by decide, by decide⟩
  have hat2 : cl2.slots[((0 : Int32)).toNatClampNeg]? = some (.int 0) := H2.at hin2 rfl
  refine OE.v (X1.iaload hx (j := (0 : Int32)) (v := (.int 0)) (by rw [e1]; exact Ar2.1) (State.isArrayOf_alike hZ.alike Ar2.2.1) Ar2.2.2 hin2 hat2 (g := (mkF m 7 #[rv a, iv 0, iv 0] [(.int 0), (.ref rp)])) rfl rfl (hb hby d5_7)) ?_
  show OE _ _ _ _ (T1.setTop (mkF m 8 #[rv a, iv 0, iv 0] [(.int 0)]))
  refine OE.v (fun t k => XS.iloadN X1.here hx rfl (hb hby d5_8) rfl k) ?_
  show OE _ _ _ _ (T1.setTop (mkF m 9 #[rv a, iv 0, iv 0] [(.int 0), (.int 0)]))
  refine OE.v (fun t k => XS.icmpYes X1.here hx rfl (pc0 := 9) (pc' := 22) rfl (hb hby d5_9) rfl (teq (by decide)).1 (by decide) (by decide) k) ?_
  show OE _ _ _ _ (T1.setTop (mkF m 22 #[rv a, iv 0, iv 0] []))
  refine OE.v (fun t k => XS.iloadN X1.here hx rfl (hb hby d5_22) rfl k) ?_
  show OE _ _ _ _ (T1.setTop (mkF m 23 #[rv a, iv 0, iv 0] [(.int 0)]))
  obtain ⟨fs, hr, hrun, hended, hW, hsame⟩ := X1.leave (v := some (.int 0)) (fun h => by rw [Bd.returns] at h; cases h)
  refine ⟨_, _, ?_, hrun, hended, _, _, rfl, ?_, ⟨_, rfl⟩, hW, hsame.mono (by decide) (by decide)⟩
  · exact retI X1 hx Bd.returns (hb hby d5_23) hr
  · show Qf0_0022 Z a rp kp h0 n0 _ T1.heap _
    rw [e1]
    exact ⟨rfl, N0, rfl⟩

theorem pn_rmf2_0022 : plainName "com/example/stratal/stratal/logic/StratumGroups" = true := by first | (simp [plainName, overriddenIn]; done) | decide +kernel
theorem ef_rmf2_0022 (m : MethodId) (a : Addr) : entryFrame m #[(.ref a), (.int 2)] 3 = mkF m 0 #[rv a, iv 2, .unset] [] := by first | (simp [entryFrame, mkF, argsToLocals, Value.category]; done) | rfl
def Qf2_0022 (Z : State) (a : Addr) (rp : Addr) (kp : ClassId) (h0 : Heap) (n0 : Nat) (v : Option Value) (h : Heap) (L : List Loc) : Prop := v = some (.int 2) ∧ Fr n0 L ∧ h = h0
set_option maxRecDepth 65536 in
set_option maxHeartbeats 40000000 in
theorem rmf2_0022 (l : Launch) (Z : State) (a0 : Array Value) (hw : ∀ d ∈ tables_1, d.before a0 Z = true) (ws : List Jvm.Cond) (a : Addr) (rp : Addr) (kp : ClassId) (h0 : Heap) (n0 : Nat) (Z0 : n0 ≤ h0.size) (P0 : Fld Z h0 a "com/example/stratal/stratal/logic/StratumGroups" "mParent" "[I" (.ref rp)) (P1 : Arv Z h0 rp kp .int (16 : Int32) [(.int 0), (.int 0), (.int 2), (.int 2)] (.int 0)) :
    MetFree l (⟨"com/example/stratal/stratal/logic/StratumGroups", "find", "(I)I"⟩ : MethodName) (head1 (Jvm.Cond.code (⟨"com/example/stratal/stratal/logic/StratumGroups", "find", "(I)I"⟩ : MethodName) prog_53_method_3_code 3 (some .int) :: ws) ({ frames := 0, cells := 0, slots := 0, locals := 0 } : Room)) (fun aa U => aa = #[(.ref a), (.int 2)] ∧ Z.Warmed39 U.vm ∧ U.heap = h0) (fun _ _ _ _ _ => True) (fun _ U o U' => ∃ v L, o = .returned v ∧ Qf2_0022 Z a rp kp h0 n0 v U'.heap L ∧ FrameEnd U o U' L ({ frames := 0, cells := 0, slots := 0, locals := 0 } : Room).cells ({ frames := 0, cells := 0, slots := 0, locals := 0 } : Room).slots) := by
  refine MetFree.of_bodySF (plainFor_of_name pn_rmf2_0022) hisR ?_
  intro p e s m args below meth c s₁ Bd hml0 hP hK
  obtain ⟨rfl, hZ, hh⟩ := hP
  have hx := Bd.exec
  have hby := Bd.bytes
  have hml : c.maxLocals = 3 := hml0
  have hown : s.vm.findClass "com/example/stratal/stratal/logic/StratumGroups" = some m.cls := findClass_of_methodNamed Bd.named
  have hnm := (name_of_methodNamed Bd.named Bd.method).1
  have X0 : Stand p l e ({ frames := 0, cells := 0, slots := 0, locals := 0 } : Room) s m #[(.ref a), (.int 2)] below meth c s₁ [] 0 0 := Stand.of_body Bd
  have e0 : s₁.heap = h0 := by rw [← hh, Bd.state]; rfl
  have N0 := Fr.nil n0
  change OE p.tables e below _ _
  refine OE.v (fun t k => castTop (ef_rmf2_0022 m a) k) ?_
  show OE _ _ _ _ (s₁.setTop (mkF m 0 #[rv a, iv 2, .unset] []))
  refine OE.v (fun t k => XS.iloadN X0.here hx rfl (hb hby d5_0) rfl k) ?_
  refine OE.v (fun t k => XS.istoreN X0.here hx rfl (hb hby d5_1) rfl (l' := #[rv a, iv 2, iv 2]) rfl k) ?_
  refine OE.v (fun t k => XS.aloadN X0.here hx rfl (hb hby d5_2) rfl rfl k) ?_
  show OE _ _ _ _ (s₁.setTop (mkF m 3 #[rv a, iv 2, iv 2] [(.ref a)]))
  obtain ⟨T1, X1, e1, st1⟩ := getF X0 hx hZ hown (host := "") (Or.inl (hw _ (own_w 10 rfl))) Via.refl e0 P0 (g := (mkF m 3 #[rv a, iv 2, iv 2] [(.ref a)])) rfl rfl (hb hby d5_3)
  refine OE.v st1 ?_
  show OE _ _ _ _ (T1.setTop (mkF m 6 #[rv a, iv 2, iv 2] [(.ref rp)]))
  refine OE.v (fun t k => XS.iloadN X1.here hx rfl (hb hby d5_6) rfl k) ?_
  show OE _ _ _ _ (T1.setTop (mkF m 7 #[rv a, iv 2, iv 2] [(.int 2), (.ref rp)]))
  obtain ⟨cl2, Ar2, q2, S2, M2, H2, G2⟩ := id P1
  have hin2 : ¬ ((2 : Int32) < 0 ∨ cl2.slots.size ≤ ((2 : Int32)).toNatClampNeg) := inb_of S2 ⟨by decide, by decide⟩
  have hat2 : cl2.slots[((2 : Int32)).toNatClampNeg]? = some (.int 2) := H2.at hin2 rfl
  refine OE.v (X1.iaload hx (j := (2 : Int32)) (v := (.int 2)) (by rw [e1]; exact Ar2.1) (State.isArrayOf_alike hZ.alike Ar2.2.1) Ar2.2.2 hin2 hat2 (g := (mkF m 7 #[rv a, iv 2, iv 2] [(.int 2), (.ref rp)])) rfl rfl (hb hby d5_7)) ?_
  show OE _ _ _ _ (T1.setTop (mkF m 8 #[rv a, iv 2, iv 2] [(.int 2)]))
  refine OE.v (fun t k => XS.iloadN X1.here hx rfl (hb hby d5_8) rfl k) ?_
  show OE _ _ _ _ (T1.setTop (mkF m 9 #[rv a, iv 2, iv 2] [(.int 2), (.int 2)]))
  refine OE.v (fun t k => XS.icmpYes X1.here hx rfl (pc0 := 9) (pc' := 22) rfl (hb hby d5_9) rfl (teq (by decide)).1 (by decide) (by decide) k) ?_
  show OE _ _ _ _ (T1.setTop (mkF m 22 #[rv a, iv 2, iv 2] []))
  refine OE.v (fun t k => XS.iloadN X1.here hx rfl (hb hby d5_22) rfl k) ?_
  show OE _ _ _ _ (T1.setTop (mkF m 23 #[rv a, iv 2, iv 2] [(.int 2)]))
  obtain ⟨fs, hr, hrun, hended, hW, hsame⟩ := X1.leave (v := some (.int 2)) (fun h => by rw [Bd.returns] at h; cases h)
  refine ⟨_, _, ?_, hrun, hended, _, _, rfl, ?_, ⟨_, rfl⟩, hW, hsame.mono (by decide) (by decide)⟩
  · exact retI X1 hx Bd.returns (hb hby d5_23) hr
  · show Qf2_0022 Z a rp kp h0 n0 _ T1.heap _
    rw [e1]
    exact ⟨rfl, N0, rfl⟩

theorem pn_rmH20_0022 : plainName "com/example/stratal/stratal/logic/StratumGroups" = true := by first | (simp [plainName, overriddenIn]; done) | decide +kernel
theorem ef_rmH20_0022 (m : MethodId) (a : Addr) (dl : Int32) : entryFrame m #[(.ref a), (.int 2), (.int 0), (.int dl)] 4 = mkF m 0 #[rv a, iv 2, iv 0, iv dl] [] := by first | (simp [entryFrame, mkF, argsToLocals, Value.category]; done) | rfl
def QH20_0022 (Z : State) (a : Addr) (rp : Addr) (ro : Addr) (rs : Addr) (rf : Addr) (kp : ClassId) (ko : ClassId) (ks : ClassId) (kf : ClassId) (ov0 : Int32) (ov1 : Int32) (ov2 : Int32) (ov3 : Int32) (fv0 : Int32) (fv1 : Int32) (fv2 : Int32) (fv3 : Int32) (dl : Int32) (h0 : Heap) (n0 : Nat) (v : Option Value) (h : Heap) (L : List Loc) : Prop := v = none ∧ Fr n0 L ∧ Keep h0 h [rp, ro, rs, rf] ∧ Arv Z h rp kp .int (16 : Int32) [(.int 0), (.int 0), (.int 0), (.int 2)] (.int 0) ∧ Arv Z h ro ko .int (16 : Int32) [(.int ov0), (.int ov1), (.int dl), (.int ov3)] (.int 0) ∧ Arv Z h rs ks .int (16 : Int32) [(.int 4), (.int 1), (.int 2), (.int 1)] (.int 0) ∧ Arv Z h rf kf .int (16 : Int32) [(.int (own_max fv0 (fv2 - dl))), (.int fv1), (.int fv2), (.int fv3)] (.int 0)
set_option maxRecDepth 65536 in
set_option maxHeartbeats 40000000 in
theorem rmH20_0022 (l : Launch) (Z : State) (a0 : Array Value) (hw : ∀ d ∈ tables_1, d.before a0 Z = true) (ws : List Jvm.Cond) (a : Addr) (rp : Addr) (ro : Addr) (rs : Addr) (rf : Addr) (kp : ClassId) (ko : ClassId) (ks : ClassId) (kf : ClassId) (ov0 : Int32) (ov1 : Int32) (ov2 : Int32) (ov3 : Int32) (fv0 : Int32) (fv1 : Int32) (fv2 : Int32) (fv3 : Int32) (dl : Int32) (h0 : Heap) (n0 : Nat) (Z0 : n0 ≤ h0.size) (P0 : Exa Z h0 a "com/example/stratal/stratal/logic/StratumGroups") (P1 : Fld Z h0 a "com/example/stratal/stratal/logic/StratumGroups" "mParent" "[I" (.ref rp)) (P2 : Fld Z h0 a "com/example/stratal/stratal/logic/StratumGroups" "mOffset" "[I" (.ref ro)) (P3 : Fld Z h0 a "com/example/stratal/stratal/logic/StratumGroups" "mSize" "[I" (.ref rs)) (P4 : Fld Z h0 a "com/example/stratal/stratal/logic/StratumGroups" "mFloor" "[I" (.ref rf)) (P5 : Fld Z h0 a "com/example/stratal/stratal/logic/StratumGroups" "mRecording" "Z" (.int 0)) (P6 : Arv Z h0 rp kp .int (16 : Int32) [(.int 0), (.int 0), (.int 2), (.int 2)] (.int 0)) (P7 : Arv Z h0 ro ko .int (16 : Int32) [(.int ov0), (.int ov1), (.int ov2), (.int ov3)] (.int 0)) (P8 : Arv Z h0 rs ks .int (16 : Int32) [(.int 2), (.int 1), (.int 2), (.int 1)] (.int 0)) (P9 : Arv Z h0 rf kf .int (16 : Int32) [(.int fv0), (.int fv1), (.int fv2), (.int fv3)] (.int 0)) (P10 : rp ≠ a) (P11 : ro ≠ a) (P12 : rs ≠ a) (P13 : rf ≠ a) (P14 : rp ≠ ro) (P15 : rp ≠ rs) (P16 : rp ≠ rf) (P17 : ro ≠ rs) (P18 : ro ≠ rf) (P19 : rs ≠ rf) (P20 : n0 ≤ rp) (P21 : n0 ≤ ro) (P22 : n0 ≤ rs) (P23 : n0 ≤ rf) :
    MetFree l (⟨"com/example/stratal/stratal/logic/StratumGroups", "hang", "(III)V"⟩ : MethodName) (head1 (Jvm.Cond.code (⟨"com/example/stratal/stratal/logic/StratumGroups", "hang", "(III)V"⟩ : MethodName) prog_53_method_11_code 4 none :: ws) ({ frames := 1, cells := 0, slots := 0, locals := 15 } : Room)) (fun aa U => aa = #[(.ref a), (.int 2), (.int 0), (.int dl)] ∧ Z.Warmed39 U.vm ∧ U.heap = h0) (fun _ _ _ _ _ => True) (fun _ U o U' => ∃ v L, o = .returned v ∧ QH20_0022 Z a rp ro rs rf kp ko ks kf ov0 ov1 ov2 ov3 fv0 fv1 fv2 fv3 dl h0 n0 v U'.heap L ∧ FrameEnd U o U' L ({ frames := 1, cells := 0, slots := 0, locals := 15 } : Room).cells ({ frames := 1, cells := 0, slots := 0, locals := 15 } : Room).slots) := by
  refine MetFree.of_bodySF (plainFor_of_name pn_rmH20_0022) hisR ?_
  intro p e s m args below meth c s₁ Bd hml0 hP hK
  obtain ⟨rfl, hZ, hh⟩ := hP
  have hx := Bd.exec
  have hby := Bd.bytes
  have hml : c.maxLocals = 4 := hml0
  have hown : s.vm.findClass "com/example/stratal/stratal/logic/StratumGroups" = some m.cls := findClass_of_methodNamed Bd.named
  have hnm := (name_of_methodNamed Bd.named Bd.method).1
  have X0 : Stand p l e ({ frames := 1, cells := 0, slots := 0, locals := 15 } : Room) s m #[(.ref a), (.int 2), (.int 0), (.int dl)] below meth c s₁ [] 0 0 := Stand.of_body Bd
  have e0 : s₁.heap = h0 := by rw [← hh, Bd.state]; rfl
  have N0 := Fr.nil n0
  change OE p.tables e below _ _
  refine OE.v (fun t k => castTop (ef_rmH20_0022 m a dl) k) ?_
  show OE _ _ _ _ (s₁.setTop (mkF m 0 #[rv a, iv 2, iv 0, iv dl] []))
  refine OE.v (fun t k => XS.aloadN X0.here hx rfl (hb hby d7_0) rfl rfl k) ?_
  refine OE.v (fun t k => XS.iconst X0.here hx rfl (hb hby d7_1) k) ?_
  refine OE.v (fun t k => XS.iloadN X0.here hx rfl (hb hby d7_2) rfl k) ?_
  refine OE.v (fun t k => XS.aloadN X0.here hx rfl (hb hby d7_3) rfl rfl k) ?_
  show OE _ _ _ _ (s₁.setTop (mkF m 4 #[rv a, iv 2, iv 0, iv dl] [(.ref a), (.int 2), (.int 0), (.ref a)]))
  obtain ⟨T1, X1, e1, st1⟩ := getF X0 hx hZ hown (host := "") (Or.inl (hw _ (own_w 16 rfl))) Via.refl e0 P4 (g := (mkF m 4 #[rv a, iv 2, iv 0, iv dl] [(.ref a), (.int 2), (.int 0), (.ref a)])) rfl rfl (hb hby d7_4)
  refine OE.v st1 ?_
  show OE _ _ _ _ (T1.setTop (mkF m 7 #[rv a, iv 2, iv 0, iv dl] [(.ref rf), (.int 2), (.int 0), (.ref a)]))
  refine OE.v (fun t k => XS.iloadN X1.here hx rfl (hb hby d7_7) rfl k) ?_
  show OE _ _ _ _ (T1.setTop (mkF m 8 #[rv a, iv 2, iv 0, iv dl] [(.int 0), (.ref rf), (.int 2), (.int 0), (.ref a)]))
  obtain ⟨cl2, Ar2, q2, S2, M2, H2, G2⟩ := id P9
  have hin2 : ¬ ((0 : Int32) < 0 ∨ cl2.slots.size ≤ ((0 : Int32)).toNatClampNeg) := inb_of S2 ⟨by decide, by decide⟩
  have hat2 : cl2.slots[((0 : Int32)).toNatClampNeg]? = some (.int fv0) := H2.at hin2 rfl
  refine OE.v (X1.iaload hx (j := (0 : Int32)) (v := (.int fv0)) (by rw [e1]; exact Ar2.1) (State.isArrayOf_alike hZ.alike Ar2.2.1) Ar2.2.2 hin2 hat2 (g := (mkF m 8 #[rv a, iv 2, iv 0, iv dl] [(.int 0), (.ref rf), (.int 2), (.int 0), (.ref a)])) rfl rfl (hb hby d7_8)) ?_
  show OE _ _ _ _ (T1.setTop (mkF m 9 #[rv a, iv 2, iv 0, iv dl] [(.int fv0), (.int 2), (.int 0), (.ref a)]))
  obtain ⟨cq3, q3, q3'⟩ := P0.cell
  obtain ⟨_, _, ⟨T3, L3, k3, n3⟩, -, X3, ⟨Lc3, hQ3, l3, y3, z3⟩, st3⟩ := X1.privateBack hx (y := (⟨"com/example/stratal/stratal/logic/StratumGroups", "record", "(III)V"⟩ : MethodName)) hown (mvT hZ (hw _ (own_w 46 rfl))) (mvT hZ (hw _ (own_w 47 rfl))) (own_selp (mvT hZ (hw _ (own_w 1 rfl))) (Cond.privateMethod_at (mvP hZ (hw _ (own_w 48 rfl)) (args := #[]))) (mvT hZ (hw _ (own_w 47 rfl))) (by decide)) (Cond.privateMethod_at (mvP hZ (hw _ (own_w 48 rfl)) (args := #[]))) (mvT hZ (hw _ (own_w 49 rfl))) (by decide) (backOf (W := 0) (rm8 l Z a0 hw [] a (0 : Int32) (2 : Int32) fv0 h0 n0 Z0 P5) hZ (hw _ (own_w 49 rfl)) (hw _ (own_w 2 rfl)) (by decide) (by decide)) (g := (mkF m 9 #[rv a, iv 2, iv 0, iv dl] [(.int fv0), (.int 2), (.int 0), (.ref a)])) rfl (by rw [hml]; rfl) (Steps.refl _) (a := a) (by rw [e1]; exact q3) q3' (argsL := [(.int 0), (.int 2), (.int fv0)]) (rest := []) (lenOf pd_2 rfl) rfl (Nat.le_of_eq rfl) (hb hby d7_9) (fun _ _ => ⟨rfl, e1, (by decide : 0 + 0 ≤ _), (by decide : 0 + 0 ≤ _)⟩)
  dsimp only [Pt.U, Pt.locs, Pt.cells, Pt.slots] at X3 l3 y3 z3 st3 hQ3
  subst l3 y3 z3
  obtain ⟨rfl, Nq3, e3⟩ := hQ3
  have N3 := Fr.app N0 Nq3
  refine OE.v (fun t k => st3.trans k) ?_
  show OE _ _ _ _ (T3.setTop (mkF m 12 #[rv a, iv 2, iv 0, iv dl] []))
  refine OE.v (fun t k => XS.aloadN X3.here hx rfl (hb hby d7_12) rfl rfl k) ?_
  show OE _ _ _ _ (T3.setTop (mkF m 13 #[rv a, iv 2, iv 0, iv dl] [(.ref a)]))
  obtain ⟨T4, X4, e4, st4⟩ := getF X3 hx hZ hown (host := "") (Or.inl (hw _ (own_w 10 rfl))) Via.refl e3 P1 (g := (mkF m 13 #[rv a, iv 2, iv 0, iv dl] [(.ref a)])) rfl rfl (hb hby d7_13)
  refine OE.v st4 ?_
  show OE _ _ _ _ (T4.setTop (mkF m 16 #[rv a, iv 2, iv 0, iv dl] [(.ref rp)]))
  refine OE.v (fun t k => XS.iloadN X4.here hx rfl (hb hby d7_16) rfl k) ?_
  refine OE.v (fun t k => XS.iloadN X4.here hx rfl (hb hby d7_17) rfl k) ?_
  show OE _ _ _ _ (T4.setTop (mkF m 18 #[rv a, iv 2, iv 0, iv dl] [(.int 0), (.int 2), (.ref rp)]))
  obtain ⟨cl5, Ar5, q5, S5, M5, H5, G5⟩ := id P6
  have hin5 : ¬ ((2 : Int32) < 0 ∨ cl5.slots.size ≤ ((2 : Int32)).toNatClampNeg) := inb_of S5 ⟨by decide, by decide⟩
  obtain ⟨T5, h5, X5, e5, W5, st5⟩ := stI X4 hx hZ e4 Ar5 (j := (2 : Int32)) hin5 (g := (mkF m 18 #[rv a, iv 2, iv 0, iv dl] [(.int 0), (.int 2), (.ref rp)])) rfl rfl (hb hby d7_18)
  have V5 : Arv Z h5 rp kp .int (16 : Int32) [(.int 0), (.int 0), (.int 0), (.int 2)] (.int 0) := Arv.set Ar5 q5 S5 M5 H5 G5 rfl W5 2 rfl (Nat.le_of_ble_eq_true rfl)
  have N5 := Fr.snoc X5 N3 P20
  have Z5 : n0 ≤ h5.size := Nat.le_trans Z0 (Nat.le_of_eq W5.size.symm)
  have K5 : Keep h0 h5 [rp, ro, rs, rf] := (Keep.refl h0 [rp, ro, rs, rf]).wr W5 (Or.inl (by simp))
  refine OE.v st5 ?_
  show OE _ _ _ _ (T5.setTop (mkF m 19 #[rv a, iv 2, iv 0, iv dl] []))
  refine OE.v (fun t k => XS.aloadN X5.here hx rfl (hb hby d7_19) rfl rfl k) ?_
  show OE _ _ _ _ (T5.setTop (mkF m 20 #[rv a, iv 2, iv 0, iv dl] [(.ref a)]))
  obtain ⟨T6, X6, e6, st6⟩ := getF X5 hx hZ hown (host := "") (Or.inl (hw _ (own_w 12 rfl))) Via.refl e5 (P2.other W5 (Or.inl (Ne.symm P10))) (g := (mkF m 20 #[rv a, iv 2, iv 0, iv dl] [(.ref a)])) rfl rfl (hb hby d7_20)
  refine OE.v st6 ?_
  show OE _ _ _ _ (T6.setTop (mkF m 23 #[rv a, iv 2, iv 0, iv dl] [(.ref ro)]))
  refine OE.v (fun t k => XS.iloadN X6.here hx rfl (hb hby d7_23) rfl k) ?_
  refine OE.v (fun t k => XS.iloadN X6.here hx rfl (hb hby d7_24) rfl k) ?_
  show OE _ _ _ _ (T6.setTop (mkF m 25 #[rv a, iv 2, iv 0, iv dl] [(.int dl), (.int 2), (.ref ro)]))
  obtain ⟨cl7, Ar7, q7, S7, M7, H7, G7⟩ := id (P7.other W5 (Ne.symm P14))
  have hin7 : ¬ ((2 : Int32) < 0 ∨ cl7.slots.size ≤ ((2 : Int32)).toNatClampNeg) := inb_of S7 ⟨by decide, by decide⟩
  obtain ⟨T7, h7, X7, e7, W7, st7⟩ := stI X6 hx hZ e6 Ar7 (j := (2 : Int32)) hin7 (g := (mkF m 25 #[rv a, iv 2, iv 0, iv dl] [(.int dl), (.int 2), (.ref ro)])) rfl rfl (hb hby d7_25)
  have V7 : Arv Z h7 ro ko .int (16 : Int32) [(.int ov0), (.int ov1), (.int dl), (.int ov3)] (.int 0) := Arv.set Ar7 q7 S7 M7 H7 G7 rfl W7 2 rfl (Nat.le_of_ble_eq_true rfl)
  have N7 := Fr.snoc X7 N5 P21
  have Z7 : n0 ≤ h7.size := Nat.le_trans Z5 (Nat.le_of_eq W7.size.symm)
  have K7 : Keep h0 h7 [rp, ro, rs, rf] := K5.wr W7 (Or.inl (by simp))
  refine OE.v st7 ?_
  show OE _ _ _ _ (T7.setTop (mkF m 26 #[rv a, iv 2, iv 0, iv dl] []))
  refine OE.v (fun t k => XS.aloadN X7.here hx rfl (hb hby d7_26) rfl rfl k) ?_
  show OE _ _ _ _ (T7.setTop (mkF m 27 #[rv a, iv 2, iv 0, iv dl] [(.ref a)]))
  obtain ⟨T8, X8, e8, st8⟩ := getF X7 hx hZ hown (host := "") (Or.inl (hw _ (own_w 14 rfl))) Via.refl e7 ((P3.other W5 (Or.inl (Ne.symm P10))).other W7 (Or.inl (Ne.symm P11))) (g := (mkF m 27 #[rv a, iv 2, iv 0, iv dl] [(.ref a)])) rfl rfl (hb hby d7_27)
  refine OE.v st8 ?_
  show OE _ _ _ _ (T8.setTop (mkF m 30 #[rv a, iv 2, iv 0, iv dl] [(.ref rs)]))
  refine OE.v (fun t k => XS.iloadN X8.here hx rfl (hb hby d7_30) rfl k) ?_
  show OE _ _ _ _ (T8.setTop (mkF m 31 #[rv a, iv 2, iv 0, iv dl] [(.int 0), (.ref rs)]))
  refine OE.v (fun t k => Jvm.Free.XT.dup2 X8.here hx rfl (hb hby d7_31) rfl rfl rfl k) ?_
  show OE _ _ _ _ (T8.setTop (mkF m 32 #[rv a, iv 2, iv 0, iv dl] [(.int 0), (.ref rs), (.int 0), (.ref rs)]))
  obtain ⟨cl9, Ar9, q9, S9, M9, H9, G9⟩ := id ((P8.other W5 (Ne.symm P15)).other W7 (Ne.symm P17))
  have hin9 : ¬ ((0 : Int32) < 0 ∨ cl9.slots.size ≤ ((0 : Int32)).toNatClampNeg) := inb_of S9 ⟨by decide, by decide⟩
  have hat9 : cl9.slots[((0 : Int32)).toNatClampNeg]? = some (.int 2) := H9.at hin9 rfl
  refine OE.v (X8.iaload hx (j := (0 : Int32)) (v := (.int 2)) (by rw [e8]; exact Ar9.1) (State.isArrayOf_alike hZ.alike Ar9.2.1) Ar9.2.2 hin9 hat9 (g := (mkF m 32 #[rv a, iv 2, iv 0, iv dl] [(.int 0), (.ref rs), (.int 0), (.ref rs)])) rfl rfl (hb hby d7_32)) ?_
  show OE _ _ _ _ (T8.setTop (mkF m 33 #[rv a, iv 2, iv 0, iv dl] [(.int 2), (.int 0), (.ref rs)]))
  refine OE.v (fun t k => XS.aloadN X8.here hx rfl (hb hby d7_33) rfl rfl k) ?_
  show OE _ _ _ _ (T8.setTop (mkF m 34 #[rv a, iv 2, iv 0, iv dl] [(.ref a), (.int 2), (.int 0), (.ref rs)]))
  obtain ⟨T10, X10, e10, st10⟩ := getF X8 hx hZ hown (host := "") (Or.inl (hw _ (own_w 14 rfl))) Via.refl e8 ((P3.other W5 (Or.inl (Ne.symm P10))).other W7 (Or.inl (Ne.symm P11))) (g := (mkF m 34 #[rv a, iv 2, iv 0, iv dl] [(.ref a), (.int 2), (.int 0), (.ref rs)])) rfl rfl (hb hby d7_34)
  refine OE.v st10 ?_
  show OE _ _ _ _ (T10.setTop (mkF m 37 #[rv a, iv 2, iv 0, iv dl] [(.ref rs), (.int 2), (.int 0), (.ref rs)]))
  refine OE.v (fun t k => XS.iloadN X10.here hx rfl (hb hby d7_37) rfl k) ?_
  show OE _ _ _ _ (T10.setTop (mkF m 38 #[rv a, iv 2, iv 0, iv dl] [(.int 2), (.ref rs), (.int 2), (.int 0), (.ref rs)]))
  obtain ⟨cl11, Ar11, q11, S11, M11, H11, G11⟩ := id ((P8.other W5 (Ne.symm P15)).other W7 (Ne.symm P17))
  have hin11 : ¬ ((2 : Int32) < 0 ∨ cl11.slots.size ≤ ((2 : Int32)).toNatClampNeg) := inb_of S11 ⟨by decide, by decide⟩
  have hat11 : cl11.slots[((2 : Int32)).toNatClampNeg]? = some (.int 2) := H11.at hin11 rfl
  refine OE.v (X10.iaload hx (j := (2 : Int32)) (v := (.int 2)) (by rw [e10]; exact Ar11.1) (State.isArrayOf_alike hZ.alike Ar11.2.1) Ar11.2.2 hin11 hat11 (g := (mkF m 38 #[rv a, iv 2, iv 0, iv dl] [(.int 2), (.ref rs), (.int 2), (.int 0), (.ref rs)])) rfl rfl (hb hby d7_38)) ?_
  show OE _ _ _ _ (T10.setTop (mkF m 39 #[rv a, iv 2, iv 0, iv dl] [(.int 2), (.int 2), (.int 0), (.ref rs)]))
  refine OE.v (fun t k => XS.iadd X10.here hx rfl (hb hby d7_39) rfl k) ?_
  show OE _ _ _ _ (T10.setTop (mkF m 40 #[rv a, iv 2, iv 0, iv dl] [(.int 4), (.int 0), (.ref rs)]))
  obtain ⟨cl12, Ar12, q12, S12, M12, H12, G12⟩ := id ((P8.other W5 (Ne.symm P15)).other W7 (Ne.symm P17))
  have hin12 : ¬ ((0 : Int32) < 0 ∨ cl12.slots.size ≤ ((0 : Int32)).toNatClampNeg) := inb_of S12 ⟨by decide, by decide⟩
  obtain ⟨T12, h12, X12, e12, W12, st12⟩ := stI X10 hx hZ e10 Ar12 (j := (0 : Int32)) hin12 (g := (mkF m 40 #[rv a, iv 2, iv 0, iv dl] [(.int 4), (.int 0), (.ref rs)])) rfl rfl (hb hby d7_40)
  have V12 : Arv Z h12 rs ks .int (16 : Int32) [(.int 4), (.int 1), (.int 2), (.int 1)] (.int 0) := Arv.set Ar12 q12 S12 M12 H12 G12 rfl W12 0 rfl (Nat.le_of_ble_eq_true rfl)
  have N12 := Fr.snoc X12 N7 P22
  have Z12 : n0 ≤ h12.size := Nat.le_trans Z7 (Nat.le_of_eq W12.size.symm)
  have K12 : Keep h0 h12 [rp, ro, rs, rf] := K7.wr W12 (Or.inl (by simp))
  refine OE.v st12 ?_
  show OE _ _ _ _ (T12.setTop (mkF m 41 #[rv a, iv 2, iv 0, iv dl] []))
  refine OE.v (fun t k => XS.aloadN X12.here hx rfl (hb hby d7_41) rfl rfl k) ?_
  show OE _ _ _ _ (T12.setTop (mkF m 42 #[rv a, iv 2, iv 0, iv dl] [(.ref a)]))
  obtain ⟨T13, X13, e13, st13⟩ := getF X12 hx hZ hown (host := "") (Or.inl (hw _ (own_w 16 rfl))) Via.refl e12 (((P4.other W5 (Or.inl (Ne.symm P10))).other W7 (Or.inl (Ne.symm P11))).other W12 (Or.inl (Ne.symm P12))) (g := (mkF m 42 #[rv a, iv 2, iv 0, iv dl] [(.ref a)])) rfl rfl (hb hby d7_42)
  refine OE.v st13 ?_
  show OE _ _ _ _ (T13.setTop (mkF m 45 #[rv a, iv 2, iv 0, iv dl] [(.ref rf)]))
  refine OE.v (fun t k => XS.iloadN X13.here hx rfl (hb hby d7_45) rfl k) ?_
  refine OE.v (fun t k => XS.aloadN X13.here hx rfl (hb hby d7_46) rfl rfl k) ?_
  show OE _ _ _ _ (T13.setTop (mkF m 47 #[rv a, iv 2, iv 0, iv dl] [(.ref a), (.int 0), (.ref rf)]))
  obtain ⟨T14, X14, e14, st14⟩ := getF X13 hx hZ hown (host := "") (Or.inl (hw _ (own_w 16 rfl))) Via.refl e13 (((P4.other W5 (Or.inl (Ne.symm P10))).other W7 (Or.inl (Ne.symm P11))).other W12 (Or.inl (Ne.symm P12))) (g := (mkF m 47 #[rv a, iv 2, iv 0, iv dl] [(.ref a), (.int 0), (.ref rf)])) rfl rfl (hb hby d7_47)
  refine OE.v st14 ?_
  show OE _ _ _ _ (T14.setTop (mkF m 50 #[rv a, iv 2, iv 0, iv dl] [(.ref rf), (.int 0), (.ref rf)]))
  refine OE.v (fun t k => XS.iloadN X14.here hx rfl (hb hby d7_50) rfl k) ?_
  show OE _ _ _ _ (T14.setTop (mkF m 51 #[rv a, iv 2, iv 0, iv dl] [(.int 0), (.ref rf), (.int 0), (.ref rf)]))
  obtain ⟨cl15, Ar15, q15, S15, M15, H15, G15⟩ := id (((P9.other W5 (Ne.symm P16)).other W7 (Ne.symm P18)).other W12 (Ne.symm P19))
  have hin15 : ¬ ((0 : Int32) < 0 ∨ cl15.slots.size ≤ ((0 : Int32)).toNatClampNeg) := inb_of S15 ⟨by decide, by decide⟩
  have hat15 : cl15.slots[((0 : Int32)).toNatClampNeg]? = some (.int fv0) := H15.at hin15 rfl
  refine OE.v (X14.iaload hx (j := (0 : Int32)) (v := (.int fv0)) (by rw [e14]; exact Ar15.1) (State.isArrayOf_alike hZ.alike Ar15.2.1) Ar15.2.2 hin15 hat15 (g := (mkF m 51 #[rv a, iv 2, iv 0, iv dl] [(.int 0), (.ref rf), (.int 0), (.ref rf)])) rfl rfl (hb hby d7_51)) ?_
  show OE _ _ _ _ (T14.setTop (mkF m 52 #[rv a, iv 2, iv 0, iv dl] [(.int fv0), (.int 0), (.ref rf)]))
  refine OE.v (fun t k => XS.aloadN X14.here hx rfl (hb hby d7_52) rfl rfl k) ?_
  show OE _ _ _ _ (T14.setTop (mkF m 53 #[rv a, iv 2, iv 0, iv dl] [(.ref a), (.int fv0), (.int 0), (.ref rf)]))
  obtain ⟨T16, X16, e16, st16⟩ := getF X14 hx hZ hown (host := "") (Or.inl (hw _ (own_w 16 rfl))) Via.refl e14 (((P4.other W5 (Or.inl (Ne.symm P10))).other W7 (Or.inl (Ne.symm P11))).other W12 (Or.inl (Ne.symm P12))) (g := (mkF m 53 #[rv a, iv 2, iv 0, iv dl] [(.ref a), (.int fv0), (.int 0), (.ref rf)])) rfl rfl (hb hby d7_53)
  refine OE.v st16 ?_
  show OE _ _ _ _ (T16.setTop (mkF m 56 #[rv a, iv 2, iv 0, iv dl] [(.ref rf), (.int fv0), (.int 0), (.ref rf)]))
  refine OE.v (fun t k => XS.iloadN X16.here hx rfl (hb hby d7_56) rfl k) ?_
  show OE _ _ _ _ (T16.setTop (mkF m 57 #[rv a, iv 2, iv 0, iv dl] [(.int 2), (.ref rf), (.int fv0), (.int 0), (.ref rf)]))
  obtain ⟨cl17, Ar17, q17, S17, M17, H17, G17⟩ := id (((P9.other W5 (Ne.symm P16)).other W7 (Ne.symm P18)).other W12 (Ne.symm P19))
  have hin17 : ¬ ((2 : Int32) < 0 ∨ cl17.slots.size ≤ ((2 : Int32)).toNatClampNeg) := inb_of S17 ⟨by decide, by decide⟩
  have hat17 : cl17.slots[((2 : Int32)).toNatClampNeg]? = some (.int fv2) := H17.at hin17 rfl
  refine OE.v (X16.iaload hx (j := (2 : Int32)) (v := (.int fv2)) (by rw [e16]; exact Ar17.1) (State.isArrayOf_alike hZ.alike Ar17.2.1) Ar17.2.2 hin17 hat17 (g := (mkF m 57 #[rv a, iv 2, iv 0, iv dl] [(.int 2), (.ref rf), (.int fv0), (.int 0), (.ref rf)])) rfl rfl (hb hby d7_57)) ?_
  show OE _ _ _ _ (T16.setTop (mkF m 58 #[rv a, iv 2, iv 0, iv dl] [(.int fv2), (.int fv0), (.int 0), (.ref rf)]))
  refine OE.v (fun t k => XS.iloadN X16.here hx rfl (hb hby d7_58) rfl k) ?_
  refine OE.v (fun t k => XS.isub X16.here hx rfl (hb hby d7_59) rfl k) ?_
  show OE _ _ _ _ (T16.setTop (mkF m 60 #[rv a, iv 2, iv 0, iv dl] [(.int (fv2 - dl)), (.int fv0), (.int 0), (.ref rf)]))
  obtain ⟨_, _, ⟨T18, L18, k18, n18⟩, -, X18, ⟨Lc18, hQ18, l18, y18, z18⟩, st18⟩ := Jvm.LawKit.callS X16 hx (y := (⟨"java/lang/Math", "max", "(II)I"⟩ : MethodName)) hown (mvT hZ (hw _ (own_w 52 rfl))) (mvT hZ (hw _ (own_w 53 rfl))) (mvT hZ (hw _ (own_w 54 rfl))) (mvT hZ (hw _ (own_w 55 rfl))) (by decide) (backOf (W := 2) (rm9 l Z a0 hw [] fv0 (fv2 - dl) h12 n0 Z12 ) hZ (hw _ (own_w 55 rfl)) (hw _ (own_w 54 rfl)) (by decide) (by decide)) (g := (mkF m 60 #[rv a, iv 2, iv 0, iv dl] [(.int (fv2 - dl)), (.int fv0), (.int 0), (.ref rf)])) rfl (by rw [hml]; rfl) (argsL := [(.int fv0), (.int (fv2 - dl))]) (rest := [(.int 0), (.ref rf)]) (lenOf pd_3 rfl) rfl (Nat.le_of_eq rfl) (hb hby d7_60) (fun _ _ => ⟨rfl, e16, (by decide : 0 + 0 ≤ _), (by decide : 0 + 0 ≤ _)⟩)
  dsimp only [Pt.U, Pt.locs, Pt.cells, Pt.slots] at X18 l18 y18 z18 st18 hQ18
  subst l18 y18 z18
  obtain ⟨rfl, Nq18, e18⟩ := hQ18
  have N18 := Fr.app N12 Nq18
  refine OE.v st18 ?_
  show OE _ _ _ _ (T18.setTop (mkF m 63 #[rv a, iv 2, iv 0, iv dl] [(.int (own_max fv0 (fv2 - dl))), (.int 0), (.ref rf)]))
  obtain ⟨cl19, Ar19, q19, S19, M19, H19, G19⟩ := id (((P9.other W5 (Ne.symm P16)).other W7 (Ne.symm P18)).other W12 (Ne.symm P19))
  have hin19 : ¬ ((0 : Int32) < 0 ∨ cl19.slots.size ≤ ((0 : Int32)).toNatClampNeg) := inb_of S19 ⟨by decide, by decide⟩
  obtain ⟨T19, h19, X19, e19, W19, st19⟩ := stI X18 hx hZ e18 Ar19 (j := (0 : Int32)) hin19 (g := (mkF m 63 #[rv a, iv 2, iv 0, iv dl] [(.int (own_max fv0 (fv2 - dl))), (.int 0), (.ref rf)])) rfl rfl (hb hby d7_63)
  have V19 : Arv Z h19 rf kf .int (16 : Int32) [(.int (own_max fv0 (fv2 - dl))), (.int fv1), (.int fv2), (.int fv3)] (.int 0) := Arv.set Ar19 q19 S19 M19 H19 G19 rfl W19 0 rfl (Nat.le_of_ble_eq_true rfl)
  have N19 := Fr.snoc X19 N18 P23
  have Z19 : n0 ≤ h19.size := Nat.le_trans Z12 (Nat.le_of_eq W19.size.symm)
  have K19 : Keep h0 h19 [rp, ro, rs, rf] := K12.wr W19 (Or.inl (by simp))
  refine OE.v st19 ?_
  show OE _ _ _ _ (T19.setTop (mkF m 64 #[rv a, iv 2, iv 0, iv dl] []))
  obtain ⟨fs, hr, hrun, hended, hW, hsame⟩ := X19.leave (v := none) (fun _ => rfl)
  refine ⟨_, _, ?_, hrun, hended, _, _, rfl, ?_, ⟨_, rfl⟩, hW, hsame.mono (by decide) (by decide)⟩
  · exact X19.returnOut hx Bd.returns (hb hby d7_64) hr
  · show QH20_0022 Z a rp ro rs rf kp ko ks kf ov0 ov1 ov2 ov3 fv0 fv1 fv2 fv3 dl h0 n0 _ T19.heap _
    rw [e19]
    exact ⟨rfl, N19, K19, (((V5.other W7 P14).other W12 P15).other W19 P16), ((V7.other W12 P17).other W19 P18), (V12.other W19 P19), V19⟩

theorem pn_rmJ02_0022 : plainName "com/example/stratal/stratal/logic/StratumGroups" = true := by first | (simp [plainName, overriddenIn]; done) | decide +kernel
theorem ef_rmJ02_0022 (m : MethodId) (a : Addr) (jr : Int32) : entryFrame m #[(.ref a), (.int 0), (.int 2), (.int jr)] 8 = mkF m 0 #[rv a, iv 0, iv 2, iv jr, .unset, .unset, .unset, .unset] [] := by first | (simp [entryFrame, mkF, argsToLocals, Value.category]; done) | rfl
def QJ02_0022 (Z : State) (a : Addr) (rp : Addr) (ro : Addr) (rs : Addr) (rf : Addr) (kp : ClassId) (ko : ClassId) (ks : ClassId) (kf : ClassId) (ov0 : Int32) (ov1 : Int32) (ov2 : Int32) (ov3 : Int32) (fv0 : Int32) (fv1 : Int32) (fv2 : Int32) (fv3 : Int32) (jr : Int32) (h0 : Heap) (n0 : Nat) (v : Option Value) (h : Heap) (L : List Loc) : Prop := v = some (.int 2) ∧ Fr n0 L ∧ Keep h0 h [rp, ro, rs, rf] ∧ Arv Z h rp kp .int (16 : Int32) [(.int 0), (.int 0), (.int 0), (.int 2)] (.int 0) ∧ Arv Z h ro ko .int (16 : Int32) [(.int ov0), (.int ov1), (.int (((0 : Int32) + jr) - (0 : Int32))), (.int ov3)] (.int 0) ∧ Arv Z h rs ks .int (16 : Int32) [(.int 4), (.int 1), (.int 2), (.int 1)] (.int 0) ∧ Arv Z h rf kf .int (16 : Int32) [(.int (own_max fv0 (fv2 - (((0 : Int32) + jr) - (0 : Int32))))), (.int fv1), (.int fv2), (.int fv3)] (.int 0)
set_option maxRecDepth 65536 in
set_option maxHeartbeats 40000000 in
theorem rmJ02_0022 (l : Launch) (Z : State) (a0 : Array Value) (hw : ∀ d ∈ tables_1, d.before a0 Z = true) (ws : List Jvm.Cond) (a : Addr) (rp : Addr) (ro : Addr) (rs : Addr) (rf : Addr) (kp : ClassId) (ko : ClassId) (ks : ClassId) (kf : ClassId) (ov0 : Int32) (ov1 : Int32) (ov2 : Int32) (ov3 : Int32) (fv0 : Int32) (fv1 : Int32) (fv2 : Int32) (fv3 : Int32) (jr : Int32) (h0 : Heap) (n0 : Nat) (Z0 : n0 ≤ h0.size) (P0 : Exa Z h0 a "com/example/stratal/stratal/logic/StratumGroups") (P1 : Fld Z h0 a "com/example/stratal/stratal/logic/StratumGroups" "mParent" "[I" (.ref rp)) (P2 : Fld Z h0 a "com/example/stratal/stratal/logic/StratumGroups" "mOffset" "[I" (.ref ro)) (P3 : Fld Z h0 a "com/example/stratal/stratal/logic/StratumGroups" "mSize" "[I" (.ref rs)) (P4 : Fld Z h0 a "com/example/stratal/stratal/logic/StratumGroups" "mFloor" "[I" (.ref rf)) (P5 : Fld Z h0 a "com/example/stratal/stratal/logic/StratumGroups" "mRecording" "Z" (.int 0)) (P6 : Arv Z h0 rp kp .int (16 : Int32) [(.int 0), (.int 0), (.int 2), (.int 2)] (.int 0)) (P7 : Arv Z h0 ro ko .int (16 : Int32) [(.int ov0), (.int ov1), (.int ov2), (.int ov3)] (.int 0)) (P8 : Arv Z h0 rs ks .int (16 : Int32) [(.int 2), (.int 1), (.int 2), (.int 1)] (.int 0)) (P9 : Arv Z h0 rf kf .int (16 : Int32) [(.int fv0), (.int fv1), (.int fv2), (.int fv3)] (.int 0)) (P10 : rp ≠ a) (P11 : ro ≠ a) (P12 : rs ≠ a) (P13 : rf ≠ a) (P14 : rp ≠ ro) (P15 : rp ≠ rs) (P16 : rp ≠ rf) (P17 : ro ≠ rs) (P18 : ro ≠ rf) (P19 : rs ≠ rf) (P20 : n0 ≤ rp) (P21 : n0 ≤ ro) (P22 : n0 ≤ rs) (P23 : n0 ≤ rf) :
    MetFree l (⟨"com/example/stratal/stratal/logic/StratumGroups", "join", "(III)I"⟩ : MethodName) (head1 (Jvm.Cond.code (⟨"com/example/stratal/stratal/logic/StratumGroups", "join", "(III)I"⟩ : MethodName) prog_53_method_5_code 8 (some .int) :: ws) ({ frames := 2, cells := 0, slots := 0, locals := 30 } : Room)) (fun aa U => aa = #[(.ref a), (.int 0), (.int 2), (.int jr)] ∧ Z.Warmed39 U.vm ∧ U.heap = h0) (fun _ _ _ _ _ => True) (fun _ U o U' => ∃ v L, o = .returned v ∧ QJ02_0022 Z a rp ro rs rf kp ko ks kf ov0 ov1 ov2 ov3 fv0 fv1 fv2 fv3 jr h0 n0 v U'.heap L ∧ FrameEnd U o U' L ({ frames := 2, cells := 0, slots := 0, locals := 30 } : Room).cells ({ frames := 2, cells := 0, slots := 0, locals := 30 } : Room).slots) := by
  refine MetFree.of_bodySF (plainFor_of_name pn_rmJ02_0022) hisR ?_
  intro p e s m args below meth c s₁ Bd hml0 hP hK
  obtain ⟨rfl, hZ, hh⟩ := hP
  have hx := Bd.exec
  have hby := Bd.bytes
  have hml : c.maxLocals = 8 := hml0
  have hown : s.vm.findClass "com/example/stratal/stratal/logic/StratumGroups" = some m.cls := findClass_of_methodNamed Bd.named
  have hnm := (name_of_methodNamed Bd.named Bd.method).1
  have X0 : Stand p l e ({ frames := 2, cells := 0, slots := 0, locals := 30 } : Room) s m #[(.ref a), (.int 0), (.int 2), (.int jr)] below meth c s₁ [] 0 0 := Stand.of_body Bd
  have e0 : s₁.heap = h0 := by rw [← hh, Bd.state]; rfl
  have N0 := Fr.nil n0
  change OE p.tables e below _ _
  refine OE.v (fun t k => castTop (ef_rmJ02_0022 m a jr) k) ?_
  show OE _ _ _ _ (s₁.setTop (mkF m 0 #[rv a, iv 0, iv 2, iv jr, .unset, .unset, .unset, .unset] []))
  refine OE.v (fun t k => XS.aloadN X0.here hx rfl (hb hby d4_0) rfl rfl k) ?_
  refine OE.v (fun t k => XS.iloadN X0.here hx rfl (hb hby d4_1) rfl k) ?_
  show OE _ _ _ _ (s₁.setTop (mkF m 2 #[rv a, iv 0, iv 2, iv jr, .unset, .unset, .unset, .unset] [(.int 0), (.ref a)]))
  obtain ⟨cq1, kq1, q1a, q1b, q1c⟩ := isOf hZ e0 P0
  obtain ⟨_, _, ⟨T1, L1, k1, n1⟩, -, X1, ⟨Lc1, hQ1, l1, y1, z1⟩, st1⟩ := X0.virtualBack hx (y := (⟨"com/example/stratal/stratal/logic/StratumGroups", "find", "(I)I"⟩ : MethodName)) (z := (⟨"com/example/stratal/stratal/logic/StratumGroups", "find", "(I)I"⟩ : MethodName)) hown (mvT hZ (hw _ (own_w 32 rfl))) (mvT hZ (hw _ (own_w 33 rfl))) (notFace_of_selects (args := #[]) (mvT hZ (hw _ (own_w 35 rfl)))) (mvT hZ (hw _ (own_w 35 rfl))) (mvT hZ (hw _ (own_w 34 rfl))) (by decide) (backOf (W := 0) (rmf0_0022 l Z a0 hw [] a rp kp h0 n0 Z0 P1 P6) hZ (hw _ (own_w 36 rfl)) (hw _ (own_w 2 rfl)) (by decide) (by decide)) q1a q1c (g := (mkF m 2 #[rv a, iv 0, iv 2, iv jr, .unset, .unset, .unset, .unset] [(.int 0), (.ref a)])) rfl (by rw [hml]; rfl) (Steps.refl _) (argsL := [(.int 0)]) (rest := []) (lenOf pd_4 rfl) rfl (Nat.le_of_eq rfl) (hb hby d4_2) (fun _ _ => ⟨rfl, e0, (by decide : 0 + 0 ≤ _), (by decide : 0 + 0 ≤ _)⟩)
  dsimp only [Pt.U, Pt.locs, Pt.cells, Pt.slots] at X1 l1 y1 z1 st1 hQ1
  subst l1 y1 z1
  obtain ⟨rfl, Nq1, e1⟩ := hQ1
  have N1 := Fr.app N0 Nq1
  refine OE.v (fun t k => st1.trans k) ?_
  show OE _ _ _ _ (T1.setTop (mkF m 5 #[rv a, iv 0, iv 2, iv jr, .unset, .unset, .unset, .unset] [(.int 0)]))
  refine OE.v (fun t k => XS.istore X1.here hx rfl (hb hby d4_5) rfl (l' := #[rv a, iv 0, iv 2, iv jr, iv 0, .unset, .unset, .unset]) rfl k) ?_
  refine OE.v (fun t k => XS.aloadN X1.here hx rfl (hb hby d4_7) rfl rfl k) ?_
  refine OE.v (fun t k => XS.iloadN X1.here hx rfl (hb hby d4_8) rfl k) ?_
  show OE _ _ _ _ (T1.setTop (mkF m 9 #[rv a, iv 0, iv 2, iv jr, iv 0, .unset, .unset, .unset] [(.int 2), (.ref a)]))
  obtain ⟨cq2, kq2, q2a, q2b, q2c⟩ := isOf hZ e1 P0
  obtain ⟨_, _, ⟨T2, L2, k2, n2⟩, -, X2, ⟨Lc2, hQ2, l2, y2, z2⟩, st2⟩ := X1.virtualBack hx (y := (⟨"com/example/stratal/stratal/logic/StratumGroups", "find", "(I)I"⟩ : MethodName)) (z := (⟨"com/example/stratal/stratal/logic/StratumGroups", "find", "(I)I"⟩ : MethodName)) hown (mvT hZ (hw _ (own_w 32 rfl))) (mvT hZ (hw _ (own_w 33 rfl))) (notFace_of_selects (args := #[]) (mvT hZ (hw _ (own_w 35 rfl)))) (mvT hZ (hw _ (own_w 35 rfl))) (mvT hZ (hw _ (own_w 34 rfl))) (by decide) (backOf (W := 0) (rmf2_0022 l Z a0 hw [] a rp kp h0 n0 Z0 P1 P6) hZ (hw _ (own_w 36 rfl)) (hw _ (own_w 2 rfl)) (by decide) (by decide)) q2a q2c (g := (mkF m 9 #[rv a, iv 0, iv 2, iv jr, iv 0, .unset, .unset, .unset] [(.int 2), (.ref a)])) rfl (by rw [hml]; rfl) (Steps.refl _) (argsL := [(.int 2)]) (rest := []) (lenOf pd_4 rfl) rfl (Nat.le_of_eq rfl) (hb hby d4_9) (fun _ _ => ⟨rfl, e1, (by decide : 0 + 0 ≤ _), (by decide : 0 + 0 ≤ _)⟩)
  dsimp only [Pt.U, Pt.locs, Pt.cells, Pt.slots] at X2 l2 y2 z2 st2 hQ2
  subst l2 y2 z2
  obtain ⟨rfl, Nq2, e2⟩ := hQ2
  have N2 := Fr.app N1 Nq2
  refine OE.v (fun t k => st2.trans k) ?_
  show OE _ _ _ _ (T2.setTop (mkF m 12 #[rv a, iv 0, iv 2, iv jr, iv 0, .unset, .unset, .unset] [(.int 2)]))
  refine OE.v (fun t k => XS.istore X2.here hx rfl (hb hby d4_12) rfl (l' := #[rv a, iv 0, iv 2, iv jr, iv 0, iv 2, .unset, .unset]) rfl k) ?_
  refine OE.v (fun t k => XS.aloadN X2.here hx rfl (hb hby d4_14) rfl rfl k) ?_
  refine OE.v (fun t k => XS.iloadN X2.here hx rfl (hb hby d4_15) rfl k) ?_
  show OE _ _ _ _ (T2.setTop (mkF m 16 #[rv a, iv 0, iv 2, iv jr, iv 0, iv 2, .unset, .unset] [(.int 0), (.ref a)]))
  obtain ⟨cq3, kq3, q3a, q3b, q3c⟩ := isOf hZ e2 P0
  obtain ⟨_, _, ⟨T3, L3, k3, n3⟩, -, X3, ⟨Lc3, hQ3, l3, y3, z3⟩, st3⟩ := X2.virtualBack hx (y := (⟨"com/example/stratal/stratal/logic/StratumGroups", "offset", "(I)I"⟩ : MethodName)) (z := (⟨"com/example/stratal/stratal/logic/StratumGroups", "offset", "(I)I"⟩ : MethodName)) hown (mvT hZ (hw _ (own_w 37 rfl))) (mvT hZ (hw _ (own_w 38 rfl))) (notFace_of_selects (args := #[]) (mvT hZ (hw _ (own_w 40 rfl)))) (mvT hZ (hw _ (own_w 40 rfl))) (mvT hZ (hw _ (own_w 39 rfl))) (by decide) (backOf (W := 0) (rmo0_0022 l Z a0 hw [] a rp kp ro ko ov0 ov1 ov2 ov3 h0 n0 Z0 P1 P6 P2 P7) hZ (hw _ (own_w 41 rfl)) (hw _ (own_w 2 rfl)) (by decide) (by decide)) q3a q3c (g := (mkF m 16 #[rv a, iv 0, iv 2, iv jr, iv 0, iv 2, .unset, .unset] [(.int 0), (.ref a)])) rfl (by rw [hml]; rfl) (Steps.refl _) (argsL := [(.int 0)]) (rest := []) (lenOf pd_4 rfl) rfl (Nat.le_of_eq rfl) (hb hby d4_16) (fun _ _ => ⟨rfl, e2, (by decide : 0 + 0 ≤ _), (by decide : 0 + 0 ≤ _)⟩)
  dsimp only [Pt.U, Pt.locs, Pt.cells, Pt.slots] at X3 l3 y3 z3 st3 hQ3
  subst l3 y3 z3
  obtain ⟨rfl, Nq3, e3⟩ := hQ3
  have N3 := Fr.app N2 Nq3
  refine OE.v (fun t k => st3.trans k) ?_
  show OE _ _ _ _ (T3.setTop (mkF m 19 #[rv a, iv 0, iv 2, iv jr, iv 0, iv 2, .unset, .unset] [(.int 0)]))
  refine OE.v (fun t k => XS.istore X3.here hx rfl (hb hby d4_19) rfl (l' := #[rv a, iv 0, iv 2, iv jr, iv 0, iv 2, iv 0, .unset]) rfl k) ?_
  refine OE.v (fun t k => XS.aloadN X3.here hx rfl (hb hby d4_21) rfl rfl k) ?_
  refine OE.v (fun t k => XS.iloadN X3.here hx rfl (hb hby d4_22) rfl k) ?_
  show OE _ _ _ _ (T3.setTop (mkF m 23 #[rv a, iv 0, iv 2, iv jr, iv 0, iv 2, iv 0, .unset] [(.int 2), (.ref a)]))
  obtain ⟨cq4, kq4, q4a, q4b, q4c⟩ := isOf hZ e3 P0
  obtain ⟨_, _, ⟨T4, L4, k4, n4⟩, -, X4, ⟨Lc4, hQ4, l4, y4, z4⟩, st4⟩ := X3.virtualBack hx (y := (⟨"com/example/stratal/stratal/logic/StratumGroups", "offset", "(I)I"⟩ : MethodName)) (z := (⟨"com/example/stratal/stratal/logic/StratumGroups", "offset", "(I)I"⟩ : MethodName)) hown (mvT hZ (hw _ (own_w 37 rfl))) (mvT hZ (hw _ (own_w 38 rfl))) (notFace_of_selects (args := #[]) (mvT hZ (hw _ (own_w 40 rfl)))) (mvT hZ (hw _ (own_w 40 rfl))) (mvT hZ (hw _ (own_w 39 rfl))) (by decide) (backOf (W := 0) (rmo2_0022 l Z a0 hw [] a rp kp ro ko ov0 ov1 ov2 ov3 h0 n0 Z0 P1 P6 P2 P7) hZ (hw _ (own_w 41 rfl)) (hw _ (own_w 2 rfl)) (by decide) (by decide)) q4a q4c (g := (mkF m 23 #[rv a, iv 0, iv 2, iv jr, iv 0, iv 2, iv 0, .unset] [(.int 2), (.ref a)])) rfl (by rw [hml]; rfl) (Steps.refl _) (argsL := [(.int 2)]) (rest := []) (lenOf pd_4 rfl) rfl (Nat.le_of_eq rfl) (hb hby d4_23) (fun _ _ => ⟨rfl, e3, (by decide : 0 + 0 ≤ _), (by decide : 0 + 0 ≤ _)⟩)
  dsimp only [Pt.U, Pt.locs, Pt.cells, Pt.slots] at X4 l4 y4 z4 st4 hQ4
  subst l4 y4 z4
  obtain ⟨rfl, Nq4, e4⟩ := hQ4
  have N4 := Fr.app N3 Nq4
  refine OE.v (fun t k => st4.trans k) ?_
  show OE _ _ _ _ (T4.setTop (mkF m 26 #[rv a, iv 0, iv 2, iv jr, iv 0, iv 2, iv 0, .unset] [(.int 0)]))
  refine OE.v (fun t k => XS.istore X4.here hx rfl (hb hby d4_26) rfl (l' := #[rv a, iv 0, iv 2, iv jr, iv 0, iv 2, iv 0, iv 0]) rfl k) ?_
  refine OE.v (fun t k => XS.iload X4.here hx rfl (hb hby d4_28) rfl k) ?_
  refine OE.v (fun t k => XS.iload X4.here hx rfl (hb hby d4_30) rfl k) ?_
  show OE _ _ _ _ (T4.setTop (mkF m 32 #[rv a, iv 0, iv 2, iv jr, iv 0, iv 2, iv 0, iv 0] [(.int 2), (.int 0)]))
  refine OE.v (fun t k => XS.icmpYes X4.here hx rfl (pc0 := 32) (pc' := 67) rfl (hb hby d4_32) rfl (feq (by decide)).2 (by decide) (by decide) k) ?_
  show OE _ _ _ _ (T4.setTop (mkF m 67 #[rv a, iv 0, iv 2, iv jr, iv 0, iv 2, iv 0, iv 0] []))
  refine OE.v (fun t k => XS.aloadN X4.here hx rfl (hb hby d4_67) rfl rfl k) ?_
  show OE _ _ _ _ (T4.setTop (mkF m 68 #[rv a, iv 0, iv 2, iv jr, iv 0, iv 2, iv 0, iv 0] [(.ref a)]))
  obtain ⟨T5, X5, e5, st5⟩ := getF X4 hx hZ hown (host := "") (Or.inl (hw _ (own_w 14 rfl))) Via.refl e4 P3 (g := (mkF m 68 #[rv a, iv 0, iv 2, iv jr, iv 0, iv 2, iv 0, iv 0] [(.ref a)])) rfl rfl (hb hby d4_68)
  refine OE.v st5 ?_
  show OE _ _ _ _ (T5.setTop (mkF m 71 #[rv a, iv 0, iv 2, iv jr, iv 0, iv 2, iv 0, iv 0] [(.ref rs)]))
  refine OE.v (fun t k => XS.iload X5.here hx rfl (hb hby d4_71) rfl k) ?_
  show OE _ _ _ _ (T5.setTop (mkF m 73 #[rv a, iv 0, iv 2, iv jr, iv 0, iv 2, iv 0, iv 0] [(.int 0), (.ref rs)]))
  obtain ⟨cl6, Ar6, q6, S6, M6, H6, G6⟩ := id P8
  have hin6 : ¬ ((0 : Int32) < 0 ∨ cl6.slots.size ≤ ((0 : Int32)).toNatClampNeg) := inb_of S6 ⟨by decide, by decide⟩
  have hat6 : cl6.slots[((0 : Int32)).toNatClampNeg]? = some (.int 2) := H6.at hin6 rfl
  refine OE.v (X5.iaload hx (j := (0 : Int32)) (v := (.int 2)) (by rw [e5]; exact Ar6.1) (State.isArrayOf_alike hZ.alike Ar6.2.1) Ar6.2.2 hin6 hat6 (g := (mkF m 73 #[rv a, iv 0, iv 2, iv jr, iv 0, iv 2, iv 0, iv 0] [(.int 0), (.ref rs)])) rfl rfl (hb hby d4_73)) ?_
  show OE _ _ _ _ (T5.setTop (mkF m 74 #[rv a, iv 0, iv 2, iv jr, iv 0, iv 2, iv 0, iv 0] [(.int 2)]))
  refine OE.v (fun t k => XS.aloadN X5.here hx rfl (hb hby d4_74) rfl rfl k) ?_
  show OE _ _ _ _ (T5.setTop (mkF m 75 #[rv a, iv 0, iv 2, iv jr, iv 0, iv 2, iv 0, iv 0] [(.ref a), (.int 2)]))
  obtain ⟨T7, X7, e7, st7⟩ := getF X5 hx hZ hown (host := "") (Or.inl (hw _ (own_w 14 rfl))) Via.refl e5 P3 (g := (mkF m 75 #[rv a, iv 0, iv 2, iv jr, iv 0, iv 2, iv 0, iv 0] [(.ref a), (.int 2)])) rfl rfl (hb hby d4_75)
  refine OE.v st7 ?_
  show OE _ _ _ _ (T7.setTop (mkF m 78 #[rv a, iv 0, iv 2, iv jr, iv 0, iv 2, iv 0, iv 0] [(.ref rs), (.int 2)]))
  refine OE.v (fun t k => XS.iload X7.here hx rfl (hb hby d4_78) rfl k) ?_
  show OE _ _ _ _ (T7.setTop (mkF m 80 #[rv a, iv 0, iv 2, iv jr, iv 0, iv 2, iv 0, iv 0] [(.int 2), (.ref rs), (.int 2)]))
  obtain ⟨cl8, Ar8, q8, S8, M8, H8, G8⟩ := id P8
  have hin8 : ¬ ((2 : Int32) < 0 ∨ cl8.slots.size ≤ ((2 : Int32)).toNatClampNeg) := inb_of S8 ⟨by decide, by decide⟩
  have hat8 : cl8.slots[((2 : Int32)).toNatClampNeg]? = some (.int 2) := H8.at hin8 rfl
  refine OE.v (X7.iaload hx (j := (2 : Int32)) (v := (.int 2)) (by rw [e7]; exact Ar8.1) (State.isArrayOf_alike hZ.alike Ar8.2.1) Ar8.2.2 hin8 hat8 (g := (mkF m 80 #[rv a, iv 0, iv 2, iv jr, iv 0, iv 2, iv 0, iv 0] [(.int 2), (.ref rs), (.int 2)])) rfl rfl (hb hby d4_80)) ?_
  show OE _ _ _ _ (T7.setTop (mkF m 81 #[rv a, iv 0, iv 2, iv jr, iv 0, iv 2, iv 0, iv 0] [(.int 2), (.int 2)]))
  refine OE.v (fun t k => XS.icmpYes X7.here hx rfl (pc0 := 81) (pc' := 101) rfl (hb hby d4_81) rfl (flt (by decide)).2.1 (by decide) (by decide) k) ?_
  show OE _ _ _ _ (T7.setTop (mkF m 101 #[rv a, iv 0, iv 2, iv jr, iv 0, iv 2, iv 0, iv 0] []))
  refine OE.v (fun t k => XS.aloadN X7.here hx rfl (hb hby d4_101) rfl rfl k) ?_
  refine OE.v (fun t k => XS.iload X7.here hx rfl (hb hby d4_102) rfl k) ?_
  refine OE.v (fun t k => XS.iload X7.here hx rfl (hb hby d4_104) rfl k) ?_
  refine OE.v (fun t k => XS.iload X7.here hx rfl (hb hby d4_106) rfl k) ?_
  refine OE.v (fun t k => XS.iloadN X7.here hx rfl (hb hby d4_108) rfl k) ?_
  refine OE.v (fun t k => XS.iadd X7.here hx rfl (hb hby d4_109) rfl k) ?_
  show OE _ _ _ _ (T7.setTop (mkF m 110 #[rv a, iv 0, iv 2, iv jr, iv 0, iv 2, iv 0, iv 0] [(.int ((0 : Int32) + jr)), (.int 0), (.int 2), (.ref a)]))
  refine OE.v (fun t k => XS.iload X7.here hx rfl (hb hby d4_110) rfl k) ?_
  refine OE.v (fun t k => XS.isub X7.here hx rfl (hb hby d4_112) rfl k) ?_
  show OE _ _ _ _ (T7.setTop (mkF m 113 #[rv a, iv 0, iv 2, iv jr, iv 0, iv 2, iv 0, iv 0] [(.int (((0 : Int32) + jr) - (0 : Int32))), (.int 0), (.int 2), (.ref a)]))
  obtain ⟨cq9, q9, q9'⟩ := P0.cell
  obtain ⟨_, _, ⟨T9, L9, k9, n9⟩, -, X9, ⟨Lc9, hQ9, l9, y9, z9⟩, st9⟩ := X7.privateBack hx (y := (⟨"com/example/stratal/stratal/logic/StratumGroups", "hang", "(III)V"⟩ : MethodName)) hown (mvT hZ (hw _ (own_w 42 rfl))) (mvT hZ (hw _ (own_w 43 rfl))) (own_selp (mvT hZ (hw _ (own_w 1 rfl))) (Cond.privateMethod_at (mvP hZ (hw _ (own_w 44 rfl)) (args := #[]))) (mvT hZ (hw _ (own_w 43 rfl))) (by decide)) (Cond.privateMethod_at (mvP hZ (hw _ (own_w 44 rfl)) (args := #[]))) (mvT hZ (hw _ (own_w 45 rfl))) (by decide) (backOf (W := 0) (rmH20_0022 l Z a0 hw [] a rp ro rs rf kp ko ks kf ov0 ov1 ov2 ov3 fv0 fv1 fv2 fv3 (((0 : Int32) + jr) - (0 : Int32)) h0 n0 Z0 P0 P1 P2 P3 P4 P5 P6 P7 P8 P9 P10 P11 P12 P13 P14 P15 P16 P17 P18 P19 P20 P21 P22 P23) hZ (hw _ (own_w 45 rfl)) (hw _ (own_w 2 rfl)) (by decide) (by decide)) (g := (mkF m 113 #[rv a, iv 0, iv 2, iv jr, iv 0, iv 2, iv 0, iv 0] [(.int (((0 : Int32) + jr) - (0 : Int32))), (.int 0), (.int 2), (.ref a)])) rfl (by rw [hml]; rfl) (Steps.refl _) (a := a) (by rw [e7]; exact q9) q9' (argsL := [(.int 2), (.int 0), (.int (((0 : Int32) + jr) - (0 : Int32)))]) (rest := []) (lenOf pd_2 rfl) rfl (Nat.le_of_eq rfl) (hb hby d4_113) (fun _ _ => ⟨rfl, e7, (by decide : 0 + 0 ≤ _), (by decide : 0 + 0 ≤ _)⟩)
  dsimp only [Pt.U, Pt.locs, Pt.cells, Pt.slots] at X9 l9 y9 z9 st9 hQ9
  subst l9 y9 z9
  obtain ⟨h9, e9⟩ : ∃ z, T9.heap = z := ⟨_, rfl⟩
  rw [e9] at hQ9
  obtain ⟨rfl, Nq9, Kq9, q9_0, q9_1, q9_2, q9_3⟩ := hQ9
  have Z9 : n0 ≤ h9.size := Nat.le_trans Z0 Kq9.1
  have K9 : Keep h0 h9 [rp, ro, rs, rf] := (Keep.refl h0 [rp, ro, rs, rf]).trans Kq9 (allS (Or.inl (by simp)) (allS (Or.inl (by simp)) (allS (Or.inl (by simp)) (allS (Or.inl (by simp)) all0))))
  have N9 := Fr.app N4 Nq9
  refine OE.v (fun t k => st9.trans k) ?_
  show OE _ _ _ _ (T9.setTop (mkF m 116 #[rv a, iv 0, iv 2, iv jr, iv 0, iv 2, iv 0, iv 0] []))
  refine OE.v (fun t k => XS.iloadN X9.here hx rfl (hb hby d4_116) rfl k) ?_
  show OE _ _ _ _ (T9.setTop (mkF m 117 #[rv a, iv 0, iv 2, iv jr, iv 0, iv 2, iv 0, iv 0] [(.int 2)]))
  obtain ⟨fs, hr, hrun, hended, hW, hsame⟩ := X9.leave (v := some (.int 2)) (fun h => by rw [Bd.returns] at h; cases h)
  refine ⟨_, _, ?_, hrun, hended, _, _, rfl, ?_, ⟨_, rfl⟩, hW, hsame.mono (by decide) (by decide)⟩
  · exact retI X9 hx Bd.returns (hb hby d4_117) hr
  · show QJ02_0022 Z a rp ro rs rf kp ko ks kf ov0 ov1 ov2 ov3 fv0 fv1 fv2 fv3 jr h0 n0 _ T9.heap _
    rw [e9]
    exact ⟨rfl, N9, K9, q9_0, q9_1, q9_2, q9_3⟩

theorem pn_rmo0_0002 : plainName "com/example/stratal/stratal/logic/StratumGroups" = true := by first | (simp [plainName, overriddenIn]; done) | decide +kernel
theorem ef_rmo0_0002 (m : MethodId) (a : Addr) : entryFrame m #[(.ref a), (.int 0)] 4 = mkF m 0 #[rv a, iv 0, .unset, .unset] [] := by first | (simp [entryFrame, mkF, argsToLocals, Value.category]; done) | rfl
def Qo0_0002 (Z : State) (a : Addr) (rp : Addr) (kp : ClassId) (ro : Addr) (ko : ClassId) (ov0 : Int32) (ov1 : Int32) (ov2 : Int32) (ov3 : Int32) (h0 : Heap) (n0 : Nat) (v : Option Value) (h : Heap) (L : List Loc) : Prop := v = some (.int 0) ∧ Fr n0 L ∧ h = h0
set_option maxRecDepth 65536 in
set_option maxHeartbeats 40000000 in
theorem rmo0_0002 (l : Launch) (Z : State) (a0 : Array Value) (hw : ∀ d ∈ tables_1, d.before a0 Z = true) (ws : List Jvm.Cond) (a : Addr) (rp : Addr) (kp : ClassId) (ro : Addr) (ko : ClassId) (ov0 : Int32) (ov1 : Int32) (ov2 : Int32) (ov3 : Int32) (h0 : Heap) (n0 : Nat) (Z0 : n0 ≤ h0.size) (P0 : Fld Z h0 a "com/example/stratal/stratal/logic/StratumGroups" "mParent" "[I" (.ref rp)) (P1 : Arv Z h0 rp kp .int (16 : Int32) [(.int 0), (.int 0), (.int 0), (.int 2)] (.int 0)) (P2 : Fld Z h0 a "com/example/stratal/stratal/logic/StratumGroups" "mOffset" "[I" (.ref ro)) (P3 : Arv Z h0 ro ko .int (16 : Int32) [(.int ov0), (.int ov1), (.int ov2), (.int ov3)] (.int 0)) :
    MetFree l (⟨"com/example/stratal/stratal/logic/StratumGroups", "offset", "(I)I"⟩ : MethodName) (head1 (Jvm.Cond.code (⟨"com/example/stratal/stratal/logic/StratumGroups", "offset", "(I)I"⟩ : MethodName) prog_53_method_4_code 4 (some .int) :: ws) ({ frames := 0, cells := 0, slots := 0, locals := 0 } : Room)) (fun aa U => aa = #[(.ref a), (.int 0)] ∧ Z.Warmed39 U.vm ∧ U.heap = h0) (fun _ _ _ _ _ => True) (fun _ U o U' => ∃ v L, o = .returned v ∧ Qo0_0002 Z a rp kp ro ko ov0 ov1 ov2 ov3 h0 n0 v U'.heap L ∧ FrameEnd U o U' L ({ frames := 0, cells := 0, slots := 0, locals := 0 } : Room).cells ({ frames := 0, cells := 0, slots := 0, locals := 0 } : Room).slots) := by
  refine MetFree.of_bodySF (plainFor_of_name pn_rmo0_0002) hisR ?_
  intro p e s m args below meth c s₁ Bd hml0 hP hK
  obtain ⟨rfl, hZ, hh⟩ := hP
  have hx := Bd.exec
  have hby := Bd.bytes
  have hml : c.maxLocals = 4 := hml0
  have hown : s.vm.findClass "com/example/stratal/stratal/logic/StratumGroups" = some m.cls := findClass_of_methodNamed Bd.named
  have hnm := (name_of_methodNamed Bd.named Bd.method).1
  have X0 : Stand p l e ({ frames := 0, cells := 0, slots := 0, locals := 0 } : Room) s m #[(.ref a), (.int 0)] below meth c s₁ [] 0 0 := Stand.of_body Bd
  have e0 : s₁.heap = h0 := by rw [← hh, Bd.state]; rfl
  have N0 := Fr.nil n0
  change OE p.tables e below _ _
  refine OE.v (fun t k => castTop (ef_rmo0_0002 m a) k) ?_
  show OE _ _ _ _ (s₁.setTop (mkF m 0 #[rv a, iv 0, .unset, .unset] []))
  refine OE.v (fun t k => XS.iconst X0.here hx rfl (hb hby d6_0) k) ?_
  refine OE.v (fun t k => XS.istoreN X0.here hx rfl (hb hby d6_1) rfl (l' := #[rv a, iv 0, iv 0, .unset]) rfl k) ?_
  refine OE.v (fun t k => XS.iloadN X0.here hx rfl (hb hby d6_2) rfl k) ?_
  refine OE.v (fun t k => XS.istoreN X0.here hx rfl (hb hby d6_3) rfl (l' := #[rv a, iv 0, iv 0, iv 0]) rfl k) ?_
  refine OE.v (fun t k => XS.aloadN X0.here hx rfl (hb hby d6_4) rfl rfl k) ?_
  show OE _ _ _ _ (s₁.setTop (mkF m 5 #[rv a, iv 0, iv 0, iv 0] [(.ref a)]))
  obtain ⟨T1, X1, e1, st1⟩ := getF X0 hx hZ hown (host := "") (Or.inl (hw _ (own_w 10 rfl))) Via.refl e0 P0 (g := (mkF m 5 #[rv a, iv 0, iv 0, iv 0] [(.ref a)])) rfl rfl (hb hby d6_5)
  refine OE.v st1 ?_
  show OE _ _ _ _ (T1.setTop (mkF m 8 #[rv a, iv 0, iv 0, iv 0] [(.ref rp)]))
  refine OE.v (fun t k => XS.iloadN X1.here hx rfl (hb hby d6_8) rfl k) ?_
  show OE _ _ _ _ (T1.setTop (mkF m 9 #[rv a, iv 0, iv 0, iv 0] [(.int 0), (.ref rp)]))
  obtain ⟨cl2, Ar2, q2, S2, M2, H2, G2⟩ := id P1
  have hin2 : ¬ ((0 : Int32) < 0 ∨ cl2.slots.size ≤ ((0 : Int32)).toNatClampNeg) := inb_of S2 ⟨by decide, by decide⟩
  have hat2 : cl2.slots[((0 : Int32)).toNatClampNeg]? = some (.int 0) := H2.at hin2 rfl
  refine OE.v (X1.iaload hx (j := (0 : Int32)) (v := (.int 0)) (by rw [e1]; exact Ar2.1) (State.isArrayOf_alike hZ.alike Ar2.2.1) Ar2.2.2 hin2 hat2 (g := (mkF m 9 #[rv a, iv 0, iv 0, iv 0] [(.int 0), (.ref rp)])) rfl rfl (hb hby d6_9)) ?_
  show OE _ _ _ _ (T1.setTop (mkF m 10 #[rv a, iv 0, iv 0, iv 0] [(.int 0)]))
  refine OE.v (fun t k => XS.iloadN X1.here hx rfl (hb hby d6_10) rfl k) ?_
  show OE _ _ _ _ (T1.setTop (mkF m 11 #[rv a, iv 0, iv 0, iv 0] [(.int 0), (.int 0)]))
  refine OE.v (fun t k => XS.icmpYes X1.here hx rfl (pc0 := 11) (pc' := 33) rfl (hb hby d6_11) rfl (teq (by decide)).1 (by decide) (by decide) k) ?_
  show OE _ _ _ _ (T1.setTop (mkF m 33 #[rv a, iv 0, iv 0, iv 0] []))
  refine OE.v (fun t k => XS.iloadN X1.here hx rfl (hb hby d6_33) rfl k) ?_
  show OE _ _ _ _ (T1.setTop (mkF m 34 #[rv a, iv 0, iv 0, iv 0] [(.int 0)]))
  obtain ⟨fs, hr, hrun, hended, hW, hsame⟩ := X1.leave (v := some (.int 0)) (fun h => by rw [Bd.returns] at h; cases h)
  refine ⟨_, _, ?_, hrun, hended, _, _, rfl, ?_, ⟨_, rfl⟩, hW, hsame.mono (by decide) (by decide)⟩
  · exact retI X1 hx Bd.returns (hb hby d6_34) hr
  · show Qo0_0002 Z a rp kp ro ko ov0 ov1 ov2 ov3 h0 n0 _ T1.heap _
    rw [e1]
    exact ⟨rfl, N0, rfl⟩

theorem pn_rmo1_0002 : plainName "com/example/stratal/stratal/logic/StratumGroups" = true := by first | (simp [plainName, overriddenIn]; done) | decide +kernel
theorem ef_rmo1_0002 (m : MethodId) (a : Addr) : entryFrame m #[(.ref a), (.int 1)] 4 = mkF m 0 #[rv a, iv 1, .unset, .unset] [] := by first | (simp [entryFrame, mkF, argsToLocals, Value.category]; done) | rfl
def Qo1_0002 (Z : State) (a : Addr) (rp : Addr) (kp : ClassId) (ro : Addr) (ko : ClassId) (ov0 : Int32) (ov1 : Int32) (ov2 : Int32) (ov3 : Int32) (h0 : Heap) (n0 : Nat) (v : Option Value) (h : Heap) (L : List Loc) : Prop := v = some (.int ((0 : Int32) + ov1)) ∧ Fr n0 L ∧ h = h0
set_option maxRecDepth 65536 in
set_option maxHeartbeats 40000000 in
theorem rmo1_0002 (l : Launch) (Z : State) (a0 : Array Value) (hw : ∀ d ∈ tables_1, d.before a0 Z = true) (ws : List Jvm.Cond) (a : Addr) (rp : Addr) (kp : ClassId) (ro : Addr) (ko : ClassId) (ov0 : Int32) (ov1 : Int32) (ov2 : Int32) (ov3 : Int32) (h0 : Heap) (n0 : Nat) (Z0 : n0 ≤ h0.size) (P0 : Fld Z h0 a "com/example/stratal/stratal/logic/StratumGroups" "mParent" "[I" (.ref rp)) (P1 : Arv Z h0 rp kp .int (16 : Int32) [(.int 0), (.int 0), (.int 0), (.int 2)] (.int 0)) (P2 : Fld Z h0 a "com/example/stratal/stratal/logic/StratumGroups" "mOffset" "[I" (.ref ro)) (P3 : Arv Z h0 ro ko .int (16 : Int32) [(.int ov0), (.int ov1), (.int ov2), (.int ov3)] (.int 0)) :
    MetFree l (⟨"com/example/stratal/stratal/logic/StratumGroups", "offset", "(I)I"⟩ : MethodName) (head1 (Jvm.Cond.code (⟨"com/example/stratal/stratal/logic/StratumGroups", "offset", "(I)I"⟩ : MethodName) prog_53_method_4_code 4 (some .int) :: ws) ({ frames := 0, cells := 0, slots := 0, locals := 0 } : Room)) (fun aa U => aa = #[(.ref a), (.int 1)] ∧ Z.Warmed39 U.vm ∧ U.heap = h0) (fun _ _ _ _ _ => True) (fun _ U o U' => ∃ v L, o = .returned v ∧ Qo1_0002 Z a rp kp ro ko ov0 ov1 ov2 ov3 h0 n0 v U'.heap L ∧ FrameEnd U o U' L ({ frames := 0, cells := 0, slots := 0, locals := 0 } : Room).cells ({ frames := 0, cells := 0, slots := 0, locals := 0 } : Room).slots) := by
  refine MetFree.of_bodySF (plainFor_of_name pn_rmo1_0002) hisR ?_
  intro p e s m args below meth c s₁ Bd hml0 hP hK
  obtain ⟨rfl, hZ, hh⟩ := hP
  have hx := Bd.exec
  have hby := Bd.bytes
  have hml : c.maxLocals = 4 := hml0
  have hown : s.vm.findClass "com/example/stratal/stratal/logic/StratumGroups" = some m.cls := findClass_of_methodNamed Bd.named
  have hnm := (name_of_methodNamed Bd.named Bd.method).1
  have X0 : Stand p l e ({ frames := 0, cells := 0, slots := 0, locals := 0 } : Room) s m #[(.ref a), (.int 1)] below meth c s₁ [] 0 0 := Stand.of_body Bd
  have e0 : s₁.heap = h0 := by rw [← hh, Bd.state]; rfl
  have N0 := Fr.nil n0
  change OE p.tables e below _ _
  refine OE.v (fun t k => castTop (ef_rmo1_0002 m a) k) ?_
  show OE _ _ _ _ (s₁.setTop (mkF m 0 #[rv a, iv 1, .unset, .unset] []))
  refine OE.v (fun t k => XS.iconst X0.here hx rfl (hb hby d6_0) k) ?_
  refine OE.v (fun t k => XS.istoreN X0.here hx rfl (hb hby d6_1) rfl (l' := #[rv a, iv 1, iv 0, .unset]) rfl k) ?_
  refine OE.v (fun t k => XS.iloadN X0.here hx rfl (hb hby d6_2) rfl k) ?_
  refine OE.v (fun t k => XS.istoreN X0.here hx rfl (hb hby d6_3) rfl (l' := #[rv a, iv 1, iv 0, iv 1]) rfl k) ?_
  refine OE.v (fun t k => XS.aloadN X0.here hx rfl (hb hby d6_4) rfl rfl k) ?_
  show OE _ _ _ _ (s₁.setTop (mkF m 5 #[rv a, iv 1, iv 0, iv 1] [(.ref a)]))
  obtain ⟨T1, X1, e1, st1⟩ := getF X0 hx hZ hown (host := "") (Or.inl (hw _ (own_w 10 rfl))) Via.refl e0 P0 (g := (mkF m 5 #[rv a, iv 1, iv 0, iv 1] [(.ref a)])) rfl rfl (hb hby d6_5)
  refine OE.v st1 ?_
  show OE _ _ _ _ (T1.setTop (mkF m 8 #[rv a, iv 1, iv 0, iv 1] [(.ref rp)]))
  refine OE.v (fun t k => XS.iloadN X1.here hx rfl (hb hby d6_8) rfl k) ?_
  show OE _ _ _ _ (T1.setTop (mkF m 9 #[rv a, iv 1, iv 0, iv 1] [(.int 1), (.ref rp)]))
  obtain ⟨cl2, Ar2, q2, S2, M2, H2, G2⟩ := id P1
  have hin2 : ¬ ((1 : Int32) < 0 ∨ cl2.slots.size ≤ ((1 : Int32)).toNatClampNeg) := inb_of S2 ⟨by decide, by decide⟩
  have hat2 : cl2.slots[((1 : Int32)).toNatClampNeg]? = some (.int 0) := H2.at hin2 rfl
  refine OE.v (X1.iaload hx (j := (1 : Int32)) (v := (.int 0)) (by rw [e1]; exact Ar2.1) (State.isArrayOf_alike hZ.alike Ar2.2.1) Ar2.2.2 hin2 hat2 (g := (mkF m 9 #[rv a, iv 1, iv 0, iv 1] [(.int 1), (.ref rp)])) rfl rfl (hb hby d6_9)) ?_
  show OE _ _ _ _ (T1.setTop (mkF m 10 #[rv a, iv 1, iv 0, iv 1] [(.int 0)]))
  refine OE.v (fun t k => XS.iloadN X1.here hx rfl (hb hby d6_10) rfl k) ?_
  show OE _ _ _ _ (T1.setTop (mkF m 11 #[rv a, iv 1, iv 0, iv 1] [(.int 1), (.int 0)]))
  refine OE.v (fun t k => XS.icmpNo X1.here hx rfl (hb hby d6_11) rfl (feq (by decide)).1 k) ?_
  show OE _ _ _ _ (T1.setTop (mkF m 14 #[rv a, iv 1, iv 0, iv 1] []))
  refine OE.v (fun t k => XS.iloadN X1.here hx rfl (hb hby d6_14) rfl k) ?_
  refine OE.v (fun t k => XS.aloadN X1.here hx rfl (hb hby d6_15) rfl rfl k) ?_
  show OE _ _ _ _ (T1.setTop (mkF m 16 #[rv a, iv 1, iv 0, iv 1] [(.ref a), (.int 0)]))
  obtain ⟨T3, X3, e3, st3⟩ := getF X1 hx hZ hown (host := "") (Or.inl (hw _ (own_w 12 rfl))) Via.refl e1 P2 (g := (mkF m 16 #[rv a, iv 1, iv 0, iv 1] [(.ref a), (.int 0)])) rfl rfl (hb hby d6_16)
  refine OE.v st3 ?_
  show OE _ _ _ _ (T3.setTop (mkF m 19 #[rv a, iv 1, iv 0, iv 1] [(.ref ro), (.int 0)]))
  refine OE.v (fun t k => XS.iloadN X3.here hx rfl (hb hby d6_19) rfl k) ?_
  show OE _ _ _ _ (T3.setTop (mkF m 20 #[rv a, iv 1, iv 0, iv 1] [(.int 1), (.ref ro), (.int 0)]))
  obtain ⟨cl4, Ar4, q4, S4, M4, H4, G4⟩ := id P3
  have hin4 : ¬ ((1 : Int32) < 0 ∨ cl4.slots.size ≤ ((1 : Int32)).toNatClampNeg) := inb_of S4 ⟨by decide, by decide⟩
  have hat4 : cl4.slots[((1 : Int32)).toNatClampNeg]? = some (.int ov1) := H4.at hin4 rfl
  refine OE.v (X3.iaload hx (j := (1 : Int32)) (v := (.int ov1)) (by rw [e3]; exact Ar4.1) (State.isArrayOf_alike hZ.alike Ar4.2.1) Ar4.2.2 hin4 hat4 (g := (mkF m 20 #[rv a, iv 1, iv 0, iv 1] [(.int 1), (.ref ro), (.int 0)])) rfl rfl (hb hby d6_20)) ?_
  show OE _ _ _ _ (T3.setTop (mkF m 21 #[rv a, iv 1, iv 0, iv 1] [(.int ov1), (.int 0)]))
  refine OE.v (fun t k => XS.iadd X3.here hx rfl (hb hby d6_21) rfl k) ?_
  refine OE.v (fun t k => XS.istoreN X3.here hx rfl (hb hby d6_22) rfl (l' := #[rv a, iv 1, iv ((0 : Int32) + ov1), iv 1]) rfl k) ?_
  refine OE.v (fun t k => XS.aloadN X3.here hx rfl (hb hby d6_23) rfl rfl k) ?_
  show OE _ _ _ _ (T3.setTop (mkF m 24 #[rv a, iv 1, iv ((0 : Int32) + ov1), iv 1] [(.ref a)]))
  obtain ⟨T5, X5, e5, st5⟩ := getF X3 hx hZ hown (host := "") (Or.inl (hw _ (own_w 10 rfl))) Via.refl e3 P0 (g := (mkF m 24 #[rv a, iv 1, iv ((0 : Int32) + ov1), iv 1] [(.ref a)])) rfl rfl (hb hby d6_24)
  refine OE.v st5 ?_
  show OE _ _ _ _ (T5.setTop (mkF m 27 #[rv a, iv 1, iv ((0 : Int32) + ov1), iv 1] [(.ref rp)]))
  refine OE.v (fun t k => XS.iloadN X5.here hx rfl (hb hby d6_27) rfl k) ?_
  show OE _ _ _ _ (T5.setTop (mkF m 28 #[rv a, iv 1, iv ((0 : Int32) + ov1), iv 1] [(.int 1), (.ref rp)]))
  obtain ⟨cl6, Ar6, q6, S6, M6, H6, G6⟩ := id P1
  have hin6 : ¬ ((1 : Int32) < 0 ∨ cl6.slots.size ≤ ((1 : Int32)).toNatClampNeg) := inb_of S6 ⟨by decide, by decide⟩
  have hat6 : cl6.slots[((1 : Int32)).toNatClampNeg]? = some (.int 0) := H6.at hin6 rfl
  refine OE.v (X5.iaload hx (j := (1 : Int32)) (v := (.int 0)) (by rw [e5]; exact Ar6.1) (State.isArrayOf_alike hZ.alike Ar6.2.1) Ar6.2.2 hin6 hat6 (g := (mkF m 28 #[rv a, iv 1, iv ((0 : Int32) + ov1), iv 1] [(.int 1), (.ref rp)])) rfl rfl (hb hby d6_28)) ?_
  show OE _ _ _ _ (T5.setTop (mkF m 29 #[rv a, iv 1, iv ((0 : Int32) + ov1), iv 1] [(.int 0)]))
  refine OE.v (fun t k => XS.istoreN X5.here hx rfl (hb hby d6_29) rfl (l' := #[rv a, iv 1, iv ((0 : Int32) + ov1), iv 0]) rfl k) ?_
  refine OE.v (fun t k => XS.goto X5.here hx rfl (pc0 := 30) (pc' := 4) rfl (hb hby d6_30) (by decide) (by decide) k) ?_
  refine OE.v (fun t k => XS.aloadN X5.here hx rfl (hb hby d6_4) rfl rfl k) ?_
  show OE _ _ _ _ (T5.setTop (mkF m 5 #[rv a, iv 1, iv ((0 : Int32) + ov1), iv 0] [(.ref a)]))
  obtain ⟨T7, X7, e7, st7⟩ := getF X5 hx hZ hown (host := "") (Or.inl (hw _ (own_w 10 rfl))) Via.refl e5 P0 (g := (mkF m 5 #[rv a, iv 1, iv ((0 : Int32) + ov1), iv 0] [(.ref a)])) rfl rfl (hb hby d6_5)
  refine OE.v st7 ?_
  show OE _ _ _ _ (T7.setTop (mkF m 8 #[rv a, iv 1, iv ((0 : Int32) + ov1), iv 0] [(.ref rp)]))
  refine OE.v (fun t k => XS.iloadN X7.here hx rfl (hb hby d6_8) rfl k) ?_
  show OE _ _ _ _ (T7.setTop (mkF m 9 #[rv a, iv 1, iv ((0 : Int32) + ov1), iv 0] [(.int 0), (.ref rp)]))
  obtain ⟨cl8, Ar8, q8, S8, M8, H8, G8⟩ := id P1
  have hin8 : ¬ ((0 : Int32) < 0 ∨ cl8.slots.size ≤ ((0 : Int32)).toNatClampNeg) := inb_of S8 ⟨by decide, by decide⟩
  have hat8 : cl8.slots[((0 : Int32)).toNatClampNeg]? = some (.int 0) := H8.at hin8 rfl
  refine OE.v (X7.iaload hx (j := (0 : Int32)) (v := (.int 0)) (by rw [e7]; exact Ar8.1) (State.isArrayOf_alike hZ.alike Ar8.2.1) Ar8.2.2 hin8 hat8 (g := (mkF m 9 #[rv a, iv 1, iv ((0 : Int32) + ov1), iv 0] [(.int 0), (.ref rp)])) rfl rfl (hb hby d6_9)) ?_
  show OE _ _ _ _ (T7.setTop (mkF m 10 #[rv a, iv 1, iv ((0 : Int32) + ov1), iv 0] [(.int 0)]))
  refine OE.v (fun t k => XS.iloadN X7.here hx rfl (hb hby d6_10) rfl k) ?_
  show OE _ _ _ _ (T7.setTop (mkF m 11 #[rv a, iv 1, iv ((0 : Int32) + ov1), iv 0] [(.int 0), (.int 0)]))
  refine OE.v (fun t k => XS.icmpYes X7.here hx rfl (pc0 := 11) (pc' := 33) rfl (hb hby d6_11) rfl (teq (by decide)).1 (by decide) (by decide) k) ?_
  show OE _ _ _ _ (T7.setTop (mkF m 33 #[rv a, iv 1, iv ((0 : Int32) + ov1), iv 0] []))
  refine OE.v (fun t k => XS.iloadN X7.here hx rfl (hb hby d6_33) rfl k) ?_
  show OE _ _ _ _ (T7.setTop (mkF m 34 #[rv a, iv 1, iv ((0 : Int32) + ov1), iv 0] [(.int ((0 : Int32) + ov1))]))
  obtain ⟨fs, hr, hrun, hended, hW, hsame⟩ := X7.leave (v := some (.int ((0 : Int32) + ov1))) (fun h => by rw [Bd.returns] at h; cases h)
  refine ⟨_, _, ?_, hrun, hended, _, _, rfl, ?_, ⟨_, rfl⟩, hW, hsame.mono (by decide) (by decide)⟩
  · exact retI X7 hx Bd.returns (hb hby d6_34) hr
  · show Qo1_0002 Z a rp kp ro ko ov0 ov1 ov2 ov3 h0 n0 _ T7.heap _
    rw [e7]
    exact ⟨rfl, N0, rfl⟩

theorem pn_rmo2_0002 : plainName "com/example/stratal/stratal/logic/StratumGroups" = true := by first | (simp [plainName, overriddenIn]; done) | decide +kernel
theorem ef_rmo2_0002 (m : MethodId) (a : Addr) : entryFrame m #[(.ref a), (.int 2)] 4 = mkF m 0 #[rv a, iv 2, .unset, .unset] [] := by first | (simp [entryFrame, mkF, argsToLocals, Value.category]; done) | rfl
def Qo2_0002 (Z : State) (a : Addr) (rp : Addr) (kp : ClassId) (ro : Addr) (ko : ClassId) (ov0 : Int32) (ov1 : Int32) (ov2 : Int32) (ov3 : Int32) (h0 : Heap) (n0 : Nat) (v : Option Value) (h : Heap) (L : List Loc) : Prop := v = some (.int ((0 : Int32) + ov2)) ∧ Fr n0 L ∧ h = h0
set_option maxRecDepth 65536 in
set_option maxHeartbeats 40000000 in
theorem rmo2_0002 (l : Launch) (Z : State) (a0 : Array Value) (hw : ∀ d ∈ tables_1, d.before a0 Z = true) (ws : List Jvm.Cond) (a : Addr) (rp : Addr) (kp : ClassId) (ro : Addr) (ko : ClassId) (ov0 : Int32) (ov1 : Int32) (ov2 : Int32) (ov3 : Int32) (h0 : Heap) (n0 : Nat) (Z0 : n0 ≤ h0.size) (P0 : Fld Z h0 a "com/example/stratal/stratal/logic/StratumGroups" "mParent" "[I" (.ref rp)) (P1 : Arv Z h0 rp kp .int (16 : Int32) [(.int 0), (.int 0), (.int 0), (.int 2)] (.int 0)) (P2 : Fld Z h0 a "com/example/stratal/stratal/logic/StratumGroups" "mOffset" "[I" (.ref ro)) (P3 : Arv Z h0 ro ko .int (16 : Int32) [(.int ov0), (.int ov1), (.int ov2), (.int ov3)] (.int 0)) :
    MetFree l (⟨"com/example/stratal/stratal/logic/StratumGroups", "offset", "(I)I"⟩ : MethodName) (head1 (Jvm.Cond.code (⟨"com/example/stratal/stratal/logic/StratumGroups", "offset", "(I)I"⟩ : MethodName) prog_53_method_4_code 4 (some .int) :: ws) ({ frames := 0, cells := 0, slots := 0, locals := 0 } : Room)) (fun aa U => aa = #[(.ref a), (.int 2)] ∧ Z.Warmed39 U.vm ∧ U.heap = h0) (fun _ _ _ _ _ => True) (fun _ U o U' => ∃ v L, o = .returned v ∧ Qo2_0002 Z a rp kp ro ko ov0 ov1 ov2 ov3 h0 n0 v U'.heap L ∧ FrameEnd U o U' L ({ frames := 0, cells := 0, slots := 0, locals := 0 } : Room).cells ({ frames := 0, cells := 0, slots := 0, locals := 0 } : Room).slots) := by
  refine MetFree.of_bodySF (plainFor_of_name pn_rmo2_0002) hisR ?_
  intro p e s m args below meth c s₁ Bd hml0 hP hK
  obtain ⟨rfl, hZ, hh⟩ := hP
  have hx := Bd.exec
  have hby := Bd.bytes
  have hml : c.maxLocals = 4 := hml0
  have hown : s.vm.findClass "com/example/stratal/stratal/logic/StratumGroups" = some m.cls := findClass_of_methodNamed Bd.named
  have hnm := (name_of_methodNamed Bd.named Bd.method).1
  have X0 : Stand p l e ({ frames := 0, cells := 0, slots := 0, locals := 0 } : Room) s m #[(.ref a), (.int 2)] below meth c s₁ [] 0 0 := Stand.of_body Bd
  have e0 : s₁.heap = h0 := by rw [← hh, Bd.state]; rfl
  have N0 := Fr.nil n0
  change OE p.tables e below _ _
  refine OE.v (fun t k => castTop (ef_rmo2_0002 m a) k) ?_
  show OE _ _ _ _ (s₁.setTop (mkF m 0 #[rv a, iv 2, .unset, .unset] []))
  refine OE.v (fun t k => XS.iconst X0.here hx rfl (hb hby d6_0) k) ?_
  refine OE.v (fun t k => XS.istoreN X0.here hx rfl (hb hby d6_1) rfl (l' := #[rv a, iv 2, iv 0, .unset]) rfl k) ?_
  refine OE.v (fun t k => XS.iloadN X0.here hx rfl (hb hby d6_2) rfl k) ?_
  refine OE.v (fun t k => XS.istoreN X0.here hx rfl (hb hby d6_3) rfl (l' := #[rv a, iv 2, iv 0, iv 2]) rfl k) ?_
  refine OE.v (fun t k => XS.aloadN X0.here hx rfl (hb hby d6_4) rfl rfl k) ?_
  show OE _ _ _ _ (s₁.setTop (mkF m 5 #[rv a, iv 2, iv 0, iv 2] [(.ref a)]))
  obtain ⟨T1, X1, e1, st1⟩ := getF X0 hx hZ hown (host := "") (Or.inl (hw _ (own_w 10 rfl))) Via.refl e0 P0 (g := (mkF m 5 #[rv a, iv 2, iv 0, iv 2] [(.ref a)])) rfl rfl (hb hby d6_5)
  refine OE.v st1 ?_
  show OE _ _ _ _ (T1.setTop (mkF m 8 #[rv a, iv 2, iv 0, iv 2] [(.ref rp)]))
  refine OE.v (fun t k => XS.iloadN X1.here hx rfl (hb hby d6_8) rfl k) ?_
  show OE _ _ _ _ (T1.setTop (mkF m 9 #[rv a, iv 2, iv 0, iv 2] [(.int 2), (.ref rp)]))
  obtain ⟨cl2, Ar2, q2, S2, M2, H2, G2⟩ := id P1
  have hin2 : ¬ ((2 : Int32) < 0 ∨ cl2.slots.size ≤ ((2 : Int32)).toNatClampNeg) := inb_of S2 ⟨by decide, by decide⟩
  have hat2 : cl2.slots[((2 : Int32)).toNatClampNeg]? = some (.int 0) := H2.at hin2 rfl
  refine OE.v (X1.iaload hx (j := (2 : Int32)) (v := (.int 0)) (by rw [e1]; exact Ar2.1) (State.isArrayOf_alike hZ.alike Ar2.2.1) Ar2.2.2 hin2 hat2 (g := (mkF m 9 #[rv a, iv 2, iv 0, iv 2] [(.int 2), (.ref rp)])) rfl rfl (hb hby d6_9)) ?_
  show OE _ _ _ _ (T1.setTop (mkF m 10 #[rv a, iv 2, iv 0, iv 2] [(.int 0)]))
  refine OE.v (fun t k => XS.iloadN X1.here hx rfl (hb hby d6_10) rfl k) ?_
  show OE _ _ _ _ (T1.setTop (mkF m 11 #[rv a, iv 2, iv 0, iv 2] [(.int 2), (.int 0)]))
  refine OE.v (fun t k => XS.icmpNo X1.here hx rfl (hb hby d6_11) rfl (feq (by decide)).1 k) ?_
  show OE _ _ _ _ (T1.setTop (mkF m 14 #[rv a, iv 2, iv 0, iv 2] []))
  refine OE.v (fun t k => XS.iloadN X1.here hx rfl (hb hby d6_14) rfl k) ?_
  refine OE.v (fun t k => XS.aloadN X1.here hx rfl (hb hby d6_15) rfl rfl k) ?_
  show OE _ _ _ _ (T1.setTop (mkF m 16 #[rv a, iv 2, iv 0, iv 2] [(.ref a), (.int 0)]))
  obtain ⟨T3, X3, e3, st3⟩ := getF X1 hx hZ hown (host := "") (Or.inl (hw _ (own_w 12 rfl))) Via.refl e1 P2 (g := (mkF m 16 #[rv a, iv 2, iv 0, iv 2] [(.ref a), (.int 0)])) rfl rfl (hb hby d6_16)
  refine OE.v st3 ?_
  show OE _ _ _ _ (T3.setTop (mkF m 19 #[rv a, iv 2, iv 0, iv 2] [(.ref ro), (.int 0)]))
  refine OE.v (fun t k => XS.iloadN X3.here hx rfl (hb hby d6_19) rfl k) ?_
  show OE _ _ _ _ (T3.setTop (mkF m 20 #[rv a, iv 2, iv 0, iv 2] [(.int 2), (.ref ro), (.int 0)]))
  obtain ⟨cl4, Ar4, q4, S4, M4, H4, G4⟩ := id P3
  have hin4 : ¬ ((2 : Int32) < 0 ∨ cl4.slots.size ≤ ((2 : Int32)).toNatClampNeg) := inb_of S4 ⟨by decide, by decide⟩
  have hat4 : cl4.slots[((2 : Int32)).toNatClampNeg]? = some (.int ov2) := H4.at hin4 rfl
  refine OE.v (X3.iaload hx (j := (2 : Int32)) (v := (.int ov2)) (by rw [e3]; exact Ar4.1) (State.isArrayOf_alike hZ.alike Ar4.2.1) Ar4.2.2 hin4 hat4 (g := (mkF m 20 #[rv a, iv 2, iv 0, iv 2] [(.int 2), (.ref ro), (.int 0)])) rfl rfl (hb hby d6_20)) ?_
  show OE _ _ _ _ (T3.setTop (mkF m 21 #[rv a, iv 2, iv 0, iv 2] [(.int ov2), (.int 0)]))
  refine OE.v (fun t k => XS.iadd X3.here hx rfl (hb hby d6_21) rfl k) ?_
  refine OE.v (fun t k => XS.istoreN X3.here hx rfl (hb hby d6_22) rfl (l' := #[rv a, iv 2, iv ((0 : Int32) + ov2), iv 2]) rfl k) ?_
  refine OE.v (fun t k => XS.aloadN X3.here hx rfl (hb hby d6_23) rfl rfl k) ?_
  show OE _ _ _ _ (T3.setTop (mkF m 24 #[rv a, iv 2, iv ((0 : Int32) + ov2), iv 2] [(.ref a)]))
  obtain ⟨T5, X5, e5, st5⟩ := getF X3 hx hZ hown (host := "") (Or.inl (hw _ (own_w 10 rfl))) Via.refl e3 P0 (g := (mkF m 24 #[rv a, iv 2, iv ((0 : Int32) + ov2), iv 2] [(.ref a)])) rfl rfl (hb hby d6_24)
  refine OE.v st5 ?_
  show OE _ _ _ _ (T5.setTop (mkF m 27 #[rv a, iv 2, iv ((0 : Int32) + ov2), iv 2] [(.ref rp)]))
  refine OE.v (fun t k => XS.iloadN X5.here hx rfl (hb hby d6_27) rfl k) ?_
  show OE _ _ _ _ (T5.setTop (mkF m 28 #[rv a, iv 2, iv ((0 : Int32) + ov2), iv 2] [(.int 2), (.ref rp)]))
  obtain ⟨cl6, Ar6, q6, S6, M6, H6, G6⟩ := id P1
  have hin6 : ¬ ((2 : Int32) < 0 ∨ cl6.slots.size ≤ ((2 : Int32)).toNatClampNeg) := inb_of S6 ⟨by decide, by decide⟩
  have hat6 : cl6.slots[((2 : Int32)).toNatClampNeg]? = some (.int 0) := H6.at hin6 rfl
  refine OE.v (X5.iaload hx (j := (2 : Int32)) (v := (.int 0)) (by rw [e5]; exact Ar6.1) (State.isArrayOf_alike hZ.alike Ar6.2.1) Ar6.2.2 hin6 hat6 (g := (mkF m 28 #[rv a, iv 2, iv ((0 : Int32) + ov2), iv 2] [(.int 2), (.ref rp)])) rfl rfl (hb hby d6_28)) ?_
  show OE _ _ _ _ (T5.setTop (mkF m 29 #[rv a, iv 2, iv ((0 : Int32) + ov2), iv 2] [(.int 0)]))
  refine OE.v (fun t k => XS.istoreN X5.here hx rfl (hb hby d6_29) rfl (l' := #[rv a, iv 2, iv ((0 : Int32) + ov2), iv 0]) rfl k) ?_
  refine OE.v (fun t k => XS.goto X5.here hx rfl (pc0 := 30) (pc' := 4) rfl (hb hby d6_30) (by decide) (by decide) k) ?_
  refine OE.v (fun t k => XS.aloadN X5.here hx rfl (hb hby d6_4) rfl rfl k) ?_
  show OE _ _ _ _ (T5.setTop (mkF m 5 #[rv a, iv 2, iv ((0 : Int32) + ov2), iv 0] [(.ref a)]))
  obtain ⟨T7, X7, e7, st7⟩ := getF X5 hx hZ hown (host := "") (Or.inl (hw _ (own_w 10 rfl))) Via.refl e5 P0 (g := (mkF m 5 #[rv a, iv 2, iv ((0 : Int32) + ov2), iv 0] [(.ref a)])) rfl rfl (hb hby d6_5)
  refine OE.v st7 ?_
  show OE _ _ _ _ (T7.setTop (mkF m 8 #[rv a, iv 2, iv ((0 : Int32) + ov2), iv 0] [(.ref rp)]))
  refine OE.v (fun t k => XS.iloadN X7.here hx rfl (hb hby d6_8) rfl k) ?_
  show OE _ _ _ _ (T7.setTop (mkF m 9 #[rv a, iv 2, iv ((0 : Int32) + ov2), iv 0] [(.int 0), (.ref rp)]))
  obtain ⟨cl8, Ar8, q8, S8, M8, H8, G8⟩ := id P1
  have hin8 : ¬ ((0 : Int32) < 0 ∨ cl8.slots.size ≤ ((0 : Int32)).toNatClampNeg) := inb_of S8 ⟨by decide, by decide⟩
  have hat8 : cl8.slots[((0 : Int32)).toNatClampNeg]? = some (.int 0) := H8.at hin8 rfl
  refine OE.v (X7.iaload hx (j := (0 : Int32)) (v := (.int 0)) (by rw [e7]; exact Ar8.1) (State.isArrayOf_alike hZ.alike Ar8.2.1) Ar8.2.2 hin8 hat8 (g := (mkF m 9 #[rv a, iv 2, iv ((0 : Int32) + ov2), iv 0] [(.int 0), (.ref rp)])) rfl rfl (hb hby d6_9)) ?_
  show OE _ _ _ _ (T7.setTop (mkF m 10 #[rv a, iv 2, iv ((0 : Int32) + ov2), iv 0] [(.int 0)]))
  refine OE.v (fun t k => XS.iloadN X7.here hx rfl (hb hby d6_10) rfl k) ?_
  show OE _ _ _ _ (T7.setTop (mkF m 11 #[rv a, iv 2, iv ((0 : Int32) + ov2), iv 0] [(.int 0), (.int 0)]))
  refine OE.v (fun t k => XS.icmpYes X7.here hx rfl (pc0 := 11) (pc' := 33) rfl (hb hby d6_11) rfl (teq (by decide)).1 (by decide) (by decide) k) ?_
  show OE _ _ _ _ (T7.setTop (mkF m 33 #[rv a, iv 2, iv ((0 : Int32) + ov2), iv 0] []))
  refine OE.v (fun t k => XS.iloadN X7.here hx rfl (hb hby d6_33) rfl k) ?_
  show OE _ _ _ _ (T7.setTop (mkF m 34 #[rv a, iv 2, iv ((0 : Int32) + ov2), iv 0] [(.int ((0 : Int32) + ov2))]))
  obtain ⟨fs, hr, hrun, hended, hW, hsame⟩ := X7.leave (v := some (.int ((0 : Int32) + ov2))) (fun h => by rw [Bd.returns] at h; cases h)
  refine ⟨_, _, ?_, hrun, hended, _, _, rfl, ?_, ⟨_, rfl⟩, hW, hsame.mono (by decide) (by decide)⟩
  · exact retI X7 hx Bd.returns (hb hby d6_34) hr
  · show Qo2_0002 Z a rp kp ro ko ov0 ov1 ov2 ov3 h0 n0 _ T7.heap _
    rw [e7]
    exact ⟨rfl, N0, rfl⟩

theorem pn_rmo3_0002 : plainName "com/example/stratal/stratal/logic/StratumGroups" = true := by first | (simp [plainName, overriddenIn]; done) | decide +kernel
theorem ef_rmo3_0002 (m : MethodId) (a : Addr) : entryFrame m #[(.ref a), (.int 3)] 4 = mkF m 0 #[rv a, iv 3, .unset, .unset] [] := by first | (simp [entryFrame, mkF, argsToLocals, Value.category]; done) | rfl
def Qo3_0002 (Z : State) (a : Addr) (rp : Addr) (kp : ClassId) (ro : Addr) (ko : ClassId) (ov0 : Int32) (ov1 : Int32) (ov2 : Int32) (ov3 : Int32) (h0 : Heap) (n0 : Nat) (v : Option Value) (h : Heap) (L : List Loc) : Prop := v = some (.int (((0 : Int32) + ov3) + ov2)) ∧ Fr n0 L ∧ h = h0
set_option maxRecDepth 65536 in
set_option maxHeartbeats 40000000 in
theorem rmo3_0002 (l : Launch) (Z : State) (a0 : Array Value) (hw : ∀ d ∈ tables_1, d.before a0 Z = true) (ws : List Jvm.Cond) (a : Addr) (rp : Addr) (kp : ClassId) (ro : Addr) (ko : ClassId) (ov0 : Int32) (ov1 : Int32) (ov2 : Int32) (ov3 : Int32) (h0 : Heap) (n0 : Nat) (Z0 : n0 ≤ h0.size) (P0 : Fld Z h0 a "com/example/stratal/stratal/logic/StratumGroups" "mParent" "[I" (.ref rp)) (P1 : Arv Z h0 rp kp .int (16 : Int32) [(.int 0), (.int 0), (.int 0), (.int 2)] (.int 0)) (P2 : Fld Z h0 a "com/example/stratal/stratal/logic/StratumGroups" "mOffset" "[I" (.ref ro)) (P3 : Arv Z h0 ro ko .int (16 : Int32) [(.int ov0), (.int ov1), (.int ov2), (.int ov3)] (.int 0)) :
    MetFree l (⟨"com/example/stratal/stratal/logic/StratumGroups", "offset", "(I)I"⟩ : MethodName) (head1 (Jvm.Cond.code (⟨"com/example/stratal/stratal/logic/StratumGroups", "offset", "(I)I"⟩ : MethodName) prog_53_method_4_code 4 (some .int) :: ws) ({ frames := 0, cells := 0, slots := 0, locals := 0 } : Room)) (fun aa U => aa = #[(.ref a), (.int 3)] ∧ Z.Warmed39 U.vm ∧ U.heap = h0) (fun _ _ _ _ _ => True) (fun _ U o U' => ∃ v L, o = .returned v ∧ Qo3_0002 Z a rp kp ro ko ov0 ov1 ov2 ov3 h0 n0 v U'.heap L ∧ FrameEnd U o U' L ({ frames := 0, cells := 0, slots := 0, locals := 0 } : Room).cells ({ frames := 0, cells := 0, slots := 0, locals := 0 } : Room).slots) := by
  refine MetFree.of_bodySF (plainFor_of_name pn_rmo3_0002) hisR ?_
  intro p e s m args below meth c s₁ Bd hml0 hP hK
  obtain ⟨rfl, hZ, hh⟩ := hP
  have hx := Bd.exec
  have hby := Bd.bytes
  have hml : c.maxLocals = 4 := hml0
  have hown : s.vm.findClass "com/example/stratal/stratal/logic/StratumGroups" = some m.cls := findClass_of_methodNamed Bd.named
  have hnm := (name_of_methodNamed Bd.named Bd.method).1
  have X0 : Stand p l e ({ frames := 0, cells := 0, slots := 0, locals := 0 } : Room) s m #[(.ref a), (.int 3)] below meth c s₁ [] 0 0 := Stand.of_body Bd
  have e0 : s₁.heap = h0 := by rw [← hh, Bd.state]; rfl
  have N0 := Fr.nil n0
  change OE p.tables e below _ _
  refine OE.v (fun t k => castTop (ef_rmo3_0002 m a) k) ?_
  show OE _ _ _ _ (s₁.setTop (mkF m 0 #[rv a, iv 3, .unset, .unset] []))
  refine OE.v (fun t k => XS.iconst X0.here hx rfl (hb hby d6_0) k) ?_
  refine OE.v (fun t k => XS.istoreN X0.here hx rfl (hb hby d6_1) rfl (l' := #[rv a, iv 3, iv 0, .unset]) rfl k) ?_
  refine OE.v (fun t k => XS.iloadN X0.here hx rfl (hb hby d6_2) rfl k) ?_
  refine OE.v (fun t k => XS.istoreN X0.here hx rfl (hb hby d6_3) rfl (l' := #[rv a, iv 3, iv 0, iv 3]) rfl k) ?_
  refine OE.v (fun t k => XS.aloadN X0.here hx rfl (hb hby d6_4) rfl rfl k) ?_
  show OE _ _ _ _ (s₁.setTop (mkF m 5 #[rv a, iv 3, iv 0, iv 3] [(.ref a)]))
  obtain ⟨T1, X1, e1, st1⟩ := getF X0 hx hZ hown (host := "") (Or.inl (hw _ (own_w 10 rfl))) Via.refl e0 P0 (g := (mkF m 5 #[rv a, iv 3, iv 0, iv 3] [(.ref a)])) rfl rfl (hb hby d6_5)
  refine OE.v st1 ?_
  show OE _ _ _ _ (T1.setTop (mkF m 8 #[rv a, iv 3, iv 0, iv 3] [(.ref rp)]))
  refine OE.v (fun t k => XS.iloadN X1.here hx rfl (hb hby d6_8) rfl k) ?_
  show OE _ _ _ _ (T1.setTop (mkF m 9 #[rv a, iv 3, iv 0, iv 3] [(.int 3), (.ref rp)]))
  obtain ⟨cl2, Ar2, q2, S2, M2, H2, G2⟩ := id P1
  have hin2 : ¬ ((3 : Int32) < 0 ∨ cl2.slots.size ≤ ((3 : Int32)).toNatClampNeg) := inb_of S2 ⟨by decide, by decide⟩
  have hat2 : cl2.slots[((3 : Int32)).toNatClampNeg]? = some (.int 2) := H2.at hin2 rfl
  refine OE.v (X1.iaload hx (j := (3 : Int32)) (v := (.int 2)) (by rw [e1]; exact Ar2.1) (State.isArrayOf_alike hZ.alike Ar2.2.1) Ar2.2.2 hin2 hat2 (g := (mkF m 9 #[rv a, iv 3, iv 0, iv 3] [(.int 3), (.ref rp)])) rfl rfl (hb hby d6_9)) ?_
  show OE _ _ _ _ (T1.setTop (mkF m 10 #[rv a, iv 3, iv 0, iv 3] [(.int 2)]))
  refine OE.v (fun t k => XS.iloadN X1.here hx rfl (hb hby d6_10) rfl k) ?_
  show OE _ _ _ _ (T1.setTop (mkF m 11 #[rv a, iv 3, iv 0, iv 3] [(.int 3), (.int 2)]))
  refine OE.v (fun t k => XS.icmpNo X1.here hx rfl (hb hby d6_11) rfl (feq (by decide)).1 k) ?_
  show OE _ _ _ _ (T1.setTop (mkF m 14 #[rv a, iv 3, iv 0, iv 3] []))
  refine OE.v (fun t k => XS.iloadN X1.here hx rfl (hb hby d6_14) rfl k) ?_
  refine OE.v (fun t k => XS.aloadN X1.here hx rfl (hb hby d6_15) rfl rfl k) ?_
  show OE _ _ _ _ (T1.setTop (mkF m 16 #[rv a, iv 3, iv 0, iv 3] [(.ref a), (.int 0)]))
  obtain ⟨T3, X3, e3, st3⟩ := getF X1 hx hZ hown (host := "") (Or.inl (hw _ (own_w 12 rfl))) Via.refl e1 P2 (g := (mkF m 16 #[rv a, iv 3, iv 0, iv 3] [(.ref a), (.int 0)])) rfl rfl (hb hby d6_16)
  refine OE.v st3 ?_
  show OE _ _ _ _ (T3.setTop (mkF m 19 #[rv a, iv 3, iv 0, iv 3] [(.ref ro), (.int 0)]))
  refine OE.v (fun t k => XS.iloadN X3.here hx rfl (hb hby d6_19) rfl k) ?_
  show OE _ _ _ _ (T3.setTop (mkF m 20 #[rv a, iv 3, iv 0, iv 3] [(.int 3), (.ref ro), (.int 0)]))
  obtain ⟨cl4, Ar4, q4, S4, M4, H4, G4⟩ := id P3
  have hin4 : ¬ ((3 : Int32) < 0 ∨ cl4.slots.size ≤ ((3 : Int32)).toNatClampNeg) := inb_of S4 ⟨by decide, by decide⟩
  have hat4 : cl4.slots[((3 : Int32)).toNatClampNeg]? = some (.int ov3) := H4.at hin4 rfl
  refine OE.v (X3.iaload hx (j := (3 : Int32)) (v := (.int ov3)) (by rw [e3]; exact Ar4.1) (State.isArrayOf_alike hZ.alike Ar4.2.1) Ar4.2.2 hin4 hat4 (g := (mkF m 20 #[rv a, iv 3, iv 0, iv 3] [(.int 3), (.ref ro), (.int 0)])) rfl rfl (hb hby d6_20)) ?_
  show OE _ _ _ _ (T3.setTop (mkF m 21 #[rv a, iv 3, iv 0, iv 3] [(.int ov3), (.int 0)]))
  refine OE.v (fun t k => XS.iadd X3.here hx rfl (hb hby d6_21) rfl k) ?_
  refine OE.v (fun t k => XS.istoreN X3.here hx rfl (hb hby d6_22) rfl (l' := #[rv a, iv 3, iv ((0 : Int32) + ov3), iv 3]) rfl k) ?_
  refine OE.v (fun t k => XS.aloadN X3.here hx rfl (hb hby d6_23) rfl rfl k) ?_
  show OE _ _ _ _ (T3.setTop (mkF m 24 #[rv a, iv 3, iv ((0 : Int32) + ov3), iv 3] [(.ref a)]))
  obtain ⟨T5, X5, e5, st5⟩ := getF X3 hx hZ hown (host := "") (Or.inl (hw _ (own_w 10 rfl))) Via.refl e3 P0 (g := (mkF m 24 #[rv a, iv 3, iv ((0 : Int32) + ov3), iv 3] [(.ref a)])) rfl rfl (hb hby d6_24)
  refine OE.v st5 ?_
  show OE _ _ _ _ (T5.setTop (mkF m 27 #[rv a, iv 3, iv ((0 : Int32) + ov3), iv 3] [(.ref rp)]))
  refine OE.v (fun t k => XS.iloadN X5.here hx rfl (hb hby d6_27) rfl k) ?_
  show OE _ _ _ _ (T5.setTop (mkF m 28 #[rv a, iv 3, iv ((0 : Int32) + ov3), iv 3] [(.int 3), (.ref rp)]))
  obtain ⟨cl6, Ar6, q6, S6, M6, H6, G6⟩ := id P1
  have hin6 : ¬ ((3 : Int32) < 0 ∨ cl6.slots.size ≤ ((3 : Int32)).toNatClampNeg) := inb_of S6 ⟨by decide, by decide⟩
  have hat6 : cl6.slots[((3 : Int32)).toNatClampNeg]? = some (.int 2) := H6.at hin6 rfl
  refine OE.v (X5.iaload hx (j := (3 : Int32)) (v := (.int 2)) (by rw [e5]; exact Ar6.1) (State.isArrayOf_alike hZ.alike Ar6.2.1) Ar6.2.2 hin6 hat6 (g := (mkF m 28 #[rv a, iv 3, iv ((0 : Int32) + ov3), iv 3] [(.int 3), (.ref rp)])) rfl rfl (hb hby d6_28)) ?_
  show OE _ _ _ _ (T5.setTop (mkF m 29 #[rv a, iv 3, iv ((0 : Int32) + ov3), iv 3] [(.int 2)]))
  refine OE.v (fun t k => XS.istoreN X5.here hx rfl (hb hby d6_29) rfl (l' := #[rv a, iv 3, iv ((0 : Int32) + ov3), iv 2]) rfl k) ?_
  refine OE.v (fun t k => XS.goto X5.here hx rfl (pc0 := 30) (pc' := 4) rfl (hb hby d6_30) (by decide) (by decide) k) ?_
  refine OE.v (fun t k => XS.aloadN X5.here hx rfl (hb hby d6_4) rfl rfl k) ?_
  show OE _ _ _ _ (T5.setTop (mkF m 5 #[rv a, iv 3, iv ((0 : Int32) + ov3), iv 2] [(.ref a)]))
  obtain ⟨T7, X7, e7, st7⟩ := getF X5 hx hZ hown (host := "") (Or.inl (hw _ (own_w 10 rfl))) Via.refl e5 P0 (g := (mkF m 5 #[rv a, iv 3, iv ((0 : Int32) + ov3), iv 2] [(.ref a)])) rfl rfl (hb hby d6_5)
  refine OE.v st7 ?_
  show OE _ _ _ _ (T7.setTop (mkF m 8 #[rv a, iv 3, iv ((0 : Int32) + ov3), iv 2] [(.ref rp)]))
  refine OE.v (fun t k => XS.iloadN X7.here hx rfl (hb hby d6_8) rfl k) ?_
  show OE _ _ _ _ (T7.setTop (mkF m 9 #[rv a, iv 3, iv ((0 : Int32) + ov3), iv 2] [(.int 2), (.ref rp)]))
  obtain ⟨cl8, Ar8, q8, S8, M8, H8, G8⟩ := id P1
  have hin8 : ¬ ((2 : Int32) < 0 ∨ cl8.slots.size ≤ ((2 : Int32)).toNatClampNeg) := inb_of S8 ⟨by decide, by decide⟩
  have hat8 : cl8.slots[((2 : Int32)).toNatClampNeg]? = some (.int 0) := H8.at hin8 rfl
  refine OE.v (X7.iaload hx (j := (2 : Int32)) (v := (.int 0)) (by rw [e7]; exact Ar8.1) (State.isArrayOf_alike hZ.alike Ar8.2.1) Ar8.2.2 hin8 hat8 (g := (mkF m 9 #[rv a, iv 3, iv ((0 : Int32) + ov3), iv 2] [(.int 2), (.ref rp)])) rfl rfl (hb hby d6_9)) ?_
  show OE _ _ _ _ (T7.setTop (mkF m 10 #[rv a, iv 3, iv ((0 : Int32) + ov3), iv 2] [(.int 0)]))
  refine OE.v (fun t k => XS.iloadN X7.here hx rfl (hb hby d6_10) rfl k) ?_
  show OE _ _ _ _ (T7.setTop (mkF m 11 #[rv a, iv 3, iv ((0 : Int32) + ov3), iv 2] [(.int 2), (.int 0)]))
  refine OE.v (fun t k => XS.icmpNo X7.here hx rfl (hb hby d6_11) rfl (feq (by decide)).1 k) ?_
  show OE _ _ _ _ (T7.setTop (mkF m 14 #[rv a, iv 3, iv ((0 : Int32) + ov3), iv 2] []))
  refine OE.v (fun t k => XS.iloadN X7.here hx rfl (hb hby d6_14) rfl k) ?_
  refine OE.v (fun t k => XS.aloadN X7.here hx rfl (hb hby d6_15) rfl rfl k) ?_
  show OE _ _ _ _ (T7.setTop (mkF m 16 #[rv a, iv 3, iv ((0 : Int32) + ov3), iv 2] [(.ref a), (.int ((0 : Int32) + ov3))]))
  obtain ⟨T9, X9, e9, st9⟩ := getF X7 hx hZ hown (host := "") (Or.inl (hw _ (own_w 12 rfl))) Via.refl e7 P2 (g := (mkF m 16 #[rv a, iv 3, iv ((0 : Int32) + ov3), iv 2] [(.ref a), (.int ((0 : Int32) + ov3))])) rfl rfl (hb hby d6_16)
  refine OE.v st9 ?_
  show OE _ _ _ _ (T9.setTop (mkF m 19 #[rv a, iv 3, iv ((0 : Int32) + ov3), iv 2] [(.ref ro), (.int ((0 : Int32) + ov3))]))
  refine OE.v (fun t k => XS.iloadN X9.here hx rfl (hb hby d6_19) rfl k) ?_
  show OE _ _ _ _ (T9.setTop (mkF m 20 #[rv a, iv 3, iv ((0 : Int32) + ov3), iv 2] [(.int 2), (.ref ro), (.int ((0 : Int32) + ov3))]))
  obtain ⟨cl10, Ar10, q10, S10, M10, H10, G10⟩ := id P3
  have hin10 : ¬ ((2 : Int32) < 0 ∨ cl10.slots.size ≤ ((2 : Int32)).toNatClampNeg) := inb_of S10 ⟨by decide, by decide⟩
  have hat10 : cl10.slots[((2 : Int32)).toNatClampNeg]? = some (.int ov2) := H10.at hin10 rfl
  refine OE.v (X9.iaload hx (j := (2 : Int32)) (v := (.int ov2)) (by rw [e9]; exact Ar10.1) (State.isArrayOf_alike hZ.alike Ar10.2.1) Ar10.2.2 hin10 hat10 (g := (mkF m 20 #[rv a, iv 3, iv ((0 : Int32) + ov3), iv 2] [(.int 2), (.ref ro), (.int ((0 : Int32) + ov3))])) rfl rfl (hb hby d6_20)) ?_
  show OE _ _ _ _ (T9.setTop (mkF m 21 #[rv a, iv 3, iv ((0 : Int32) + ov3), iv 2] [(.int ov2), (.int ((0 : Int32) + ov3))]))
  refine OE.v (fun t k => XS.iadd X9.here hx rfl (hb hby d6_21) rfl k) ?_
  refine OE.v (fun t k => XS.istoreN X9.here hx rfl (hb hby d6_22) rfl (l' := #[rv a, iv 3, iv (((0 : Int32) + ov3) + ov2), iv 2]) rfl k) ?_
  refine OE.v (fun t k => XS.aloadN X9.here hx rfl (hb hby d6_23) rfl rfl k) ?_
  show OE _ _ _ _ (T9.setTop (mkF m 24 #[rv a, iv 3, iv (((0 : Int32) + ov3) + ov2), iv 2] [(.ref a)]))
  obtain ⟨T11, X11, e11, st11⟩ := getF X9 hx hZ hown (host := "") (Or.inl (hw _ (own_w 10 rfl))) Via.refl e9 P0 (g := (mkF m 24 #[rv a, iv 3, iv (((0 : Int32) + ov3) + ov2), iv 2] [(.ref a)])) rfl rfl (hb hby d6_24)
  refine OE.v st11 ?_
  show OE _ _ _ _ (T11.setTop (mkF m 27 #[rv a, iv 3, iv (((0 : Int32) + ov3) + ov2), iv 2] [(.ref rp)]))
  refine OE.v (fun t k => XS.iloadN X11.here hx rfl (hb hby d6_27) rfl k) ?_
  show OE _ _ _ _ (T11.setTop (mkF m 28 #[rv a, iv 3, iv (((0 : Int32) + ov3) + ov2), iv 2] [(.int 2), (.ref rp)]))
  obtain ⟨cl12, Ar12, q12, S12, M12, H12, G12⟩ := id P1
  have hin12 : ¬ ((2 : Int32) < 0 ∨ cl12.slots.size ≤ ((2 : Int32)).toNatClampNeg) := inb_of S12 ⟨by decide, by decide⟩
  have hat12 : cl12.slots[((2 : Int32)).toNatClampNeg]? = some (.int 0) := H12.at hin12 rfl
  refine OE.v (X11.iaload hx (j := (2 : Int32)) (v := (.int 0)) (by rw [e11]; exact Ar12.1) (State.isArrayOf_alike hZ.alike Ar12.2.1) Ar12.2.2 hin12 hat12 (g := (mkF m 28 #[rv a, iv 3, iv (((0 : Int32) + ov3) + ov2), iv 2] [(.int 2), (.ref rp)])) rfl rfl (hb hby d6_28)) ?_
  show OE _ _ _ _ (T11.setTop (mkF m 29 #[rv a, iv 3, iv (((0 : Int32) + ov3) + ov2), iv 2] [(.int 0)]))
  refine OE.v (fun t k => XS.istoreN X11.here hx rfl (hb hby d6_29) rfl (l' := #[rv a, iv 3, iv (((0 : Int32) + ov3) + ov2), iv 0]) rfl k) ?_
  refine OE.v (fun t k => XS.goto X11.here hx rfl (pc0 := 30) (pc' := 4) rfl (hb hby d6_30) (by decide) (by decide) k) ?_
  refine OE.v (fun t k => XS.aloadN X11.here hx rfl (hb hby d6_4) rfl rfl k) ?_
  show OE _ _ _ _ (T11.setTop (mkF m 5 #[rv a, iv 3, iv (((0 : Int32) + ov3) + ov2), iv 0] [(.ref a)]))
  obtain ⟨T13, X13, e13, st13⟩ := getF X11 hx hZ hown (host := "") (Or.inl (hw _ (own_w 10 rfl))) Via.refl e11 P0 (g := (mkF m 5 #[rv a, iv 3, iv (((0 : Int32) + ov3) + ov2), iv 0] [(.ref a)])) rfl rfl (hb hby d6_5)
  refine OE.v st13 ?_
  show OE _ _ _ _ (T13.setTop (mkF m 8 #[rv a, iv 3, iv (((0 : Int32) + ov3) + ov2), iv 0] [(.ref rp)]))
  refine OE.v (fun t k => XS.iloadN X13.here hx rfl (hb hby d6_8) rfl k) ?_
  show OE _ _ _ _ (T13.setTop (mkF m 9 #[rv a, iv 3, iv (((0 : Int32) + ov3) + ov2), iv 0] [(.int 0), (.ref rp)]))
  obtain ⟨cl14, Ar14, q14, S14, M14, H14, G14⟩ := id P1
  have hin14 : ¬ ((0 : Int32) < 0 ∨ cl14.slots.size ≤ ((0 : Int32)).toNatClampNeg) := inb_of S14 ⟨by decide, by decide⟩
  have hat14 : cl14.slots[((0 : Int32)).toNatClampNeg]? = some (.int 0) := H14.at hin14 rfl
  refine OE.v (X13.iaload hx (j := (0 : Int32)) (v := (.int 0)) (by rw [e13]; exact Ar14.1) (State.isArrayOf_alike hZ.alike Ar14.2.1) Ar14.2.2 hin14 hat14 (g := (mkF m 9 #[rv a, iv 3, iv (((0 : Int32) + ov3) + ov2), iv 0] [(.int 0), (.ref rp)])) rfl rfl (hb hby d6_9)) ?_
  show OE _ _ _ _ (T13.setTop (mkF m 10 #[rv a, iv 3, iv (((0 : Int32) + ov3) + ov2), iv 0] [(.int 0)]))
  refine OE.v (fun t k => XS.iloadN X13.here hx rfl (hb hby d6_10) rfl k) ?_
  show OE _ _ _ _ (T13.setTop (mkF m 11 #[rv a, iv 3, iv (((0 : Int32) + ov3) + ov2), iv 0] [(.int 0), (.int 0)]))
  refine OE.v (fun t k => XS.icmpYes X13.here hx rfl (pc0 := 11) (pc' := 33) rfl (hb hby d6_11) rfl (teq (by decide)).1 (by decide) (by decide) k) ?_
  show OE _ _ _ _ (T13.setTop (mkF m 33 #[rv a, iv 3, iv (((0 : Int32) + ov3) + ov2), iv 0] []))
  refine OE.v (fun t k => XS.iloadN X13.here hx rfl (hb hby d6_33) rfl k) ?_
  show OE _ _ _ _ (T13.setTop (mkF m 34 #[rv a, iv 3, iv (((0 : Int32) + ov3) + ov2), iv 0] [(.int (((0 : Int32) + ov3) + ov2))]))
  obtain ⟨fs, hr, hrun, hended, hW, hsame⟩ := X13.leave (v := some (.int (((0 : Int32) + ov3) + ov2))) (fun h => by rw [Bd.returns] at h; cases h)
  refine ⟨_, _, ?_, hrun, hended, _, _, rfl, ?_, ⟨_, rfl⟩, hW, hsame.mono (by decide) (by decide)⟩
  · exact retI X13 hx Bd.returns (hb hby d6_34) hr
  · show Qo3_0002 Z a rp kp ro ko ov0 ov1 ov2 ov3 h0 n0 _ T13.heap _
    rw [e13]
    exact ⟨rfl, N0, rfl⟩

theorem d5_12 : decode prog_53_method_3_code 12 = .ok (.aload_n 0, 1) := by decide +kernel
theorem d5_13 : decode prog_53_method_3_code 13 = .ok (.getfield 7, 3) := by decide +kernel
theorem d5_16 : decode prog_53_method_3_code 16 = .ok (.iload_n 2, 1) := by decide +kernel
theorem d5_17 : decode prog_53_method_3_code 17 = .ok (.iaload, 1) := by decide +kernel
theorem d5_18 : decode prog_53_method_3_code 18 = .ok (.istore_n 2, 1) := by decide +kernel
theorem d5_19 : decode prog_53_method_3_code 19 = .ok (.goto (-17), 3) := by decide +kernel
theorem pn_rmf3_0022 : plainName "com/example/stratal/stratal/logic/StratumGroups" = true := by first | (simp [plainName, overriddenIn]; done) | decide +kernel
theorem ef_rmf3_0022 (m : MethodId) (a : Addr) : entryFrame m #[(.ref a), (.int 3)] 3 = mkF m 0 #[rv a, iv 3, .unset] [] := by first | (simp [entryFrame, mkF, argsToLocals, Value.category]; done) | rfl
def Qf3_0022 (Z : State) (a : Addr) (rp : Addr) (kp : ClassId) (h0 : Heap) (n0 : Nat) (v : Option Value) (h : Heap) (L : List Loc) : Prop := v = some (.int 2) ∧ Fr n0 L ∧ h = h0
set_option maxRecDepth 65536 in
set_option maxHeartbeats 40000000 in
theorem rmf3_0022 (l : Launch) (Z : State) (a0 : Array Value) (hw : ∀ d ∈ tables_1, d.before a0 Z = true) (ws : List Jvm.Cond) (a : Addr) (rp : Addr) (kp : ClassId) (h0 : Heap) (n0 : Nat) (Z0 : n0 ≤ h0.size) (P0 : Fld Z h0 a "com/example/stratal/stratal/logic/StratumGroups" "mParent" "[I" (.ref rp)) (P1 : Arv Z h0 rp kp .int (16 : Int32) [(.int 0), (.int 0), (.int 2), (.int 2)] (.int 0)) :
    MetFree l (⟨"com/example/stratal/stratal/logic/StratumGroups", "find", "(I)I"⟩ : MethodName) (head1 (Jvm.Cond.code (⟨"com/example/stratal/stratal/logic/StratumGroups", "find", "(I)I"⟩ : MethodName) prog_53_method_3_code 3 (some .int) :: ws) ({ frames := 0, cells := 0, slots := 0, locals := 0 } : Room)) (fun aa U => aa = #[(.ref a), (.int 3)] ∧ Z.Warmed39 U.vm ∧ U.heap = h0) (fun _ _ _ _ _ => True) (fun _ U o U' => ∃ v L, o = .returned v ∧ Qf3_0022 Z a rp kp h0 n0 v U'.heap L ∧ FrameEnd U o U' L ({ frames := 0, cells := 0, slots := 0, locals := 0 } : Room).cells ({ frames := 0, cells := 0, slots := 0, locals := 0 } : Room).slots) := by
  refine MetFree.of_bodySF (plainFor_of_name pn_rmf3_0022) hisR ?_
  intro p e s m args below meth c s₁ Bd hml0 hP hK
  obtain ⟨rfl, hZ, hh⟩ := hP
  have hx := Bd.exec
  have hby := Bd.bytes
  have hml : c.maxLocals = 3 := hml0
  have hown : s.vm.findClass "com/example/stratal/stratal/logic/StratumGroups" = some m.cls := findClass_of_methodNamed Bd.named
  have hnm := (name_of_methodNamed Bd.named Bd.method).1
  have X0 : Stand p l e ({ frames := 0, cells := 0, slots := 0, locals := 0 } : Room) s m #[(.ref a), (.int 3)] below meth c s₁ [] 0 0 := Stand.of_body Bd
  have e0 : s₁.heap = h0 := by rw [← hh, Bd.state]; rfl
  have N0 := Fr.nil n0
  change OE p.tables e below _ _
  refine OE.v (fun t k => castTop (ef_rmf3_0022 m a) k) ?_
  show OE _ _ _ _ (s₁.setTop (mkF m 0 #[rv a, iv 3, .unset] []))
  refine OE.v (fun t k => XS.iloadN X0.here hx rfl (hb hby d5_0) rfl k) ?_
  refine OE.v (fun t k => XS.istoreN X0.here hx rfl (hb hby d5_1) rfl (l' := #[rv a, iv 3, iv 3]) rfl k) ?_
  refine OE.v (fun t k => XS.aloadN X0.here hx rfl (hb hby d5_2) rfl rfl k) ?_
  show OE _ _ _ _ (s₁.setTop (mkF m 3 #[rv a, iv 3, iv 3] [(.ref a)]))
  obtain ⟨T1, X1, e1, st1⟩ := getF X0 hx hZ hown (host := "") (Or.inl (hw _ (own_w 10 rfl))) Via.refl e0 P0 (g := (mkF m 3 #[rv a, iv 3, iv 3] [(.ref a)])) rfl rfl (hb hby d5_3)
  refine OE.v st1 ?_
  show OE _ _ _ _ (T1.setTop (mkF m 6 #[rv a, iv 3, iv 3] [(.ref rp)]))
  refine OE.v (fun t k => XS.iloadN X1.here hx rfl (hb hby d5_6) rfl k) ?_
  show OE _ _ _ _ (T1.setTop (mkF m 7 #[rv a, iv 3, iv 3] [(.int 3), (.ref rp)]))
  obtain ⟨cl2, Ar2, q2, S2, M2, H2, G2⟩ := id P1
  have hin2 : ¬ ((3 : Int32) < 0 ∨ cl2.slots.size ≤ ((3 : Int32)).toNatClampNeg) := inb_of S2 ⟨by decide, by decide⟩
  have hat2 : cl2.slots[((3 : Int32)).toNatClampNeg]? = some (.int 2) := H2.at hin2 rfl
  refine OE.v (X1.iaload hx (j := (3 : Int32)) (v := (.int 2)) (by rw [e1]; exact Ar2.1) (State.isArrayOf_alike hZ.alike Ar2.2.1) Ar2.2.2 hin2 hat2 (g := (mkF m 7 #[rv a, iv 3, iv 3] [(.int 3), (.ref rp)])) rfl rfl (hb hby d5_7)) ?_
  show OE _ _ _ _ (T1.setTop (mkF m 8 #[rv a, iv 3, iv 3] [(.int 2)]))
  refine OE.v (fun t k => XS.iloadN X1.here hx rfl (hb hby d5_8) rfl k) ?_
  show OE _ _ _ _ (T1.setTop (mkF m 9 #[rv a, iv 3, iv 3] [(.int 3), (.int 2)]))
  refine OE.v (fun t k => XS.icmpNo X1.here hx rfl (hb hby d5_9) rfl (feq (by decide)).1 k) ?_
  show OE _ _ _ _ (T1.setTop (mkF m 12 #[rv a, iv 3, iv 3] []))
  refine OE.v (fun t k => XS.aloadN X1.here hx rfl (hb hby d5_12) rfl rfl k) ?_
  show OE _ _ _ _ (T1.setTop (mkF m 13 #[rv a, iv 3, iv 3] [(.ref a)]))
  obtain ⟨T3, X3, e3, st3⟩ := getF X1 hx hZ hown (host := "") (Or.inl (hw _ (own_w 10 rfl))) Via.refl e1 P0 (g := (mkF m 13 #[rv a, iv 3, iv 3] [(.ref a)])) rfl rfl (hb hby d5_13)
  refine OE.v st3 ?_
  show OE _ _ _ _ (T3.setTop (mkF m 16 #[rv a, iv 3, iv 3] [(.ref rp)]))
  refine OE.v (fun t k => XS.iloadN X3.here hx rfl (hb hby d5_16) rfl k) ?_
  show OE _ _ _ _ (T3.setTop (mkF m 17 #[rv a, iv 3, iv 3] [(.int 3), (.ref rp)]))
  obtain ⟨cl4, Ar4, q4, S4, M4, H4, G4⟩ := id P1
  have hin4 : ¬ ((3 : Int32) < 0 ∨ cl4.slots.size ≤ ((3 : Int32)).toNatClampNeg) := inb_of S4 ⟨by decide, by decide⟩
  have hat4 : cl4.slots[((3 : Int32)).toNatClampNeg]? = some (.int 2) := H4.at hin4 rfl
  refine OE.v (X3.iaload hx (j := (3 : Int32)) (v := (.int 2)) (by rw [e3]; exact Ar4.1) (State.isArrayOf_alike hZ.alike Ar4.2.1) Ar4.2.2 hin4 hat4 (g := (mkF m 17 #[rv a, iv 3, iv 3] [(.int 3), (.ref rp)])) rfl rfl (hb hby d5_17)) ?_
  show OE _ _ _ _ (T3.setTop (mkF m 18 #[rv a, iv 3, iv 3] [(.int 2)]))
  refine OE.v (fun t k => XS.istoreN X3.here hx rfl (hb hby d5_18) rfl (l' := #[rv a, iv 3, iv 2]) rfl k) ?_
  refine OE.v (fun t k => XS.goto X3.here hx rfl (pc0 := 19) (pc' := 2) rfl (hb hby d5_19) (by decide) (by decide) k) ?_
  refine OE.v (fun t k => XS.aloadN X3.here hx rfl (hb hby d5_2) rfl rfl k) ?_
  show OE _ _ _ _ (T3.setTop (mkF m 3 #[rv a, iv 3, iv 2] [(.ref a)]))
  obtain ⟨T5, X5, e5, st5⟩ := getF X3 hx hZ hown (host := "") (Or.inl (hw _ (own_w 10 rfl))) Via.refl e3 P0 (g := (mkF m 3 #[rv a, iv 3, iv 2] [(.ref a)])) rfl rfl (hb hby d5_3)
  refine OE.v st5 ?_
  show OE _ _ _ _ (T5.setTop (mkF m 6 #[rv a, iv 3, iv 2] [(.ref rp)]))
  refine OE.v (fun t k => XS.iloadN X5.here hx rfl (hb hby d5_6) rfl k) ?_
  show OE _ _ _ _ (T5.setTop (mkF m 7 #[rv a, iv 3, iv 2] [(.int 2), (.ref rp)]))
  obtain ⟨cl6, Ar6, q6, S6, M6, H6, G6⟩ := id P1
  have hin6 : ¬ ((2 : Int32) < 0 ∨ cl6.slots.size ≤ ((2 : Int32)).toNatClampNeg) := inb_of S6 ⟨by decide, by decide⟩
  have hat6 : cl6.slots[((2 : Int32)).toNatClampNeg]? = some (.int 2) := H6.at hin6 rfl
  refine OE.v (X5.iaload hx (j := (2 : Int32)) (v := (.int 2)) (by rw [e5]; exact Ar6.1) (State.isArrayOf_alike hZ.alike Ar6.2.1) Ar6.2.2 hin6 hat6 (g := (mkF m 7 #[rv a, iv 3, iv 2] [(.int 2), (.ref rp)])) rfl rfl (hb hby d5_7)) ?_
  show OE _ _ _ _ (T5.setTop (mkF m 8 #[rv a, iv 3, iv 2] [(.int 2)]))
  refine OE.v (fun t k => XS.iloadN X5.here hx rfl (hb hby d5_8) rfl k) ?_
  show OE _ _ _ _ (T5.setTop (mkF m 9 #[rv a, iv 3, iv 2] [(.int 2), (.int 2)]))
  refine OE.v (fun t k => XS.icmpYes X5.here hx rfl (pc0 := 9) (pc' := 22) rfl (hb hby d5_9) rfl (teq (by decide)).1 (by decide) (by decide) k) ?_
  show OE _ _ _ _ (T5.setTop (mkF m 22 #[rv a, iv 3, iv 2] []))
  refine OE.v (fun t k => XS.iloadN X5.here hx rfl (hb hby d5_22) rfl k) ?_
  show OE _ _ _ _ (T5.setTop (mkF m 23 #[rv a, iv 3, iv 2] [(.int 2)]))
  obtain ⟨fs, hr, hrun, hended, hW, hsame⟩ := X5.leave (v := some (.int 2)) (fun h => by rw [Bd.returns] at h; cases h)
  refine ⟨_, _, ?_, hrun, hended, _, _, rfl, ?_, ⟨_, rfl⟩, hW, hsame.mono (by decide) (by decide)⟩
  · exact retI X5 hx Bd.returns (hb hby d5_23) hr
  · show Qf3_0022 Z a rp kp h0 n0 _ T5.heap _
    rw [e5]
    exact ⟨rfl, N0, rfl⟩

theorem pn_rmJ03_0022 : plainName "com/example/stratal/stratal/logic/StratumGroups" = true := by first | (simp [plainName, overriddenIn]; done) | decide +kernel
theorem ef_rmJ03_0022 (m : MethodId) (a : Addr) (jr : Int32) : entryFrame m #[(.ref a), (.int 0), (.int 3), (.int jr)] 8 = mkF m 0 #[rv a, iv 0, iv 3, iv jr, .unset, .unset, .unset, .unset] [] := by first | (simp [entryFrame, mkF, argsToLocals, Value.category]; done) | rfl
def QJ03_0022 (Z : State) (a : Addr) (rp : Addr) (ro : Addr) (rs : Addr) (rf : Addr) (kp : ClassId) (ko : ClassId) (ks : ClassId) (kf : ClassId) (ov0 : Int32) (ov1 : Int32) (ov2 : Int32) (ov3 : Int32) (fv0 : Int32) (fv1 : Int32) (fv2 : Int32) (fv3 : Int32) (jr : Int32) (h0 : Heap) (n0 : Nat) (v : Option Value) (h : Heap) (L : List Loc) : Prop := v = some (.int 3) ∧ Fr n0 L ∧ Keep h0 h [rp, ro, rs, rf] ∧ Arv Z h rp kp .int (16 : Int32) [(.int 0), (.int 0), (.int 0), (.int 2)] (.int 0) ∧ Arv Z h ro ko .int (16 : Int32) [(.int ov0), (.int ov1), (.int (((0 : Int32) + jr) - ((0 : Int32) + ov3))), (.int ov3)] (.int 0) ∧ Arv Z h rs ks .int (16 : Int32) [(.int 4), (.int 1), (.int 2), (.int 1)] (.int 0) ∧ Arv Z h rf kf .int (16 : Int32) [(.int (own_max fv0 (fv2 - (((0 : Int32) + jr) - ((0 : Int32) + ov3))))), (.int fv1), (.int fv2), (.int fv3)] (.int 0)
set_option maxRecDepth 65536 in
set_option maxHeartbeats 40000000 in
theorem rmJ03_0022 (l : Launch) (Z : State) (a0 : Array Value) (hw : ∀ d ∈ tables_1, d.before a0 Z = true) (ws : List Jvm.Cond) (a : Addr) (rp : Addr) (ro : Addr) (rs : Addr) (rf : Addr) (kp : ClassId) (ko : ClassId) (ks : ClassId) (kf : ClassId) (ov0 : Int32) (ov1 : Int32) (ov2 : Int32) (ov3 : Int32) (fv0 : Int32) (fv1 : Int32) (fv2 : Int32) (fv3 : Int32) (jr : Int32) (h0 : Heap) (n0 : Nat) (Z0 : n0 ≤ h0.size) (P0 : Exa Z h0 a "com/example/stratal/stratal/logic/StratumGroups") (P1 : Fld Z h0 a "com/example/stratal/stratal/logic/StratumGroups" "mParent" "[I" (.ref rp)) (P2 : Fld Z h0 a "com/example/stratal/stratal/logic/StratumGroups" "mOffset" "[I" (.ref ro)) (P3 : Fld Z h0 a "com/example/stratal/stratal/logic/StratumGroups" "mSize" "[I" (.ref rs)) (P4 : Fld Z h0 a "com/example/stratal/stratal/logic/StratumGroups" "mFloor" "[I" (.ref rf)) (P5 : Fld Z h0 a "com/example/stratal/stratal/logic/StratumGroups" "mRecording" "Z" (.int 0)) (P6 : Arv Z h0 rp kp .int (16 : Int32) [(.int 0), (.int 0), (.int 2), (.int 2)] (.int 0)) (P7 : Arv Z h0 ro ko .int (16 : Int32) [(.int ov0), (.int ov1), (.int ov2), (.int ov3)] (.int 0)) (P8 : Arv Z h0 rs ks .int (16 : Int32) [(.int 2), (.int 1), (.int 2), (.int 1)] (.int 0)) (P9 : Arv Z h0 rf kf .int (16 : Int32) [(.int fv0), (.int fv1), (.int fv2), (.int fv3)] (.int 0)) (P10 : rp ≠ a) (P11 : ro ≠ a) (P12 : rs ≠ a) (P13 : rf ≠ a) (P14 : rp ≠ ro) (P15 : rp ≠ rs) (P16 : rp ≠ rf) (P17 : ro ≠ rs) (P18 : ro ≠ rf) (P19 : rs ≠ rf) (P20 : n0 ≤ rp) (P21 : n0 ≤ ro) (P22 : n0 ≤ rs) (P23 : n0 ≤ rf) :
    MetFree l (⟨"com/example/stratal/stratal/logic/StratumGroups", "join", "(III)I"⟩ : MethodName) (head1 (Jvm.Cond.code (⟨"com/example/stratal/stratal/logic/StratumGroups", "join", "(III)I"⟩ : MethodName) prog_53_method_5_code 8 (some .int) :: ws) ({ frames := 2, cells := 0, slots := 0, locals := 30 } : Room)) (fun aa U => aa = #[(.ref a), (.int 0), (.int 3), (.int jr)] ∧ Z.Warmed39 U.vm ∧ U.heap = h0) (fun _ _ _ _ _ => True) (fun _ U o U' => ∃ v L, o = .returned v ∧ QJ03_0022 Z a rp ro rs rf kp ko ks kf ov0 ov1 ov2 ov3 fv0 fv1 fv2 fv3 jr h0 n0 v U'.heap L ∧ FrameEnd U o U' L ({ frames := 2, cells := 0, slots := 0, locals := 30 } : Room).cells ({ frames := 2, cells := 0, slots := 0, locals := 30 } : Room).slots) := by
  refine MetFree.of_bodySF (plainFor_of_name pn_rmJ03_0022) hisR ?_
  intro p e s m args below meth c s₁ Bd hml0 hP hK
  obtain ⟨rfl, hZ, hh⟩ := hP
  have hx := Bd.exec
  have hby := Bd.bytes
  have hml : c.maxLocals = 8 := hml0
  have hown : s.vm.findClass "com/example/stratal/stratal/logic/StratumGroups" = some m.cls := findClass_of_methodNamed Bd.named
  have hnm := (name_of_methodNamed Bd.named Bd.method).1
  have X0 : Stand p l e ({ frames := 2, cells := 0, slots := 0, locals := 30 } : Room) s m #[(.ref a), (.int 0), (.int 3), (.int jr)] below meth c s₁ [] 0 0 := Stand.of_body Bd
  have e0 : s₁.heap = h0 := by rw [← hh, Bd.state]; rfl
  have N0 := Fr.nil n0
  change OE p.tables e below _ _
  refine OE.v (fun t k => castTop (ef_rmJ03_0022 m a jr) k) ?_
  show OE _ _ _ _ (s₁.setTop (mkF m 0 #[rv a, iv 0, iv 3, iv jr, .unset, .unset, .unset, .unset] []))
  refine OE.v (fun t k => XS.aloadN X0.here hx rfl (hb hby d4_0) rfl rfl k) ?_
  refine OE.v (fun t k => XS.iloadN X0.here hx rfl (hb hby d4_1) rfl k) ?_
  show OE _ _ _ _ (s₁.setTop (mkF m 2 #[rv a, iv 0, iv 3, iv jr, .unset, .unset, .unset, .unset] [(.int 0), (.ref a)]))
  obtain ⟨cq1, kq1, q1a, q1b, q1c⟩ := isOf hZ e0 P0
  obtain ⟨_, _, ⟨T1, L1, k1, n1⟩, -, X1, ⟨Lc1, hQ1, l1, y1, z1⟩, st1⟩ := X0.virtualBack hx (y := (⟨"com/example/stratal/stratal/logic/StratumGroups", "find", "(I)I"⟩ : MethodName)) (z := (⟨"com/example/stratal/stratal/logic/StratumGroups", "find", "(I)I"⟩ : MethodName)) hown (mvT hZ (hw _ (own_w 32 rfl))) (mvT hZ (hw _ (own_w 33 rfl))) (notFace_of_selects (args := #[]) (mvT hZ (hw _ (own_w 35 rfl)))) (mvT hZ (hw _ (own_w 35 rfl))) (mvT hZ (hw _ (own_w 34 rfl))) (by decide) (backOf (W := 0) (rmf0_0022 l Z a0 hw [] a rp kp h0 n0 Z0 P1 P6) hZ (hw _ (own_w 36 rfl)) (hw _ (own_w 2 rfl)) (by decide) (by decide)) q1a q1c (g := (mkF m 2 #[rv a, iv 0, iv 3, iv jr, .unset, .unset, .unset, .unset] [(.int 0), (.ref a)])) rfl (by rw [hml]; rfl) (Steps.refl _) (argsL := [(.int 0)]) (rest := []) (lenOf pd_4 rfl) rfl (Nat.le_of_eq rfl) (hb hby d4_2) (fun _ _ => ⟨rfl, e0, (by decide : 0 + 0 ≤ _), (by decide : 0 + 0 ≤ _)⟩)
  dsimp only [Pt.U, Pt.locs, Pt.cells, Pt.slots] at X1 l1 y1 z1 st1 hQ1
  subst l1 y1 z1
  obtain ⟨rfl, Nq1, e1⟩ := hQ1
  have N1 := Fr.app N0 Nq1
  refine OE.v (fun t k => st1.trans k) ?_
  show OE _ _ _ _ (T1.setTop (mkF m 5 #[rv a, iv 0, iv 3, iv jr, .unset, .unset, .unset, .unset] [(.int 0)]))
  refine OE.v (fun t k => XS.istore X1.here hx rfl (hb hby d4_5) rfl (l' := #[rv a, iv 0, iv 3, iv jr, iv 0, .unset, .unset, .unset]) rfl k) ?_
  refine OE.v (fun t k => XS.aloadN X1.here hx rfl (hb hby d4_7) rfl rfl k) ?_
  refine OE.v (fun t k => XS.iloadN X1.here hx rfl (hb hby d4_8) rfl k) ?_
  show OE _ _ _ _ (T1.setTop (mkF m 9 #[rv a, iv 0, iv 3, iv jr, iv 0, .unset, .unset, .unset] [(.int 3), (.ref a)]))
  obtain ⟨cq2, kq2, q2a, q2b, q2c⟩ := isOf hZ e1 P0
  obtain ⟨_, _, ⟨T2, L2, k2, n2⟩, -, X2, ⟨Lc2, hQ2, l2, y2, z2⟩, st2⟩ := X1.virtualBack hx (y := (⟨"com/example/stratal/stratal/logic/StratumGroups", "find", "(I)I"⟩ : MethodName)) (z := (⟨"com/example/stratal/stratal/logic/StratumGroups", "find", "(I)I"⟩ : MethodName)) hown (mvT hZ (hw _ (own_w 32 rfl))) (mvT hZ (hw _ (own_w 33 rfl))) (notFace_of_selects (args := #[]) (mvT hZ (hw _ (own_w 35 rfl)))) (mvT hZ (hw _ (own_w 35 rfl))) (mvT hZ (hw _ (own_w 34 rfl))) (by decide) (backOf (W := 0) (rmf3_0022 l Z a0 hw [] a rp kp h0 n0 Z0 P1 P6) hZ (hw _ (own_w 36 rfl)) (hw _ (own_w 2 rfl)) (by decide) (by decide)) q2a q2c (g := (mkF m 9 #[rv a, iv 0, iv 3, iv jr, iv 0, .unset, .unset, .unset] [(.int 3), (.ref a)])) rfl (by rw [hml]; rfl) (Steps.refl _) (argsL := [(.int 3)]) (rest := []) (lenOf pd_4 rfl) rfl (Nat.le_of_eq rfl) (hb hby d4_9) (fun _ _ => ⟨rfl, e1, (by decide : 0 + 0 ≤ _), (by decide : 0 + 0 ≤ _)⟩)
  dsimp only [Pt.U, Pt.locs, Pt.cells, Pt.slots] at X2 l2 y2 z2 st2 hQ2
  subst l2 y2 z2
  obtain ⟨rfl, Nq2, e2⟩ := hQ2
  have N2 := Fr.app N1 Nq2
  refine OE.v (fun t k => st2.trans k) ?_
  show OE _ _ _ _ (T2.setTop (mkF m 12 #[rv a, iv 0, iv 3, iv jr, iv 0, .unset, .unset, .unset] [(.int 2)]))
  refine OE.v (fun t k => XS.istore X2.here hx rfl (hb hby d4_12) rfl (l' := #[rv a, iv 0, iv 3, iv jr, iv 0, iv 2, .unset, .unset]) rfl k) ?_
  refine OE.v (fun t k => XS.aloadN X2.here hx rfl (hb hby d4_14) rfl rfl k) ?_
  refine OE.v (fun t k => XS.iloadN X2.here hx rfl (hb hby d4_15) rfl k) ?_
  show OE _ _ _ _ (T2.setTop (mkF m 16 #[rv a, iv 0, iv 3, iv jr, iv 0, iv 2, .unset, .unset] [(.int 0), (.ref a)]))
  obtain ⟨cq3, kq3, q3a, q3b, q3c⟩ := isOf hZ e2 P0
  obtain ⟨_, _, ⟨T3, L3, k3, n3⟩, -, X3, ⟨Lc3, hQ3, l3, y3, z3⟩, st3⟩ := X2.virtualBack hx (y := (⟨"com/example/stratal/stratal/logic/StratumGroups", "offset", "(I)I"⟩ : MethodName)) (z := (⟨"com/example/stratal/stratal/logic/StratumGroups", "offset", "(I)I"⟩ : MethodName)) hown (mvT hZ (hw _ (own_w 37 rfl))) (mvT hZ (hw _ (own_w 38 rfl))) (notFace_of_selects (args := #[]) (mvT hZ (hw _ (own_w 40 rfl)))) (mvT hZ (hw _ (own_w 40 rfl))) (mvT hZ (hw _ (own_w 39 rfl))) (by decide) (backOf (W := 0) (rmo0_0022 l Z a0 hw [] a rp kp ro ko ov0 ov1 ov2 ov3 h0 n0 Z0 P1 P6 P2 P7) hZ (hw _ (own_w 41 rfl)) (hw _ (own_w 2 rfl)) (by decide) (by decide)) q3a q3c (g := (mkF m 16 #[rv a, iv 0, iv 3, iv jr, iv 0, iv 2, .unset, .unset] [(.int 0), (.ref a)])) rfl (by rw [hml]; rfl) (Steps.refl _) (argsL := [(.int 0)]) (rest := []) (lenOf pd_4 rfl) rfl (Nat.le_of_eq rfl) (hb hby d4_16) (fun _ _ => ⟨rfl, e2, (by decide : 0 + 0 ≤ _), (by decide : 0 + 0 ≤ _)⟩)
  dsimp only [Pt.U, Pt.locs, Pt.cells, Pt.slots] at X3 l3 y3 z3 st3 hQ3
  subst l3 y3 z3
  obtain ⟨rfl, Nq3, e3⟩ := hQ3
  have N3 := Fr.app N2 Nq3
  refine OE.v (fun t k => st3.trans k) ?_
  show OE _ _ _ _ (T3.setTop (mkF m 19 #[rv a, iv 0, iv 3, iv jr, iv 0, iv 2, .unset, .unset] [(.int 0)]))
  refine OE.v (fun t k => XS.istore X3.here hx rfl (hb hby d4_19) rfl (l' := #[rv a, iv 0, iv 3, iv jr, iv 0, iv 2, iv 0, .unset]) rfl k) ?_
  refine OE.v (fun t k => XS.aloadN X3.here hx rfl (hb hby d4_21) rfl rfl k) ?_
  refine OE.v (fun t k => XS.iloadN X3.here hx rfl (hb hby d4_22) rfl k) ?_
  show OE _ _ _ _ (T3.setTop (mkF m 23 #[rv a, iv 0, iv 3, iv jr, iv 0, iv 2, iv 0, .unset] [(.int 3), (.ref a)]))
  obtain ⟨cq4, kq4, q4a, q4b, q4c⟩ := isOf hZ e3 P0
  obtain ⟨_, _, ⟨T4, L4, k4, n4⟩, -, X4, ⟨Lc4, hQ4, l4, y4, z4⟩, st4⟩ := X3.virtualBack hx (y := (⟨"com/example/stratal/stratal/logic/StratumGroups", "offset", "(I)I"⟩ : MethodName)) (z := (⟨"com/example/stratal/stratal/logic/StratumGroups", "offset", "(I)I"⟩ : MethodName)) hown (mvT hZ (hw _ (own_w 37 rfl))) (mvT hZ (hw _ (own_w 38 rfl))) (notFace_of_selects (args := #[]) (mvT hZ (hw _ (own_w 40 rfl)))) (mvT hZ (hw _ (own_w 40 rfl))) (mvT hZ (hw _ (own_w 39 rfl))) (by decide) (backOf (W := 0) (rmo3_0022 l Z a0 hw [] a rp kp ro ko ov0 ov1 ov2 ov3 h0 n0 Z0 P1 P6 P2 P7) hZ (hw _ (own_w 41 rfl)) (hw _ (own_w 2 rfl)) (by decide) (by decide)) q4a q4c (g := (mkF m 23 #[rv a, iv 0, iv 3, iv jr, iv 0, iv 2, iv 0, .unset] [(.int 3), (.ref a)])) rfl (by rw [hml]; rfl) (Steps.refl _) (argsL := [(.int 3)]) (rest := []) (lenOf pd_4 rfl) rfl (Nat.le_of_eq rfl) (hb hby d4_23) (fun _ _ => ⟨rfl, e3, (by decide : 0 + 0 ≤ _), (by decide : 0 + 0 ≤ _)⟩)
  dsimp only [Pt.U, Pt.locs, Pt.cells, Pt.slots] at X4 l4 y4 z4 st4 hQ4
  subst l4 y4 z4
  obtain ⟨rfl, Nq4, e4⟩ := hQ4
  have N4 := Fr.app N3 Nq4
  refine OE.v (fun t k => st4.trans k) ?_
  show OE _ _ _ _ (T4.setTop (mkF m 26 #[rv a, iv 0, iv 3, iv jr, iv 0, iv 2, iv 0, .unset] [(.int ((0 : Int32) + ov3))]))
  refine OE.v (fun t k => XS.istore X4.here hx rfl (hb hby d4_26) rfl (l' := #[rv a, iv 0, iv 3, iv jr, iv 0, iv 2, iv 0, iv ((0 : Int32) + ov3)]) rfl k) ?_
  refine OE.v (fun t k => XS.iload X4.here hx rfl (hb hby d4_28) rfl k) ?_
  refine OE.v (fun t k => XS.iload X4.here hx rfl (hb hby d4_30) rfl k) ?_
  show OE _ _ _ _ (T4.setTop (mkF m 32 #[rv a, iv 0, iv 3, iv jr, iv 0, iv 2, iv 0, iv ((0 : Int32) + ov3)] [(.int 2), (.int 0)]))
  refine OE.v (fun t k => XS.icmpYes X4.here hx rfl (pc0 := 32) (pc' := 67) rfl (hb hby d4_32) rfl (feq (by decide)).2 (by decide) (by decide) k) ?_
  show OE _ _ _ _ (T4.setTop (mkF m 67 #[rv a, iv 0, iv 3, iv jr, iv 0, iv 2, iv 0, iv ((0 : Int32) + ov3)] []))
  refine OE.v (fun t k => XS.aloadN X4.here hx rfl (hb hby d4_67) rfl rfl k) ?_
  show OE _ _ _ _ (T4.setTop (mkF m 68 #[rv a, iv 0, iv 3, iv jr, iv 0, iv 2, iv 0, iv ((0 : Int32) + ov3)] [(.ref a)]))
  obtain ⟨T5, X5, e5, st5⟩ := getF X4 hx hZ hown (host := "") (Or.inl (hw _ (own_w 14 rfl))) Via.refl e4 P3 (g := (mkF m 68 #[rv a, iv 0, iv 3, iv jr, iv 0, iv 2, iv 0, iv ((0 : Int32) + ov3)] [(.ref a)])) rfl rfl (hb hby d4_68)
  refine OE.v st5 ?_
  show OE _ _ _ _ (T5.setTop (mkF m 71 #[rv a, iv 0, iv 3, iv jr, iv 0, iv 2, iv 0, iv ((0 : Int32) + ov3)] [(.ref rs)]))
  refine OE.v (fun t k => XS.iload X5.here hx rfl (hb hby d4_71) rfl k) ?_
  show OE _ _ _ _ (T5.setTop (mkF m 73 #[rv a, iv 0, iv 3, iv jr, iv 0, iv 2, iv 0, iv ((0 : Int32) + ov3)] [(.int 0), (.ref rs)]))
  obtain ⟨cl6, Ar6, q6, S6, M6, H6, G6⟩ := id P8
  have hin6 : ¬ ((0 : Int32) < 0 ∨ cl6.slots.size ≤ ((0 : Int32)).toNatClampNeg) := inb_of S6 ⟨by decide, by decide⟩
  have hat6 : cl6.slots[((0 : Int32)).toNatClampNeg]? = some (.int 2) := H6.at hin6 rfl
  refine OE.v (X5.iaload hx (j := (0 : Int32)) (v := (.int 2)) (by rw [e5]; exact Ar6.1) (State.isArrayOf_alike hZ.alike Ar6.2.1) Ar6.2.2 hin6 hat6 (g := (mkF m 73 #[rv a, iv 0, iv 3, iv jr, iv 0, iv 2, iv 0, iv ((0 : Int32) + ov3)] [(.int 0), (.ref rs)])) rfl rfl (hb hby d4_73)) ?_
  show OE _ _ _ _ (T5.setTop (mkF m 74 #[rv a, iv 0, iv 3, iv jr, iv 0, iv 2, iv 0, iv ((0 : Int32) + ov3)] [(.int 2)]))
  refine OE.v (fun t k => XS.aloadN X5.here hx rfl (hb hby d4_74) rfl rfl k) ?_
  show OE _ _ _ _ (T5.setTop (mkF m 75 #[rv a, iv 0, iv 3, iv jr, iv 0, iv 2, iv 0, iv ((0 : Int32) + ov3)] [(.ref a), (.int 2)]))
  obtain ⟨T7, X7, e7, st7⟩ := getF X5 hx hZ hown (host := "") (Or.inl (hw _ (own_w 14 rfl))) Via.refl e5 P3 (g := (mkF m 75 #[rv a, iv 0, iv 3, iv jr, iv 0, iv 2, iv 0, iv ((0 : Int32) + ov3)] [(.ref a), (.int 2)])) rfl rfl (hb hby d4_75)
  refine OE.v st7 ?_
  show OE _ _ _ _ (T7.setTop (mkF m 78 #[rv a, iv 0, iv 3, iv jr, iv 0, iv 2, iv 0, iv ((0 : Int32) + ov3)] [(.ref rs), (.int 2)]))
  refine OE.v (fun t k => XS.iload X7.here hx rfl (hb hby d4_78) rfl k) ?_
  show OE _ _ _ _ (T7.setTop (mkF m 80 #[rv a, iv 0, iv 3, iv jr, iv 0, iv 2, iv 0, iv ((0 : Int32) + ov3)] [(.int 2), (.ref rs), (.int 2)]))
  obtain ⟨cl8, Ar8, q8, S8, M8, H8, G8⟩ := id P8
  have hin8 : ¬ ((2 : Int32) < 0 ∨ cl8.slots.size ≤ ((2 : Int32)).toNatClampNeg) := inb_of S8 ⟨by decide, by decide⟩
  have hat8 : cl8.slots[((2 : Int32)).toNatClampNeg]? = some (.int 2) := H8.at hin8 rfl
  refine OE.v (X7.iaload hx (j := (2 : Int32)) (v := (.int 2)) (by rw [e7]; exact Ar8.1) (State.isArrayOf_alike hZ.alike Ar8.2.1) Ar8.2.2 hin8 hat8 (g := (mkF m 80 #[rv a, iv 0, iv 3, iv jr, iv 0, iv 2, iv 0, iv ((0 : Int32) + ov3)] [(.int 2), (.ref rs), (.int 2)])) rfl rfl (hb hby d4_80)) ?_
  show OE _ _ _ _ (T7.setTop (mkF m 81 #[rv a, iv 0, iv 3, iv jr, iv 0, iv 2, iv 0, iv ((0 : Int32) + ov3)] [(.int 2), (.int 2)]))
  refine OE.v (fun t k => XS.icmpYes X7.here hx rfl (pc0 := 81) (pc' := 101) rfl (hb hby d4_81) rfl (flt (by decide)).2.1 (by decide) (by decide) k) ?_
  show OE _ _ _ _ (T7.setTop (mkF m 101 #[rv a, iv 0, iv 3, iv jr, iv 0, iv 2, iv 0, iv ((0 : Int32) + ov3)] []))
  refine OE.v (fun t k => XS.aloadN X7.here hx rfl (hb hby d4_101) rfl rfl k) ?_
  refine OE.v (fun t k => XS.iload X7.here hx rfl (hb hby d4_102) rfl k) ?_
  refine OE.v (fun t k => XS.iload X7.here hx rfl (hb hby d4_104) rfl k) ?_
  refine OE.v (fun t k => XS.iload X7.here hx rfl (hb hby d4_106) rfl k) ?_
  refine OE.v (fun t k => XS.iloadN X7.here hx rfl (hb hby d4_108) rfl k) ?_
  refine OE.v (fun t k => XS.iadd X7.here hx rfl (hb hby d4_109) rfl k) ?_
  show OE _ _ _ _ (T7.setTop (mkF m 110 #[rv a, iv 0, iv 3, iv jr, iv 0, iv 2, iv 0, iv ((0 : Int32) + ov3)] [(.int ((0 : Int32) + jr)), (.int 0), (.int 2), (.ref a)]))
  refine OE.v (fun t k => XS.iload X7.here hx rfl (hb hby d4_110) rfl k) ?_
  refine OE.v (fun t k => XS.isub X7.here hx rfl (hb hby d4_112) rfl k) ?_
  show OE _ _ _ _ (T7.setTop (mkF m 113 #[rv a, iv 0, iv 3, iv jr, iv 0, iv 2, iv 0, iv ((0 : Int32) + ov3)] [(.int (((0 : Int32) + jr) - ((0 : Int32) + ov3))), (.int 0), (.int 2), (.ref a)]))
  obtain ⟨cq9, q9, q9'⟩ := P0.cell
  obtain ⟨_, _, ⟨T9, L9, k9, n9⟩, -, X9, ⟨Lc9, hQ9, l9, y9, z9⟩, st9⟩ := X7.privateBack hx (y := (⟨"com/example/stratal/stratal/logic/StratumGroups", "hang", "(III)V"⟩ : MethodName)) hown (mvT hZ (hw _ (own_w 42 rfl))) (mvT hZ (hw _ (own_w 43 rfl))) (own_selp (mvT hZ (hw _ (own_w 1 rfl))) (Cond.privateMethod_at (mvP hZ (hw _ (own_w 44 rfl)) (args := #[]))) (mvT hZ (hw _ (own_w 43 rfl))) (by decide)) (Cond.privateMethod_at (mvP hZ (hw _ (own_w 44 rfl)) (args := #[]))) (mvT hZ (hw _ (own_w 45 rfl))) (by decide) (backOf (W := 0) (rmH20_0022 l Z a0 hw [] a rp ro rs rf kp ko ks kf ov0 ov1 ov2 ov3 fv0 fv1 fv2 fv3 (((0 : Int32) + jr) - ((0 : Int32) + ov3)) h0 n0 Z0 P0 P1 P2 P3 P4 P5 P6 P7 P8 P9 P10 P11 P12 P13 P14 P15 P16 P17 P18 P19 P20 P21 P22 P23) hZ (hw _ (own_w 45 rfl)) (hw _ (own_w 2 rfl)) (by decide) (by decide)) (g := (mkF m 113 #[rv a, iv 0, iv 3, iv jr, iv 0, iv 2, iv 0, iv ((0 : Int32) + ov3)] [(.int (((0 : Int32) + jr) - ((0 : Int32) + ov3))), (.int 0), (.int 2), (.ref a)])) rfl (by rw [hml]; rfl) (Steps.refl _) (a := a) (by rw [e7]; exact q9) q9' (argsL := [(.int 2), (.int 0), (.int (((0 : Int32) + jr) - ((0 : Int32) + ov3)))]) (rest := []) (lenOf pd_2 rfl) rfl (Nat.le_of_eq rfl) (hb hby d4_113) (fun _ _ => ⟨rfl, e7, (by decide : 0 + 0 ≤ _), (by decide : 0 + 0 ≤ _)⟩)
  dsimp only [Pt.U, Pt.locs, Pt.cells, Pt.slots] at X9 l9 y9 z9 st9 hQ9
  subst l9 y9 z9
  obtain ⟨h9, e9⟩ : ∃ z, T9.heap = z := ⟨_, rfl⟩
  rw [e9] at hQ9
  obtain ⟨rfl, Nq9, Kq9, q9_0, q9_1, q9_2, q9_3⟩ := hQ9
  have Z9 : n0 ≤ h9.size := Nat.le_trans Z0 Kq9.1
  have K9 : Keep h0 h9 [rp, ro, rs, rf] := (Keep.refl h0 [rp, ro, rs, rf]).trans Kq9 (allS (Or.inl (by simp)) (allS (Or.inl (by simp)) (allS (Or.inl (by simp)) (allS (Or.inl (by simp)) all0))))
  have N9 := Fr.app N4 Nq9
  refine OE.v (fun t k => st9.trans k) ?_
  show OE _ _ _ _ (T9.setTop (mkF m 116 #[rv a, iv 0, iv 3, iv jr, iv 0, iv 2, iv 0, iv ((0 : Int32) + ov3)] []))
  refine OE.v (fun t k => XS.iloadN X9.here hx rfl (hb hby d4_116) rfl k) ?_
  show OE _ _ _ _ (T9.setTop (mkF m 117 #[rv a, iv 0, iv 3, iv jr, iv 0, iv 2, iv 0, iv ((0 : Int32) + ov3)] [(.int 3)]))
  obtain ⟨fs, hr, hrun, hended, hW, hsame⟩ := X9.leave (v := some (.int 3)) (fun h => by rw [Bd.returns] at h; cases h)
  refine ⟨_, _, ?_, hrun, hended, _, _, rfl, ?_, ⟨_, rfl⟩, hW, hsame.mono (by decide) (by decide)⟩
  · exact retI X9 hx Bd.returns (hb hby d4_117) hr
  · show QJ03_0022 Z a rp ro rs rf kp ko ks kf ov0 ov1 ov2 ov3 fv0 fv1 fv2 fv3 jr h0 n0 _ T9.heap _
    rw [e9]
    exact ⟨rfl, N9, K9, q9_0, q9_1, q9_2, q9_3⟩

theorem pn_rmf1_0022 : plainName "com/example/stratal/stratal/logic/StratumGroups" = true := by first | (simp [plainName, overriddenIn]; done) | decide +kernel
theorem ef_rmf1_0022 (m : MethodId) (a : Addr) : entryFrame m #[(.ref a), (.int 1)] 3 = mkF m 0 #[rv a, iv 1, .unset] [] := by first | (simp [entryFrame, mkF, argsToLocals, Value.category]; done) | rfl
def Qf1_0022 (Z : State) (a : Addr) (rp : Addr) (kp : ClassId) (h0 : Heap) (n0 : Nat) (v : Option Value) (h : Heap) (L : List Loc) : Prop := v = some (.int 0) ∧ Fr n0 L ∧ h = h0
set_option maxRecDepth 65536 in
set_option maxHeartbeats 40000000 in
theorem rmf1_0022 (l : Launch) (Z : State) (a0 : Array Value) (hw : ∀ d ∈ tables_1, d.before a0 Z = true) (ws : List Jvm.Cond) (a : Addr) (rp : Addr) (kp : ClassId) (h0 : Heap) (n0 : Nat) (Z0 : n0 ≤ h0.size) (P0 : Fld Z h0 a "com/example/stratal/stratal/logic/StratumGroups" "mParent" "[I" (.ref rp)) (P1 : Arv Z h0 rp kp .int (16 : Int32) [(.int 0), (.int 0), (.int 2), (.int 2)] (.int 0)) :
    MetFree l (⟨"com/example/stratal/stratal/logic/StratumGroups", "find", "(I)I"⟩ : MethodName) (head1 (Jvm.Cond.code (⟨"com/example/stratal/stratal/logic/StratumGroups", "find", "(I)I"⟩ : MethodName) prog_53_method_3_code 3 (some .int) :: ws) ({ frames := 0, cells := 0, slots := 0, locals := 0 } : Room)) (fun aa U => aa = #[(.ref a), (.int 1)] ∧ Z.Warmed39 U.vm ∧ U.heap = h0) (fun _ _ _ _ _ => True) (fun _ U o U' => ∃ v L, o = .returned v ∧ Qf1_0022 Z a rp kp h0 n0 v U'.heap L ∧ FrameEnd U o U' L ({ frames := 0, cells := 0, slots := 0, locals := 0 } : Room).cells ({ frames := 0, cells := 0, slots := 0, locals := 0 } : Room).slots) := by
  refine MetFree.of_bodySF (plainFor_of_name pn_rmf1_0022) hisR ?_
  intro p e s m args below meth c s₁ Bd hml0 hP hK
  obtain ⟨rfl, hZ, hh⟩ := hP
  have hx := Bd.exec
  have hby := Bd.bytes
  have hml : c.maxLocals = 3 := hml0
  have hown : s.vm.findClass "com/example/stratal/stratal/logic/StratumGroups" = some m.cls := findClass_of_methodNamed Bd.named
  have hnm := (name_of_methodNamed Bd.named Bd.method).1
  have X0 : Stand p l e ({ frames := 0, cells := 0, slots := 0, locals := 0 } : Room) s m #[(.ref a), (.int 1)] below meth c s₁ [] 0 0 := Stand.of_body Bd
  have e0 : s₁.heap = h0 := by rw [← hh, Bd.state]; rfl
  have N0 := Fr.nil n0
  change OE p.tables e below _ _
  refine OE.v (fun t k => castTop (ef_rmf1_0022 m a) k) ?_
  show OE _ _ _ _ (s₁.setTop (mkF m 0 #[rv a, iv 1, .unset] []))
  refine OE.v (fun t k => XS.iloadN X0.here hx rfl (hb hby d5_0) rfl k) ?_
  refine OE.v (fun t k => XS.istoreN X0.here hx rfl (hb hby d5_1) rfl (l' := #[rv a, iv 1, iv 1]) rfl k) ?_
  refine OE.v (fun t k => XS.aloadN X0.here hx rfl (hb hby d5_2) rfl rfl k) ?_
  show OE _ _ _ _ (s₁.setTop (mkF m 3 #[rv a, iv 1, iv 1] [(.ref a)]))
  obtain ⟨T1, X1, e1, st1⟩ := getF X0 hx hZ hown (host := "") (Or.inl (hw _ (own_w 10 rfl))) Via.refl e0 P0 (g := (mkF m 3 #[rv a, iv 1, iv 1] [(.ref a)])) rfl rfl (hb hby d5_3)
  refine OE.v st1 ?_
  show OE _ _ _ _ (T1.setTop (mkF m 6 #[rv a, iv 1, iv 1] [(.ref rp)]))
  refine OE.v (fun t k => XS.iloadN X1.here hx rfl (hb hby d5_6) rfl k) ?_
  show OE _ _ _ _ (T1.setTop (mkF m 7 #[rv a, iv 1, iv 1] [(.int 1), (.ref rp)]))
  obtain ⟨cl2, Ar2, q2, S2, M2, H2, G2⟩ := id P1
  have hin2 : ¬ ((1 : Int32) < 0 ∨ cl2.slots.size ≤ ((1 : Int32)).toNatClampNeg) := inb_of S2 ⟨by decide, by decide⟩
  have hat2 : cl2.slots[((1 : Int32)).toNatClampNeg]? = some (.int 0) := H2.at hin2 rfl
  refine OE.v (X1.iaload hx (j := (1 : Int32)) (v := (.int 0)) (by rw [e1]; exact Ar2.1) (State.isArrayOf_alike hZ.alike Ar2.2.1) Ar2.2.2 hin2 hat2 (g := (mkF m 7 #[rv a, iv 1, iv 1] [(.int 1), (.ref rp)])) rfl rfl (hb hby d5_7)) ?_
  show OE _ _ _ _ (T1.setTop (mkF m 8 #[rv a, iv 1, iv 1] [(.int 0)]))
  refine OE.v (fun t k => XS.iloadN X1.here hx rfl (hb hby d5_8) rfl k) ?_
  show OE _ _ _ _ (T1.setTop (mkF m 9 #[rv a, iv 1, iv 1] [(.int 1), (.int 0)]))
  refine OE.v (fun t k => XS.icmpNo X1.here hx rfl (hb hby d5_9) rfl (feq (by decide)).1 k) ?_
  show OE _ _ _ _ (T1.setTop (mkF m 12 #[rv a, iv 1, iv 1] []))
  refine OE.v (fun t k => XS.aloadN X1.here hx rfl (hb hby d5_12) rfl rfl k) ?_
  show OE _ _ _ _ (T1.setTop (mkF m 13 #[rv a, iv 1, iv 1] [(.ref a)]))
  obtain ⟨T3, X3, e3, st3⟩ := getF X1 hx hZ hown (host := "") (Or.inl (hw _ (own_w 10 rfl))) Via.refl e1 P0 (g := (mkF m 13 #[rv a, iv 1, iv 1] [(.ref a)])) rfl rfl (hb hby d5_13)
  refine OE.v st3 ?_
  show OE _ _ _ _ (T3.setTop (mkF m 16 #[rv a, iv 1, iv 1] [(.ref rp)]))
  refine OE.v (fun t k => XS.iloadN X3.here hx rfl (hb hby d5_16) rfl k) ?_
  show OE _ _ _ _ (T3.setTop (mkF m 17 #[rv a, iv 1, iv 1] [(.int 1), (.ref rp)]))
  obtain ⟨cl4, Ar4, q4, S4, M4, H4, G4⟩ := id P1
  have hin4 : ¬ ((1 : Int32) < 0 ∨ cl4.slots.size ≤ ((1 : Int32)).toNatClampNeg) := inb_of S4 ⟨by decide, by decide⟩
  have hat4 : cl4.slots[((1 : Int32)).toNatClampNeg]? = some (.int 0) := H4.at hin4 rfl
  refine OE.v (X3.iaload hx (j := (1 : Int32)) (v := (.int 0)) (by rw [e3]; exact Ar4.1) (State.isArrayOf_alike hZ.alike Ar4.2.1) Ar4.2.2 hin4 hat4 (g := (mkF m 17 #[rv a, iv 1, iv 1] [(.int 1), (.ref rp)])) rfl rfl (hb hby d5_17)) ?_
  show OE _ _ _ _ (T3.setTop (mkF m 18 #[rv a, iv 1, iv 1] [(.int 0)]))
  refine OE.v (fun t k => XS.istoreN X3.here hx rfl (hb hby d5_18) rfl (l' := #[rv a, iv 1, iv 0]) rfl k) ?_
  refine OE.v (fun t k => XS.goto X3.here hx rfl (pc0 := 19) (pc' := 2) rfl (hb hby d5_19) (by decide) (by decide) k) ?_
  refine OE.v (fun t k => XS.aloadN X3.here hx rfl (hb hby d5_2) rfl rfl k) ?_
  show OE _ _ _ _ (T3.setTop (mkF m 3 #[rv a, iv 1, iv 0] [(.ref a)]))
  obtain ⟨T5, X5, e5, st5⟩ := getF X3 hx hZ hown (host := "") (Or.inl (hw _ (own_w 10 rfl))) Via.refl e3 P0 (g := (mkF m 3 #[rv a, iv 1, iv 0] [(.ref a)])) rfl rfl (hb hby d5_3)
  refine OE.v st5 ?_
  show OE _ _ _ _ (T5.setTop (mkF m 6 #[rv a, iv 1, iv 0] [(.ref rp)]))
  refine OE.v (fun t k => XS.iloadN X5.here hx rfl (hb hby d5_6) rfl k) ?_
  show OE _ _ _ _ (T5.setTop (mkF m 7 #[rv a, iv 1, iv 0] [(.int 0), (.ref rp)]))
  obtain ⟨cl6, Ar6, q6, S6, M6, H6, G6⟩ := id P1
  have hin6 : ¬ ((0 : Int32) < 0 ∨ cl6.slots.size ≤ ((0 : Int32)).toNatClampNeg) := inb_of S6 ⟨by decide, by decide⟩
  have hat6 : cl6.slots[((0 : Int32)).toNatClampNeg]? = some (.int 0) := H6.at hin6 rfl
  refine OE.v (X5.iaload hx (j := (0 : Int32)) (v := (.int 0)) (by rw [e5]; exact Ar6.1) (State.isArrayOf_alike hZ.alike Ar6.2.1) Ar6.2.2 hin6 hat6 (g := (mkF m 7 #[rv a, iv 1, iv 0] [(.int 0), (.ref rp)])) rfl rfl (hb hby d5_7)) ?_
  show OE _ _ _ _ (T5.setTop (mkF m 8 #[rv a, iv 1, iv 0] [(.int 0)]))
  refine OE.v (fun t k => XS.iloadN X5.here hx rfl (hb hby d5_8) rfl k) ?_
  show OE _ _ _ _ (T5.setTop (mkF m 9 #[rv a, iv 1, iv 0] [(.int 0), (.int 0)]))
  refine OE.v (fun t k => XS.icmpYes X5.here hx rfl (pc0 := 9) (pc' := 22) rfl (hb hby d5_9) rfl (teq (by decide)).1 (by decide) (by decide) k) ?_
  show OE _ _ _ _ (T5.setTop (mkF m 22 #[rv a, iv 1, iv 0] []))
  refine OE.v (fun t k => XS.iloadN X5.here hx rfl (hb hby d5_22) rfl k) ?_
  show OE _ _ _ _ (T5.setTop (mkF m 23 #[rv a, iv 1, iv 0] [(.int 0)]))
  obtain ⟨fs, hr, hrun, hended, hW, hsame⟩ := X5.leave (v := some (.int 0)) (fun h => by rw [Bd.returns] at h; cases h)
  refine ⟨_, _, ?_, hrun, hended, _, _, rfl, ?_, ⟨_, rfl⟩, hW, hsame.mono (by decide) (by decide)⟩
  · exact retI X5 hx Bd.returns (hb hby d5_23) hr
  · show Qf1_0022 Z a rp kp h0 n0 _ T5.heap _
    rw [e5]
    exact ⟨rfl, N0, rfl⟩

theorem pn_rmJ12_0022 : plainName "com/example/stratal/stratal/logic/StratumGroups" = true := by first | (simp [plainName, overriddenIn]; done) | decide +kernel
theorem ef_rmJ12_0022 (m : MethodId) (a : Addr) (jr : Int32) : entryFrame m #[(.ref a), (.int 1), (.int 2), (.int jr)] 8 = mkF m 0 #[rv a, iv 1, iv 2, iv jr, .unset, .unset, .unset, .unset] [] := by first | (simp [entryFrame, mkF, argsToLocals, Value.category]; done) | rfl
def QJ12_0022 (Z : State) (a : Addr) (rp : Addr) (ro : Addr) (rs : Addr) (rf : Addr) (kp : ClassId) (ko : ClassId) (ks : ClassId) (kf : ClassId) (ov0 : Int32) (ov1 : Int32) (ov2 : Int32) (ov3 : Int32) (fv0 : Int32) (fv1 : Int32) (fv2 : Int32) (fv3 : Int32) (jr : Int32) (h0 : Heap) (n0 : Nat) (v : Option Value) (h : Heap) (L : List Loc) : Prop := v = some (.int 2) ∧ Fr n0 L ∧ Keep h0 h [rp, ro, rs, rf] ∧ Arv Z h rp kp .int (16 : Int32) [(.int 0), (.int 0), (.int 0), (.int 2)] (.int 0) ∧ Arv Z h ro ko .int (16 : Int32) [(.int ov0), (.int ov1), (.int ((((0 : Int32) + ov1) + jr) - (0 : Int32))), (.int ov3)] (.int 0) ∧ Arv Z h rs ks .int (16 : Int32) [(.int 4), (.int 1), (.int 2), (.int 1)] (.int 0) ∧ Arv Z h rf kf .int (16 : Int32) [(.int (own_max fv0 (fv2 - ((((0 : Int32) + ov1) + jr) - (0 : Int32))))), (.int fv1), (.int fv2), (.int fv3)] (.int 0)
set_option maxRecDepth 65536 in
set_option maxHeartbeats 40000000 in
theorem rmJ12_0022 (l : Launch) (Z : State) (a0 : Array Value) (hw : ∀ d ∈ tables_1, d.before a0 Z = true) (ws : List Jvm.Cond) (a : Addr) (rp : Addr) (ro : Addr) (rs : Addr) (rf : Addr) (kp : ClassId) (ko : ClassId) (ks : ClassId) (kf : ClassId) (ov0 : Int32) (ov1 : Int32) (ov2 : Int32) (ov3 : Int32) (fv0 : Int32) (fv1 : Int32) (fv2 : Int32) (fv3 : Int32) (jr : Int32) (h0 : Heap) (n0 : Nat) (Z0 : n0 ≤ h0.size) (P0 : Exa Z h0 a "com/example/stratal/stratal/logic/StratumGroups") (P1 : Fld Z h0 a "com/example/stratal/stratal/logic/StratumGroups" "mParent" "[I" (.ref rp)) (P2 : Fld Z h0 a "com/example/stratal/stratal/logic/StratumGroups" "mOffset" "[I" (.ref ro)) (P3 : Fld Z h0 a "com/example/stratal/stratal/logic/StratumGroups" "mSize" "[I" (.ref rs)) (P4 : Fld Z h0 a "com/example/stratal/stratal/logic/StratumGroups" "mFloor" "[I" (.ref rf)) (P5 : Fld Z h0 a "com/example/stratal/stratal/logic/StratumGroups" "mRecording" "Z" (.int 0)) (P6 : Arv Z h0 rp kp .int (16 : Int32) [(.int 0), (.int 0), (.int 2), (.int 2)] (.int 0)) (P7 : Arv Z h0 ro ko .int (16 : Int32) [(.int ov0), (.int ov1), (.int ov2), (.int ov3)] (.int 0)) (P8 : Arv Z h0 rs ks .int (16 : Int32) [(.int 2), (.int 1), (.int 2), (.int 1)] (.int 0)) (P9 : Arv Z h0 rf kf .int (16 : Int32) [(.int fv0), (.int fv1), (.int fv2), (.int fv3)] (.int 0)) (P10 : rp ≠ a) (P11 : ro ≠ a) (P12 : rs ≠ a) (P13 : rf ≠ a) (P14 : rp ≠ ro) (P15 : rp ≠ rs) (P16 : rp ≠ rf) (P17 : ro ≠ rs) (P18 : ro ≠ rf) (P19 : rs ≠ rf) (P20 : n0 ≤ rp) (P21 : n0 ≤ ro) (P22 : n0 ≤ rs) (P23 : n0 ≤ rf) :
    MetFree l (⟨"com/example/stratal/stratal/logic/StratumGroups", "join", "(III)I"⟩ : MethodName) (head1 (Jvm.Cond.code (⟨"com/example/stratal/stratal/logic/StratumGroups", "join", "(III)I"⟩ : MethodName) prog_53_method_5_code 8 (some .int) :: ws) ({ frames := 2, cells := 0, slots := 0, locals := 30 } : Room)) (fun aa U => aa = #[(.ref a), (.int 1), (.int 2), (.int jr)] ∧ Z.Warmed39 U.vm ∧ U.heap = h0) (fun _ _ _ _ _ => True) (fun _ U o U' => ∃ v L, o = .returned v ∧ QJ12_0022 Z a rp ro rs rf kp ko ks kf ov0 ov1 ov2 ov3 fv0 fv1 fv2 fv3 jr h0 n0 v U'.heap L ∧ FrameEnd U o U' L ({ frames := 2, cells := 0, slots := 0, locals := 30 } : Room).cells ({ frames := 2, cells := 0, slots := 0, locals := 30 } : Room).slots) := by
  refine MetFree.of_bodySF (plainFor_of_name pn_rmJ12_0022) hisR ?_
  intro p e s m args below meth c s₁ Bd hml0 hP hK
  obtain ⟨rfl, hZ, hh⟩ := hP
  have hx := Bd.exec
  have hby := Bd.bytes
  have hml : c.maxLocals = 8 := hml0
  have hown : s.vm.findClass "com/example/stratal/stratal/logic/StratumGroups" = some m.cls := findClass_of_methodNamed Bd.named
  have hnm := (name_of_methodNamed Bd.named Bd.method).1
  have X0 : Stand p l e ({ frames := 2, cells := 0, slots := 0, locals := 30 } : Room) s m #[(.ref a), (.int 1), (.int 2), (.int jr)] below meth c s₁ [] 0 0 := Stand.of_body Bd
  have e0 : s₁.heap = h0 := by rw [← hh, Bd.state]; rfl
  have N0 := Fr.nil n0
  change OE p.tables e below _ _
  refine OE.v (fun t k => castTop (ef_rmJ12_0022 m a jr) k) ?_
  show OE _ _ _ _ (s₁.setTop (mkF m 0 #[rv a, iv 1, iv 2, iv jr, .unset, .unset, .unset, .unset] []))
  refine OE.v (fun t k => XS.aloadN X0.here hx rfl (hb hby d4_0) rfl rfl k) ?_
  refine OE.v (fun t k => XS.iloadN X0.here hx rfl (hb hby d4_1) rfl k) ?_
  show OE _ _ _ _ (s₁.setTop (mkF m 2 #[rv a, iv 1, iv 2, iv jr, .unset, .unset, .unset, .unset] [(.int 1), (.ref a)]))
  obtain ⟨cq1, kq1, q1a, q1b, q1c⟩ := isOf hZ e0 P0
  obtain ⟨_, _, ⟨T1, L1, k1, n1⟩, -, X1, ⟨Lc1, hQ1, l1, y1, z1⟩, st1⟩ := X0.virtualBack hx (y := (⟨"com/example/stratal/stratal/logic/StratumGroups", "find", "(I)I"⟩ : MethodName)) (z := (⟨"com/example/stratal/stratal/logic/StratumGroups", "find", "(I)I"⟩ : MethodName)) hown (mvT hZ (hw _ (own_w 32 rfl))) (mvT hZ (hw _ (own_w 33 rfl))) (notFace_of_selects (args := #[]) (mvT hZ (hw _ (own_w 35 rfl)))) (mvT hZ (hw _ (own_w 35 rfl))) (mvT hZ (hw _ (own_w 34 rfl))) (by decide) (backOf (W := 0) (rmf1_0022 l Z a0 hw [] a rp kp h0 n0 Z0 P1 P6) hZ (hw _ (own_w 36 rfl)) (hw _ (own_w 2 rfl)) (by decide) (by decide)) q1a q1c (g := (mkF m 2 #[rv a, iv 1, iv 2, iv jr, .unset, .unset, .unset, .unset] [(.int 1), (.ref a)])) rfl (by rw [hml]; rfl) (Steps.refl _) (argsL := [(.int 1)]) (rest := []) (lenOf pd_4 rfl) rfl (Nat.le_of_eq rfl) (hb hby d4_2) (fun _ _ => ⟨rfl, e0, (by decide : 0 + 0 ≤ _), (by decide : 0 + 0 ≤ _)⟩)
  dsimp only [Pt.U, Pt.locs, Pt.cells, Pt.slots] at X1 l1 y1 z1 st1 hQ1
  subst l1 y1 z1
  obtain ⟨rfl, Nq1, e1⟩ := hQ1
  have N1 := Fr.app N0 Nq1
  refine OE.v (fun t k => st1.trans k) ?_
  show OE _ _ _ _ (T1.setTop (mkF m 5 #[rv a, iv 1, iv 2, iv jr, .unset, .unset, .unset, .unset] [(.int 0)]))
  refine OE.v (fun t k => XS.istore X1.here hx rfl (hb hby d4_5) rfl (l' := #[rv a, iv 1, iv 2, iv jr, iv 0, .unset, .unset, .unset]) rfl k) ?_
  refine OE.v (fun t k => XS.aloadN X1.here hx rfl (hb hby d4_7) rfl rfl k) ?_
  refine OE.v (fun t k => XS.iloadN X1.here hx rfl (hb hby d4_8) rfl k) ?_
  show OE _ _ _ _ (T1.setTop (mkF m 9 #[rv a, iv 1, iv 2, iv jr, iv 0, .unset, .unset, .unset] [(.int 2), (.ref a)]))
  obtain ⟨cq2, kq2, q2a, q2b, q2c⟩ := isOf hZ e1 P0
  obtain ⟨_, _, ⟨T2, L2, k2, n2⟩, -, X2, ⟨Lc2, hQ2, l2, y2, z2⟩, st2⟩ := X1.virtualBack hx (y := (⟨"com/example/stratal/stratal/logic/StratumGroups", "find", "(I)I"⟩ : MethodName)) (z := (⟨"com/example/stratal/stratal/logic/StratumGroups", "find", "(I)I"⟩ : MethodName)) hown (mvT hZ (hw _ (own_w 32 rfl))) (mvT hZ (hw _ (own_w 33 rfl))) (notFace_of_selects (args := #[]) (mvT hZ (hw _ (own_w 35 rfl)))) (mvT hZ (hw _ (own_w 35 rfl))) (mvT hZ (hw _ (own_w 34 rfl))) (by decide) (backOf (W := 0) (rmf2_0022 l Z a0 hw [] a rp kp h0 n0 Z0 P1 P6) hZ (hw _ (own_w 36 rfl)) (hw _ (own_w 2 rfl)) (by decide) (by decide)) q2a q2c (g := (mkF m 9 #[rv a, iv 1, iv 2, iv jr, iv 0, .unset, .unset, .unset] [(.int 2), (.ref a)])) rfl (by rw [hml]; rfl) (Steps.refl _) (argsL := [(.int 2)]) (rest := []) (lenOf pd_4 rfl) rfl (Nat.le_of_eq rfl) (hb hby d4_9) (fun _ _ => ⟨rfl, e1, (by decide : 0 + 0 ≤ _), (by decide : 0 + 0 ≤ _)⟩)
  dsimp only [Pt.U, Pt.locs, Pt.cells, Pt.slots] at X2 l2 y2 z2 st2 hQ2
  subst l2 y2 z2
  obtain ⟨rfl, Nq2, e2⟩ := hQ2
  have N2 := Fr.app N1 Nq2
  refine OE.v (fun t k => st2.trans k) ?_
  show OE _ _ _ _ (T2.setTop (mkF m 12 #[rv a, iv 1, iv 2, iv jr, iv 0, .unset, .unset, .unset] [(.int 2)]))
  refine OE.v (fun t k => XS.istore X2.here hx rfl (hb hby d4_12) rfl (l' := #[rv a, iv 1, iv 2, iv jr, iv 0, iv 2, .unset, .unset]) rfl k) ?_
  refine OE.v (fun t k => XS.aloadN X2.here hx rfl (hb hby d4_14) rfl rfl k) ?_
  refine OE.v (fun t k => XS.iloadN X2.here hx rfl (hb hby d4_15) rfl k) ?_
  show OE _ _ _ _ (T2.setTop (mkF m 16 #[rv a, iv 1, iv 2, iv jr, iv 0, iv 2, .unset, .unset] [(.int 1), (.ref a)]))
  obtain ⟨cq3, kq3, q3a, q3b, q3c⟩ := isOf hZ e2 P0
  obtain ⟨_, _, ⟨T3, L3, k3, n3⟩, -, X3, ⟨Lc3, hQ3, l3, y3, z3⟩, st3⟩ := X2.virtualBack hx (y := (⟨"com/example/stratal/stratal/logic/StratumGroups", "offset", "(I)I"⟩ : MethodName)) (z := (⟨"com/example/stratal/stratal/logic/StratumGroups", "offset", "(I)I"⟩ : MethodName)) hown (mvT hZ (hw _ (own_w 37 rfl))) (mvT hZ (hw _ (own_w 38 rfl))) (notFace_of_selects (args := #[]) (mvT hZ (hw _ (own_w 40 rfl)))) (mvT hZ (hw _ (own_w 40 rfl))) (mvT hZ (hw _ (own_w 39 rfl))) (by decide) (backOf (W := 0) (rmo1_0022 l Z a0 hw [] a rp kp ro ko ov0 ov1 ov2 ov3 h0 n0 Z0 P1 P6 P2 P7) hZ (hw _ (own_w 41 rfl)) (hw _ (own_w 2 rfl)) (by decide) (by decide)) q3a q3c (g := (mkF m 16 #[rv a, iv 1, iv 2, iv jr, iv 0, iv 2, .unset, .unset] [(.int 1), (.ref a)])) rfl (by rw [hml]; rfl) (Steps.refl _) (argsL := [(.int 1)]) (rest := []) (lenOf pd_4 rfl) rfl (Nat.le_of_eq rfl) (hb hby d4_16) (fun _ _ => ⟨rfl, e2, (by decide : 0 + 0 ≤ _), (by decide : 0 + 0 ≤ _)⟩)
  dsimp only [Pt.U, Pt.locs, Pt.cells, Pt.slots] at X3 l3 y3 z3 st3 hQ3
  subst l3 y3 z3
  obtain ⟨rfl, Nq3, e3⟩ := hQ3
  have N3 := Fr.app N2 Nq3
  refine OE.v (fun t k => st3.trans k) ?_
  show OE _ _ _ _ (T3.setTop (mkF m 19 #[rv a, iv 1, iv 2, iv jr, iv 0, iv 2, .unset, .unset] [(.int ((0 : Int32) + ov1))]))
  refine OE.v (fun t k => XS.istore X3.here hx rfl (hb hby d4_19) rfl (l' := #[rv a, iv 1, iv 2, iv jr, iv 0, iv 2, iv ((0 : Int32) + ov1), .unset]) rfl k) ?_
  refine OE.v (fun t k => XS.aloadN X3.here hx rfl (hb hby d4_21) rfl rfl k) ?_
  refine OE.v (fun t k => XS.iloadN X3.here hx rfl (hb hby d4_22) rfl k) ?_
  show OE _ _ _ _ (T3.setTop (mkF m 23 #[rv a, iv 1, iv 2, iv jr, iv 0, iv 2, iv ((0 : Int32) + ov1), .unset] [(.int 2), (.ref a)]))
  obtain ⟨cq4, kq4, q4a, q4b, q4c⟩ := isOf hZ e3 P0
  obtain ⟨_, _, ⟨T4, L4, k4, n4⟩, -, X4, ⟨Lc4, hQ4, l4, y4, z4⟩, st4⟩ := X3.virtualBack hx (y := (⟨"com/example/stratal/stratal/logic/StratumGroups", "offset", "(I)I"⟩ : MethodName)) (z := (⟨"com/example/stratal/stratal/logic/StratumGroups", "offset", "(I)I"⟩ : MethodName)) hown (mvT hZ (hw _ (own_w 37 rfl))) (mvT hZ (hw _ (own_w 38 rfl))) (notFace_of_selects (args := #[]) (mvT hZ (hw _ (own_w 40 rfl)))) (mvT hZ (hw _ (own_w 40 rfl))) (mvT hZ (hw _ (own_w 39 rfl))) (by decide) (backOf (W := 0) (rmo2_0022 l Z a0 hw [] a rp kp ro ko ov0 ov1 ov2 ov3 h0 n0 Z0 P1 P6 P2 P7) hZ (hw _ (own_w 41 rfl)) (hw _ (own_w 2 rfl)) (by decide) (by decide)) q4a q4c (g := (mkF m 23 #[rv a, iv 1, iv 2, iv jr, iv 0, iv 2, iv ((0 : Int32) + ov1), .unset] [(.int 2), (.ref a)])) rfl (by rw [hml]; rfl) (Steps.refl _) (argsL := [(.int 2)]) (rest := []) (lenOf pd_4 rfl) rfl (Nat.le_of_eq rfl) (hb hby d4_23) (fun _ _ => ⟨rfl, e3, (by decide : 0 + 0 ≤ _), (by decide : 0 + 0 ≤ _)⟩)
  dsimp only [Pt.U, Pt.locs, Pt.cells, Pt.slots] at X4 l4 y4 z4 st4 hQ4
  subst l4 y4 z4
  obtain ⟨rfl, Nq4, e4⟩ := hQ4
  have N4 := Fr.app N3 Nq4
  refine OE.v (fun t k => st4.trans k) ?_
  show OE _ _ _ _ (T4.setTop (mkF m 26 #[rv a, iv 1, iv 2, iv jr, iv 0, iv 2, iv ((0 : Int32) + ov1), .unset] [(.int 0)]))
  refine OE.v (fun t k => XS.istore X4.here hx rfl (hb hby d4_26) rfl (l' := #[rv a, iv 1, iv 2, iv jr, iv 0, iv 2, iv ((0 : Int32) + ov1), iv 0]) rfl k) ?_
  refine OE.v (fun t k => XS.iload X4.here hx rfl (hb hby d4_28) rfl k) ?_
  refine OE.v (fun t k => XS.iload X4.here hx rfl (hb hby d4_30) rfl k) ?_
  show OE _ _ _ _ (T4.setTop (mkF m 32 #[rv a, iv 1, iv 2, iv jr, iv 0, iv 2, iv ((0 : Int32) + ov1), iv 0] [(.int 2), (.int 0)]))
  refine OE.v (fun t k => XS.icmpYes X4.here hx rfl (pc0 := 32) (pc' := 67) rfl (hb hby d4_32) rfl (feq (by decide)).2 (by decide) (by decide) k) ?_
  show OE _ _ _ _ (T4.setTop (mkF m 67 #[rv a, iv 1, iv 2, iv jr, iv 0, iv 2, iv ((0 : Int32) + ov1), iv 0] []))
  refine OE.v (fun t k => XS.aloadN X4.here hx rfl (hb hby d4_67) rfl rfl k) ?_
  show OE _ _ _ _ (T4.setTop (mkF m 68 #[rv a, iv 1, iv 2, iv jr, iv 0, iv 2, iv ((0 : Int32) + ov1), iv 0] [(.ref a)]))
  obtain ⟨T5, X5, e5, st5⟩ := getF X4 hx hZ hown (host := "") (Or.inl (hw _ (own_w 14 rfl))) Via.refl e4 P3 (g := (mkF m 68 #[rv a, iv 1, iv 2, iv jr, iv 0, iv 2, iv ((0 : Int32) + ov1), iv 0] [(.ref a)])) rfl rfl (hb hby d4_68)
  refine OE.v st5 ?_
  show OE _ _ _ _ (T5.setTop (mkF m 71 #[rv a, iv 1, iv 2, iv jr, iv 0, iv 2, iv ((0 : Int32) + ov1), iv 0] [(.ref rs)]))
  refine OE.v (fun t k => XS.iload X5.here hx rfl (hb hby d4_71) rfl k) ?_
  show OE _ _ _ _ (T5.setTop (mkF m 73 #[rv a, iv 1, iv 2, iv jr, iv 0, iv 2, iv ((0 : Int32) + ov1), iv 0] [(.int 0), (.ref rs)]))
  obtain ⟨cl6, Ar6, q6, S6, M6, H6, G6⟩ := id P8
  have hin6 : ¬ ((0 : Int32) < 0 ∨ cl6.slots.size ≤ ((0 : Int32)).toNatClampNeg) := inb_of S6 ⟨by decide, by decide⟩
  have hat6 : cl6.slots[((0 : Int32)).toNatClampNeg]? = some (.int 2) := H6.at hin6 rfl
  refine OE.v (X5.iaload hx (j := (0 : Int32)) (v := (.int 2)) (by rw [e5]; exact Ar6.1) (State.isArrayOf_alike hZ.alike Ar6.2.1) Ar6.2.2 hin6 hat6 (g := (mkF m 73 #[rv a, iv 1, iv 2, iv jr, iv 0, iv 2, iv ((0 : Int32) + ov1), iv 0] [(.int 0), (.ref rs)])) rfl rfl (hb hby d4_73)) ?_
  show OE _ _ _ _ (T5.setTop (mkF m 74 #[rv a, iv 1, iv 2, iv jr, iv 0, iv 2, iv ((0 : Int32) + ov1), iv 0] [(.int 2)]))
  refine OE.v (fun t k => XS.aloadN X5.here hx rfl (hb hby d4_74) rfl rfl k) ?_
  show OE _ _ _ _ (T5.setTop (mkF m 75 #[rv a, iv 1, iv 2, iv jr, iv 0, iv 2, iv ((0 : Int32) + ov1), iv 0] [(.ref a), (.int 2)]))
  obtain ⟨T7, X7, e7, st7⟩ := getF X5 hx hZ hown (host := "") (Or.inl (hw _ (own_w 14 rfl))) Via.refl e5 P3 (g := (mkF m 75 #[rv a, iv 1, iv 2, iv jr, iv 0, iv 2, iv ((0 : Int32) + ov1), iv 0] [(.ref a), (.int 2)])) rfl rfl (hb hby d4_75)
  refine OE.v st7 ?_
  show OE _ _ _ _ (T7.setTop (mkF m 78 #[rv a, iv 1, iv 2, iv jr, iv 0, iv 2, iv ((0 : Int32) + ov1), iv 0] [(.ref rs), (.int 2)]))
  refine OE.v (fun t k => XS.iload X7.here hx rfl (hb hby d4_78) rfl k) ?_
  show OE _ _ _ _ (T7.setTop (mkF m 80 #[rv a, iv 1, iv 2, iv jr, iv 0, iv 2, iv ((0 : Int32) + ov1), iv 0] [(.int 2), (.ref rs), (.int 2)]))
  obtain ⟨cl8, Ar8, q8, S8, M8, H8, G8⟩ := id P8
  have hin8 : ¬ ((2 : Int32) < 0 ∨ cl8.slots.size ≤ ((2 : Int32)).toNatClampNeg) := inb_of S8 ⟨by decide, by decide⟩
  have hat8 : cl8.slots[((2 : Int32)).toNatClampNeg]? = some (.int 2) := H8.at hin8 rfl
  refine OE.v (X7.iaload hx (j := (2 : Int32)) (v := (.int 2)) (by rw [e7]; exact Ar8.1) (State.isArrayOf_alike hZ.alike Ar8.2.1) Ar8.2.2 hin8 hat8 (g := (mkF m 80 #[rv a, iv 1, iv 2, iv jr, iv 0, iv 2, iv ((0 : Int32) + ov1), iv 0] [(.int 2), (.ref rs), (.int 2)])) rfl rfl (hb hby d4_80)) ?_
  show OE _ _ _ _ (T7.setTop (mkF m 81 #[rv a, iv 1, iv 2, iv jr, iv 0, iv 2, iv ((0 : Int32) + ov1), iv 0] [(.int 2), (.int 2)]))
  refine OE.v (fun t k => XS.icmpYes X7.here hx rfl (pc0 := 81) (pc' := 101) rfl (hb hby d4_81) rfl (flt (by decide)).2.1 (by decide) (by decide) k) ?_
  show OE _ _ _ _ (T7.setTop (mkF m 101 #[rv a, iv 1, iv 2, iv jr, iv 0, iv 2, iv ((0 : Int32) + ov1), iv 0] []))
  refine OE.v (fun t k => XS.aloadN X7.here hx rfl (hb hby d4_101) rfl rfl k) ?_
  refine OE.v (fun t k => XS.iload X7.here hx rfl (hb hby d4_102) rfl k) ?_
  refine OE.v (fun t k => XS.iload X7.here hx rfl (hb hby d4_104) rfl k) ?_
  refine OE.v (fun t k => XS.iload X7.here hx rfl (hb hby d4_106) rfl k) ?_
  refine OE.v (fun t k => XS.iloadN X7.here hx rfl (hb hby d4_108) rfl k) ?_
  refine OE.v (fun t k => XS.iadd X7.here hx rfl (hb hby d4_109) rfl k) ?_
  show OE _ _ _ _ (T7.setTop (mkF m 110 #[rv a, iv 1, iv 2, iv jr, iv 0, iv 2, iv ((0 : Int32) + ov1), iv 0] [(.int (((0 : Int32) + ov1) + jr)), (.int 0), (.int 2), (.ref a)]))
  refine OE.v (fun t k => XS.iload X7.here hx rfl (hb hby d4_110) rfl k) ?_
  refine OE.v (fun t k => XS.isub X7.here hx rfl (hb hby d4_112) rfl k) ?_
  show OE _ _ _ _ (T7.setTop (mkF m 113 #[rv a, iv 1, iv 2, iv jr, iv 0, iv 2, iv ((0 : Int32) + ov1), iv 0] [(.int ((((0 : Int32) + ov1) + jr) - (0 : Int32))), (.int 0), (.int 2), (.ref a)]))
  obtain ⟨cq9, q9, q9'⟩ := P0.cell
  obtain ⟨_, _, ⟨T9, L9, k9, n9⟩, -, X9, ⟨Lc9, hQ9, l9, y9, z9⟩, st9⟩ := X7.privateBack hx (y := (⟨"com/example/stratal/stratal/logic/StratumGroups", "hang", "(III)V"⟩ : MethodName)) hown (mvT hZ (hw _ (own_w 42 rfl))) (mvT hZ (hw _ (own_w 43 rfl))) (own_selp (mvT hZ (hw _ (own_w 1 rfl))) (Cond.privateMethod_at (mvP hZ (hw _ (own_w 44 rfl)) (args := #[]))) (mvT hZ (hw _ (own_w 43 rfl))) (by decide)) (Cond.privateMethod_at (mvP hZ (hw _ (own_w 44 rfl)) (args := #[]))) (mvT hZ (hw _ (own_w 45 rfl))) (by decide) (backOf (W := 0) (rmH20_0022 l Z a0 hw [] a rp ro rs rf kp ko ks kf ov0 ov1 ov2 ov3 fv0 fv1 fv2 fv3 ((((0 : Int32) + ov1) + jr) - (0 : Int32)) h0 n0 Z0 P0 P1 P2 P3 P4 P5 P6 P7 P8 P9 P10 P11 P12 P13 P14 P15 P16 P17 P18 P19 P20 P21 P22 P23) hZ (hw _ (own_w 45 rfl)) (hw _ (own_w 2 rfl)) (by decide) (by decide)) (g := (mkF m 113 #[rv a, iv 1, iv 2, iv jr, iv 0, iv 2, iv ((0 : Int32) + ov1), iv 0] [(.int ((((0 : Int32) + ov1) + jr) - (0 : Int32))), (.int 0), (.int 2), (.ref a)])) rfl (by rw [hml]; rfl) (Steps.refl _) (a := a) (by rw [e7]; exact q9) q9' (argsL := [(.int 2), (.int 0), (.int ((((0 : Int32) + ov1) + jr) - (0 : Int32)))]) (rest := []) (lenOf pd_2 rfl) rfl (Nat.le_of_eq rfl) (hb hby d4_113) (fun _ _ => ⟨rfl, e7, (by decide : 0 + 0 ≤ _), (by decide : 0 + 0 ≤ _)⟩)
  dsimp only [Pt.U, Pt.locs, Pt.cells, Pt.slots] at X9 l9 y9 z9 st9 hQ9
  subst l9 y9 z9
  obtain ⟨h9, e9⟩ : ∃ z, T9.heap = z := ⟨_, rfl⟩
  rw [e9] at hQ9
  obtain ⟨rfl, Nq9, Kq9, q9_0, q9_1, q9_2, q9_3⟩ := hQ9
  have Z9 : n0 ≤ h9.size := Nat.le_trans Z0 Kq9.1
  have K9 : Keep h0 h9 [rp, ro, rs, rf] := (Keep.refl h0 [rp, ro, rs, rf]).trans Kq9 (allS (Or.inl (by simp)) (allS (Or.inl (by simp)) (allS (Or.inl (by simp)) (allS (Or.inl (by simp)) all0))))
  have N9 := Fr.app N4 Nq9
  refine OE.v (fun t k => st9.trans k) ?_
  show OE _ _ _ _ (T9.setTop (mkF m 116 #[rv a, iv 1, iv 2, iv jr, iv 0, iv 2, iv ((0 : Int32) + ov1), iv 0] []))
  refine OE.v (fun t k => XS.iloadN X9.here hx rfl (hb hby d4_116) rfl k) ?_
  show OE _ _ _ _ (T9.setTop (mkF m 117 #[rv a, iv 1, iv 2, iv jr, iv 0, iv 2, iv ((0 : Int32) + ov1), iv 0] [(.int 2)]))
  obtain ⟨fs, hr, hrun, hended, hW, hsame⟩ := X9.leave (v := some (.int 2)) (fun h => by rw [Bd.returns] at h; cases h)
  refine ⟨_, _, ?_, hrun, hended, _, _, rfl, ?_, ⟨_, rfl⟩, hW, hsame.mono (by decide) (by decide)⟩
  · exact retI X9 hx Bd.returns (hb hby d4_117) hr
  · show QJ12_0022 Z a rp ro rs rf kp ko ks kf ov0 ov1 ov2 ov3 fv0 fv1 fv2 fv3 jr h0 n0 _ T9.heap _
    rw [e9]
    exact ⟨rfl, N9, K9, q9_0, q9_1, q9_2, q9_3⟩

theorem pn_rmJ13_0022 : plainName "com/example/stratal/stratal/logic/StratumGroups" = true := by first | (simp [plainName, overriddenIn]; done) | decide +kernel
theorem ef_rmJ13_0022 (m : MethodId) (a : Addr) (jr : Int32) : entryFrame m #[(.ref a), (.int 1), (.int 3), (.int jr)] 8 = mkF m 0 #[rv a, iv 1, iv 3, iv jr, .unset, .unset, .unset, .unset] [] := by first | (simp [entryFrame, mkF, argsToLocals, Value.category]; done) | rfl
def QJ13_0022 (Z : State) (a : Addr) (rp : Addr) (ro : Addr) (rs : Addr) (rf : Addr) (kp : ClassId) (ko : ClassId) (ks : ClassId) (kf : ClassId) (ov0 : Int32) (ov1 : Int32) (ov2 : Int32) (ov3 : Int32) (fv0 : Int32) (fv1 : Int32) (fv2 : Int32) (fv3 : Int32) (jr : Int32) (h0 : Heap) (n0 : Nat) (v : Option Value) (h : Heap) (L : List Loc) : Prop := v = some (.int 3) ∧ Fr n0 L ∧ Keep h0 h [rp, ro, rs, rf] ∧ Arv Z h rp kp .int (16 : Int32) [(.int 0), (.int 0), (.int 0), (.int 2)] (.int 0) ∧ Arv Z h ro ko .int (16 : Int32) [(.int ov0), (.int ov1), (.int ((((0 : Int32) + ov1) + jr) - ((0 : Int32) + ov3))), (.int ov3)] (.int 0) ∧ Arv Z h rs ks .int (16 : Int32) [(.int 4), (.int 1), (.int 2), (.int 1)] (.int 0) ∧ Arv Z h rf kf .int (16 : Int32) [(.int (own_max fv0 (fv2 - ((((0 : Int32) + ov1) + jr) - ((0 : Int32) + ov3))))), (.int fv1), (.int fv2), (.int fv3)] (.int 0)
set_option maxRecDepth 65536 in
set_option maxHeartbeats 40000000 in
theorem rmJ13_0022 (l : Launch) (Z : State) (a0 : Array Value) (hw : ∀ d ∈ tables_1, d.before a0 Z = true) (ws : List Jvm.Cond) (a : Addr) (rp : Addr) (ro : Addr) (rs : Addr) (rf : Addr) (kp : ClassId) (ko : ClassId) (ks : ClassId) (kf : ClassId) (ov0 : Int32) (ov1 : Int32) (ov2 : Int32) (ov3 : Int32) (fv0 : Int32) (fv1 : Int32) (fv2 : Int32) (fv3 : Int32) (jr : Int32) (h0 : Heap) (n0 : Nat) (Z0 : n0 ≤ h0.size) (P0 : Exa Z h0 a "com/example/stratal/stratal/logic/StratumGroups") (P1 : Fld Z h0 a "com/example/stratal/stratal/logic/StratumGroups" "mParent" "[I" (.ref rp)) (P2 : Fld Z h0 a "com/example/stratal/stratal/logic/StratumGroups" "mOffset" "[I" (.ref ro)) (P3 : Fld Z h0 a "com/example/stratal/stratal/logic/StratumGroups" "mSize" "[I" (.ref rs)) (P4 : Fld Z h0 a "com/example/stratal/stratal/logic/StratumGroups" "mFloor" "[I" (.ref rf)) (P5 : Fld Z h0 a "com/example/stratal/stratal/logic/StratumGroups" "mRecording" "Z" (.int 0)) (P6 : Arv Z h0 rp kp .int (16 : Int32) [(.int 0), (.int 0), (.int 2), (.int 2)] (.int 0)) (P7 : Arv Z h0 ro ko .int (16 : Int32) [(.int ov0), (.int ov1), (.int ov2), (.int ov3)] (.int 0)) (P8 : Arv Z h0 rs ks .int (16 : Int32) [(.int 2), (.int 1), (.int 2), (.int 1)] (.int 0)) (P9 : Arv Z h0 rf kf .int (16 : Int32) [(.int fv0), (.int fv1), (.int fv2), (.int fv3)] (.int 0)) (P10 : rp ≠ a) (P11 : ro ≠ a) (P12 : rs ≠ a) (P13 : rf ≠ a) (P14 : rp ≠ ro) (P15 : rp ≠ rs) (P16 : rp ≠ rf) (P17 : ro ≠ rs) (P18 : ro ≠ rf) (P19 : rs ≠ rf) (P20 : n0 ≤ rp) (P21 : n0 ≤ ro) (P22 : n0 ≤ rs) (P23 : n0 ≤ rf) :
    MetFree l (⟨"com/example/stratal/stratal/logic/StratumGroups", "join", "(III)I"⟩ : MethodName) (head1 (Jvm.Cond.code (⟨"com/example/stratal/stratal/logic/StratumGroups", "join", "(III)I"⟩ : MethodName) prog_53_method_5_code 8 (some .int) :: ws) ({ frames := 2, cells := 0, slots := 0, locals := 30 } : Room)) (fun aa U => aa = #[(.ref a), (.int 1), (.int 3), (.int jr)] ∧ Z.Warmed39 U.vm ∧ U.heap = h0) (fun _ _ _ _ _ => True) (fun _ U o U' => ∃ v L, o = .returned v ∧ QJ13_0022 Z a rp ro rs rf kp ko ks kf ov0 ov1 ov2 ov3 fv0 fv1 fv2 fv3 jr h0 n0 v U'.heap L ∧ FrameEnd U o U' L ({ frames := 2, cells := 0, slots := 0, locals := 30 } : Room).cells ({ frames := 2, cells := 0, slots := 0, locals := 30 } : Room).slots) := by
  refine MetFree.of_bodySF (plainFor_of_name pn_rmJ13_0022) hisR ?_
  intro p e s m args below meth c s₁ Bd hml0 hP hK
  obtain ⟨rfl, hZ, hh⟩ := hP
  have hx := Bd.exec
  have hby := Bd.bytes
  have hml : c.maxLocals = 8 := hml0
  have hown : s.vm.findClass "com/example/stratal/stratal/logic/StratumGroups" = some m.cls := findClass_of_methodNamed Bd.named
  have hnm := (name_of_methodNamed Bd.named Bd.method).1
  have X0 : Stand p l e ({ frames := 2, cells := 0, slots := 0, locals := 30 } : Room) s m #[(.ref a), (.int 1), (.int 3), (.int jr)] below meth c s₁ [] 0 0 := Stand.of_body Bd
  have e0 : s₁.heap = h0 := by rw [← hh, Bd.state]; rfl
  have N0 := Fr.nil n0
  change OE p.tables e below _ _
  refine OE.v (fun t k => castTop (ef_rmJ13_0022 m a jr) k) ?_
  show OE _ _ _ _ (s₁.setTop (mkF m 0 #[rv a, iv 1, iv 3, iv jr, .unset, .unset, .unset, .unset] []))
  refine OE.v (fun t k => XS.aloadN X0.here hx rfl (hb hby d4_0) rfl rfl k) ?_
  refine OE.v (fun t k => XS.iloadN X0.here hx rfl (hb hby d4_1) rfl k) ?_
  show OE _ _ _ _ (s₁.setTop (mkF m 2 #[rv a, iv 1, iv 3, iv jr, .unset, .unset, .unset, .unset] [(.int 1), (.ref a)]))
  obtain ⟨cq1, kq1, q1a, q1b, q1c⟩ := isOf hZ e0 P0
  obtain ⟨_, _, ⟨T1, L1, k1, n1⟩, -, X1, ⟨Lc1, hQ1, l1, y1, z1⟩, st1⟩ := X0.virtualBack hx (y := (⟨"com/example/stratal/stratal/logic/StratumGroups", "find", "(I)I"⟩ : MethodName)) (z := (⟨"com/example/stratal/stratal/logic/StratumGroups", "find", "(I)I"⟩ : MethodName)) hown (mvT hZ (hw _ (own_w 32 rfl))) (mvT hZ (hw _ (own_w 33 rfl))) (notFace_of_selects (args := #[]) (mvT hZ (hw _ (own_w 35 rfl)))) (mvT hZ (hw _ (own_w 35 rfl))) (mvT hZ (hw _ (own_w 34 rfl))) (by decide) (backOf (W := 0) (rmf1_0022 l Z a0 hw [] a rp kp h0 n0 Z0 P1 P6) hZ (hw _ (own_w 36 rfl)) (hw _ (own_w 2 rfl)) (by decide) (by decide)) q1a q1c (g := (mkF m 2 #[rv a, iv 1, iv 3, iv jr, .unset, .unset, .unset, .unset] [(.int 1), (.ref a)])) rfl (by rw [hml]; rfl) (Steps.refl _) (argsL := [(.int 1)]) (rest := []) (lenOf pd_4 rfl) rfl (Nat.le_of_eq rfl) (hb hby d4_2) (fun _ _ => ⟨rfl, e0, (by decide : 0 + 0 ≤ _), (by decide : 0 + 0 ≤ _)⟩)
  dsimp only [Pt.U, Pt.locs, Pt.cells, Pt.slots] at X1 l1 y1 z1 st1 hQ1
  subst l1 y1 z1
  obtain ⟨rfl, Nq1, e1⟩ := hQ1
  have N1 := Fr.app N0 Nq1
  refine OE.v (fun t k => st1.trans k) ?_
  show OE _ _ _ _ (T1.setTop (mkF m 5 #[rv a, iv 1, iv 3, iv jr, .unset, .unset, .unset, .unset] [(.int 0)]))
  refine OE.v (fun t k => XS.istore X1.here hx rfl (hb hby d4_5) rfl (l' := #[rv a, iv 1, iv 3, iv jr, iv 0, .unset, .unset, .unset]) rfl k) ?_
  refine OE.v (fun t k => XS.aloadN X1.here hx rfl (hb hby d4_7) rfl rfl k) ?_
  refine OE.v (fun t k => XS.iloadN X1.here hx rfl (hb hby d4_8) rfl k) ?_
  show OE _ _ _ _ (T1.setTop (mkF m 9 #[rv a, iv 1, iv 3, iv jr, iv 0, .unset, .unset, .unset] [(.int 3), (.ref a)]))
  obtain ⟨cq2, kq2, q2a, q2b, q2c⟩ := isOf hZ e1 P0
  obtain ⟨_, _, ⟨T2, L2, k2, n2⟩, -, X2, ⟨Lc2, hQ2, l2, y2, z2⟩, st2⟩ := X1.virtualBack hx (y := (⟨"com/example/stratal/stratal/logic/StratumGroups", "find", "(I)I"⟩ : MethodName)) (z := (⟨"com/example/stratal/stratal/logic/StratumGroups", "find", "(I)I"⟩ : MethodName)) hown (mvT hZ (hw _ (own_w 32 rfl))) (mvT hZ (hw _ (own_w 33 rfl))) (notFace_of_selects (args := #[]) (mvT hZ (hw _ (own_w 35 rfl)))) (mvT hZ (hw _ (own_w 35 rfl))) (mvT hZ (hw _ (own_w 34 rfl))) (by decide) (backOf (W := 0) (rmf3_0022 l Z a0 hw [] a rp kp h0 n0 Z0 P1 P6) hZ (hw _ (own_w 36 rfl)) (hw _ (own_w 2 rfl)) (by decide) (by decide)) q2a q2c (g := (mkF m 9 #[rv a, iv 1, iv 3, iv jr, iv 0, .unset, .unset, .unset] [(.int 3), (.ref a)])) rfl (by rw [hml]; rfl) (Steps.refl _) (argsL := [(.int 3)]) (rest := []) (lenOf pd_4 rfl) rfl (Nat.le_of_eq rfl) (hb hby d4_9) (fun _ _ => ⟨rfl, e1, (by decide : 0 + 0 ≤ _), (by decide : 0 + 0 ≤ _)⟩)
  dsimp only [Pt.U, Pt.locs, Pt.cells, Pt.slots] at X2 l2 y2 z2 st2 hQ2
  subst l2 y2 z2
  obtain ⟨rfl, Nq2, e2⟩ := hQ2
  have N2 := Fr.app N1 Nq2
  refine OE.v (fun t k => st2.trans k) ?_
  show OE _ _ _ _ (T2.setTop (mkF m 12 #[rv a, iv 1, iv 3, iv jr, iv 0, .unset, .unset, .unset] [(.int 2)]))
  refine OE.v (fun t k => XS.istore X2.here hx rfl (hb hby d4_12) rfl (l' := #[rv a, iv 1, iv 3, iv jr, iv 0, iv 2, .unset, .unset]) rfl k) ?_
  refine OE.v (fun t k => XS.aloadN X2.here hx rfl (hb hby d4_14) rfl rfl k) ?_
  refine OE.v (fun t k => XS.iloadN X2.here hx rfl (hb hby d4_15) rfl k) ?_
  show OE _ _ _ _ (T2.setTop (mkF m 16 #[rv a, iv 1, iv 3, iv jr, iv 0, iv 2, .unset, .unset] [(.int 1), (.ref a)]))
  obtain ⟨cq3, kq3, q3a, q3b, q3c⟩ := isOf hZ e2 P0
  obtain ⟨_, _, ⟨T3, L3, k3, n3⟩, -, X3, ⟨Lc3, hQ3, l3, y3, z3⟩, st3⟩ := X2.virtualBack hx (y := (⟨"com/example/stratal/stratal/logic/StratumGroups", "offset", "(I)I"⟩ : MethodName)) (z := (⟨"com/example/stratal/stratal/logic/StratumGroups", "offset", "(I)I"⟩ : MethodName)) hown (mvT hZ (hw _ (own_w 37 rfl))) (mvT hZ (hw _ (own_w 38 rfl))) (notFace_of_selects (args := #[]) (mvT hZ (hw _ (own_w 40 rfl)))) (mvT hZ (hw _ (own_w 40 rfl))) (mvT hZ (hw _ (own_w 39 rfl))) (by decide) (backOf (W := 0) (rmo1_0022 l Z a0 hw [] a rp kp ro ko ov0 ov1 ov2 ov3 h0 n0 Z0 P1 P6 P2 P7) hZ (hw _ (own_w 41 rfl)) (hw _ (own_w 2 rfl)) (by decide) (by decide)) q3a q3c (g := (mkF m 16 #[rv a, iv 1, iv 3, iv jr, iv 0, iv 2, .unset, .unset] [(.int 1), (.ref a)])) rfl (by rw [hml]; rfl) (Steps.refl _) (argsL := [(.int 1)]) (rest := []) (lenOf pd_4 rfl) rfl (Nat.le_of_eq rfl) (hb hby d4_16) (fun _ _ => ⟨rfl, e2, (by decide : 0 + 0 ≤ _), (by decide : 0 + 0 ≤ _)⟩)
  dsimp only [Pt.U, Pt.locs, Pt.cells, Pt.slots] at X3 l3 y3 z3 st3 hQ3
  subst l3 y3 z3
  obtain ⟨rfl, Nq3, e3⟩ := hQ3
  have N3 := Fr.app N2 Nq3
  refine OE.v (fun t k => st3.trans k) ?_
  show OE _ _ _ _ (T3.setTop (mkF m 19 #[rv a, iv 1, iv 3, iv jr, iv 0, iv 2, .unset, .unset] [(.int ((0 : Int32) + ov1))]))
  refine OE.v (fun t k => XS.istore X3.here hx rfl (hb hby d4_19) rfl (l' := #[rv a, iv 1, iv 3, iv jr, iv 0, iv 2, iv ((0 : Int32) + ov1), .unset]) rfl k) ?_
  refine OE.v (fun t k => XS.aloadN X3.here hx rfl (hb hby d4_21) rfl rfl k) ?_
  refine OE.v (fun t k => XS.iloadN X3.here hx rfl (hb hby d4_22) rfl k) ?_
  show OE _ _ _ _ (T3.setTop (mkF m 23 #[rv a, iv 1, iv 3, iv jr, iv 0, iv 2, iv ((0 : Int32) + ov1), .unset] [(.int 3), (.ref a)]))
  obtain ⟨cq4, kq4, q4a, q4b, q4c⟩ := isOf hZ e3 P0
  obtain ⟨_, _, ⟨T4, L4, k4, n4⟩, -, X4, ⟨Lc4, hQ4, l4, y4, z4⟩, st4⟩ := X3.virtualBack hx (y := (⟨"com/example/stratal/stratal/logic/StratumGroups", "offset", "(I)I"⟩ : MethodName)) (z := (⟨"com/example/stratal/stratal/logic/StratumGroups", "offset", "(I)I"⟩ : MethodName)) hown (mvT hZ (hw _ (own_w 37 rfl))) (mvT hZ (hw _ (own_w 38 rfl))) (notFace_of_selects (args := #[]) (mvT hZ (hw _ (own_w 40 rfl)))) (mvT hZ (hw _ (own_w 40 rfl))) (mvT hZ (hw _ (own_w 39 rfl))) (by decide) (backOf (W := 0) (rmo3_0022 l Z a0 hw [] a rp kp ro ko ov0 ov1 ov2 ov3 h0 n0 Z0 P1 P6 P2 P7) hZ (hw _ (own_w 41 rfl)) (hw _ (own_w 2 rfl)) (by decide) (by decide)) q4a q4c (g := (mkF m 23 #[rv a, iv 1, iv 3, iv jr, iv 0, iv 2, iv ((0 : Int32) + ov1), .unset] [(.int 3), (.ref a)])) rfl (by rw [hml]; rfl) (Steps.refl _) (argsL := [(.int 3)]) (rest := []) (lenOf pd_4 rfl) rfl (Nat.le_of_eq rfl) (hb hby d4_23) (fun _ _ => ⟨rfl, e3, (by decide : 0 + 0 ≤ _), (by decide : 0 + 0 ≤ _)⟩)
  dsimp only [Pt.U, Pt.locs, Pt.cells, Pt.slots] at X4 l4 y4 z4 st4 hQ4
  subst l4 y4 z4
  obtain ⟨rfl, Nq4, e4⟩ := hQ4
  have N4 := Fr.app N3 Nq4
  refine OE.v (fun t k => st4.trans k) ?_
  show OE _ _ _ _ (T4.setTop (mkF m 26 #[rv a, iv 1, iv 3, iv jr, iv 0, iv 2, iv ((0 : Int32) + ov1), .unset] [(.int ((0 : Int32) + ov3))]))
  refine OE.v (fun t k => XS.istore X4.here hx rfl (hb hby d4_26) rfl (l' := #[rv a, iv 1, iv 3, iv jr, iv 0, iv 2, iv ((0 : Int32) + ov1), iv ((0 : Int32) + ov3)]) rfl k) ?_
  refine OE.v (fun t k => XS.iload X4.here hx rfl (hb hby d4_28) rfl k) ?_
  refine OE.v (fun t k => XS.iload X4.here hx rfl (hb hby d4_30) rfl k) ?_
  show OE _ _ _ _ (T4.setTop (mkF m 32 #[rv a, iv 1, iv 3, iv jr, iv 0, iv 2, iv ((0 : Int32) + ov1), iv ((0 : Int32) + ov3)] [(.int 2), (.int 0)]))
  refine OE.v (fun t k => XS.icmpYes X4.here hx rfl (pc0 := 32) (pc' := 67) rfl (hb hby d4_32) rfl (feq (by decide)).2 (by decide) (by decide) k) ?_
  show OE _ _ _ _ (T4.setTop (mkF m 67 #[rv a, iv 1, iv 3, iv jr, iv 0, iv 2, iv ((0 : Int32) + ov1), iv ((0 : Int32) + ov3)] []))
  refine OE.v (fun t k => XS.aloadN X4.here hx rfl (hb hby d4_67) rfl rfl k) ?_
  show OE _ _ _ _ (T4.setTop (mkF m 68 #[rv a, iv 1, iv 3, iv jr, iv 0, iv 2, iv ((0 : Int32) + ov1), iv ((0 : Int32) + ov3)] [(.ref a)]))
  obtain ⟨T5, X5, e5, st5⟩ := getF X4 hx hZ hown (host := "") (Or.inl (hw _ (own_w 14 rfl))) Via.refl e4 P3 (g := (mkF m 68 #[rv a, iv 1, iv 3, iv jr, iv 0, iv 2, iv ((0 : Int32) + ov1), iv ((0 : Int32) + ov3)] [(.ref a)])) rfl rfl (hb hby d4_68)
  refine OE.v st5 ?_
  show OE _ _ _ _ (T5.setTop (mkF m 71 #[rv a, iv 1, iv 3, iv jr, iv 0, iv 2, iv ((0 : Int32) + ov1), iv ((0 : Int32) + ov3)] [(.ref rs)]))
  refine OE.v (fun t k => XS.iload X5.here hx rfl (hb hby d4_71) rfl k) ?_
  show OE _ _ _ _ (T5.setTop (mkF m 73 #[rv a, iv 1, iv 3, iv jr, iv 0, iv 2, iv ((0 : Int32) + ov1), iv ((0 : Int32) + ov3)] [(.int 0), (.ref rs)]))
  obtain ⟨cl6, Ar6, q6, S6, M6, H6, G6⟩ := id P8
  have hin6 : ¬ ((0 : Int32) < 0 ∨ cl6.slots.size ≤ ((0 : Int32)).toNatClampNeg) := inb_of S6 ⟨by decide, by decide⟩
  have hat6 : cl6.slots[((0 : Int32)).toNatClampNeg]? = some (.int 2) := H6.at hin6 rfl
  refine OE.v (X5.iaload hx (j := (0 : Int32)) (v := (.int 2)) (by rw [e5]; exact Ar6.1) (State.isArrayOf_alike hZ.alike Ar6.2.1) Ar6.2.2 hin6 hat6 (g := (mkF m 73 #[rv a, iv 1, iv 3, iv jr, iv 0, iv 2, iv ((0 : Int32) + ov1), iv ((0 : Int32) + ov3)] [(.int 0), (.ref rs)])) rfl rfl (hb hby d4_73)) ?_
  show OE _ _ _ _ (T5.setTop (mkF m 74 #[rv a, iv 1, iv 3, iv jr, iv 0, iv 2, iv ((0 : Int32) + ov1), iv ((0 : Int32) + ov3)] [(.int 2)]))
  refine OE.v (fun t k => XS.aloadN X5.here hx rfl (hb hby d4_74) rfl rfl k) ?_
  show OE _ _ _ _ (T5.setTop (mkF m 75 #[rv a, iv 1, iv 3, iv jr, iv 0, iv 2, iv ((0 : Int32) + ov1), iv ((0 : Int32) + ov3)] [(.ref a), (.int 2)]))
  obtain ⟨T7, X7, e7, st7⟩ := getF X5 hx hZ hown (host := "") (Or.inl (hw _ (own_w 14 rfl))) Via.refl e5 P3 (g := (mkF m 75 #[rv a, iv 1, iv 3, iv jr, iv 0, iv 2, iv ((0 : Int32) + ov1), iv ((0 : Int32) + ov3)] [(.ref a), (.int 2)])) rfl rfl (hb hby d4_75)
  refine OE.v st7 ?_
  show OE _ _ _ _ (T7.setTop (mkF m 78 #[rv a, iv 1, iv 3, iv jr, iv 0, iv 2, iv ((0 : Int32) + ov1), iv ((0 : Int32) + ov3)] [(.ref rs), (.int 2)]))
  refine OE.v (fun t k => XS.iload X7.here hx rfl (hb hby d4_78) rfl k) ?_
  show OE _ _ _ _ (T7.setTop (mkF m 80 #[rv a, iv 1, iv 3, iv jr, iv 0, iv 2, iv ((0 : Int32) + ov1), iv ((0 : Int32) + ov3)] [(.int 2), (.ref rs), (.int 2)]))
  obtain ⟨cl8, Ar8, q8, S8, M8, H8, G8⟩ := id P8
  have hin8 : ¬ ((2 : Int32) < 0 ∨ cl8.slots.size ≤ ((2 : Int32)).toNatClampNeg) := inb_of S8 ⟨by decide, by decide⟩
  have hat8 : cl8.slots[((2 : Int32)).toNatClampNeg]? = some (.int 2) := H8.at hin8 rfl
  refine OE.v (X7.iaload hx (j := (2 : Int32)) (v := (.int 2)) (by rw [e7]; exact Ar8.1) (State.isArrayOf_alike hZ.alike Ar8.2.1) Ar8.2.2 hin8 hat8 (g := (mkF m 80 #[rv a, iv 1, iv 3, iv jr, iv 0, iv 2, iv ((0 : Int32) + ov1), iv ((0 : Int32) + ov3)] [(.int 2), (.ref rs), (.int 2)])) rfl rfl (hb hby d4_80)) ?_
  show OE _ _ _ _ (T7.setTop (mkF m 81 #[rv a, iv 1, iv 3, iv jr, iv 0, iv 2, iv ((0 : Int32) + ov1), iv ((0 : Int32) + ov3)] [(.int 2), (.int 2)]))
  refine OE.v (fun t k => XS.icmpYes X7.here hx rfl (pc0 := 81) (pc' := 101) rfl (hb hby d4_81) rfl (flt (by decide)).2.1 (by decide) (by decide) k) ?_
  show OE _ _ _ _ (T7.setTop (mkF m 101 #[rv a, iv 1, iv 3, iv jr, iv 0, iv 2, iv ((0 : Int32) + ov1), iv ((0 : Int32) + ov3)] []))
  refine OE.v (fun t k => XS.aloadN X7.here hx rfl (hb hby d4_101) rfl rfl k) ?_
  refine OE.v (fun t k => XS.iload X7.here hx rfl (hb hby d4_102) rfl k) ?_
  refine OE.v (fun t k => XS.iload X7.here hx rfl (hb hby d4_104) rfl k) ?_
  refine OE.v (fun t k => XS.iload X7.here hx rfl (hb hby d4_106) rfl k) ?_
  refine OE.v (fun t k => XS.iloadN X7.here hx rfl (hb hby d4_108) rfl k) ?_
  refine OE.v (fun t k => XS.iadd X7.here hx rfl (hb hby d4_109) rfl k) ?_
  show OE _ _ _ _ (T7.setTop (mkF m 110 #[rv a, iv 1, iv 3, iv jr, iv 0, iv 2, iv ((0 : Int32) + ov1), iv ((0 : Int32) + ov3)] [(.int (((0 : Int32) + ov1) + jr)), (.int 0), (.int 2), (.ref a)]))
  refine OE.v (fun t k => XS.iload X7.here hx rfl (hb hby d4_110) rfl k) ?_
  refine OE.v (fun t k => XS.isub X7.here hx rfl (hb hby d4_112) rfl k) ?_
  show OE _ _ _ _ (T7.setTop (mkF m 113 #[rv a, iv 1, iv 3, iv jr, iv 0, iv 2, iv ((0 : Int32) + ov1), iv ((0 : Int32) + ov3)] [(.int ((((0 : Int32) + ov1) + jr) - ((0 : Int32) + ov3))), (.int 0), (.int 2), (.ref a)]))
  obtain ⟨cq9, q9, q9'⟩ := P0.cell
  obtain ⟨_, _, ⟨T9, L9, k9, n9⟩, -, X9, ⟨Lc9, hQ9, l9, y9, z9⟩, st9⟩ := X7.privateBack hx (y := (⟨"com/example/stratal/stratal/logic/StratumGroups", "hang", "(III)V"⟩ : MethodName)) hown (mvT hZ (hw _ (own_w 42 rfl))) (mvT hZ (hw _ (own_w 43 rfl))) (own_selp (mvT hZ (hw _ (own_w 1 rfl))) (Cond.privateMethod_at (mvP hZ (hw _ (own_w 44 rfl)) (args := #[]))) (mvT hZ (hw _ (own_w 43 rfl))) (by decide)) (Cond.privateMethod_at (mvP hZ (hw _ (own_w 44 rfl)) (args := #[]))) (mvT hZ (hw _ (own_w 45 rfl))) (by decide) (backOf (W := 0) (rmH20_0022 l Z a0 hw [] a rp ro rs rf kp ko ks kf ov0 ov1 ov2 ov3 fv0 fv1 fv2 fv3 ((((0 : Int32) + ov1) + jr) - ((0 : Int32) + ov3)) h0 n0 Z0 P0 P1 P2 P3 P4 P5 P6 P7 P8 P9 P10 P11 P12 P13 P14 P15 P16 P17 P18 P19 P20 P21 P22 P23) hZ (hw _ (own_w 45 rfl)) (hw _ (own_w 2 rfl)) (by decide) (by decide)) (g := (mkF m 113 #[rv a, iv 1, iv 3, iv jr, iv 0, iv 2, iv ((0 : Int32) + ov1), iv ((0 : Int32) + ov3)] [(.int ((((0 : Int32) + ov1) + jr) - ((0 : Int32) + ov3))), (.int 0), (.int 2), (.ref a)])) rfl (by rw [hml]; rfl) (Steps.refl _) (a := a) (by rw [e7]; exact q9) q9' (argsL := [(.int 2), (.int 0), (.int ((((0 : Int32) + ov1) + jr) - ((0 : Int32) + ov3)))]) (rest := []) (lenOf pd_2 rfl) rfl (Nat.le_of_eq rfl) (hb hby d4_113) (fun _ _ => ⟨rfl, e7, (by decide : 0 + 0 ≤ _), (by decide : 0 + 0 ≤ _)⟩)
  dsimp only [Pt.U, Pt.locs, Pt.cells, Pt.slots] at X9 l9 y9 z9 st9 hQ9
  subst l9 y9 z9
  obtain ⟨h9, e9⟩ : ∃ z, T9.heap = z := ⟨_, rfl⟩
  rw [e9] at hQ9
  obtain ⟨rfl, Nq9, Kq9, q9_0, q9_1, q9_2, q9_3⟩ := hQ9
  have Z9 : n0 ≤ h9.size := Nat.le_trans Z0 Kq9.1
  have K9 : Keep h0 h9 [rp, ro, rs, rf] := (Keep.refl h0 [rp, ro, rs, rf]).trans Kq9 (allS (Or.inl (by simp)) (allS (Or.inl (by simp)) (allS (Or.inl (by simp)) (allS (Or.inl (by simp)) all0))))
  have N9 := Fr.app N4 Nq9
  refine OE.v (fun t k => st9.trans k) ?_
  show OE _ _ _ _ (T9.setTop (mkF m 116 #[rv a, iv 1, iv 3, iv jr, iv 0, iv 2, iv ((0 : Int32) + ov1), iv ((0 : Int32) + ov3)] []))
  refine OE.v (fun t k => XS.iloadN X9.here hx rfl (hb hby d4_116) rfl k) ?_
  show OE _ _ _ _ (T9.setTop (mkF m 117 #[rv a, iv 1, iv 3, iv jr, iv 0, iv 2, iv ((0 : Int32) + ov1), iv ((0 : Int32) + ov3)] [(.int 3)]))
  obtain ⟨fs, hr, hrun, hended, hW, hsame⟩ := X9.leave (v := some (.int 3)) (fun h => by rw [Bd.returns] at h; cases h)
  refine ⟨_, _, ?_, hrun, hended, _, _, rfl, ?_, ⟨_, rfl⟩, hW, hsame.mono (by decide) (by decide)⟩
  · exact retI X9 hx Bd.returns (hb hby d4_117) hr
  · show QJ13_0022 Z a rp ro rs rf kp ko ks kf ov0 ov1 ov2 ov3 fv0 fv1 fv2 fv3 jr h0 n0 _ T9.heap _
    rw [e9]
    exact ⟨rfl, N9, K9, q9_0, q9_1, q9_2, q9_3⟩

theorem pn_rmH02_0022 : plainName "com/example/stratal/stratal/logic/StratumGroups" = true := by first | (simp [plainName, overriddenIn]; done) | decide +kernel
theorem ef_rmH02_0022 (m : MethodId) (a : Addr) (dl : Int32) : entryFrame m #[(.ref a), (.int 0), (.int 2), (.int dl)] 4 = mkF m 0 #[rv a, iv 0, iv 2, iv dl] [] := by first | (simp [entryFrame, mkF, argsToLocals, Value.category]; done) | rfl
def QH02_0022 (Z : State) (a : Addr) (rp : Addr) (ro : Addr) (rs : Addr) (rf : Addr) (kp : ClassId) (ko : ClassId) (ks : ClassId) (kf : ClassId) (ov0 : Int32) (ov1 : Int32) (ov2 : Int32) (ov3 : Int32) (fv0 : Int32) (fv1 : Int32) (fv2 : Int32) (fv3 : Int32) (dl : Int32) (h0 : Heap) (n0 : Nat) (v : Option Value) (h : Heap) (L : List Loc) : Prop := v = none ∧ Fr n0 L ∧ Keep h0 h [rp, ro, rs, rf] ∧ Arv Z h rp kp .int (16 : Int32) [(.int 2), (.int 0), (.int 2), (.int 2)] (.int 0) ∧ Arv Z h ro ko .int (16 : Int32) [(.int dl), (.int ov1), (.int ov2), (.int ov3)] (.int 0) ∧ Arv Z h rs ks .int (16 : Int32) [(.int 2), (.int 1), (.int 4), (.int 1)] (.int 0) ∧ Arv Z h rf kf .int (16 : Int32) [(.int fv0), (.int fv1), (.int (own_max fv2 (fv0 - dl))), (.int fv3)] (.int 0)
set_option maxRecDepth 65536 in
set_option maxHeartbeats 40000000 in
theorem rmH02_0022 (l : Launch) (Z : State) (a0 : Array Value) (hw : ∀ d ∈ tables_1, d.before a0 Z = true) (ws : List Jvm.Cond) (a : Addr) (rp : Addr) (ro : Addr) (rs : Addr) (rf : Addr) (kp : ClassId) (ko : ClassId) (ks : ClassId) (kf : ClassId) (ov0 : Int32) (ov1 : Int32) (ov2 : Int32) (ov3 : Int32) (fv0 : Int32) (fv1 : Int32) (fv2 : Int32) (fv3 : Int32) (dl : Int32) (h0 : Heap) (n0 : Nat) (Z0 : n0 ≤ h0.size) (P0 : Exa Z h0 a "com/example/stratal/stratal/logic/StratumGroups") (P1 : Fld Z h0 a "com/example/stratal/stratal/logic/StratumGroups" "mParent" "[I" (.ref rp)) (P2 : Fld Z h0 a "com/example/stratal/stratal/logic/StratumGroups" "mOffset" "[I" (.ref ro)) (P3 : Fld Z h0 a "com/example/stratal/stratal/logic/StratumGroups" "mSize" "[I" (.ref rs)) (P4 : Fld Z h0 a "com/example/stratal/stratal/logic/StratumGroups" "mFloor" "[I" (.ref rf)) (P5 : Fld Z h0 a "com/example/stratal/stratal/logic/StratumGroups" "mRecording" "Z" (.int 0)) (P6 : Arv Z h0 rp kp .int (16 : Int32) [(.int 0), (.int 0), (.int 2), (.int 2)] (.int 0)) (P7 : Arv Z h0 ro ko .int (16 : Int32) [(.int ov0), (.int ov1), (.int ov2), (.int ov3)] (.int 0)) (P8 : Arv Z h0 rs ks .int (16 : Int32) [(.int 2), (.int 1), (.int 2), (.int 1)] (.int 0)) (P9 : Arv Z h0 rf kf .int (16 : Int32) [(.int fv0), (.int fv1), (.int fv2), (.int fv3)] (.int 0)) (P10 : rp ≠ a) (P11 : ro ≠ a) (P12 : rs ≠ a) (P13 : rf ≠ a) (P14 : rp ≠ ro) (P15 : rp ≠ rs) (P16 : rp ≠ rf) (P17 : ro ≠ rs) (P18 : ro ≠ rf) (P19 : rs ≠ rf) (P20 : n0 ≤ rp) (P21 : n0 ≤ ro) (P22 : n0 ≤ rs) (P23 : n0 ≤ rf) :
    MetFree l (⟨"com/example/stratal/stratal/logic/StratumGroups", "hang", "(III)V"⟩ : MethodName) (head1 (Jvm.Cond.code (⟨"com/example/stratal/stratal/logic/StratumGroups", "hang", "(III)V"⟩ : MethodName) prog_53_method_11_code 4 none :: ws) ({ frames := 1, cells := 0, slots := 0, locals := 15 } : Room)) (fun aa U => aa = #[(.ref a), (.int 0), (.int 2), (.int dl)] ∧ Z.Warmed39 U.vm ∧ U.heap = h0) (fun _ _ _ _ _ => True) (fun _ U o U' => ∃ v L, o = .returned v ∧ QH02_0022 Z a rp ro rs rf kp ko ks kf ov0 ov1 ov2 ov3 fv0 fv1 fv2 fv3 dl h0 n0 v U'.heap L ∧ FrameEnd U o U' L ({ frames := 1, cells := 0, slots := 0, locals := 15 } : Room).cells ({ frames := 1, cells := 0, slots := 0, locals := 15 } : Room).slots) := by
  refine MetFree.of_bodySF (plainFor_of_name pn_rmH02_0022) hisR ?_
  intro p e s m args below meth c s₁ Bd hml0 hP hK
  obtain ⟨rfl, hZ, hh⟩ := hP
  have hx := Bd.exec
  have hby := Bd.bytes
  have hml : c.maxLocals = 4 := hml0
  have hown : s.vm.findClass "com/example/stratal/stratal/logic/StratumGroups" = some m.cls := findClass_of_methodNamed Bd.named
  have hnm := (name_of_methodNamed Bd.named Bd.method).1
  have X0 : Stand p l e ({ frames := 1, cells := 0, slots := 0, locals := 15 } : Room) s m #[(.ref a), (.int 0), (.int 2), (.int dl)] below meth c s₁ [] 0 0 := Stand.of_body Bd
  have e0 : s₁.heap = h0 := by rw [← hh, Bd.state]; rfl
  have N0 := Fr.nil n0
  change OE p.tables e below _ _
  refine OE.v (fun t k => castTop (ef_rmH02_0022 m a dl) k) ?_
  show OE _ _ _ _ (s₁.setTop (mkF m 0 #[rv a, iv 0, iv 2, iv dl] []))
  refine OE.v (fun t k => XS.aloadN X0.here hx rfl (hb hby d7_0) rfl rfl k) ?_
  refine OE.v (fun t k => XS.iconst X0.here hx rfl (hb hby d7_1) k) ?_
  refine OE.v (fun t k => XS.iloadN X0.here hx rfl (hb hby d7_2) rfl k) ?_
  refine OE.v (fun t k => XS.aloadN X0.here hx rfl (hb hby d7_3) rfl rfl k) ?_
  show OE _ _ _ _ (s₁.setTop (mkF m 4 #[rv a, iv 0, iv 2, iv dl] [(.ref a), (.int 0), (.int 0), (.ref a)]))
  obtain ⟨T1, X1, e1, st1⟩ := getF X0 hx hZ hown (host := "") (Or.inl (hw _ (own_w 16 rfl))) Via.refl e0 P4 (g := (mkF m 4 #[rv a, iv 0, iv 2, iv dl] [(.ref a), (.int 0), (.int 0), (.ref a)])) rfl rfl (hb hby d7_4)
  refine OE.v st1 ?_
  show OE _ _ _ _ (T1.setTop (mkF m 7 #[rv a, iv 0, iv 2, iv dl] [(.ref rf), (.int 0), (.int 0), (.ref a)]))
  refine OE.v (fun t k => XS.iloadN X1.here hx rfl (hb hby d7_7) rfl k) ?_
  show OE _ _ _ _ (T1.setTop (mkF m 8 #[rv a, iv 0, iv 2, iv dl] [(.int 2), (.ref rf), (.int 0), (.int 0), (.ref a)]))
  obtain ⟨cl2, Ar2, q2, S2, M2, H2, G2⟩ := id P9
  have hin2 : ¬ ((2 : Int32) < 0 ∨ cl2.slots.size ≤ ((2 : Int32)).toNatClampNeg) := inb_of S2 ⟨by decide, by decide⟩
  have hat2 : cl2.slots[((2 : Int32)).toNatClampNeg]? = some (.int fv2) := H2.at hin2 rfl
  refine OE.v (X1.iaload hx (j := (2 : Int32)) (v := (.int fv2)) (by rw [e1]; exact Ar2.1) (State.isArrayOf_alike hZ.alike Ar2.2.1) Ar2.2.2 hin2 hat2 (g := (mkF m 8 #[rv a, iv 0, iv 2, iv dl] [(.int 2), (.ref rf), (.int 0), (.int 0), (.ref a)])) rfl rfl (hb hby d7_8)) ?_
  show OE _ _ _ _ (T1.setTop (mkF m 9 #[rv a, iv 0, iv 2, iv dl] [(.int fv2), (.int 0), (.int 0), (.ref a)]))
  obtain ⟨cq3, q3, q3'⟩ := P0.cell
  obtain ⟨_, _, ⟨T3, L3, k3, n3⟩, -, X3, ⟨Lc3, hQ3, l3, y3, z3⟩, st3⟩ := X1.privateBack hx (y := (⟨"com/example/stratal/stratal/logic/StratumGroups", "record", "(III)V"⟩ : MethodName)) hown (mvT hZ (hw _ (own_w 46 rfl))) (mvT hZ (hw _ (own_w 47 rfl))) (own_selp (mvT hZ (hw _ (own_w 1 rfl))) (Cond.privateMethod_at (mvP hZ (hw _ (own_w 48 rfl)) (args := #[]))) (mvT hZ (hw _ (own_w 47 rfl))) (by decide)) (Cond.privateMethod_at (mvP hZ (hw _ (own_w 48 rfl)) (args := #[]))) (mvT hZ (hw _ (own_w 49 rfl))) (by decide) (backOf (W := 0) (rm8 l Z a0 hw [] a (0 : Int32) (0 : Int32) fv2 h0 n0 Z0 P5) hZ (hw _ (own_w 49 rfl)) (hw _ (own_w 2 rfl)) (by decide) (by decide)) (g := (mkF m 9 #[rv a, iv 0, iv 2, iv dl] [(.int fv2), (.int 0), (.int 0), (.ref a)])) rfl (by rw [hml]; rfl) (Steps.refl _) (a := a) (by rw [e1]; exact q3) q3' (argsL := [(.int 0), (.int 0), (.int fv2)]) (rest := []) (lenOf pd_2 rfl) rfl (Nat.le_of_eq rfl) (hb hby d7_9) (fun _ _ => ⟨rfl, e1, (by decide : 0 + 0 ≤ _), (by decide : 0 + 0 ≤ _)⟩)
  dsimp only [Pt.U, Pt.locs, Pt.cells, Pt.slots] at X3 l3 y3 z3 st3 hQ3
  subst l3 y3 z3
  obtain ⟨rfl, Nq3, e3⟩ := hQ3
  have N3 := Fr.app N0 Nq3
  refine OE.v (fun t k => st3.trans k) ?_
  show OE _ _ _ _ (T3.setTop (mkF m 12 #[rv a, iv 0, iv 2, iv dl] []))
  refine OE.v (fun t k => XS.aloadN X3.here hx rfl (hb hby d7_12) rfl rfl k) ?_
  show OE _ _ _ _ (T3.setTop (mkF m 13 #[rv a, iv 0, iv 2, iv dl] [(.ref a)]))
  obtain ⟨T4, X4, e4, st4⟩ := getF X3 hx hZ hown (host := "") (Or.inl (hw _ (own_w 10 rfl))) Via.refl e3 P1 (g := (mkF m 13 #[rv a, iv 0, iv 2, iv dl] [(.ref a)])) rfl rfl (hb hby d7_13)
  refine OE.v st4 ?_
  show OE _ _ _ _ (T4.setTop (mkF m 16 #[rv a, iv 0, iv 2, iv dl] [(.ref rp)]))
  refine OE.v (fun t k => XS.iloadN X4.here hx rfl (hb hby d7_16) rfl k) ?_
  refine OE.v (fun t k => XS.iloadN X4.here hx rfl (hb hby d7_17) rfl k) ?_
  show OE _ _ _ _ (T4.setTop (mkF m 18 #[rv a, iv 0, iv 2, iv dl] [(.int 2), (.int 0), (.ref rp)]))
  obtain ⟨cl5, Ar5, q5, S5, M5, H5, G5⟩ := id P6
  have hin5 : ¬ ((0 : Int32) < 0 ∨ cl5.slots.size ≤ ((0 : Int32)).toNatClampNeg) := inb_of S5 ⟨by decide, by decide⟩
  obtain ⟨T5, h5, X5, e5, W5, st5⟩ := stI X4 hx hZ e4 Ar5 (j := (0 : Int32)) hin5 (g := (mkF m 18 #[rv a, iv 0, iv 2, iv dl] [(.int 2), (.int 0), (.ref rp)])) rfl rfl (hb hby d7_18)
  have V5 : Arv Z h5 rp kp .int (16 : Int32) [(.int 2), (.int 0), (.int 2), (.int 2)] (.int 0) := Arv.set Ar5 q5 S5 M5 H5 G5 rfl W5 0 rfl (Nat.le_of_ble_eq_true rfl)
  have N5 := Fr.snoc X5 N3 P20
  have Z5 : n0 ≤ h5.size := Nat.le_trans Z0 (Nat.le_of_eq W5.size.symm)
  have K5 : Keep h0 h5 [rp, ro, rs, rf] := (Keep.refl h0 [rp, ro, rs, rf]).wr W5 (Or.inl (by simp))
  refine OE.v st5 ?_
  show OE _ _ _ _ (T5.setTop (mkF m 19 #[rv a, iv 0, iv 2, iv dl] []))
  refine OE.v (fun t k => XS.aloadN X5.here hx rfl (hb hby d7_19) rfl rfl k) ?_
  show OE _ _ _ _ (T5.setTop (mkF m 20 #[rv a, iv 0, iv 2, iv dl] [(.ref a)]))
  obtain ⟨T6, X6, e6, st6⟩ := getF X5 hx hZ hown (host := "") (Or.inl (hw _ (own_w 12 rfl))) Via.refl e5 (P2.other W5 (Or.inl (Ne.symm P10))) (g := (mkF m 20 #[rv a, iv 0, iv 2, iv dl] [(.ref a)])) rfl rfl (hb hby d7_20)
  refine OE.v st6 ?_
  show OE _ _ _ _ (T6.setTop (mkF m 23 #[rv a, iv 0, iv 2, iv dl] [(.ref ro)]))
  refine OE.v (fun t k => XS.iloadN X6.here hx rfl (hb hby d7_23) rfl k) ?_
  refine OE.v (fun t k => XS.iloadN X6.here hx rfl (hb hby d7_24) rfl k) ?_
  show OE _ _ _ _ (T6.setTop (mkF m 25 #[rv a, iv 0, iv 2, iv dl] [(.int dl), (.int 0), (.ref ro)]))
  obtain ⟨cl7, Ar7, q7, S7, M7, H7, G7⟩ := id (P7.other W5 (Ne.symm P14))
  have hin7 : ¬ ((0 : Int32) < 0 ∨ cl7.slots.size ≤ ((0 : Int32)).toNatClampNeg) := inb_of S7 ⟨by decide, by decide⟩
  obtain ⟨T7, h7, X7, e7, W7, st7⟩ := stI X6 hx hZ e6 Ar7 (j := (0 : Int32)) hin7 (g := (mkF m 25 #[rv a, iv 0, iv 2, iv dl] [(.int dl), (.int 0), (.ref ro)])) rfl rfl (hb hby d7_25)
  have V7 : Arv Z h7 ro ko .int (16 : Int32) [(.int dl), (.int ov1), (.int ov2), (.int ov3)] (.int 0) := Arv.set Ar7 q7 S7 M7 H7 G7 rfl W7 0 rfl (Nat.le_of_ble_eq_true rfl)
  have N7 := Fr.snoc X7 N5 P21
  have Z7 : n0 ≤ h7.size := Nat.le_trans Z5 (Nat.le_of_eq W7.size.symm)
  have K7 : Keep h0 h7 [rp, ro, rs, rf] := K5.wr W7 (Or.inl (by simp))
  refine OE.v st7 ?_
  show OE _ _ _ _ (T7.setTop (mkF m 26 #[rv a, iv 0, iv 2, iv dl] []))
  refine OE.v (fun t k => XS.aloadN X7.here hx rfl (hb hby d7_26) rfl rfl k) ?_
  show OE _ _ _ _ (T7.setTop (mkF m 27 #[rv a, iv 0, iv 2, iv dl] [(.ref a)]))
  obtain ⟨T8, X8, e8, st8⟩ := getF X7 hx hZ hown (host := "") (Or.inl (hw _ (own_w 14 rfl))) Via.refl e7 ((P3.other W5 (Or.inl (Ne.symm P10))).other W7 (Or.inl (Ne.symm P11))) (g := (mkF m 27 #[rv a, iv 0, iv 2, iv dl] [(.ref a)])) rfl rfl (hb hby d7_27)
  refine OE.v st8 ?_
  show OE _ _ _ _ (T8.setTop (mkF m 30 #[rv a, iv 0, iv 2, iv dl] [(.ref rs)]))
  refine OE.v (fun t k => XS.iloadN X8.here hx rfl (hb hby d7_30) rfl k) ?_
  show OE _ _ _ _ (T8.setTop (mkF m 31 #[rv a, iv 0, iv 2, iv dl] [(.int 2), (.ref rs)]))
  refine OE.v (fun t k => Jvm.Free.XT.dup2 X8.here hx rfl (hb hby d7_31) rfl rfl rfl k) ?_
  show OE _ _ _ _ (T8.setTop (mkF m 32 #[rv a, iv 0, iv 2, iv dl] [(.int 2), (.ref rs), (.int 2), (.ref rs)]))
  obtain ⟨cl9, Ar9, q9, S9, M9, H9, G9⟩ := id ((P8.other W5 (Ne.symm P15)).other W7 (Ne.symm P17))
  have hin9 : ¬ ((2 : Int32) < 0 ∨ cl9.slots.size ≤ ((2 : Int32)).toNatClampNeg) := inb_of S9 ⟨by decide, by decide⟩
  have hat9 : cl9.slots[((2 : Int32)).toNatClampNeg]? = some (.int 2) := H9.at hin9 rfl
  refine OE.v (X8.iaload hx (j := (2 : Int32)) (v := (.int 2)) (by rw [e8]; exact Ar9.1) (State.isArrayOf_alike hZ.alike Ar9.2.1) Ar9.2.2 hin9 hat9 (g := (mkF m 32 #[rv a, iv 0, iv 2, iv dl] [(.int 2), (.ref rs), (.int 2), (.ref rs)])) rfl rfl (hb hby d7_32)) ?_
  show OE _ _ _ _ (T8.setTop (mkF m 33 #[rv a, iv 0, iv 2, iv dl] [(.int 2), (.int 2), (.ref rs)]))
  refine OE.v (fun t k => XS.aloadN X8.here hx rfl (hb hby d7_33) rfl rfl k) ?_
  show OE _ _ _ _ (T8.setTop (mkF m 34 #[rv a, iv 0, iv 2, iv dl] [(.ref a), (.int 2), (.int 2), (.ref rs)]))
  obtain ⟨T10, X10, e10, st10⟩ := getF X8 hx hZ hown (host := "") (Or.inl (hw _ (own_w 14 rfl))) Via.refl e8 ((P3.other W5 (Or.inl (Ne.symm P10))).other W7 (Or.inl (Ne.symm P11))) (g := (mkF m 34 #[rv a, iv 0, iv 2, iv dl] [(.ref a), (.int 2), (.int 2), (.ref rs)])) rfl rfl (hb hby d7_34)
  refine OE.v st10 ?_
  show OE _ _ _ _ (T10.setTop (mkF m 37 #[rv a, iv 0, iv 2, iv dl] [(.ref rs), (.int 2), (.int 2), (.ref rs)]))
  refine OE.v (fun t k => XS.iloadN X10.here hx rfl (hb hby d7_37) rfl k) ?_
  show OE _ _ _ _ (T10.setTop (mkF m 38 #[rv a, iv 0, iv 2, iv dl] [(.int 0), (.ref rs), (.int 2), (.int 2), (.ref rs)]))
  obtain ⟨cl11, Ar11, q11, S11, M11, H11, G11⟩ := id ((P8.other W5 (Ne.symm P15)).other W7 (Ne.symm P17))
  have hin11 : ¬ ((0 : Int32) < 0 ∨ cl11.slots.size ≤ ((0 : Int32)).toNatClampNeg) := inb_of S11 ⟨by decide, by decide⟩
  have hat11 : cl11.slots[((0 : Int32)).toNatClampNeg]? = some (.int 2) := H11.at hin11 rfl
  refine OE.v (X10.iaload hx (j := (0 : Int32)) (v := (.int 2)) (by rw [e10]; exact Ar11.1) (State.isArrayOf_alike hZ.alike Ar11.2.1) Ar11.2.2 hin11 hat11 (g := (mkF m 38 #[rv a, iv 0, iv 2, iv dl] [(.int 0), (.ref rs), (.int 2), (.int 2), (.ref rs)])) rfl rfl (hb hby d7_38)) ?_
  show OE _ _ _ _ (T10.setTop (mkF m 39 #[rv a, iv 0, iv 2, iv dl] [(.int 2), (.int 2), (.int 2), (.ref rs)]))
  refine OE.v (fun t k => XS.iadd X10.here hx rfl (hb hby d7_39) rfl k) ?_
  show OE _ _ _ _ (T10.setTop (mkF m 40 #[rv a, iv 0, iv 2, iv dl] [(.int 4), (.int 2), (.ref rs)]))
  obtain ⟨cl12, Ar12, q12, S12, M12, H12, G12⟩ := id ((P8.other W5 (Ne.symm P15)).other W7 (Ne.symm P17))
  have hin12 : ¬ ((2 : Int32) < 0 ∨ cl12.slots.size ≤ ((2 : Int32)).toNatClampNeg) := inb_of S12 ⟨by decide, by decide⟩
  obtain ⟨T12, h12, X12, e12, W12, st12⟩ := stI X10 hx hZ e10 Ar12 (j := (2 : Int32)) hin12 (g := (mkF m 40 #[rv a, iv 0, iv 2, iv dl] [(.int 4), (.int 2), (.ref rs)])) rfl rfl (hb hby d7_40)
  have V12 : Arv Z h12 rs ks .int (16 : Int32) [(.int 2), (.int 1), (.int 4), (.int 1)] (.int 0) := Arv.set Ar12 q12 S12 M12 H12 G12 rfl W12 2 rfl (Nat.le_of_ble_eq_true rfl)
  have N12 := Fr.snoc X12 N7 P22
  have Z12 : n0 ≤ h12.size := Nat.le_trans Z7 (Nat.le_of_eq W12.size.symm)
  have K12 : Keep h0 h12 [rp, ro, rs, rf] := K7.wr W12 (Or.inl (by simp))
  refine OE.v st12 ?_
  show OE _ _ _ _ (T12.setTop (mkF m 41 #[rv a, iv 0, iv 2, iv dl] []))
  refine OE.v (fun t k => XS.aloadN X12.here hx rfl (hb hby d7_41) rfl rfl k) ?_
  show OE _ _ _ _ (T12.setTop (mkF m 42 #[rv a, iv 0, iv 2, iv dl] [(.ref a)]))
  obtain ⟨T13, X13, e13, st13⟩ := getF X12 hx hZ hown (host := "") (Or.inl (hw _ (own_w 16 rfl))) Via.refl e12 (((P4.other W5 (Or.inl (Ne.symm P10))).other W7 (Or.inl (Ne.symm P11))).other W12 (Or.inl (Ne.symm P12))) (g := (mkF m 42 #[rv a, iv 0, iv 2, iv dl] [(.ref a)])) rfl rfl (hb hby d7_42)
  refine OE.v st13 ?_
  show OE _ _ _ _ (T13.setTop (mkF m 45 #[rv a, iv 0, iv 2, iv dl] [(.ref rf)]))
  refine OE.v (fun t k => XS.iloadN X13.here hx rfl (hb hby d7_45) rfl k) ?_
  refine OE.v (fun t k => XS.aloadN X13.here hx rfl (hb hby d7_46) rfl rfl k) ?_
  show OE _ _ _ _ (T13.setTop (mkF m 47 #[rv a, iv 0, iv 2, iv dl] [(.ref a), (.int 2), (.ref rf)]))
  obtain ⟨T14, X14, e14, st14⟩ := getF X13 hx hZ hown (host := "") (Or.inl (hw _ (own_w 16 rfl))) Via.refl e13 (((P4.other W5 (Or.inl (Ne.symm P10))).other W7 (Or.inl (Ne.symm P11))).other W12 (Or.inl (Ne.symm P12))) (g := (mkF m 47 #[rv a, iv 0, iv 2, iv dl] [(.ref a), (.int 2), (.ref rf)])) rfl rfl (hb hby d7_47)
  refine OE.v st14 ?_
  show OE _ _ _ _ (T14.setTop (mkF m 50 #[rv a, iv 0, iv 2, iv dl] [(.ref rf), (.int 2), (.ref rf)]))
  refine OE.v (fun t k => XS.iloadN X14.here hx rfl (hb hby d7_50) rfl k) ?_
  show OE _ _ _ _ (T14.setTop (mkF m 51 #[rv a, iv 0, iv 2, iv dl] [(.int 2), (.ref rf), (.int 2), (.ref rf)]))
  obtain ⟨cl15, Ar15, q15, S15, M15, H15, G15⟩ := id (((P9.other W5 (Ne.symm P16)).other W7 (Ne.symm P18)).other W12 (Ne.symm P19))
  have hin15 : ¬ ((2 : Int32) < 0 ∨ cl15.slots.size ≤ ((2 : Int32)).toNatClampNeg) := inb_of S15 ⟨by decide, by decide⟩
  have hat15 : cl15.slots[((2 : Int32)).toNatClampNeg]? = some (.int fv2) := H15.at hin15 rfl
  refine OE.v (X14.iaload hx (j := (2 : Int32)) (v := (.int fv2)) (by rw [e14]; exact Ar15.1) (State.isArrayOf_alike hZ.alike Ar15.2.1) Ar15.2.2 hin15 hat15 (g := (mkF m 51 #[rv a, iv 0, iv 2, iv dl] [(.int 2), (.ref rf), (.int 2), (.ref rf)])) rfl rfl (hb hby d7_51)) ?_
  show OE _ _ _ _ (T14.setTop (mkF m 52 #[rv a, iv 0, iv 2, iv dl] [(.int fv2), (.int 2), (.ref rf)]))
  refine OE.v (fun t k => XS.aloadN X14.here hx rfl (hb hby d7_52) rfl rfl k) ?_
  show OE _ _ _ _ (T14.setTop (mkF m 53 #[rv a, iv 0, iv 2, iv dl] [(.ref a), (.int fv2), (.int 2), (.ref rf)]))
  obtain ⟨T16, X16, e16, st16⟩ := getF X14 hx hZ hown (host := "") (Or.inl (hw _ (own_w 16 rfl))) Via.refl e14 (((P4.other W5 (Or.inl (Ne.symm P10))).other W7 (Or.inl (Ne.symm P11))).other W12 (Or.inl (Ne.symm P12))) (g := (mkF m 53 #[rv a, iv 0, iv 2, iv dl] [(.ref a), (.int fv2), (.int 2), (.ref rf)])) rfl rfl (hb hby d7_53)
  refine OE.v st16 ?_
  show OE _ _ _ _ (T16.setTop (mkF m 56 #[rv a, iv 0, iv 2, iv dl] [(.ref rf), (.int fv2), (.int 2), (.ref rf)]))
  refine OE.v (fun t k => XS.iloadN X16.here hx rfl (hb hby d7_56) rfl k) ?_
  show OE _ _ _ _ (T16.setTop (mkF m 57 #[rv a, iv 0, iv 2, iv dl] [(.int 0), (.ref rf), (.int fv2), (.int 2), (.ref rf)]))
  obtain ⟨cl17, Ar17, q17, S17, M17, H17, G17⟩ := id (((P9.other W5 (Ne.symm P16)).other W7 (Ne.symm P18)).other W12 (Ne.symm P19))
  have hin17 : ¬ ((0 : Int32) < 0 ∨ cl17.slots.size ≤ ((0 : Int32)).toNatClampNeg) := inb_of S17 ⟨by decide, by decide⟩
  have hat17 : cl17.slots[((0 : Int32)).toNatClampNeg]? = some (.int fv0) := H17.at hin17 rfl
  refine OE.v (X16.iaload hx (j := (0 : Int32)) (v := (.int fv0)) (by rw [e16]; exact Ar17.1) (State.isArrayOf_alike hZ.alike Ar17.2.1) Ar17.2.2 hin17 hat17 (g := (mkF m 57 #[rv a, iv 0, iv 2, iv dl] [(.int 0), (.ref rf), (.int fv2), (.int 2), (.ref rf)])) rfl rfl (hb hby d7_57)) ?_
  show OE _ _ _ _ (T16.setTop (mkF m 58 #[rv a, iv 0, iv 2, iv dl] [(.int fv0), (.int fv2), (.int 2), (.ref rf)]))
  refine OE.v (fun t k => XS.iloadN X16.here hx rfl (hb hby d7_58) rfl k) ?_
  refine OE.v (fun t k => XS.isub X16.here hx rfl (hb hby d7_59) rfl k) ?_
  show OE _ _ _ _ (T16.setTop (mkF m 60 #[rv a, iv 0, iv 2, iv dl] [(.int (fv0 - dl)), (.int fv2), (.int 2), (.ref rf)]))
  obtain ⟨_, _, ⟨T18, L18, k18, n18⟩, -, X18, ⟨Lc18, hQ18, l18, y18, z18⟩, st18⟩ := Jvm.LawKit.callS X16 hx (y := (⟨"java/lang/Math", "max", "(II)I"⟩ : MethodName)) hown (mvT hZ (hw _ (own_w 52 rfl))) (mvT hZ (hw _ (own_w 53 rfl))) (mvT hZ (hw _ (own_w 54 rfl))) (mvT hZ (hw _ (own_w 55 rfl))) (by decide) (backOf (W := 2) (rm9 l Z a0 hw [] fv2 (fv0 - dl) h12 n0 Z12 ) hZ (hw _ (own_w 55 rfl)) (hw _ (own_w 54 rfl)) (by decide) (by decide)) (g := (mkF m 60 #[rv a, iv 0, iv 2, iv dl] [(.int (fv0 - dl)), (.int fv2), (.int 2), (.ref rf)])) rfl (by rw [hml]; rfl) (argsL := [(.int fv2), (.int (fv0 - dl))]) (rest := [(.int 2), (.ref rf)]) (lenOf pd_3 rfl) rfl (Nat.le_of_eq rfl) (hb hby d7_60) (fun _ _ => ⟨rfl, e16, (by decide : 0 + 0 ≤ _), (by decide : 0 + 0 ≤ _)⟩)
  dsimp only [Pt.U, Pt.locs, Pt.cells, Pt.slots] at X18 l18 y18 z18 st18 hQ18
  subst l18 y18 z18
  obtain ⟨rfl, Nq18, e18⟩ := hQ18
  have N18 := Fr.app N12 Nq18
  refine OE.v st18 ?_
  show OE _ _ _ _ (T18.setTop (mkF m 63 #[rv a, iv 0, iv 2, iv dl] [(.int (own_max fv2 (fv0 - dl))), (.int 2), (.ref rf)]))
  obtain ⟨cl19, Ar19, q19, S19, M19, H19, G19⟩ := id (((P9.other W5 (Ne.symm P16)).other W7 (Ne.symm P18)).other W12 (Ne.symm P19))
  have hin19 : ¬ ((2 : Int32) < 0 ∨ cl19.slots.size ≤ ((2 : Int32)).toNatClampNeg) := inb_of S19 ⟨by decide, by decide⟩
  obtain ⟨T19, h19, X19, e19, W19, st19⟩ := stI X18 hx hZ e18 Ar19 (j := (2 : Int32)) hin19 (g := (mkF m 63 #[rv a, iv 0, iv 2, iv dl] [(.int (own_max fv2 (fv0 - dl))), (.int 2), (.ref rf)])) rfl rfl (hb hby d7_63)
  have V19 : Arv Z h19 rf kf .int (16 : Int32) [(.int fv0), (.int fv1), (.int (own_max fv2 (fv0 - dl))), (.int fv3)] (.int 0) := Arv.set Ar19 q19 S19 M19 H19 G19 rfl W19 2 rfl (Nat.le_of_ble_eq_true rfl)
  have N19 := Fr.snoc X19 N18 P23
  have Z19 : n0 ≤ h19.size := Nat.le_trans Z12 (Nat.le_of_eq W19.size.symm)
  have K19 : Keep h0 h19 [rp, ro, rs, rf] := K12.wr W19 (Or.inl (by simp))
  refine OE.v st19 ?_
  show OE _ _ _ _ (T19.setTop (mkF m 64 #[rv a, iv 0, iv 2, iv dl] []))
  obtain ⟨fs, hr, hrun, hended, hW, hsame⟩ := X19.leave (v := none) (fun _ => rfl)
  refine ⟨_, _, ?_, hrun, hended, _, _, rfl, ?_, ⟨_, rfl⟩, hW, hsame.mono (by decide) (by decide)⟩
  · exact X19.returnOut hx Bd.returns (hb hby d7_64) hr
  · show QH02_0022 Z a rp ro rs rf kp ko ks kf ov0 ov1 ov2 ov3 fv0 fv1 fv2 fv3 dl h0 n0 _ T19.heap _
    rw [e19]
    exact ⟨rfl, N19, K19, (((V5.other W7 P14).other W12 P15).other W19 P16), ((V7.other W12 P17).other W19 P18), (V12.other W19 P19), V19⟩

theorem pn_rmJ20_0022 : plainName "com/example/stratal/stratal/logic/StratumGroups" = true := by first | (simp [plainName, overriddenIn]; done) | decide +kernel
theorem ef_rmJ20_0022 (m : MethodId) (a : Addr) (jr : Int32) : entryFrame m #[(.ref a), (.int 2), (.int 0), (.int jr)] 8 = mkF m 0 #[rv a, iv 2, iv 0, iv jr, .unset, .unset, .unset, .unset] [] := by first | (simp [entryFrame, mkF, argsToLocals, Value.category]; done) | rfl
def QJ20_0022 (Z : State) (a : Addr) (rp : Addr) (ro : Addr) (rs : Addr) (rf : Addr) (kp : ClassId) (ko : ClassId) (ks : ClassId) (kf : ClassId) (ov0 : Int32) (ov1 : Int32) (ov2 : Int32) (ov3 : Int32) (fv0 : Int32) (fv1 : Int32) (fv2 : Int32) (fv3 : Int32) (jr : Int32) (h0 : Heap) (n0 : Nat) (v : Option Value) (h : Heap) (L : List Loc) : Prop := v = some (.int 0) ∧ Fr n0 L ∧ Keep h0 h [rp, ro, rs, rf] ∧ Arv Z h rp kp .int (16 : Int32) [(.int 2), (.int 0), (.int 2), (.int 2)] (.int 0) ∧ Arv Z h ro ko .int (16 : Int32) [(.int (((0 : Int32) + jr) - (0 : Int32))), (.int ov1), (.int ov2), (.int ov3)] (.int 0) ∧ Arv Z h rs ks .int (16 : Int32) [(.int 2), (.int 1), (.int 4), (.int 1)] (.int 0) ∧ Arv Z h rf kf .int (16 : Int32) [(.int fv0), (.int fv1), (.int (own_max fv2 (fv0 - (((0 : Int32) + jr) - (0 : Int32))))), (.int fv3)] (.int 0)
set_option maxRecDepth 65536 in
set_option maxHeartbeats 40000000 in
theorem rmJ20_0022 (l : Launch) (Z : State) (a0 : Array Value) (hw : ∀ d ∈ tables_1, d.before a0 Z = true) (ws : List Jvm.Cond) (a : Addr) (rp : Addr) (ro : Addr) (rs : Addr) (rf : Addr) (kp : ClassId) (ko : ClassId) (ks : ClassId) (kf : ClassId) (ov0 : Int32) (ov1 : Int32) (ov2 : Int32) (ov3 : Int32) (fv0 : Int32) (fv1 : Int32) (fv2 : Int32) (fv3 : Int32) (jr : Int32) (h0 : Heap) (n0 : Nat) (Z0 : n0 ≤ h0.size) (P0 : Exa Z h0 a "com/example/stratal/stratal/logic/StratumGroups") (P1 : Fld Z h0 a "com/example/stratal/stratal/logic/StratumGroups" "mParent" "[I" (.ref rp)) (P2 : Fld Z h0 a "com/example/stratal/stratal/logic/StratumGroups" "mOffset" "[I" (.ref ro)) (P3 : Fld Z h0 a "com/example/stratal/stratal/logic/StratumGroups" "mSize" "[I" (.ref rs)) (P4 : Fld Z h0 a "com/example/stratal/stratal/logic/StratumGroups" "mFloor" "[I" (.ref rf)) (P5 : Fld Z h0 a "com/example/stratal/stratal/logic/StratumGroups" "mRecording" "Z" (.int 0)) (P6 : Arv Z h0 rp kp .int (16 : Int32) [(.int 0), (.int 0), (.int 2), (.int 2)] (.int 0)) (P7 : Arv Z h0 ro ko .int (16 : Int32) [(.int ov0), (.int ov1), (.int ov2), (.int ov3)] (.int 0)) (P8 : Arv Z h0 rs ks .int (16 : Int32) [(.int 2), (.int 1), (.int 2), (.int 1)] (.int 0)) (P9 : Arv Z h0 rf kf .int (16 : Int32) [(.int fv0), (.int fv1), (.int fv2), (.int fv3)] (.int 0)) (P10 : rp ≠ a) (P11 : ro ≠ a) (P12 : rs ≠ a) (P13 : rf ≠ a) (P14 : rp ≠ ro) (P15 : rp ≠ rs) (P16 : rp ≠ rf) (P17 : ro ≠ rs) (P18 : ro ≠ rf) (P19 : rs ≠ rf) (P20 : n0 ≤ rp) (P21 : n0 ≤ ro) (P22 : n0 ≤ rs) (P23 : n0 ≤ rf) :
    MetFree l (⟨"com/example/stratal/stratal/logic/StratumGroups", "join", "(III)I"⟩ : MethodName) (head1 (Jvm.Cond.code (⟨"com/example/stratal/stratal/logic/StratumGroups", "join", "(III)I"⟩ : MethodName) prog_53_method_5_code 8 (some .int) :: ws) ({ frames := 2, cells := 0, slots := 0, locals := 30 } : Room)) (fun aa U => aa = #[(.ref a), (.int 2), (.int 0), (.int jr)] ∧ Z.Warmed39 U.vm ∧ U.heap = h0) (fun _ _ _ _ _ => True) (fun _ U o U' => ∃ v L, o = .returned v ∧ QJ20_0022 Z a rp ro rs rf kp ko ks kf ov0 ov1 ov2 ov3 fv0 fv1 fv2 fv3 jr h0 n0 v U'.heap L ∧ FrameEnd U o U' L ({ frames := 2, cells := 0, slots := 0, locals := 30 } : Room).cells ({ frames := 2, cells := 0, slots := 0, locals := 30 } : Room).slots) := by
  refine MetFree.of_bodySF (plainFor_of_name pn_rmJ20_0022) hisR ?_
  intro p e s m args below meth c s₁ Bd hml0 hP hK
  obtain ⟨rfl, hZ, hh⟩ := hP
  have hx := Bd.exec
  have hby := Bd.bytes
  have hml : c.maxLocals = 8 := hml0
  have hown : s.vm.findClass "com/example/stratal/stratal/logic/StratumGroups" = some m.cls := findClass_of_methodNamed Bd.named
  have hnm := (name_of_methodNamed Bd.named Bd.method).1
  have X0 : Stand p l e ({ frames := 2, cells := 0, slots := 0, locals := 30 } : Room) s m #[(.ref a), (.int 2), (.int 0), (.int jr)] below meth c s₁ [] 0 0 := Stand.of_body Bd
  have e0 : s₁.heap = h0 := by rw [← hh, Bd.state]; rfl
  have N0 := Fr.nil n0
  change OE p.tables e below _ _
  refine OE.v (fun t k => castTop (ef_rmJ20_0022 m a jr) k) ?_
  show OE _ _ _ _ (s₁.setTop (mkF m 0 #[rv a, iv 2, iv 0, iv jr, .unset, .unset, .unset, .unset] []))
  refine OE.v (fun t k => XS.aloadN X0.here hx rfl (hb hby d4_0) rfl rfl k) ?_
  refine OE.v (fun t k => XS.iloadN X0.here hx rfl (hb hby d4_1) rfl k) ?_
  show OE _ _ _ _ (s₁.setTop (mkF m 2 #[rv a, iv 2, iv 0, iv jr, .unset, .unset, .unset, .unset] [(.int 2), (.ref a)]))
  obtain ⟨cq1, kq1, q1a, q1b, q1c⟩ := isOf hZ e0 P0
  obtain ⟨_, _, ⟨T1, L1, k1, n1⟩, -, X1, ⟨Lc1, hQ1, l1, y1, z1⟩, st1⟩ := X0.virtualBack hx (y := (⟨"com/example/stratal/stratal/logic/StratumGroups", "find", "(I)I"⟩ : MethodName)) (z := (⟨"com/example/stratal/stratal/logic/StratumGroups", "find", "(I)I"⟩ : MethodName)) hown (mvT hZ (hw _ (own_w 32 rfl))) (mvT hZ (hw _ (own_w 33 rfl))) (notFace_of_selects (args := #[]) (mvT hZ (hw _ (own_w 35 rfl)))) (mvT hZ (hw _ (own_w 35 rfl))) (mvT hZ (hw _ (own_w 34 rfl))) (by decide) (backOf (W := 0) (rmf2_0022 l Z a0 hw [] a rp kp h0 n0 Z0 P1 P6) hZ (hw _ (own_w 36 rfl)) (hw _ (own_w 2 rfl)) (by decide) (by decide)) q1a q1c (g := (mkF m 2 #[rv a, iv 2, iv 0, iv jr, .unset, .unset, .unset, .unset] [(.int 2), (.ref a)])) rfl (by rw [hml]; rfl) (Steps.refl _) (argsL := [(.int 2)]) (rest := []) (lenOf pd_4 rfl) rfl (Nat.le_of_eq rfl) (hb hby d4_2) (fun _ _ => ⟨rfl, e0, (by decide : 0 + 0 ≤ _), (by decide : 0 + 0 ≤ _)⟩)
  dsimp only [Pt.U, Pt.locs, Pt.cells, Pt.slots] at X1 l1 y1 z1 st1 hQ1
  subst l1 y1 z1
  obtain ⟨rfl, Nq1, e1⟩ := hQ1
  have N1 := Fr.app N0 Nq1
  refine OE.v (fun t k => st1.trans k) ?_
  show OE _ _ _ _ (T1.setTop (mkF m 5 #[rv a, iv 2, iv 0, iv jr, .unset, .unset, .unset, .unset] [(.int 2)]))
  refine OE.v (fun t k => XS.istore X1.here hx rfl (hb hby d4_5) rfl (l' := #[rv a, iv 2, iv 0, iv jr, iv 2, .unset, .unset, .unset]) rfl k) ?_
  refine OE.v (fun t k => XS.aloadN X1.here hx rfl (hb hby d4_7) rfl rfl k) ?_
  refine OE.v (fun t k => XS.iloadN X1.here hx rfl (hb hby d4_8) rfl k) ?_
  show OE _ _ _ _ (T1.setTop (mkF m 9 #[rv a, iv 2, iv 0, iv jr, iv 2, .unset, .unset, .unset] [(.int 0), (.ref a)]))
  obtain ⟨cq2, kq2, q2a, q2b, q2c⟩ := isOf hZ e1 P0
  obtain ⟨_, _, ⟨T2, L2, k2, n2⟩, -, X2, ⟨Lc2, hQ2, l2, y2, z2⟩, st2⟩ := X1.virtualBack hx (y := (⟨"com/example/stratal/stratal/logic/StratumGroups", "find", "(I)I"⟩ : MethodName)) (z := (⟨"com/example/stratal/stratal/logic/StratumGroups", "find", "(I)I"⟩ : MethodName)) hown (mvT hZ (hw _ (own_w 32 rfl))) (mvT hZ (hw _ (own_w 33 rfl))) (notFace_of_selects (args := #[]) (mvT hZ (hw _ (own_w 35 rfl)))) (mvT hZ (hw _ (own_w 35 rfl))) (mvT hZ (hw _ (own_w 34 rfl))) (by decide) (backOf (W := 0) (rmf0_0022 l Z a0 hw [] a rp kp h0 n0 Z0 P1 P6) hZ (hw _ (own_w 36 rfl)) (hw _ (own_w 2 rfl)) (by decide) (by decide)) q2a q2c (g := (mkF m 9 #[rv a, iv 2, iv 0, iv jr, iv 2, .unset, .unset, .unset] [(.int 0), (.ref a)])) rfl (by rw [hml]; rfl) (Steps.refl _) (argsL := [(.int 0)]) (rest := []) (lenOf pd_4 rfl) rfl (Nat.le_of_eq rfl) (hb hby d4_9) (fun _ _ => ⟨rfl, e1, (by decide : 0 + 0 ≤ _), (by decide : 0 + 0 ≤ _)⟩)
  dsimp only [Pt.U, Pt.locs, Pt.cells, Pt.slots] at X2 l2 y2 z2 st2 hQ2
  subst l2 y2 z2
  obtain ⟨rfl, Nq2, e2⟩ := hQ2
  have N2 := Fr.app N1 Nq2
  refine OE.v (fun t k => st2.trans k) ?_
  show OE _ _ _ _ (T2.setTop (mkF m 12 #[rv a, iv 2, iv 0, iv jr, iv 2, .unset, .unset, .unset] [(.int 0)]))
  refine OE.v (fun t k => XS.istore X2.here hx rfl (hb hby d4_12) rfl (l' := #[rv a, iv 2, iv 0, iv jr, iv 2, iv 0, .unset, .unset]) rfl k) ?_
  refine OE.v (fun t k => XS.aloadN X2.here hx rfl (hb hby d4_14) rfl rfl k) ?_
  refine OE.v (fun t k => XS.iloadN X2.here hx rfl (hb hby d4_15) rfl k) ?_
  show OE _ _ _ _ (T2.setTop (mkF m 16 #[rv a, iv 2, iv 0, iv jr, iv 2, iv 0, .unset, .unset] [(.int 2), (.ref a)]))
  obtain ⟨cq3, kq3, q3a, q3b, q3c⟩ := isOf hZ e2 P0
  obtain ⟨_, _, ⟨T3, L3, k3, n3⟩, -, X3, ⟨Lc3, hQ3, l3, y3, z3⟩, st3⟩ := X2.virtualBack hx (y := (⟨"com/example/stratal/stratal/logic/StratumGroups", "offset", "(I)I"⟩ : MethodName)) (z := (⟨"com/example/stratal/stratal/logic/StratumGroups", "offset", "(I)I"⟩ : MethodName)) hown (mvT hZ (hw _ (own_w 37 rfl))) (mvT hZ (hw _ (own_w 38 rfl))) (notFace_of_selects (args := #[]) (mvT hZ (hw _ (own_w 40 rfl)))) (mvT hZ (hw _ (own_w 40 rfl))) (mvT hZ (hw _ (own_w 39 rfl))) (by decide) (backOf (W := 0) (rmo2_0022 l Z a0 hw [] a rp kp ro ko ov0 ov1 ov2 ov3 h0 n0 Z0 P1 P6 P2 P7) hZ (hw _ (own_w 41 rfl)) (hw _ (own_w 2 rfl)) (by decide) (by decide)) q3a q3c (g := (mkF m 16 #[rv a, iv 2, iv 0, iv jr, iv 2, iv 0, .unset, .unset] [(.int 2), (.ref a)])) rfl (by rw [hml]; rfl) (Steps.refl _) (argsL := [(.int 2)]) (rest := []) (lenOf pd_4 rfl) rfl (Nat.le_of_eq rfl) (hb hby d4_16) (fun _ _ => ⟨rfl, e2, (by decide : 0 + 0 ≤ _), (by decide : 0 + 0 ≤ _)⟩)
  dsimp only [Pt.U, Pt.locs, Pt.cells, Pt.slots] at X3 l3 y3 z3 st3 hQ3
  subst l3 y3 z3
  obtain ⟨rfl, Nq3, e3⟩ := hQ3
  have N3 := Fr.app N2 Nq3
  refine OE.v (fun t k => st3.trans k) ?_
  show OE _ _ _ _ (T3.setTop (mkF m 19 #[rv a, iv 2, iv 0, iv jr, iv 2, iv 0, .unset, .unset] [(.int 0)]))
  refine OE.v (fun t k => XS.istore X3.here hx rfl (hb hby d4_19) rfl (l' := #[rv a, iv 2, iv 0, iv jr, iv 2, iv 0, iv 0, .unset]) rfl k) ?_
  refine OE.v (fun t k => XS.aloadN X3.here hx rfl (hb hby d4_21) rfl rfl k) ?_
  refine OE.v (fun t k => XS.iloadN X3.here hx rfl (hb hby d4_22) rfl k) ?_
  show OE _ _ _ _ (T3.setTop (mkF m 23 #[rv a, iv 2, iv 0, iv jr, iv 2, iv 0, iv 0, .unset] [(.int 0), (.ref a)]))
  obtain ⟨cq4, kq4, q4a, q4b, q4c⟩ := isOf hZ e3 P0
  obtain ⟨_, _, ⟨T4, L4, k4, n4⟩, -, X4, ⟨Lc4, hQ4, l4, y4, z4⟩, st4⟩ := X3.virtualBack hx (y := (⟨"com/example/stratal/stratal/logic/StratumGroups", "offset", "(I)I"⟩ : MethodName)) (z := (⟨"com/example/stratal/stratal/logic/StratumGroups", "offset", "(I)I"⟩ : MethodName)) hown (mvT hZ (hw _ (own_w 37 rfl))) (mvT hZ (hw _ (own_w 38 rfl))) (notFace_of_selects (args := #[]) (mvT hZ (hw _ (own_w 40 rfl)))) (mvT hZ (hw _ (own_w 40 rfl))) (mvT hZ (hw _ (own_w 39 rfl))) (by decide) (backOf (W := 0) (rmo0_0022 l Z a0 hw [] a rp kp ro ko ov0 ov1 ov2 ov3 h0 n0 Z0 P1 P6 P2 P7) hZ (hw _ (own_w 41 rfl)) (hw _ (own_w 2 rfl)) (by decide) (by decide)) q4a q4c (g := (mkF m 23 #[rv a, iv 2, iv 0, iv jr, iv 2, iv 0, iv 0, .unset] [(.int 0), (.ref a)])) rfl (by rw [hml]; rfl) (Steps.refl _) (argsL := [(.int 0)]) (rest := []) (lenOf pd_4 rfl) rfl (Nat.le_of_eq rfl) (hb hby d4_23) (fun _ _ => ⟨rfl, e3, (by decide : 0 + 0 ≤ _), (by decide : 0 + 0 ≤ _)⟩)
  dsimp only [Pt.U, Pt.locs, Pt.cells, Pt.slots] at X4 l4 y4 z4 st4 hQ4
  subst l4 y4 z4
  obtain ⟨rfl, Nq4, e4⟩ := hQ4
  have N4 := Fr.app N3 Nq4
  refine OE.v (fun t k => st4.trans k) ?_
  show OE _ _ _ _ (T4.setTop (mkF m 26 #[rv a, iv 2, iv 0, iv jr, iv 2, iv 0, iv 0, .unset] [(.int 0)]))
  refine OE.v (fun t k => XS.istore X4.here hx rfl (hb hby d4_26) rfl (l' := #[rv a, iv 2, iv 0, iv jr, iv 2, iv 0, iv 0, iv 0]) rfl k) ?_
  refine OE.v (fun t k => XS.iload X4.here hx rfl (hb hby d4_28) rfl k) ?_
  refine OE.v (fun t k => XS.iload X4.here hx rfl (hb hby d4_30) rfl k) ?_
  show OE _ _ _ _ (T4.setTop (mkF m 32 #[rv a, iv 2, iv 0, iv jr, iv 2, iv 0, iv 0, iv 0] [(.int 0), (.int 2)]))
  refine OE.v (fun t k => XS.icmpYes X4.here hx rfl (pc0 := 32) (pc' := 67) rfl (hb hby d4_32) rfl (feq (by decide)).2 (by decide) (by decide) k) ?_
  show OE _ _ _ _ (T4.setTop (mkF m 67 #[rv a, iv 2, iv 0, iv jr, iv 2, iv 0, iv 0, iv 0] []))
  refine OE.v (fun t k => XS.aloadN X4.here hx rfl (hb hby d4_67) rfl rfl k) ?_
  show OE _ _ _ _ (T4.setTop (mkF m 68 #[rv a, iv 2, iv 0, iv jr, iv 2, iv 0, iv 0, iv 0] [(.ref a)]))
  obtain ⟨T5, X5, e5, st5⟩ := getF X4 hx hZ hown (host := "") (Or.inl (hw _ (own_w 14 rfl))) Via.refl e4 P3 (g := (mkF m 68 #[rv a, iv 2, iv 0, iv jr, iv 2, iv 0, iv 0, iv 0] [(.ref a)])) rfl rfl (hb hby d4_68)
  refine OE.v st5 ?_
  show OE _ _ _ _ (T5.setTop (mkF m 71 #[rv a, iv 2, iv 0, iv jr, iv 2, iv 0, iv 0, iv 0] [(.ref rs)]))
  refine OE.v (fun t k => XS.iload X5.here hx rfl (hb hby d4_71) rfl k) ?_
  show OE _ _ _ _ (T5.setTop (mkF m 73 #[rv a, iv 2, iv 0, iv jr, iv 2, iv 0, iv 0, iv 0] [(.int 2), (.ref rs)]))
  obtain ⟨cl6, Ar6, q6, S6, M6, H6, G6⟩ := id P8
  have hin6 : ¬ ((2 : Int32) < 0 ∨ cl6.slots.size ≤ ((2 : Int32)).toNatClampNeg) := inb_of S6 ⟨by decide, by decide⟩
  have hat6 : cl6.slots[((2 : Int32)).toNatClampNeg]? = some (.int 2) := H6.at hin6 rfl
  refine OE.v (X5.iaload hx (j := (2 : Int32)) (v := (.int 2)) (by rw [e5]; exact Ar6.1) (State.isArrayOf_alike hZ.alike Ar6.2.1) Ar6.2.2 hin6 hat6 (g := (mkF m 73 #[rv a, iv 2, iv 0, iv jr, iv 2, iv 0, iv 0, iv 0] [(.int 2), (.ref rs)])) rfl rfl (hb hby d4_73)) ?_
  show OE _ _ _ _ (T5.setTop (mkF m 74 #[rv a, iv 2, iv 0, iv jr, iv 2, iv 0, iv 0, iv 0] [(.int 2)]))
  refine OE.v (fun t k => XS.aloadN X5.here hx rfl (hb hby d4_74) rfl rfl k) ?_
  show OE _ _ _ _ (T5.setTop (mkF m 75 #[rv a, iv 2, iv 0, iv jr, iv 2, iv 0, iv 0, iv 0] [(.ref a), (.int 2)]))
  obtain ⟨T7, X7, e7, st7⟩ := getF X5 hx hZ hown (host := "") (Or.inl (hw _ (own_w 14 rfl))) Via.refl e5 P3 (g := (mkF m 75 #[rv a, iv 2, iv 0, iv jr, iv 2, iv 0, iv 0, iv 0] [(.ref a), (.int 2)])) rfl rfl (hb hby d4_75)
  refine OE.v st7 ?_
  show OE _ _ _ _ (T7.setTop (mkF m 78 #[rv a, iv 2, iv 0, iv jr, iv 2, iv 0, iv 0, iv 0] [(.ref rs), (.int 2)]))
  refine OE.v (fun t k => XS.iload X7.here hx rfl (hb hby d4_78) rfl k) ?_
  show OE _ _ _ _ (T7.setTop (mkF m 80 #[rv a, iv 2, iv 0, iv jr, iv 2, iv 0, iv 0, iv 0] [(.int 0), (.ref rs), (.int 2)]))
  obtain ⟨cl8, Ar8, q8, S8, M8, H8, G8⟩ := id P8
  have hin8 : ¬ ((0 : Int32) < 0 ∨ cl8.slots.size ≤ ((0 : Int32)).toNatClampNeg) := inb_of S8 ⟨by decide, by decide⟩
  have hat8 : cl8.slots[((0 : Int32)).toNatClampNeg]? = some (.int 2) := H8.at hin8 rfl
  refine OE.v (X7.iaload hx (j := (0 : Int32)) (v := (.int 2)) (by rw [e7]; exact Ar8.1) (State.isArrayOf_alike hZ.alike Ar8.2.1) Ar8.2.2 hin8 hat8 (g := (mkF m 80 #[rv a, iv 2, iv 0, iv jr, iv 2, iv 0, iv 0, iv 0] [(.int 0), (.ref rs), (.int 2)])) rfl rfl (hb hby d4_80)) ?_
  show OE _ _ _ _ (T7.setTop (mkF m 81 #[rv a, iv 2, iv 0, iv jr, iv 2, iv 0, iv 0, iv 0] [(.int 2), (.int 2)]))
  refine OE.v (fun t k => XS.icmpYes X7.here hx rfl (pc0 := 81) (pc' := 101) rfl (hb hby d4_81) rfl (flt (by decide)).2.1 (by decide) (by decide) k) ?_
  show OE _ _ _ _ (T7.setTop (mkF m 101 #[rv a, iv 2, iv 0, iv jr, iv 2, iv 0, iv 0, iv 0] []))
  refine OE.v (fun t k => XS.aloadN X7.here hx rfl (hb hby d4_101) rfl rfl k) ?_
  refine OE.v (fun t k => XS.iload X7.here hx rfl (hb hby d4_102) rfl k) ?_
  refine OE.v (fun t k => XS.iload X7.here hx rfl (hb hby d4_104) rfl k) ?_
  refine OE.v (fun t k => XS.iload X7.here hx rfl (hb hby d4_106) rfl k) ?_
  refine OE.v (fun t k => XS.iloadN X7.here hx rfl (hb hby d4_108) rfl k) ?_
  refine OE.v (fun t k => XS.iadd X7.here hx rfl (hb hby d4_109) rfl k) ?_
  show OE _ _ _ _ (T7.setTop (mkF m 110 #[rv a, iv 2, iv 0, iv jr, iv 2, iv 0, iv 0, iv 0] [(.int ((0 : Int32) + jr)), (.int 2), (.int 0), (.ref a)]))
  refine OE.v (fun t k => XS.iload X7.here hx rfl (hb hby d4_110) rfl k) ?_
  refine OE.v (fun t k => XS.isub X7.here hx rfl (hb hby d4_112) rfl k) ?_
  show OE _ _ _ _ (T7.setTop (mkF m 113 #[rv a, iv 2, iv 0, iv jr, iv 2, iv 0, iv 0, iv 0] [(.int (((0 : Int32) + jr) - (0 : Int32))), (.int 2), (.int 0), (.ref a)]))
  obtain ⟨cq9, q9, q9'⟩ := P0.cell
  obtain ⟨_, _, ⟨T9, L9, k9, n9⟩, -, X9, ⟨Lc9, hQ9, l9, y9, z9⟩, st9⟩ := X7.privateBack hx (y := (⟨"com/example/stratal/stratal/logic/StratumGroups", "hang", "(III)V"⟩ : MethodName)) hown (mvT hZ (hw _ (own_w 42 rfl))) (mvT hZ (hw _ (own_w 43 rfl))) (own_selp (mvT hZ (hw _ (own_w 1 rfl))) (Cond.privateMethod_at (mvP hZ (hw _ (own_w 44 rfl)) (args := #[]))) (mvT hZ (hw _ (own_w 43 rfl))) (by decide)) (Cond.privateMethod_at (mvP hZ (hw _ (own_w 44 rfl)) (args := #[]))) (mvT hZ (hw _ (own_w 45 rfl))) (by decide) (backOf (W := 0) (rmH02_0022 l Z a0 hw [] a rp ro rs rf kp ko ks kf ov0 ov1 ov2 ov3 fv0 fv1 fv2 fv3 (((0 : Int32) + jr) - (0 : Int32)) h0 n0 Z0 P0 P1 P2 P3 P4 P5 P6 P7 P8 P9 P10 P11 P12 P13 P14 P15 P16 P17 P18 P19 P20 P21 P22 P23) hZ (hw _ (own_w 45 rfl)) (hw _ (own_w 2 rfl)) (by decide) (by decide)) (g := (mkF m 113 #[rv a, iv 2, iv 0, iv jr, iv 2, iv 0, iv 0, iv 0] [(.int (((0 : Int32) + jr) - (0 : Int32))), (.int 2), (.int 0), (.ref a)])) rfl (by rw [hml]; rfl) (Steps.refl _) (a := a) (by rw [e7]; exact q9) q9' (argsL := [(.int 0), (.int 2), (.int (((0 : Int32) + jr) - (0 : Int32)))]) (rest := []) (lenOf pd_2 rfl) rfl (Nat.le_of_eq rfl) (hb hby d4_113) (fun _ _ => ⟨rfl, e7, (by decide : 0 + 0 ≤ _), (by decide : 0 + 0 ≤ _)⟩)
  dsimp only [Pt.U, Pt.locs, Pt.cells, Pt.slots] at X9 l9 y9 z9 st9 hQ9
  subst l9 y9 z9
  obtain ⟨h9, e9⟩ : ∃ z, T9.heap = z := ⟨_, rfl⟩
  rw [e9] at hQ9
  obtain ⟨rfl, Nq9, Kq9, q9_0, q9_1, q9_2, q9_3⟩ := hQ9
  have Z9 : n0 ≤ h9.size := Nat.le_trans Z0 Kq9.1
  have K9 : Keep h0 h9 [rp, ro, rs, rf] := (Keep.refl h0 [rp, ro, rs, rf]).trans Kq9 (allS (Or.inl (by simp)) (allS (Or.inl (by simp)) (allS (Or.inl (by simp)) (allS (Or.inl (by simp)) all0))))
  have N9 := Fr.app N4 Nq9
  refine OE.v (fun t k => st9.trans k) ?_
  show OE _ _ _ _ (T9.setTop (mkF m 116 #[rv a, iv 2, iv 0, iv jr, iv 2, iv 0, iv 0, iv 0] []))
  refine OE.v (fun t k => XS.iloadN X9.here hx rfl (hb hby d4_116) rfl k) ?_
  show OE _ _ _ _ (T9.setTop (mkF m 117 #[rv a, iv 2, iv 0, iv jr, iv 2, iv 0, iv 0, iv 0] [(.int 0)]))
  obtain ⟨fs, hr, hrun, hended, hW, hsame⟩ := X9.leave (v := some (.int 0)) (fun h => by rw [Bd.returns] at h; cases h)
  refine ⟨_, _, ?_, hrun, hended, _, _, rfl, ?_, ⟨_, rfl⟩, hW, hsame.mono (by decide) (by decide)⟩
  · exact retI X9 hx Bd.returns (hb hby d4_117) hr
  · show QJ20_0022 Z a rp ro rs rf kp ko ks kf ov0 ov1 ov2 ov3 fv0 fv1 fv2 fv3 jr h0 n0 _ T9.heap _
    rw [e9]
    exact ⟨rfl, N9, K9, q9_0, q9_1, q9_2, q9_3⟩

theorem pn_rmo0_2022 : plainName "com/example/stratal/stratal/logic/StratumGroups" = true := by first | (simp [plainName, overriddenIn]; done) | decide +kernel
theorem ef_rmo0_2022 (m : MethodId) (a : Addr) : entryFrame m #[(.ref a), (.int 0)] 4 = mkF m 0 #[rv a, iv 0, .unset, .unset] [] := by first | (simp [entryFrame, mkF, argsToLocals, Value.category]; done) | rfl
def Qo0_2022 (Z : State) (a : Addr) (rp : Addr) (kp : ClassId) (ro : Addr) (ko : ClassId) (ov0 : Int32) (ov1 : Int32) (ov2 : Int32) (ov3 : Int32) (h0 : Heap) (n0 : Nat) (v : Option Value) (h : Heap) (L : List Loc) : Prop := v = some (.int ((0 : Int32) + ov0)) ∧ Fr n0 L ∧ h = h0
set_option maxRecDepth 65536 in
set_option maxHeartbeats 40000000 in
theorem rmo0_2022 (l : Launch) (Z : State) (a0 : Array Value) (hw : ∀ d ∈ tables_1, d.before a0 Z = true) (ws : List Jvm.Cond) (a : Addr) (rp : Addr) (kp : ClassId) (ro : Addr) (ko : ClassId) (ov0 : Int32) (ov1 : Int32) (ov2 : Int32) (ov3 : Int32) (h0 : Heap) (n0 : Nat) (Z0 : n0 ≤ h0.size) (P0 : Fld Z h0 a "com/example/stratal/stratal/logic/StratumGroups" "mParent" "[I" (.ref rp)) (P1 : Arv Z h0 rp kp .int (16 : Int32) [(.int 2), (.int 0), (.int 2), (.int 2)] (.int 0)) (P2 : Fld Z h0 a "com/example/stratal/stratal/logic/StratumGroups" "mOffset" "[I" (.ref ro)) (P3 : Arv Z h0 ro ko .int (16 : Int32) [(.int ov0), (.int ov1), (.int ov2), (.int ov3)] (.int 0)) :
    MetFree l (⟨"com/example/stratal/stratal/logic/StratumGroups", "offset", "(I)I"⟩ : MethodName) (head1 (Jvm.Cond.code (⟨"com/example/stratal/stratal/logic/StratumGroups", "offset", "(I)I"⟩ : MethodName) prog_53_method_4_code 4 (some .int) :: ws) ({ frames := 0, cells := 0, slots := 0, locals := 0 } : Room)) (fun aa U => aa = #[(.ref a), (.int 0)] ∧ Z.Warmed39 U.vm ∧ U.heap = h0) (fun _ _ _ _ _ => True) (fun _ U o U' => ∃ v L, o = .returned v ∧ Qo0_2022 Z a rp kp ro ko ov0 ov1 ov2 ov3 h0 n0 v U'.heap L ∧ FrameEnd U o U' L ({ frames := 0, cells := 0, slots := 0, locals := 0 } : Room).cells ({ frames := 0, cells := 0, slots := 0, locals := 0 } : Room).slots) := by
  refine MetFree.of_bodySF (plainFor_of_name pn_rmo0_2022) hisR ?_
  intro p e s m args below meth c s₁ Bd hml0 hP hK
  obtain ⟨rfl, hZ, hh⟩ := hP
  have hx := Bd.exec
  have hby := Bd.bytes
  have hml : c.maxLocals = 4 := hml0
  have hown : s.vm.findClass "com/example/stratal/stratal/logic/StratumGroups" = some m.cls := findClass_of_methodNamed Bd.named
  have hnm := (name_of_methodNamed Bd.named Bd.method).1
  have X0 : Stand p l e ({ frames := 0, cells := 0, slots := 0, locals := 0 } : Room) s m #[(.ref a), (.int 0)] below meth c s₁ [] 0 0 := Stand.of_body Bd
  have e0 : s₁.heap = h0 := by rw [← hh, Bd.state]; rfl
  have N0 := Fr.nil n0
  change OE p.tables e below _ _
  refine OE.v (fun t k => castTop (ef_rmo0_2022 m a) k) ?_
  show OE _ _ _ _ (s₁.setTop (mkF m 0 #[rv a, iv 0, .unset, .unset] []))
  refine OE.v (fun t k => XS.iconst X0.here hx rfl (hb hby d6_0) k) ?_
  refine OE.v (fun t k => XS.istoreN X0.here hx rfl (hb hby d6_1) rfl (l' := #[rv a, iv 0, iv 0, .unset]) rfl k) ?_
  refine OE.v (fun t k => XS.iloadN X0.here hx rfl (hb hby d6_2) rfl k) ?_
  refine OE.v (fun t k => XS.istoreN X0.here hx rfl (hb hby d6_3) rfl (l' := #[rv a, iv 0, iv 0, iv 0]) rfl k) ?_
  refine OE.v (fun t k => XS.aloadN X0.here hx rfl (hb hby d6_4) rfl rfl k) ?_
  show OE _ _ _ _ (s₁.setTop (mkF m 5 #[rv a, iv 0, iv 0, iv 0] [(.ref a)]))
  obtain ⟨T1, X1, e1, st1⟩ := getF X0 hx hZ hown (host := "") (Or.inl (hw _ (own_w 10 rfl))) Via.refl e0 P0 (g := (mkF m 5 #[rv a, iv 0, iv 0, iv 0] [(.ref a)])) rfl rfl (hb hby d6_5)
  refine OE.v st1 ?_
  show OE _ _ _ _ (T1.setTop (mkF m 8 #[rv a, iv 0, iv 0, iv 0] [(.ref rp)]))
  refine OE.v (fun t k => XS.iloadN X1.here hx rfl (hb hby d6_8) rfl k) ?_
  show OE _ _ _ _ (T1.setTop (mkF m 9 #[rv a, iv 0, iv 0, iv 0] [(.int 0), (.ref rp)]))
  obtain ⟨cl2, Ar2, q2, S2, M2, H2, G2⟩ := id P1
  have hin2 : ¬ ((0 : Int32) < 0 ∨ cl2.slots.size ≤ ((0 : Int32)).toNatClampNeg) := inb_of S2 ⟨by decide, by decide⟩
  have hat2 : cl2.slots[((0 : Int32)).toNatClampNeg]? = some (.int 2) := H2.at hin2 rfl
  refine OE.v (X1.iaload hx (j := (0 : Int32)) (v := (.int 2)) (by rw [e1]; exact Ar2.1) (State.isArrayOf_alike hZ.alike Ar2.2.1) Ar2.2.2 hin2 hat2 (g := (mkF m 9 #[rv a, iv 0, iv 0, iv 0] [(.int 0), (.ref rp)])) rfl rfl (hb hby d6_9)) ?_
  show OE _ _ _ _ (T1.setTop (mkF m 10 #[rv a, iv 0, iv 0, iv 0] [(.int 2)]))
  refine OE.v (fun t k => XS.iloadN X1.here hx rfl (hb hby d6_10) rfl k) ?_
  show OE _ _ _ _ (T1.setTop (mkF m 11 #[rv a, iv 0, iv 0, iv 0] [(.int 0), (.int 2)]))
  refine OE.v (fun t k => XS.icmpNo X1.here hx rfl (hb hby d6_11) rfl (feq (by decide)).1 k) ?_
  show OE _ _ _ _ (T1.setTop (mkF m 14 #[rv a, iv 0, iv 0, iv 0] []))
  refine OE.v (fun t k => XS.iloadN X1.here hx rfl (hb hby d6_14) rfl k) ?_
  refine OE.v (fun t k => XS.aloadN X1.here hx rfl (hb hby d6_15) rfl rfl k) ?_
  show OE _ _ _ _ (T1.setTop (mkF m 16 #[rv a, iv 0, iv 0, iv 0] [(.ref a), (.int 0)]))
  obtain ⟨T3, X3, e3, st3⟩ := getF X1 hx hZ hown (host := "") (Or.inl (hw _ (own_w 12 rfl))) Via.refl e1 P2 (g := (mkF m 16 #[rv a, iv 0, iv 0, iv 0] [(.ref a), (.int 0)])) rfl rfl (hb hby d6_16)
  refine OE.v st3 ?_
  show OE _ _ _ _ (T3.setTop (mkF m 19 #[rv a, iv 0, iv 0, iv 0] [(.ref ro), (.int 0)]))
  refine OE.v (fun t k => XS.iloadN X3.here hx rfl (hb hby d6_19) rfl k) ?_
  show OE _ _ _ _ (T3.setTop (mkF m 20 #[rv a, iv 0, iv 0, iv 0] [(.int 0), (.ref ro), (.int 0)]))
  obtain ⟨cl4, Ar4, q4, S4, M4, H4, G4⟩ := id P3
  have hin4 : ¬ ((0 : Int32) < 0 ∨ cl4.slots.size ≤ ((0 : Int32)).toNatClampNeg) := inb_of S4 ⟨by decide, by decide⟩
  have hat4 : cl4.slots[((0 : Int32)).toNatClampNeg]? = some (.int ov0) := H4.at hin4 rfl
  refine OE.v (X3.iaload hx (j := (0 : Int32)) (v := (.int ov0)) (by rw [e3]; exact Ar4.1) (State.isArrayOf_alike hZ.alike Ar4.2.1) Ar4.2.2 hin4 hat4 (g := (mkF m 20 #[rv a, iv 0, iv 0, iv 0] [(.int 0), (.ref ro), (.int 0)])) rfl rfl (hb hby d6_20)) ?_
  show OE _ _ _ _ (T3.setTop (mkF m 21 #[rv a, iv 0, iv 0, iv 0] [(.int ov0), (.int 0)]))
  refine OE.v (fun t k => XS.iadd X3.here hx rfl (hb hby d6_21) rfl k) ?_
  refine OE.v (fun t k => XS.istoreN X3.here hx rfl (hb hby d6_22) rfl (l' := #[rv a, iv 0, iv ((0 : Int32) + ov0), iv 0]) rfl k) ?_
  refine OE.v (fun t k => XS.aloadN X3.here hx rfl (hb hby d6_23) rfl rfl k) ?_
  show OE _ _ _ _ (T3.setTop (mkF m 24 #[rv a, iv 0, iv ((0 : Int32) + ov0), iv 0] [(.ref a)]))
  obtain ⟨T5, X5, e5, st5⟩ := getF X3 hx hZ hown (host := "") (Or.inl (hw _ (own_w 10 rfl))) Via.refl e3 P0 (g := (mkF m 24 #[rv a, iv 0, iv ((0 : Int32) + ov0), iv 0] [(.ref a)])) rfl rfl (hb hby d6_24)
  refine OE.v st5 ?_
  show OE _ _ _ _ (T5.setTop (mkF m 27 #[rv a, iv 0, iv ((0 : Int32) + ov0), iv 0] [(.ref rp)]))
  refine OE.v (fun t k => XS.iloadN X5.here hx rfl (hb hby d6_27) rfl k) ?_
  show OE _ _ _ _ (T5.setTop (mkF m 28 #[rv a, iv 0, iv ((0 : Int32) + ov0), iv 0] [(.int 0), (.ref rp)]))
  obtain ⟨cl6, Ar6, q6, S6, M6, H6, G6⟩ := id P1
  have hin6 : ¬ ((0 : Int32) < 0 ∨ cl6.slots.size ≤ ((0 : Int32)).toNatClampNeg) := inb_of S6 ⟨by decide, by decide⟩
  have hat6 : cl6.slots[((0 : Int32)).toNatClampNeg]? = some (.int 2) := H6.at hin6 rfl
  refine OE.v (X5.iaload hx (j := (0 : Int32)) (v := (.int 2)) (by rw [e5]; exact Ar6.1) (State.isArrayOf_alike hZ.alike Ar6.2.1) Ar6.2.2 hin6 hat6 (g := (mkF m 28 #[rv a, iv 0, iv ((0 : Int32) + ov0), iv 0] [(.int 0), (.ref rp)])) rfl rfl (hb hby d6_28)) ?_
  show OE _ _ _ _ (T5.setTop (mkF m 29 #[rv a, iv 0, iv ((0 : Int32) + ov0), iv 0] [(.int 2)]))
  refine OE.v (fun t k => XS.istoreN X5.here hx rfl (hb hby d6_29) rfl (l' := #[rv a, iv 0, iv ((0 : Int32) + ov0), iv 2]) rfl k) ?_
  refine OE.v (fun t k => XS.goto X5.here hx rfl (pc0 := 30) (pc' := 4) rfl (hb hby d6_30) (by decide) (by decide) k) ?_
  refine OE.v (fun t k => XS.aloadN X5.here hx rfl (hb hby d6_4) rfl rfl k) ?_
  show OE _ _ _ _ (T5.setTop (mkF m 5 #[rv a, iv 0, iv ((0 : Int32) + ov0), iv 2] [(.ref a)]))
  obtain ⟨T7, X7, e7, st7⟩ := getF X5 hx hZ hown (host := "") (Or.inl (hw _ (own_w 10 rfl))) Via.refl e5 P0 (g := (mkF m 5 #[rv a, iv 0, iv ((0 : Int32) + ov0), iv 2] [(.ref a)])) rfl rfl (hb hby d6_5)
  refine OE.v st7 ?_
  show OE _ _ _ _ (T7.setTop (mkF m 8 #[rv a, iv 0, iv ((0 : Int32) + ov0), iv 2] [(.ref rp)]))
  refine OE.v (fun t k => XS.iloadN X7.here hx rfl (hb hby d6_8) rfl k) ?_
  show OE _ _ _ _ (T7.setTop (mkF m 9 #[rv a, iv 0, iv ((0 : Int32) + ov0), iv 2] [(.int 2), (.ref rp)]))
  obtain ⟨cl8, Ar8, q8, S8, M8, H8, G8⟩ := id P1
  have hin8 : ¬ ((2 : Int32) < 0 ∨ cl8.slots.size ≤ ((2 : Int32)).toNatClampNeg) := inb_of S8 ⟨by decide, by decide⟩
  have hat8 : cl8.slots[((2 : Int32)).toNatClampNeg]? = some (.int 2) := H8.at hin8 rfl
  refine OE.v (X7.iaload hx (j := (2 : Int32)) (v := (.int 2)) (by rw [e7]; exact Ar8.1) (State.isArrayOf_alike hZ.alike Ar8.2.1) Ar8.2.2 hin8 hat8 (g := (mkF m 9 #[rv a, iv 0, iv ((0 : Int32) + ov0), iv 2] [(.int 2), (.ref rp)])) rfl rfl (hb hby d6_9)) ?_
  show OE _ _ _ _ (T7.setTop (mkF m 10 #[rv a, iv 0, iv ((0 : Int32) + ov0), iv 2] [(.int 2)]))
  refine OE.v (fun t k => XS.iloadN X7.here hx rfl (hb hby d6_10) rfl k) ?_
  show OE _ _ _ _ (T7.setTop (mkF m 11 #[rv a, iv 0, iv ((0 : Int32) + ov0), iv 2] [(.int 2), (.int 2)]))
  refine OE.v (fun t k => XS.icmpYes X7.here hx rfl (pc0 := 11) (pc' := 33) rfl (hb hby d6_11) rfl (teq (by decide)).1 (by decide) (by decide) k) ?_
  show OE _ _ _ _ (T7.setTop (mkF m 33 #[rv a, iv 0, iv ((0 : Int32) + ov0), iv 2] []))
  refine OE.v (fun t k => XS.iloadN X7.here hx rfl (hb hby d6_33) rfl k) ?_
  show OE _ _ _ _ (T7.setTop (mkF m 34 #[rv a, iv 0, iv ((0 : Int32) + ov0), iv 2] [(.int ((0 : Int32) + ov0))]))
  obtain ⟨fs, hr, hrun, hended, hW, hsame⟩ := X7.leave (v := some (.int ((0 : Int32) + ov0))) (fun h => by rw [Bd.returns] at h; cases h)
  refine ⟨_, _, ?_, hrun, hended, _, _, rfl, ?_, ⟨_, rfl⟩, hW, hsame.mono (by decide) (by decide)⟩
  · exact retI X7 hx Bd.returns (hb hby d6_34) hr
  · show Qo0_2022 Z a rp kp ro ko ov0 ov1 ov2 ov3 h0 n0 _ T7.heap _
    rw [e7]
    exact ⟨rfl, N0, rfl⟩

theorem pn_rmo1_2022 : plainName "com/example/stratal/stratal/logic/StratumGroups" = true := by first | (simp [plainName, overriddenIn]; done) | decide +kernel
theorem ef_rmo1_2022 (m : MethodId) (a : Addr) : entryFrame m #[(.ref a), (.int 1)] 4 = mkF m 0 #[rv a, iv 1, .unset, .unset] [] := by first | (simp [entryFrame, mkF, argsToLocals, Value.category]; done) | rfl
def Qo1_2022 (Z : State) (a : Addr) (rp : Addr) (kp : ClassId) (ro : Addr) (ko : ClassId) (ov0 : Int32) (ov1 : Int32) (ov2 : Int32) (ov3 : Int32) (h0 : Heap) (n0 : Nat) (v : Option Value) (h : Heap) (L : List Loc) : Prop := v = some (.int (((0 : Int32) + ov1) + ov0)) ∧ Fr n0 L ∧ h = h0
set_option maxRecDepth 65536 in
set_option maxHeartbeats 40000000 in
theorem rmo1_2022 (l : Launch) (Z : State) (a0 : Array Value) (hw : ∀ d ∈ tables_1, d.before a0 Z = true) (ws : List Jvm.Cond) (a : Addr) (rp : Addr) (kp : ClassId) (ro : Addr) (ko : ClassId) (ov0 : Int32) (ov1 : Int32) (ov2 : Int32) (ov3 : Int32) (h0 : Heap) (n0 : Nat) (Z0 : n0 ≤ h0.size) (P0 : Fld Z h0 a "com/example/stratal/stratal/logic/StratumGroups" "mParent" "[I" (.ref rp)) (P1 : Arv Z h0 rp kp .int (16 : Int32) [(.int 2), (.int 0), (.int 2), (.int 2)] (.int 0)) (P2 : Fld Z h0 a "com/example/stratal/stratal/logic/StratumGroups" "mOffset" "[I" (.ref ro)) (P3 : Arv Z h0 ro ko .int (16 : Int32) [(.int ov0), (.int ov1), (.int ov2), (.int ov3)] (.int 0)) :
    MetFree l (⟨"com/example/stratal/stratal/logic/StratumGroups", "offset", "(I)I"⟩ : MethodName) (head1 (Jvm.Cond.code (⟨"com/example/stratal/stratal/logic/StratumGroups", "offset", "(I)I"⟩ : MethodName) prog_53_method_4_code 4 (some .int) :: ws) ({ frames := 0, cells := 0, slots := 0, locals := 0 } : Room)) (fun aa U => aa = #[(.ref a), (.int 1)] ∧ Z.Warmed39 U.vm ∧ U.heap = h0) (fun _ _ _ _ _ => True) (fun _ U o U' => ∃ v L, o = .returned v ∧ Qo1_2022 Z a rp kp ro ko ov0 ov1 ov2 ov3 h0 n0 v U'.heap L ∧ FrameEnd U o U' L ({ frames := 0, cells := 0, slots := 0, locals := 0 } : Room).cells ({ frames := 0, cells := 0, slots := 0, locals := 0 } : Room).slots) := by
  refine MetFree.of_bodySF (plainFor_of_name pn_rmo1_2022) hisR ?_
  intro p e s m args below meth c s₁ Bd hml0 hP hK
  obtain ⟨rfl, hZ, hh⟩ := hP
  have hx := Bd.exec
  have hby := Bd.bytes
  have hml : c.maxLocals = 4 := hml0
  have hown : s.vm.findClass "com/example/stratal/stratal/logic/StratumGroups" = some m.cls := findClass_of_methodNamed Bd.named
  have hnm := (name_of_methodNamed Bd.named Bd.method).1
  have X0 : Stand p l e ({ frames := 0, cells := 0, slots := 0, locals := 0 } : Room) s m #[(.ref a), (.int 1)] below meth c s₁ [] 0 0 := Stand.of_body Bd
  have e0 : s₁.heap = h0 := by rw [← hh, Bd.state]; rfl
  have N0 := Fr.nil n0
  change OE p.tables e below _ _
  refine OE.v (fun t k => castTop (ef_rmo1_2022 m a) k) ?_
  show OE _ _ _ _ (s₁.setTop (mkF m 0 #[rv a, iv 1, .unset, .unset] []))
  refine OE.v (fun t k => XS.iconst X0.here hx rfl (hb hby d6_0) k) ?_
  refine OE.v (fun t k => XS.istoreN X0.here hx rfl (hb hby d6_1) rfl (l' := #[rv a, iv 1, iv 0, .unset]) rfl k) ?_
  refine OE.v (fun t k => XS.iloadN X0.here hx rfl (hb hby d6_2) rfl k) ?_
  refine OE.v (fun t k => XS.istoreN X0.here hx rfl (hb hby d6_3) rfl (l' := #[rv a, iv 1, iv 0, iv 1]) rfl k) ?_
  refine OE.v (fun t k => XS.aloadN X0.here hx rfl (hb hby d6_4) rfl rfl k) ?_
  show OE _ _ _ _ (s₁.setTop (mkF m 5 #[rv a, iv 1, iv 0, iv 1] [(.ref a)]))
  obtain ⟨T1, X1, e1, st1⟩ := getF X0 hx hZ hown (host := "") (Or.inl (hw _ (own_w 10 rfl))) Via.refl e0 P0 (g := (mkF m 5 #[rv a, iv 1, iv 0, iv 1] [(.ref a)])) rfl rfl (hb hby d6_5)
  refine OE.v st1 ?_
  show OE _ _ _ _ (T1.setTop (mkF m 8 #[rv a, iv 1, iv 0, iv 1] [(.ref rp)]))
  refine OE.v (fun t k => XS.iloadN X1.here hx rfl (hb hby d6_8) rfl k) ?_
  show OE _ _ _ _ (T1.setTop (mkF m 9 #[rv a, iv 1, iv 0, iv 1] [(.int 1), (.ref rp)]))
  obtain ⟨cl2, Ar2, q2, S2, M2, H2, G2⟩ := id P1
  have hin2 : ¬ ((1 : Int32) < 0 ∨ cl2.slots.size ≤ ((1 : Int32)).toNatClampNeg) := inb_of S2 ⟨by decide, by decide⟩
  have hat2 : cl2.slots[((1 : Int32)).toNatClampNeg]? = some (.int 0) := H2.at hin2 rfl
  refine OE.v (X1.iaload hx (j := (1 : Int32)) (v := (.int 0)) (by rw [e1]; exact Ar2.1) (State.isArrayOf_alike hZ.alike Ar2.2.1) Ar2.2.2 hin2 hat2 (g := (mkF m 9 #[rv a, iv 1, iv 0, iv 1] [(.int 1), (.ref rp)])) rfl rfl (hb hby d6_9)) ?_
  show OE _ _ _ _ (T1.setTop (mkF m 10 #[rv a, iv 1, iv 0, iv 1] [(.int 0)]))
  refine OE.v (fun t k => XS.iloadN X1.here hx rfl (hb hby d6_10) rfl k) ?_
  show OE _ _ _ _ (T1.setTop (mkF m 11 #[rv a, iv 1, iv 0, iv 1] [(.int 1), (.int 0)]))
  refine OE.v (fun t k => XS.icmpNo X1.here hx rfl (hb hby d6_11) rfl (feq (by decide)).1 k) ?_
  show OE _ _ _ _ (T1.setTop (mkF m 14 #[rv a, iv 1, iv 0, iv 1] []))
  refine OE.v (fun t k => XS.iloadN X1.here hx rfl (hb hby d6_14) rfl k) ?_
  refine OE.v (fun t k => XS.aloadN X1.here hx rfl (hb hby d6_15) rfl rfl k) ?_
  show OE _ _ _ _ (T1.setTop (mkF m 16 #[rv a, iv 1, iv 0, iv 1] [(.ref a), (.int 0)]))
  obtain ⟨T3, X3, e3, st3⟩ := getF X1 hx hZ hown (host := "") (Or.inl (hw _ (own_w 12 rfl))) Via.refl e1 P2 (g := (mkF m 16 #[rv a, iv 1, iv 0, iv 1] [(.ref a), (.int 0)])) rfl rfl (hb hby d6_16)
  refine OE.v st3 ?_
  show OE _ _ _ _ (T3.setTop (mkF m 19 #[rv a, iv 1, iv 0, iv 1] [(.ref ro), (.int 0)]))
  refine OE.v (fun t k => XS.iloadN X3.here hx rfl (hb hby d6_19) rfl k) ?_
  show OE _ _ _ _ (T3.setTop (mkF m 20 #[rv a, iv 1, iv 0, iv 1] [(.int 1), (.ref ro), (.int 0)]))
  obtain ⟨cl4, Ar4, q4, S4, M4, H4, G4⟩ := id P3
  have hin4 : ¬ ((1 : Int32) < 0 ∨ cl4.slots.size ≤ ((1 : Int32)).toNatClampNeg) := inb_of S4 ⟨by decide, by decide⟩
  have hat4 : cl4.slots[((1 : Int32)).toNatClampNeg]? = some (.int ov1) := H4.at hin4 rfl
  refine OE.v (X3.iaload hx (j := (1 : Int32)) (v := (.int ov1)) (by rw [e3]; exact Ar4.1) (State.isArrayOf_alike hZ.alike Ar4.2.1) Ar4.2.2 hin4 hat4 (g := (mkF m 20 #[rv a, iv 1, iv 0, iv 1] [(.int 1), (.ref ro), (.int 0)])) rfl rfl (hb hby d6_20)) ?_
  show OE _ _ _ _ (T3.setTop (mkF m 21 #[rv a, iv 1, iv 0, iv 1] [(.int ov1), (.int 0)]))
  refine OE.v (fun t k => XS.iadd X3.here hx rfl (hb hby d6_21) rfl k) ?_
  refine OE.v (fun t k => XS.istoreN X3.here hx rfl (hb hby d6_22) rfl (l' := #[rv a, iv 1, iv ((0 : Int32) + ov1), iv 1]) rfl k) ?_
  refine OE.v (fun t k => XS.aloadN X3.here hx rfl (hb hby d6_23) rfl rfl k) ?_
  show OE _ _ _ _ (T3.setTop (mkF m 24 #[rv a, iv 1, iv ((0 : Int32) + ov1), iv 1] [(.ref a)]))
  obtain ⟨T5, X5, e5, st5⟩ := getF X3 hx hZ hown (host := "") (Or.inl (hw _ (own_w 10 rfl))) Via.refl e3 P0 (g := (mkF m 24 #[rv a, iv 1, iv ((0 : Int32) + ov1), iv 1] [(.ref a)])) rfl rfl (hb hby d6_24)
  refine OE.v st5 ?_
  show OE _ _ _ _ (T5.setTop (mkF m 27 #[rv a, iv 1, iv ((0 : Int32) + ov1), iv 1] [(.ref rp)]))
  refine OE.v (fun t k => XS.iloadN X5.here hx rfl (hb hby d6_27) rfl k) ?_
  show OE _ _ _ _ (T5.setTop (mkF m 28 #[rv a, iv 1, iv ((0 : Int32) + ov1), iv 1] [(.int 1), (.ref rp)]))
  obtain ⟨cl6, Ar6, q6, S6, M6, H6, G6⟩ := id P1
  have hin6 : ¬ ((1 : Int32) < 0 ∨ cl6.slots.size ≤ ((1 : Int32)).toNatClampNeg) := inb_of S6 ⟨by decide, by decide⟩
  have hat6 : cl6.slots[((1 : Int32)).toNatClampNeg]? = some (.int 0) := H6.at hin6 rfl
  refine OE.v (X5.iaload hx (j := (1 : Int32)) (v := (.int 0)) (by rw [e5]; exact Ar6.1) (State.isArrayOf_alike hZ.alike Ar6.2.1) Ar6.2.2 hin6 hat6 (g := (mkF m 28 #[rv a, iv 1, iv ((0 : Int32) + ov1), iv 1] [(.int 1), (.ref rp)])) rfl rfl (hb hby d6_28)) ?_
  show OE _ _ _ _ (T5.setTop (mkF m 29 #[rv a, iv 1, iv ((0 : Int32) + ov1), iv 1] [(.int 0)]))
  refine OE.v (fun t k => XS.istoreN X5.here hx rfl (hb hby d6_29) rfl (l' := #[rv a, iv 1, iv ((0 : Int32) + ov1), iv 0]) rfl k) ?_
  refine OE.v (fun t k => XS.goto X5.here hx rfl (pc0 := 30) (pc' := 4) rfl (hb hby d6_30) (by decide) (by decide) k) ?_
  refine OE.v (fun t k => XS.aloadN X5.here hx rfl (hb hby d6_4) rfl rfl k) ?_
  show OE _ _ _ _ (T5.setTop (mkF m 5 #[rv a, iv 1, iv ((0 : Int32) + ov1), iv 0] [(.ref a)]))
  obtain ⟨T7, X7, e7, st7⟩ := getF X5 hx hZ hown (host := "") (Or.inl (hw _ (own_w 10 rfl))) Via.refl e5 P0 (g := (mkF m 5 #[rv a, iv 1, iv ((0 : Int32) + ov1), iv 0] [(.ref a)])) rfl rfl (hb hby d6_5)
  refine OE.v st7 ?_
  show OE _ _ _ _ (T7.setTop (mkF m 8 #[rv a, iv 1, iv ((0 : Int32) + ov1), iv 0] [(.ref rp)]))
  refine OE.v (fun t k => XS.iloadN X7.here hx rfl (hb hby d6_8) rfl k) ?_
  show OE _ _ _ _ (T7.setTop (mkF m 9 #[rv a, iv 1, iv ((0 : Int32) + ov1), iv 0] [(.int 0), (.ref rp)]))
  obtain ⟨cl8, Ar8, q8, S8, M8, H8, G8⟩ := id P1
  have hin8 : ¬ ((0 : Int32) < 0 ∨ cl8.slots.size ≤ ((0 : Int32)).toNatClampNeg) := inb_of S8 ⟨by decide, by decide⟩
  have hat8 : cl8.slots[((0 : Int32)).toNatClampNeg]? = some (.int 2) := H8.at hin8 rfl
  refine OE.v (X7.iaload hx (j := (0 : Int32)) (v := (.int 2)) (by rw [e7]; exact Ar8.1) (State.isArrayOf_alike hZ.alike Ar8.2.1) Ar8.2.2 hin8 hat8 (g := (mkF m 9 #[rv a, iv 1, iv ((0 : Int32) + ov1), iv 0] [(.int 0), (.ref rp)])) rfl rfl (hb hby d6_9)) ?_
  show OE _ _ _ _ (T7.setTop (mkF m 10 #[rv a, iv 1, iv ((0 : Int32) + ov1), iv 0] [(.int 2)]))
  refine OE.v (fun t k => XS.iloadN X7.here hx rfl (hb hby d6_10) rfl k) ?_
  show OE _ _ _ _ (T7.setTop (mkF m 11 #[rv a, iv 1, iv ((0 : Int32) + ov1), iv 0] [(.int 0), (.int 2)]))
  refine OE.v (fun t k => XS.icmpNo X7.here hx rfl (hb hby d6_11) rfl (feq (by decide)).1 k) ?_
  show OE _ _ _ _ (T7.setTop (mkF m 14 #[rv a, iv 1, iv ((0 : Int32) + ov1), iv 0] []))
  refine OE.v (fun t k => XS.iloadN X7.here hx rfl (hb hby d6_14) rfl k) ?_
  refine OE.v (fun t k => XS.aloadN X7.here hx rfl (hb hby d6_15) rfl rfl k) ?_
  show OE _ _ _ _ (T7.setTop (mkF m 16 #[rv a, iv 1, iv ((0 : Int32) + ov1), iv 0] [(.ref a), (.int ((0 : Int32) + ov1))]))
  obtain ⟨T9, X9, e9, st9⟩ := getF X7 hx hZ hown (host := "") (Or.inl (hw _ (own_w 12 rfl))) Via.refl e7 P2 (g := (mkF m 16 #[rv a, iv 1, iv ((0 : Int32) + ov1), iv 0] [(.ref a), (.int ((0 : Int32) + ov1))])) rfl rfl (hb hby d6_16)
  refine OE.v st9 ?_
  show OE _ _ _ _ (T9.setTop (mkF m 19 #[rv a, iv 1, iv ((0 : Int32) + ov1), iv 0] [(.ref ro), (.int ((0 : Int32) + ov1))]))
  refine OE.v (fun t k => XS.iloadN X9.here hx rfl (hb hby d6_19) rfl k) ?_
  show OE _ _ _ _ (T9.setTop (mkF m 20 #[rv a, iv 1, iv ((0 : Int32) + ov1), iv 0] [(.int 0), (.ref ro), (.int ((0 : Int32) + ov1))]))
  obtain ⟨cl10, Ar10, q10, S10, M10, H10, G10⟩ := id P3
  have hin10 : ¬ ((0 : Int32) < 0 ∨ cl10.slots.size ≤ ((0 : Int32)).toNatClampNeg) := inb_of S10 ⟨by decide, by decide⟩
  have hat10 : cl10.slots[((0 : Int32)).toNatClampNeg]? = some (.int ov0) := H10.at hin10 rfl
  refine OE.v (X9.iaload hx (j := (0 : Int32)) (v := (.int ov0)) (by rw [e9]; exact Ar10.1) (State.isArrayOf_alike hZ.alike Ar10.2.1) Ar10.2.2 hin10 hat10 (g := (mkF m 20 #[rv a, iv 1, iv ((0 : Int32) + ov1), iv 0] [(.int 0), (.ref ro), (.int ((0 : Int32) + ov1))])) rfl rfl (hb hby d6_20)) ?_
  show OE _ _ _ _ (T9.setTop (mkF m 21 #[rv a, iv 1, iv ((0 : Int32) + ov1), iv 0] [(.int ov0), (.int ((0 : Int32) + ov1))]))
  refine OE.v (fun t k => XS.iadd X9.here hx rfl (hb hby d6_21) rfl k) ?_
  refine OE.v (fun t k => XS.istoreN X9.here hx rfl (hb hby d6_22) rfl (l' := #[rv a, iv 1, iv (((0 : Int32) + ov1) + ov0), iv 0]) rfl k) ?_
  refine OE.v (fun t k => XS.aloadN X9.here hx rfl (hb hby d6_23) rfl rfl k) ?_
  show OE _ _ _ _ (T9.setTop (mkF m 24 #[rv a, iv 1, iv (((0 : Int32) + ov1) + ov0), iv 0] [(.ref a)]))
  obtain ⟨T11, X11, e11, st11⟩ := getF X9 hx hZ hown (host := "") (Or.inl (hw _ (own_w 10 rfl))) Via.refl e9 P0 (g := (mkF m 24 #[rv a, iv 1, iv (((0 : Int32) + ov1) + ov0), iv 0] [(.ref a)])) rfl rfl (hb hby d6_24)
  refine OE.v st11 ?_
  show OE _ _ _ _ (T11.setTop (mkF m 27 #[rv a, iv 1, iv (((0 : Int32) + ov1) + ov0), iv 0] [(.ref rp)]))
  refine OE.v (fun t k => XS.iloadN X11.here hx rfl (hb hby d6_27) rfl k) ?_
  show OE _ _ _ _ (T11.setTop (mkF m 28 #[rv a, iv 1, iv (((0 : Int32) + ov1) + ov0), iv 0] [(.int 0), (.ref rp)]))
  obtain ⟨cl12, Ar12, q12, S12, M12, H12, G12⟩ := id P1
  have hin12 : ¬ ((0 : Int32) < 0 ∨ cl12.slots.size ≤ ((0 : Int32)).toNatClampNeg) := inb_of S12 ⟨by decide, by decide⟩
  have hat12 : cl12.slots[((0 : Int32)).toNatClampNeg]? = some (.int 2) := H12.at hin12 rfl
  refine OE.v (X11.iaload hx (j := (0 : Int32)) (v := (.int 2)) (by rw [e11]; exact Ar12.1) (State.isArrayOf_alike hZ.alike Ar12.2.1) Ar12.2.2 hin12 hat12 (g := (mkF m 28 #[rv a, iv 1, iv (((0 : Int32) + ov1) + ov0), iv 0] [(.int 0), (.ref rp)])) rfl rfl (hb hby d6_28)) ?_
  show OE _ _ _ _ (T11.setTop (mkF m 29 #[rv a, iv 1, iv (((0 : Int32) + ov1) + ov0), iv 0] [(.int 2)]))
  refine OE.v (fun t k => XS.istoreN X11.here hx rfl (hb hby d6_29) rfl (l' := #[rv a, iv 1, iv (((0 : Int32) + ov1) + ov0), iv 2]) rfl k) ?_
  refine OE.v (fun t k => XS.goto X11.here hx rfl (pc0 := 30) (pc' := 4) rfl (hb hby d6_30) (by decide) (by decide) k) ?_
  refine OE.v (fun t k => XS.aloadN X11.here hx rfl (hb hby d6_4) rfl rfl k) ?_
  show OE _ _ _ _ (T11.setTop (mkF m 5 #[rv a, iv 1, iv (((0 : Int32) + ov1) + ov0), iv 2] [(.ref a)]))
  obtain ⟨T13, X13, e13, st13⟩ := getF X11 hx hZ hown (host := "") (Or.inl (hw _ (own_w 10 rfl))) Via.refl e11 P0 (g := (mkF m 5 #[rv a, iv 1, iv (((0 : Int32) + ov1) + ov0), iv 2] [(.ref a)])) rfl rfl (hb hby d6_5)
  refine OE.v st13 ?_
  show OE _ _ _ _ (T13.setTop (mkF m 8 #[rv a, iv 1, iv (((0 : Int32) + ov1) + ov0), iv 2] [(.ref rp)]))
  refine OE.v (fun t k => XS.iloadN X13.here hx rfl (hb hby d6_8) rfl k) ?_
  show OE _ _ _ _ (T13.setTop (mkF m 9 #[rv a, iv 1, iv (((0 : Int32) + ov1) + ov0), iv 2] [(.int 2), (.ref rp)]))
  obtain ⟨cl14, Ar14, q14, S14, M14, H14, G14⟩ := id P1
  have hin14 : ¬ ((2 : Int32) < 0 ∨ cl14.slots.size ≤ ((2 : Int32)).toNatClampNeg) := inb_of S14 ⟨by decide, by decide⟩
  have hat14 : cl14.slots[((2 : Int32)).toNatClampNeg]? = some (.int 2) := H14.at hin14 rfl
  refine OE.v (X13.iaload hx (j := (2 : Int32)) (v := (.int 2)) (by rw [e13]; exact Ar14.1) (State.isArrayOf_alike hZ.alike Ar14.2.1) Ar14.2.2 hin14 hat14 (g := (mkF m 9 #[rv a, iv 1, iv (((0 : Int32) + ov1) + ov0), iv 2] [(.int 2), (.ref rp)])) rfl rfl (hb hby d6_9)) ?_
  show OE _ _ _ _ (T13.setTop (mkF m 10 #[rv a, iv 1, iv (((0 : Int32) + ov1) + ov0), iv 2] [(.int 2)]))
  refine OE.v (fun t k => XS.iloadN X13.here hx rfl (hb hby d6_10) rfl k) ?_
  show OE _ _ _ _ (T13.setTop (mkF m 11 #[rv a, iv 1, iv (((0 : Int32) + ov1) + ov0), iv 2] [(.int 2), (.int 2)]))
  refine OE.v (fun t k => XS.icmpYes X13.here hx rfl (pc0 := 11) (pc' := 33) rfl (hb hby d6_11) rfl (teq (by decide)).1 (by decide) (by decide) k) ?_
  show OE _ _ _ _ (T13.setTop (mkF m 33 #[rv a, iv 1, iv (((0 : Int32) + ov1) + ov0), iv 2] []))
  refine OE.v (fun t k => XS.iloadN X13.here hx rfl (hb hby d6_33) rfl k) ?_
  show OE _ _ _ _ (T13.setTop (mkF m 34 #[rv a, iv 1, iv (((0 : Int32) + ov1) + ov0), iv 2] [(.int (((0 : Int32) + ov1) + ov0))]))
  obtain ⟨fs, hr, hrun, hended, hW, hsame⟩ := X13.leave (v := some (.int (((0 : Int32) + ov1) + ov0))) (fun h => by rw [Bd.returns] at h; cases h)
  refine ⟨_, _, ?_, hrun, hended, _, _, rfl, ?_, ⟨_, rfl⟩, hW, hsame.mono (by decide) (by decide)⟩
  · exact retI X13 hx Bd.returns (hb hby d6_34) hr
  · show Qo1_2022 Z a rp kp ro ko ov0 ov1 ov2 ov3 h0 n0 _ T13.heap _
    rw [e13]
    exact ⟨rfl, N0, rfl⟩

theorem pn_rmo2_2022 : plainName "com/example/stratal/stratal/logic/StratumGroups" = true := by first | (simp [plainName, overriddenIn]; done) | decide +kernel
theorem ef_rmo2_2022 (m : MethodId) (a : Addr) : entryFrame m #[(.ref a), (.int 2)] 4 = mkF m 0 #[rv a, iv 2, .unset, .unset] [] := by first | (simp [entryFrame, mkF, argsToLocals, Value.category]; done) | rfl
def Qo2_2022 (Z : State) (a : Addr) (rp : Addr) (kp : ClassId) (ro : Addr) (ko : ClassId) (ov0 : Int32) (ov1 : Int32) (ov2 : Int32) (ov3 : Int32) (h0 : Heap) (n0 : Nat) (v : Option Value) (h : Heap) (L : List Loc) : Prop := v = some (.int 0) ∧ Fr n0 L ∧ h = h0
set_option maxRecDepth 65536 in
set_option maxHeartbeats 40000000 in
theorem rmo2_2022 (l : Launch) (Z : State) (a0 : Array Value) (hw : ∀ d ∈ tables_1, d.before a0 Z = true) (ws : List Jvm.Cond) (a : Addr) (rp : Addr) (kp : ClassId) (ro : Addr) (ko : ClassId) (ov0 : Int32) (ov1 : Int32) (ov2 : Int32) (ov3 : Int32) (h0 : Heap) (n0 : Nat) (Z0 : n0 ≤ h0.size) (P0 : Fld Z h0 a "com/example/stratal/stratal/logic/StratumGroups" "mParent" "[I" (.ref rp)) (P1 : Arv Z h0 rp kp .int (16 : Int32) [(.int 2), (.int 0), (.int 2), (.int 2)] (.int 0)) (P2 : Fld Z h0 a "com/example/stratal/stratal/logic/StratumGroups" "mOffset" "[I" (.ref ro)) (P3 : Arv Z h0 ro ko .int (16 : Int32) [(.int ov0), (.int ov1), (.int ov2), (.int ov3)] (.int 0)) :
    MetFree l (⟨"com/example/stratal/stratal/logic/StratumGroups", "offset", "(I)I"⟩ : MethodName) (head1 (Jvm.Cond.code (⟨"com/example/stratal/stratal/logic/StratumGroups", "offset", "(I)I"⟩ : MethodName) prog_53_method_4_code 4 (some .int) :: ws) ({ frames := 0, cells := 0, slots := 0, locals := 0 } : Room)) (fun aa U => aa = #[(.ref a), (.int 2)] ∧ Z.Warmed39 U.vm ∧ U.heap = h0) (fun _ _ _ _ _ => True) (fun _ U o U' => ∃ v L, o = .returned v ∧ Qo2_2022 Z a rp kp ro ko ov0 ov1 ov2 ov3 h0 n0 v U'.heap L ∧ FrameEnd U o U' L ({ frames := 0, cells := 0, slots := 0, locals := 0 } : Room).cells ({ frames := 0, cells := 0, slots := 0, locals := 0 } : Room).slots) := by
  refine MetFree.of_bodySF (plainFor_of_name pn_rmo2_2022) hisR ?_
  intro p e s m args below meth c s₁ Bd hml0 hP hK
  obtain ⟨rfl, hZ, hh⟩ := hP
  have hx := Bd.exec
  have hby := Bd.bytes
  have hml : c.maxLocals = 4 := hml0
  have hown : s.vm.findClass "com/example/stratal/stratal/logic/StratumGroups" = some m.cls := findClass_of_methodNamed Bd.named
  have hnm := (name_of_methodNamed Bd.named Bd.method).1
  have X0 : Stand p l e ({ frames := 0, cells := 0, slots := 0, locals := 0 } : Room) s m #[(.ref a), (.int 2)] below meth c s₁ [] 0 0 := Stand.of_body Bd
  have e0 : s₁.heap = h0 := by rw [← hh, Bd.state]; rfl
  have N0 := Fr.nil n0
  change OE p.tables e below _ _
  refine OE.v (fun t k => castTop (ef_rmo2_2022 m a) k) ?_
  show OE _ _ _ _ (s₁.setTop (mkF m 0 #[rv a, iv 2, .unset, .unset] []))
  refine OE.v (fun t k => XS.iconst X0.here hx rfl (hb hby d6_0) k) ?_
  refine OE.v (fun t k => XS.istoreN X0.here hx rfl (hb hby d6_1) rfl (l' := #[rv a, iv 2, iv 0, .unset]) rfl k) ?_
  refine OE.v (fun t k => XS.iloadN X0.here hx rfl (hb hby d6_2) rfl k) ?_
  refine OE.v (fun t k => XS.istoreN X0.here hx rfl (hb hby d6_3) rfl (l' := #[rv a, iv 2, iv 0, iv 2]) rfl k) ?_
  refine OE.v (fun t k => XS.aloadN X0.here hx rfl (hb hby d6_4) rfl rfl k) ?_
  show OE _ _ _ _ (s₁.setTop (mkF m 5 #[rv a, iv 2, iv 0, iv 2] [(.ref a)]))
  obtain ⟨T1, X1, e1, st1⟩ := getF X0 hx hZ hown (host := "") (Or.inl (hw _ (own_w 10 rfl))) Via.refl e0 P0 (g := (mkF m 5 #[rv a, iv 2, iv 0, iv 2] [(.ref a)])) rfl rfl (hb hby d6_5)
  refine OE.v st1 ?_
  show OE _ _ _ _ (T1.setTop (mkF m 8 #[rv a, iv 2, iv 0, iv 2] [(.ref rp)]))
  refine OE.v (fun t k => XS.iloadN X1.here hx rfl (hb hby d6_8) rfl k) ?_
  show OE _ _ _ _ (T1.setTop (mkF m 9 #[rv a, iv 2, iv 0, iv 2] [(.int 2), (.ref rp)]))
  obtain ⟨cl2, Ar2, q2, S2, M2, H2, G2⟩ := id P1
  have hin2 : ¬ ((2 : Int32) < 0 ∨ cl2.slots.size ≤ ((2 : Int32)).toNatClampNeg) := inb_of S2 ⟨by decide, by decide⟩
  have hat2 : cl2.slots[((2 : Int32)).toNatClampNeg]? = some (.int 2) := H2.at hin2 rfl
  refine OE.v (X1.iaload hx (j := (2 : Int32)) (v := (.int 2)) (by rw [e1]; exact Ar2.1) (State.isArrayOf_alike hZ.alike Ar2.2.1) Ar2.2.2 hin2 hat2 (g := (mkF m 9 #[rv a, iv 2, iv 0, iv 2] [(.int 2), (.ref rp)])) rfl rfl (hb hby d6_9)) ?_
  show OE _ _ _ _ (T1.setTop (mkF m 10 #[rv a, iv 2, iv 0, iv 2] [(.int 2)]))
  refine OE.v (fun t k => XS.iloadN X1.here hx rfl (hb hby d6_10) rfl k) ?_
  show OE _ _ _ _ (T1.setTop (mkF m 11 #[rv a, iv 2, iv 0, iv 2] [(.int 2), (.int 2)]))
  refine OE.v (fun t k => XS.icmpYes X1.here hx rfl (pc0 := 11) (pc' := 33) rfl (hb hby d6_11) rfl (teq (by decide)).1 (by decide) (by decide) k) ?_
  show OE _ _ _ _ (T1.setTop (mkF m 33 #[rv a, iv 2, iv 0, iv 2] []))
  refine OE.v (fun t k => XS.iloadN X1.here hx rfl (hb hby d6_33) rfl k) ?_
  show OE _ _ _ _ (T1.setTop (mkF m 34 #[rv a, iv 2, iv 0, iv 2] [(.int 0)]))
  obtain ⟨fs, hr, hrun, hended, hW, hsame⟩ := X1.leave (v := some (.int 0)) (fun h => by rw [Bd.returns] at h; cases h)
  refine ⟨_, _, ?_, hrun, hended, _, _, rfl, ?_, ⟨_, rfl⟩, hW, hsame.mono (by decide) (by decide)⟩
  · exact retI X1 hx Bd.returns (hb hby d6_34) hr
  · show Qo2_2022 Z a rp kp ro ko ov0 ov1 ov2 ov3 h0 n0 _ T1.heap _
    rw [e1]
    exact ⟨rfl, N0, rfl⟩

theorem pn_rmo3_2022 : plainName "com/example/stratal/stratal/logic/StratumGroups" = true := by first | (simp [plainName, overriddenIn]; done) | decide +kernel
theorem ef_rmo3_2022 (m : MethodId) (a : Addr) : entryFrame m #[(.ref a), (.int 3)] 4 = mkF m 0 #[rv a, iv 3, .unset, .unset] [] := by first | (simp [entryFrame, mkF, argsToLocals, Value.category]; done) | rfl
def Qo3_2022 (Z : State) (a : Addr) (rp : Addr) (kp : ClassId) (ro : Addr) (ko : ClassId) (ov0 : Int32) (ov1 : Int32) (ov2 : Int32) (ov3 : Int32) (h0 : Heap) (n0 : Nat) (v : Option Value) (h : Heap) (L : List Loc) : Prop := v = some (.int ((0 : Int32) + ov3)) ∧ Fr n0 L ∧ h = h0
set_option maxRecDepth 65536 in
set_option maxHeartbeats 40000000 in
theorem rmo3_2022 (l : Launch) (Z : State) (a0 : Array Value) (hw : ∀ d ∈ tables_1, d.before a0 Z = true) (ws : List Jvm.Cond) (a : Addr) (rp : Addr) (kp : ClassId) (ro : Addr) (ko : ClassId) (ov0 : Int32) (ov1 : Int32) (ov2 : Int32) (ov3 : Int32) (h0 : Heap) (n0 : Nat) (Z0 : n0 ≤ h0.size) (P0 : Fld Z h0 a "com/example/stratal/stratal/logic/StratumGroups" "mParent" "[I" (.ref rp)) (P1 : Arv Z h0 rp kp .int (16 : Int32) [(.int 2), (.int 0), (.int 2), (.int 2)] (.int 0)) (P2 : Fld Z h0 a "com/example/stratal/stratal/logic/StratumGroups" "mOffset" "[I" (.ref ro)) (P3 : Arv Z h0 ro ko .int (16 : Int32) [(.int ov0), (.int ov1), (.int ov2), (.int ov3)] (.int 0)) :
    MetFree l (⟨"com/example/stratal/stratal/logic/StratumGroups", "offset", "(I)I"⟩ : MethodName) (head1 (Jvm.Cond.code (⟨"com/example/stratal/stratal/logic/StratumGroups", "offset", "(I)I"⟩ : MethodName) prog_53_method_4_code 4 (some .int) :: ws) ({ frames := 0, cells := 0, slots := 0, locals := 0 } : Room)) (fun aa U => aa = #[(.ref a), (.int 3)] ∧ Z.Warmed39 U.vm ∧ U.heap = h0) (fun _ _ _ _ _ => True) (fun _ U o U' => ∃ v L, o = .returned v ∧ Qo3_2022 Z a rp kp ro ko ov0 ov1 ov2 ov3 h0 n0 v U'.heap L ∧ FrameEnd U o U' L ({ frames := 0, cells := 0, slots := 0, locals := 0 } : Room).cells ({ frames := 0, cells := 0, slots := 0, locals := 0 } : Room).slots) := by
  refine MetFree.of_bodySF (plainFor_of_name pn_rmo3_2022) hisR ?_
  intro p e s m args below meth c s₁ Bd hml0 hP hK
  obtain ⟨rfl, hZ, hh⟩ := hP
  have hx := Bd.exec
  have hby := Bd.bytes
  have hml : c.maxLocals = 4 := hml0
  have hown : s.vm.findClass "com/example/stratal/stratal/logic/StratumGroups" = some m.cls := findClass_of_methodNamed Bd.named
  have hnm := (name_of_methodNamed Bd.named Bd.method).1
  have X0 : Stand p l e ({ frames := 0, cells := 0, slots := 0, locals := 0 } : Room) s m #[(.ref a), (.int 3)] below meth c s₁ [] 0 0 := Stand.of_body Bd
  have e0 : s₁.heap = h0 := by rw [← hh, Bd.state]; rfl
  have N0 := Fr.nil n0
  change OE p.tables e below _ _
  refine OE.v (fun t k => castTop (ef_rmo3_2022 m a) k) ?_
  show OE _ _ _ _ (s₁.setTop (mkF m 0 #[rv a, iv 3, .unset, .unset] []))
  refine OE.v (fun t k => XS.iconst X0.here hx rfl (hb hby d6_0) k) ?_
  refine OE.v (fun t k => XS.istoreN X0.here hx rfl (hb hby d6_1) rfl (l' := #[rv a, iv 3, iv 0, .unset]) rfl k) ?_
  refine OE.v (fun t k => XS.iloadN X0.here hx rfl (hb hby d6_2) rfl k) ?_
  refine OE.v (fun t k => XS.istoreN X0.here hx rfl (hb hby d6_3) rfl (l' := #[rv a, iv 3, iv 0, iv 3]) rfl k) ?_
  refine OE.v (fun t k => XS.aloadN X0.here hx rfl (hb hby d6_4) rfl rfl k) ?_
  show OE _ _ _ _ (s₁.setTop (mkF m 5 #[rv a, iv 3, iv 0, iv 3] [(.ref a)]))
  obtain ⟨T1, X1, e1, st1⟩ := getF X0 hx hZ hown (host := "") (Or.inl (hw _ (own_w 10 rfl))) Via.refl e0 P0 (g := (mkF m 5 #[rv a, iv 3, iv 0, iv 3] [(.ref a)])) rfl rfl (hb hby d6_5)
  refine OE.v st1 ?_
  show OE _ _ _ _ (T1.setTop (mkF m 8 #[rv a, iv 3, iv 0, iv 3] [(.ref rp)]))
  refine OE.v (fun t k => XS.iloadN X1.here hx rfl (hb hby d6_8) rfl k) ?_
  show OE _ _ _ _ (T1.setTop (mkF m 9 #[rv a, iv 3, iv 0, iv 3] [(.int 3), (.ref rp)]))
  obtain ⟨cl2, Ar2, q2, S2, M2, H2, G2⟩ := id P1
  have hin2 : ¬ ((3 : Int32) < 0 ∨ cl2.slots.size ≤ ((3 : Int32)).toNatClampNeg) := inb_of S2 ⟨by decide, by decide⟩
  have hat2 : cl2.slots[((3 : Int32)).toNatClampNeg]? = some (.int 2) := H2.at hin2 rfl
  refine OE.v (X1.iaload hx (j := (3 : Int32)) (v := (.int 2)) (by rw [e1]; exact Ar2.1) (State.isArrayOf_alike hZ.alike Ar2.2.1) Ar2.2.2 hin2 hat2 (g := (mkF m 9 #[rv a, iv 3, iv 0, iv 3] [(.int 3), (.ref rp)])) rfl rfl (hb hby d6_9)) ?_
  show OE _ _ _ _ (T1.setTop (mkF m 10 #[rv a, iv 3, iv 0, iv 3] [(.int 2)]))
  refine OE.v (fun t k => XS.iloadN X1.here hx rfl (hb hby d6_10) rfl k) ?_
  show OE _ _ _ _ (T1.setTop (mkF m 11 #[rv a, iv 3, iv 0, iv 3] [(.int 3), (.int 2)]))
  refine OE.v (fun t k => XS.icmpNo X1.here hx rfl (hb hby d6_11) rfl (feq (by decide)).1 k) ?_
  show OE _ _ _ _ (T1.setTop (mkF m 14 #[rv a, iv 3, iv 0, iv 3] []))
  refine OE.v (fun t k => XS.iloadN X1.here hx rfl (hb hby d6_14) rfl k) ?_
  refine OE.v (fun t k => XS.aloadN X1.here hx rfl (hb hby d6_15) rfl rfl k) ?_
  show OE _ _ _ _ (T1.setTop (mkF m 16 #[rv a, iv 3, iv 0, iv 3] [(.ref a), (.int 0)]))
  obtain ⟨T3, X3, e3, st3⟩ := getF X1 hx hZ hown (host := "") (Or.inl (hw _ (own_w 12 rfl))) Via.refl e1 P2 (g := (mkF m 16 #[rv a, iv 3, iv 0, iv 3] [(.ref a), (.int 0)])) rfl rfl (hb hby d6_16)
  refine OE.v st3 ?_
  show OE _ _ _ _ (T3.setTop (mkF m 19 #[rv a, iv 3, iv 0, iv 3] [(.ref ro), (.int 0)]))
  refine OE.v (fun t k => XS.iloadN X3.here hx rfl (hb hby d6_19) rfl k) ?_
  show OE _ _ _ _ (T3.setTop (mkF m 20 #[rv a, iv 3, iv 0, iv 3] [(.int 3), (.ref ro), (.int 0)]))
  obtain ⟨cl4, Ar4, q4, S4, M4, H4, G4⟩ := id P3
  have hin4 : ¬ ((3 : Int32) < 0 ∨ cl4.slots.size ≤ ((3 : Int32)).toNatClampNeg) := inb_of S4 ⟨by decide, by decide⟩
  have hat4 : cl4.slots[((3 : Int32)).toNatClampNeg]? = some (.int ov3) := H4.at hin4 rfl
  refine OE.v (X3.iaload hx (j := (3 : Int32)) (v := (.int ov3)) (by rw [e3]; exact Ar4.1) (State.isArrayOf_alike hZ.alike Ar4.2.1) Ar4.2.2 hin4 hat4 (g := (mkF m 20 #[rv a, iv 3, iv 0, iv 3] [(.int 3), (.ref ro), (.int 0)])) rfl rfl (hb hby d6_20)) ?_
  show OE _ _ _ _ (T3.setTop (mkF m 21 #[rv a, iv 3, iv 0, iv 3] [(.int ov3), (.int 0)]))
  refine OE.v (fun t k => XS.iadd X3.here hx rfl (hb hby d6_21) rfl k) ?_
  refine OE.v (fun t k => XS.istoreN X3.here hx rfl (hb hby d6_22) rfl (l' := #[rv a, iv 3, iv ((0 : Int32) + ov3), iv 3]) rfl k) ?_
  refine OE.v (fun t k => XS.aloadN X3.here hx rfl (hb hby d6_23) rfl rfl k) ?_
  show OE _ _ _ _ (T3.setTop (mkF m 24 #[rv a, iv 3, iv ((0 : Int32) + ov3), iv 3] [(.ref a)]))
  obtain ⟨T5, X5, e5, st5⟩ := getF X3 hx hZ hown (host := "") (Or.inl (hw _ (own_w 10 rfl))) Via.refl e3 P0 (g := (mkF m 24 #[rv a, iv 3, iv ((0 : Int32) + ov3), iv 3] [(.ref a)])) rfl rfl (hb hby d6_24)
  refine OE.v st5 ?_
  show OE _ _ _ _ (T5.setTop (mkF m 27 #[rv a, iv 3, iv ((0 : Int32) + ov3), iv 3] [(.ref rp)]))
  refine OE.v (fun t k => XS.iloadN X5.here hx rfl (hb hby d6_27) rfl k) ?_
  show OE _ _ _ _ (T5.setTop (mkF m 28 #[rv a, iv 3, iv ((0 : Int32) + ov3), iv 3] [(.int 3), (.ref rp)]))
  obtain ⟨cl6, Ar6, q6, S6, M6, H6, G6⟩ := id P1
  have hin6 : ¬ ((3 : Int32) < 0 ∨ cl6.slots.size ≤ ((3 : Int32)).toNatClampNeg) := inb_of S6 ⟨by decide, by decide⟩
  have hat6 : cl6.slots[((3 : Int32)).toNatClampNeg]? = some (.int 2) := H6.at hin6 rfl
  refine OE.v (X5.iaload hx (j := (3 : Int32)) (v := (.int 2)) (by rw [e5]; exact Ar6.1) (State.isArrayOf_alike hZ.alike Ar6.2.1) Ar6.2.2 hin6 hat6 (g := (mkF m 28 #[rv a, iv 3, iv ((0 : Int32) + ov3), iv 3] [(.int 3), (.ref rp)])) rfl rfl (hb hby d6_28)) ?_
  show OE _ _ _ _ (T5.setTop (mkF m 29 #[rv a, iv 3, iv ((0 : Int32) + ov3), iv 3] [(.int 2)]))
  refine OE.v (fun t k => XS.istoreN X5.here hx rfl (hb hby d6_29) rfl (l' := #[rv a, iv 3, iv ((0 : Int32) + ov3), iv 2]) rfl k) ?_
  refine OE.v (fun t k => XS.goto X5.here hx rfl (pc0 := 30) (pc' := 4) rfl (hb hby d6_30) (by decide) (by decide) k) ?_
  refine OE.v (fun t k => XS.aloadN X5.here hx rfl (hb hby d6_4) rfl rfl k) ?_
  show OE _ _ _ _ (T5.setTop (mkF m 5 #[rv a, iv 3, iv ((0 : Int32) + ov3), iv 2] [(.ref a)]))
  obtain ⟨T7, X7, e7, st7⟩ := getF X5 hx hZ hown (host := "") (Or.inl (hw _ (own_w 10 rfl))) Via.refl e5 P0 (g := (mkF m 5 #[rv a, iv 3, iv ((0 : Int32) + ov3), iv 2] [(.ref a)])) rfl rfl (hb hby d6_5)
  refine OE.v st7 ?_
  show OE _ _ _ _ (T7.setTop (mkF m 8 #[rv a, iv 3, iv ((0 : Int32) + ov3), iv 2] [(.ref rp)]))
  refine OE.v (fun t k => XS.iloadN X7.here hx rfl (hb hby d6_8) rfl k) ?_
  show OE _ _ _ _ (T7.setTop (mkF m 9 #[rv a, iv 3, iv ((0 : Int32) + ov3), iv 2] [(.int 2), (.ref rp)]))
  obtain ⟨cl8, Ar8, q8, S8, M8, H8, G8⟩ := id P1
  have hin8 : ¬ ((2 : Int32) < 0 ∨ cl8.slots.size ≤ ((2 : Int32)).toNatClampNeg) := inb_of S8 ⟨by decide, by decide⟩
  have hat8 : cl8.slots[((2 : Int32)).toNatClampNeg]? = some (.int 2) := H8.at hin8 rfl
  refine OE.v (X7.iaload hx (j := (2 : Int32)) (v := (.int 2)) (by rw [e7]; exact Ar8.1) (State.isArrayOf_alike hZ.alike Ar8.2.1) Ar8.2.2 hin8 hat8 (g := (mkF m 9 #[rv a, iv 3, iv ((0 : Int32) + ov3), iv 2] [(.int 2), (.ref rp)])) rfl rfl (hb hby d6_9)) ?_
  show OE _ _ _ _ (T7.setTop (mkF m 10 #[rv a, iv 3, iv ((0 : Int32) + ov3), iv 2] [(.int 2)]))
  refine OE.v (fun t k => XS.iloadN X7.here hx rfl (hb hby d6_10) rfl k) ?_
  show OE _ _ _ _ (T7.setTop (mkF m 11 #[rv a, iv 3, iv ((0 : Int32) + ov3), iv 2] [(.int 2), (.int 2)]))
  refine OE.v (fun t k => XS.icmpYes X7.here hx rfl (pc0 := 11) (pc' := 33) rfl (hb hby d6_11) rfl (teq (by decide)).1 (by decide) (by decide) k) ?_
  show OE _ _ _ _ (T7.setTop (mkF m 33 #[rv a, iv 3, iv ((0 : Int32) + ov3), iv 2] []))
  refine OE.v (fun t k => XS.iloadN X7.here hx rfl (hb hby d6_33) rfl k) ?_
  show OE _ _ _ _ (T7.setTop (mkF m 34 #[rv a, iv 3, iv ((0 : Int32) + ov3), iv 2] [(.int ((0 : Int32) + ov3))]))
  obtain ⟨fs, hr, hrun, hended, hW, hsame⟩ := X7.leave (v := some (.int ((0 : Int32) + ov3))) (fun h => by rw [Bd.returns] at h; cases h)
  refine ⟨_, _, ?_, hrun, hended, _, _, rfl, ?_, ⟨_, rfl⟩, hW, hsame.mono (by decide) (by decide)⟩
  · exact retI X7 hx Bd.returns (hb hby d6_34) hr
  · show Qo3_2022 Z a rp kp ro ko ov0 ov1 ov2 ov3 h0 n0 _ T7.heap _
    rw [e7]
    exact ⟨rfl, N0, rfl⟩

theorem pn_rmJ30_0022 : plainName "com/example/stratal/stratal/logic/StratumGroups" = true := by first | (simp [plainName, overriddenIn]; done) | decide +kernel
theorem ef_rmJ30_0022 (m : MethodId) (a : Addr) (jr : Int32) : entryFrame m #[(.ref a), (.int 3), (.int 0), (.int jr)] 8 = mkF m 0 #[rv a, iv 3, iv 0, iv jr, .unset, .unset, .unset, .unset] [] := by first | (simp [entryFrame, mkF, argsToLocals, Value.category]; done) | rfl
def QJ30_0022 (Z : State) (a : Addr) (rp : Addr) (ro : Addr) (rs : Addr) (rf : Addr) (kp : ClassId) (ko : ClassId) (ks : ClassId) (kf : ClassId) (ov0 : Int32) (ov1 : Int32) (ov2 : Int32) (ov3 : Int32) (fv0 : Int32) (fv1 : Int32) (fv2 : Int32) (fv3 : Int32) (jr : Int32) (h0 : Heap) (n0 : Nat) (v : Option Value) (h : Heap) (L : List Loc) : Prop := v = some (.int 0) ∧ Fr n0 L ∧ Keep h0 h [rp, ro, rs, rf] ∧ Arv Z h rp kp .int (16 : Int32) [(.int 2), (.int 0), (.int 2), (.int 2)] (.int 0) ∧ Arv Z h ro ko .int (16 : Int32) [(.int ((((0 : Int32) + ov3) + jr) - (0 : Int32))), (.int ov1), (.int ov2), (.int ov3)] (.int 0) ∧ Arv Z h rs ks .int (16 : Int32) [(.int 2), (.int 1), (.int 4), (.int 1)] (.int 0) ∧ Arv Z h rf kf .int (16 : Int32) [(.int fv0), (.int fv1), (.int (own_max fv2 (fv0 - ((((0 : Int32) + ov3) + jr) - (0 : Int32))))), (.int fv3)] (.int 0)
set_option maxRecDepth 65536 in
set_option maxHeartbeats 40000000 in
theorem rmJ30_0022 (l : Launch) (Z : State) (a0 : Array Value) (hw : ∀ d ∈ tables_1, d.before a0 Z = true) (ws : List Jvm.Cond) (a : Addr) (rp : Addr) (ro : Addr) (rs : Addr) (rf : Addr) (kp : ClassId) (ko : ClassId) (ks : ClassId) (kf : ClassId) (ov0 : Int32) (ov1 : Int32) (ov2 : Int32) (ov3 : Int32) (fv0 : Int32) (fv1 : Int32) (fv2 : Int32) (fv3 : Int32) (jr : Int32) (h0 : Heap) (n0 : Nat) (Z0 : n0 ≤ h0.size) (P0 : Exa Z h0 a "com/example/stratal/stratal/logic/StratumGroups") (P1 : Fld Z h0 a "com/example/stratal/stratal/logic/StratumGroups" "mParent" "[I" (.ref rp)) (P2 : Fld Z h0 a "com/example/stratal/stratal/logic/StratumGroups" "mOffset" "[I" (.ref ro)) (P3 : Fld Z h0 a "com/example/stratal/stratal/logic/StratumGroups" "mSize" "[I" (.ref rs)) (P4 : Fld Z h0 a "com/example/stratal/stratal/logic/StratumGroups" "mFloor" "[I" (.ref rf)) (P5 : Fld Z h0 a "com/example/stratal/stratal/logic/StratumGroups" "mRecording" "Z" (.int 0)) (P6 : Arv Z h0 rp kp .int (16 : Int32) [(.int 0), (.int 0), (.int 2), (.int 2)] (.int 0)) (P7 : Arv Z h0 ro ko .int (16 : Int32) [(.int ov0), (.int ov1), (.int ov2), (.int ov3)] (.int 0)) (P8 : Arv Z h0 rs ks .int (16 : Int32) [(.int 2), (.int 1), (.int 2), (.int 1)] (.int 0)) (P9 : Arv Z h0 rf kf .int (16 : Int32) [(.int fv0), (.int fv1), (.int fv2), (.int fv3)] (.int 0)) (P10 : rp ≠ a) (P11 : ro ≠ a) (P12 : rs ≠ a) (P13 : rf ≠ a) (P14 : rp ≠ ro) (P15 : rp ≠ rs) (P16 : rp ≠ rf) (P17 : ro ≠ rs) (P18 : ro ≠ rf) (P19 : rs ≠ rf) (P20 : n0 ≤ rp) (P21 : n0 ≤ ro) (P22 : n0 ≤ rs) (P23 : n0 ≤ rf) :
    MetFree l (⟨"com/example/stratal/stratal/logic/StratumGroups", "join", "(III)I"⟩ : MethodName) (head1 (Jvm.Cond.code (⟨"com/example/stratal/stratal/logic/StratumGroups", "join", "(III)I"⟩ : MethodName) prog_53_method_5_code 8 (some .int) :: ws) ({ frames := 2, cells := 0, slots := 0, locals := 30 } : Room)) (fun aa U => aa = #[(.ref a), (.int 3), (.int 0), (.int jr)] ∧ Z.Warmed39 U.vm ∧ U.heap = h0) (fun _ _ _ _ _ => True) (fun _ U o U' => ∃ v L, o = .returned v ∧ QJ30_0022 Z a rp ro rs rf kp ko ks kf ov0 ov1 ov2 ov3 fv0 fv1 fv2 fv3 jr h0 n0 v U'.heap L ∧ FrameEnd U o U' L ({ frames := 2, cells := 0, slots := 0, locals := 30 } : Room).cells ({ frames := 2, cells := 0, slots := 0, locals := 30 } : Room).slots) := by
  refine MetFree.of_bodySF (plainFor_of_name pn_rmJ30_0022) hisR ?_
  intro p e s m args below meth c s₁ Bd hml0 hP hK
  obtain ⟨rfl, hZ, hh⟩ := hP
  have hx := Bd.exec
  have hby := Bd.bytes
  have hml : c.maxLocals = 8 := hml0
  have hown : s.vm.findClass "com/example/stratal/stratal/logic/StratumGroups" = some m.cls := findClass_of_methodNamed Bd.named
  have hnm := (name_of_methodNamed Bd.named Bd.method).1
  have X0 : Stand p l e ({ frames := 2, cells := 0, slots := 0, locals := 30 } : Room) s m #[(.ref a), (.int 3), (.int 0), (.int jr)] below meth c s₁ [] 0 0 := Stand.of_body Bd
  have e0 : s₁.heap = h0 := by rw [← hh, Bd.state]; rfl
  have N0 := Fr.nil n0
  change OE p.tables e below _ _
  refine OE.v (fun t k => castTop (ef_rmJ30_0022 m a jr) k) ?_
  show OE _ _ _ _ (s₁.setTop (mkF m 0 #[rv a, iv 3, iv 0, iv jr, .unset, .unset, .unset, .unset] []))
  refine OE.v (fun t k => XS.aloadN X0.here hx rfl (hb hby d4_0) rfl rfl k) ?_
  refine OE.v (fun t k => XS.iloadN X0.here hx rfl (hb hby d4_1) rfl k) ?_
  show OE _ _ _ _ (s₁.setTop (mkF m 2 #[rv a, iv 3, iv 0, iv jr, .unset, .unset, .unset, .unset] [(.int 3), (.ref a)]))
  obtain ⟨cq1, kq1, q1a, q1b, q1c⟩ := isOf hZ e0 P0
  obtain ⟨_, _, ⟨T1, L1, k1, n1⟩, -, X1, ⟨Lc1, hQ1, l1, y1, z1⟩, st1⟩ := X0.virtualBack hx (y := (⟨"com/example/stratal/stratal/logic/StratumGroups", "find", "(I)I"⟩ : MethodName)) (z := (⟨"com/example/stratal/stratal/logic/StratumGroups", "find", "(I)I"⟩ : MethodName)) hown (mvT hZ (hw _ (own_w 32 rfl))) (mvT hZ (hw _ (own_w 33 rfl))) (notFace_of_selects (args := #[]) (mvT hZ (hw _ (own_w 35 rfl)))) (mvT hZ (hw _ (own_w 35 rfl))) (mvT hZ (hw _ (own_w 34 rfl))) (by decide) (backOf (W := 0) (rmf3_0022 l Z a0 hw [] a rp kp h0 n0 Z0 P1 P6) hZ (hw _ (own_w 36 rfl)) (hw _ (own_w 2 rfl)) (by decide) (by decide)) q1a q1c (g := (mkF m 2 #[rv a, iv 3, iv 0, iv jr, .unset, .unset, .unset, .unset] [(.int 3), (.ref a)])) rfl (by rw [hml]; rfl) (Steps.refl _) (argsL := [(.int 3)]) (rest := []) (lenOf pd_4 rfl) rfl (Nat.le_of_eq rfl) (hb hby d4_2) (fun _ _ => ⟨rfl, e0, (by decide : 0 + 0 ≤ _), (by decide : 0 + 0 ≤ _)⟩)
  dsimp only [Pt.U, Pt.locs, Pt.cells, Pt.slots] at X1 l1 y1 z1 st1 hQ1
  subst l1 y1 z1
  obtain ⟨rfl, Nq1, e1⟩ := hQ1
  have N1 := Fr.app N0 Nq1
  refine OE.v (fun t k => st1.trans k) ?_
  show OE _ _ _ _ (T1.setTop (mkF m 5 #[rv a, iv 3, iv 0, iv jr, .unset, .unset, .unset, .unset] [(.int 2)]))
  refine OE.v (fun t k => XS.istore X1.here hx rfl (hb hby d4_5) rfl (l' := #[rv a, iv 3, iv 0, iv jr, iv 2, .unset, .unset, .unset]) rfl k) ?_
  refine OE.v (fun t k => XS.aloadN X1.here hx rfl (hb hby d4_7) rfl rfl k) ?_
  refine OE.v (fun t k => XS.iloadN X1.here hx rfl (hb hby d4_8) rfl k) ?_
  show OE _ _ _ _ (T1.setTop (mkF m 9 #[rv a, iv 3, iv 0, iv jr, iv 2, .unset, .unset, .unset] [(.int 0), (.ref a)]))
  obtain ⟨cq2, kq2, q2a, q2b, q2c⟩ := isOf hZ e1 P0
  obtain ⟨_, _, ⟨T2, L2, k2, n2⟩, -, X2, ⟨Lc2, hQ2, l2, y2, z2⟩, st2⟩ := X1.virtualBack hx (y := (⟨"com/example/stratal/stratal/logic/StratumGroups", "find", "(I)I"⟩ : MethodName)) (z := (⟨"com/example/stratal/stratal/logic/StratumGroups", "find", "(I)I"⟩ : MethodName)) hown (mvT hZ (hw _ (own_w 32 rfl))) (mvT hZ (hw _ (own_w 33 rfl))) (notFace_of_selects (args := #[]) (mvT hZ (hw _ (own_w 35 rfl)))) (mvT hZ (hw _ (own_w 35 rfl))) (mvT hZ (hw _ (own_w 34 rfl))) (by decide) (backOf (W := 0) (rmf0_0022 l Z a0 hw [] a rp kp h0 n0 Z0 P1 P6) hZ (hw _ (own_w 36 rfl)) (hw _ (own_w 2 rfl)) (by decide) (by decide)) q2a q2c (g := (mkF m 9 #[rv a, iv 3, iv 0, iv jr, iv 2, .unset, .unset, .unset] [(.int 0), (.ref a)])) rfl (by rw [hml]; rfl) (Steps.refl _) (argsL := [(.int 0)]) (rest := []) (lenOf pd_4 rfl) rfl (Nat.le_of_eq rfl) (hb hby d4_9) (fun _ _ => ⟨rfl, e1, (by decide : 0 + 0 ≤ _), (by decide : 0 + 0 ≤ _)⟩)
  dsimp only [Pt.U, Pt.locs, Pt.cells, Pt.slots] at X2 l2 y2 z2 st2 hQ2
  subst l2 y2 z2
  obtain ⟨rfl, Nq2, e2⟩ := hQ2
  have N2 := Fr.app N1 Nq2
  refine OE.v (fun t k => st2.trans k) ?_
  show OE _ _ _ _ (T2.setTop (mkF m 12 #[rv a, iv 3, iv 0, iv jr, iv 2, .unset, .unset, .unset] [(.int 0)]))
  refine OE.v (fun t k => XS.istore X2.here hx rfl (hb hby d4_12) rfl (l' := #[rv a, iv 3, iv 0, iv jr, iv 2, iv 0, .unset, .unset]) rfl k) ?_
  refine OE.v (fun t k => XS.aloadN X2.here hx rfl (hb hby d4_14) rfl rfl k) ?_
  refine OE.v (fun t k => XS.iloadN X2.here hx rfl (hb hby d4_15) rfl k) ?_
  show OE _ _ _ _ (T2.setTop (mkF m 16 #[rv a, iv 3, iv 0, iv jr, iv 2, iv 0, .unset, .unset] [(.int 3), (.ref a)]))
  obtain ⟨cq3, kq3, q3a, q3b, q3c⟩ := isOf hZ e2 P0
  obtain ⟨_, _, ⟨T3, L3, k3, n3⟩, -, X3, ⟨Lc3, hQ3, l3, y3, z3⟩, st3⟩ := X2.virtualBack hx (y := (⟨"com/example/stratal/stratal/logic/StratumGroups", "offset", "(I)I"⟩ : MethodName)) (z := (⟨"com/example/stratal/stratal/logic/StratumGroups", "offset", "(I)I"⟩ : MethodName)) hown (mvT hZ (hw _ (own_w 37 rfl))) (mvT hZ (hw _ (own_w 38 rfl))) (notFace_of_selects (args := #[]) (mvT hZ (hw _ (own_w 40 rfl)))) (mvT hZ (hw _ (own_w 40 rfl))) (mvT hZ (hw _ (own_w 39 rfl))) (by decide) (backOf (W := 0) (rmo3_0022 l Z a0 hw [] a rp kp ro ko ov0 ov1 ov2 ov3 h0 n0 Z0 P1 P6 P2 P7) hZ (hw _ (own_w 41 rfl)) (hw _ (own_w 2 rfl)) (by decide) (by decide)) q3a q3c (g := (mkF m 16 #[rv a, iv 3, iv 0, iv jr, iv 2, iv 0, .unset, .unset] [(.int 3), (.ref a)])) rfl (by rw [hml]; rfl) (Steps.refl _) (argsL := [(.int 3)]) (rest := []) (lenOf pd_4 rfl) rfl (Nat.le_of_eq rfl) (hb hby d4_16) (fun _ _ => ⟨rfl, e2, (by decide : 0 + 0 ≤ _), (by decide : 0 + 0 ≤ _)⟩)
  dsimp only [Pt.U, Pt.locs, Pt.cells, Pt.slots] at X3 l3 y3 z3 st3 hQ3
  subst l3 y3 z3
  obtain ⟨rfl, Nq3, e3⟩ := hQ3
  have N3 := Fr.app N2 Nq3
  refine OE.v (fun t k => st3.trans k) ?_
  show OE _ _ _ _ (T3.setTop (mkF m 19 #[rv a, iv 3, iv 0, iv jr, iv 2, iv 0, .unset, .unset] [(.int ((0 : Int32) + ov3))]))
  refine OE.v (fun t k => XS.istore X3.here hx rfl (hb hby d4_19) rfl (l' := #[rv a, iv 3, iv 0, iv jr, iv 2, iv 0, iv ((0 : Int32) + ov3), .unset]) rfl k) ?_
  refine OE.v (fun t k => XS.aloadN X3.here hx rfl (hb hby d4_21) rfl rfl k) ?_
  refine OE.v (fun t k => XS.iloadN X3.here hx rfl (hb hby d4_22) rfl k) ?_
  show OE _ _ _ _ (T3.setTop (mkF m 23 #[rv a, iv 3, iv 0, iv jr, iv 2, iv 0, iv ((0 : Int32) + ov3), .unset] [(.int 0), (.ref a)]))
  obtain ⟨cq4, kq4, q4a, q4b, q4c⟩ := isOf hZ e3 P0
  obtain ⟨_, _, ⟨T4, L4, k4, n4⟩, -, X4, ⟨Lc4, hQ4, l4, y4, z4⟩, st4⟩ := X3.virtualBack hx (y := (⟨"com/example/stratal/stratal/logic/StratumGroups", "offset", "(I)I"⟩ : MethodName)) (z := (⟨"com/example/stratal/stratal/logic/StratumGroups", "offset", "(I)I"⟩ : MethodName)) hown (mvT hZ (hw _ (own_w 37 rfl))) (mvT hZ (hw _ (own_w 38 rfl))) (notFace_of_selects (args := #[]) (mvT hZ (hw _ (own_w 40 rfl)))) (mvT hZ (hw _ (own_w 40 rfl))) (mvT hZ (hw _ (own_w 39 rfl))) (by decide) (backOf (W := 0) (rmo0_0022 l Z a0 hw [] a rp kp ro ko ov0 ov1 ov2 ov3 h0 n0 Z0 P1 P6 P2 P7) hZ (hw _ (own_w 41 rfl)) (hw _ (own_w 2 rfl)) (by decide) (by decide)) q4a q4c (g := (mkF m 23 #[rv a, iv 3, iv 0, iv jr, iv 2, iv 0, iv ((0 : Int32) + ov3), .unset] [(.int 0), (.ref a)])) rfl (by rw [hml]; rfl) (Steps.refl _) (argsL := [(.int 0)]) (rest := []) (lenOf pd_4 rfl) rfl (Nat.le_of_eq rfl) (hb hby d4_23) (fun _ _ => ⟨rfl, e3, (by decide : 0 + 0 ≤ _), (by decide : 0 + 0 ≤ _)⟩)
  dsimp only [Pt.U, Pt.locs, Pt.cells, Pt.slots] at X4 l4 y4 z4 st4 hQ4
  subst l4 y4 z4
  obtain ⟨rfl, Nq4, e4⟩ := hQ4
  have N4 := Fr.app N3 Nq4
  refine OE.v (fun t k => st4.trans k) ?_
  show OE _ _ _ _ (T4.setTop (mkF m 26 #[rv a, iv 3, iv 0, iv jr, iv 2, iv 0, iv ((0 : Int32) + ov3), .unset] [(.int 0)]))
  refine OE.v (fun t k => XS.istore X4.here hx rfl (hb hby d4_26) rfl (l' := #[rv a, iv 3, iv 0, iv jr, iv 2, iv 0, iv ((0 : Int32) + ov3), iv 0]) rfl k) ?_
  refine OE.v (fun t k => XS.iload X4.here hx rfl (hb hby d4_28) rfl k) ?_
  refine OE.v (fun t k => XS.iload X4.here hx rfl (hb hby d4_30) rfl k) ?_
  show OE _ _ _ _ (T4.setTop (mkF m 32 #[rv a, iv 3, iv 0, iv jr, iv 2, iv 0, iv ((0 : Int32) + ov3), iv 0] [(.int 0), (.int 2)]))
  refine OE.v (fun t k => XS.icmpYes X4.here hx rfl (pc0 := 32) (pc' := 67) rfl (hb hby d4_32) rfl (feq (by decide)).2 (by decide) (by decide) k) ?_
  show OE _ _ _ _ (T4.setTop (mkF m 67 #[rv a, iv 3, iv 0, iv jr, iv 2, iv 0, iv ((0 : Int32) + ov3), iv 0] []))
  refine OE.v (fun t k => XS.aloadN X4.here hx rfl (hb hby d4_67) rfl rfl k) ?_
  show OE _ _ _ _ (T4.setTop (mkF m 68 #[rv a, iv 3, iv 0, iv jr, iv 2, iv 0, iv ((0 : Int32) + ov3), iv 0] [(.ref a)]))
  obtain ⟨T5, X5, e5, st5⟩ := getF X4 hx hZ hown (host := "") (Or.inl (hw _ (own_w 14 rfl))) Via.refl e4 P3 (g := (mkF m 68 #[rv a, iv 3, iv 0, iv jr, iv 2, iv 0, iv ((0 : Int32) + ov3), iv 0] [(.ref a)])) rfl rfl (hb hby d4_68)
  refine OE.v st5 ?_
  show OE _ _ _ _ (T5.setTop (mkF m 71 #[rv a, iv 3, iv 0, iv jr, iv 2, iv 0, iv ((0 : Int32) + ov3), iv 0] [(.ref rs)]))
  refine OE.v (fun t k => XS.iload X5.here hx rfl (hb hby d4_71) rfl k) ?_
  show OE _ _ _ _ (T5.setTop (mkF m 73 #[rv a, iv 3, iv 0, iv jr, iv 2, iv 0, iv ((0 : Int32) + ov3), iv 0] [(.int 2), (.ref rs)]))
  obtain ⟨cl6, Ar6, q6, S6, M6, H6, G6⟩ := id P8
  have hin6 : ¬ ((2 : Int32) < 0 ∨ cl6.slots.size ≤ ((2 : Int32)).toNatClampNeg) := inb_of S6 ⟨by decide, by decide⟩
  have hat6 : cl6.slots[((2 : Int32)).toNatClampNeg]? = some (.int 2) := H6.at hin6 rfl
  refine OE.v (X5.iaload hx (j := (2 : Int32)) (v := (.int 2)) (by rw [e5]; exact Ar6.1) (State.isArrayOf_alike hZ.alike Ar6.2.1) Ar6.2.2 hin6 hat6 (g := (mkF m 73 #[rv a, iv 3, iv 0, iv jr, iv 2, iv 0, iv ((0 : Int32) + ov3), iv 0] [(.int 2), (.ref rs)])) rfl rfl (hb hby d4_73)) ?_
  show OE _ _ _ _ (T5.setTop (mkF m 74 #[rv a, iv 3, iv 0, iv jr, iv 2, iv 0, iv ((0 : Int32) + ov3), iv 0] [(.int 2)]))
  refine OE.v (fun t k => XS.aloadN X5.here hx rfl (hb hby d4_74) rfl rfl k) ?_
  show OE _ _ _ _ (T5.setTop (mkF m 75 #[rv a, iv 3, iv 0, iv jr, iv 2, iv 0, iv ((0 : Int32) + ov3), iv 0] [(.ref a), (.int 2)]))
  obtain ⟨T7, X7, e7, st7⟩ := getF X5 hx hZ hown (host := "") (Or.inl (hw _ (own_w 14 rfl))) Via.refl e5 P3 (g := (mkF m 75 #[rv a, iv 3, iv 0, iv jr, iv 2, iv 0, iv ((0 : Int32) + ov3), iv 0] [(.ref a), (.int 2)])) rfl rfl (hb hby d4_75)
  refine OE.v st7 ?_
  show OE _ _ _ _ (T7.setTop (mkF m 78 #[rv a, iv 3, iv 0, iv jr, iv 2, iv 0, iv ((0 : Int32) + ov3), iv 0] [(.ref rs), (.int 2)]))
  refine OE.v (fun t k => XS.iload X7.here hx rfl (hb hby d4_78) rfl k) ?_
  show OE _ _ _ _ (T7.setTop (mkF m 80 #[rv a, iv 3, iv 0, iv jr, iv 2, iv 0, iv ((0 : Int32) + ov3), iv 0] [(.int 0), (.ref rs), (.int 2)]))
  obtain ⟨cl8, Ar8, q8, S8, M8, H8, G8⟩ := id P8
  have hin8 : ¬ ((0 : Int32) < 0 ∨ cl8.slots.size ≤ ((0 : Int32)).toNatClampNeg) := inb_of S8 ⟨by decide, by decide⟩
  have hat8 : cl8.slots[((0 : Int32)).toNatClampNeg]? = some (.int 2) := H8.at hin8 rfl
  refine OE.v (X7.iaload hx (j := (0 : Int32)) (v := (.int 2)) (by rw [e7]; exact Ar8.1) (State.isArrayOf_alike hZ.alike Ar8.2.1) Ar8.2.2 hin8 hat8 (g := (mkF m 80 #[rv a, iv 3, iv 0, iv jr, iv 2, iv 0, iv ((0 : Int32) + ov3), iv 0] [(.int 0), (.ref rs), (.int 2)])) rfl rfl (hb hby d4_80)) ?_
  show OE _ _ _ _ (T7.setTop (mkF m 81 #[rv a, iv 3, iv 0, iv jr, iv 2, iv 0, iv ((0 : Int32) + ov3), iv 0] [(.int 2), (.int 2)]))
  refine OE.v (fun t k => XS.icmpYes X7.here hx rfl (pc0 := 81) (pc' := 101) rfl (hb hby d4_81) rfl (flt (by decide)).2.1 (by decide) (by decide) k) ?_
  show OE _ _ _ _ (T7.setTop (mkF m 101 #[rv a, iv 3, iv 0, iv jr, iv 2, iv 0, iv ((0 : Int32) + ov3), iv 0] []))
  refine OE.v (fun t k => XS.aloadN X7.here hx rfl (hb hby d4_101) rfl rfl k) ?_
  refine OE.v (fun t k => XS.iload X7.here hx rfl (hb hby d4_102) rfl k) ?_
  refine OE.v (fun t k => XS.iload X7.here hx rfl (hb hby d4_104) rfl k) ?_
  refine OE.v (fun t k => XS.iload X7.here hx rfl (hb hby d4_106) rfl k) ?_
  refine OE.v (fun t k => XS.iloadN X7.here hx rfl (hb hby d4_108) rfl k) ?_
  refine OE.v (fun t k => XS.iadd X7.here hx rfl (hb hby d4_109) rfl k) ?_
  show OE _ _ _ _ (T7.setTop (mkF m 110 #[rv a, iv 3, iv 0, iv jr, iv 2, iv 0, iv ((0 : Int32) + ov3), iv 0] [(.int (((0 : Int32) + ov3) + jr)), (.int 2), (.int 0), (.ref a)]))
  refine OE.v (fun t k => XS.iload X7.here hx rfl (hb hby d4_110) rfl k) ?_
  refine OE.v (fun t k => XS.isub X7.here hx rfl (hb hby d4_112) rfl k) ?_
  show OE _ _ _ _ (T7.setTop (mkF m 113 #[rv a, iv 3, iv 0, iv jr, iv 2, iv 0, iv ((0 : Int32) + ov3), iv 0] [(.int ((((0 : Int32) + ov3) + jr) - (0 : Int32))), (.int 2), (.int 0), (.ref a)]))
  obtain ⟨cq9, q9, q9'⟩ := P0.cell
  obtain ⟨_, _, ⟨T9, L9, k9, n9⟩, -, X9, ⟨Lc9, hQ9, l9, y9, z9⟩, st9⟩ := X7.privateBack hx (y := (⟨"com/example/stratal/stratal/logic/StratumGroups", "hang", "(III)V"⟩ : MethodName)) hown (mvT hZ (hw _ (own_w 42 rfl))) (mvT hZ (hw _ (own_w 43 rfl))) (own_selp (mvT hZ (hw _ (own_w 1 rfl))) (Cond.privateMethod_at (mvP hZ (hw _ (own_w 44 rfl)) (args := #[]))) (mvT hZ (hw _ (own_w 43 rfl))) (by decide)) (Cond.privateMethod_at (mvP hZ (hw _ (own_w 44 rfl)) (args := #[]))) (mvT hZ (hw _ (own_w 45 rfl))) (by decide) (backOf (W := 0) (rmH02_0022 l Z a0 hw [] a rp ro rs rf kp ko ks kf ov0 ov1 ov2 ov3 fv0 fv1 fv2 fv3 ((((0 : Int32) + ov3) + jr) - (0 : Int32)) h0 n0 Z0 P0 P1 P2 P3 P4 P5 P6 P7 P8 P9 P10 P11 P12 P13 P14 P15 P16 P17 P18 P19 P20 P21 P22 P23) hZ (hw _ (own_w 45 rfl)) (hw _ (own_w 2 rfl)) (by decide) (by decide)) (g := (mkF m 113 #[rv a, iv 3, iv 0, iv jr, iv 2, iv 0, iv ((0 : Int32) + ov3), iv 0] [(.int ((((0 : Int32) + ov3) + jr) - (0 : Int32))), (.int 2), (.int 0), (.ref a)])) rfl (by rw [hml]; rfl) (Steps.refl _) (a := a) (by rw [e7]; exact q9) q9' (argsL := [(.int 0), (.int 2), (.int ((((0 : Int32) + ov3) + jr) - (0 : Int32)))]) (rest := []) (lenOf pd_2 rfl) rfl (Nat.le_of_eq rfl) (hb hby d4_113) (fun _ _ => ⟨rfl, e7, (by decide : 0 + 0 ≤ _), (by decide : 0 + 0 ≤ _)⟩)
  dsimp only [Pt.U, Pt.locs, Pt.cells, Pt.slots] at X9 l9 y9 z9 st9 hQ9
  subst l9 y9 z9
  obtain ⟨h9, e9⟩ : ∃ z, T9.heap = z := ⟨_, rfl⟩
  rw [e9] at hQ9
  obtain ⟨rfl, Nq9, Kq9, q9_0, q9_1, q9_2, q9_3⟩ := hQ9
  have Z9 : n0 ≤ h9.size := Nat.le_trans Z0 Kq9.1
  have K9 : Keep h0 h9 [rp, ro, rs, rf] := (Keep.refl h0 [rp, ro, rs, rf]).trans Kq9 (allS (Or.inl (by simp)) (allS (Or.inl (by simp)) (allS (Or.inl (by simp)) (allS (Or.inl (by simp)) all0))))
  have N9 := Fr.app N4 Nq9
  refine OE.v (fun t k => st9.trans k) ?_
  show OE _ _ _ _ (T9.setTop (mkF m 116 #[rv a, iv 3, iv 0, iv jr, iv 2, iv 0, iv ((0 : Int32) + ov3), iv 0] []))
  refine OE.v (fun t k => XS.iloadN X9.here hx rfl (hb hby d4_116) rfl k) ?_
  show OE _ _ _ _ (T9.setTop (mkF m 117 #[rv a, iv 3, iv 0, iv jr, iv 2, iv 0, iv ((0 : Int32) + ov3), iv 0] [(.int 0)]))
  obtain ⟨fs, hr, hrun, hended, hW, hsame⟩ := X9.leave (v := some (.int 0)) (fun h => by rw [Bd.returns] at h; cases h)
  refine ⟨_, _, ?_, hrun, hended, _, _, rfl, ?_, ⟨_, rfl⟩, hW, hsame.mono (by decide) (by decide)⟩
  · exact retI X9 hx Bd.returns (hb hby d4_117) hr
  · show QJ30_0022 Z a rp ro rs rf kp ko ks kf ov0 ov1 ov2 ov3 fv0 fv1 fv2 fv3 jr h0 n0 _ T9.heap _
    rw [e9]
    exact ⟨rfl, N9, K9, q9_0, q9_1, q9_2, q9_3⟩

theorem pn_rmJ21_0022 : plainName "com/example/stratal/stratal/logic/StratumGroups" = true := by first | (simp [plainName, overriddenIn]; done) | decide +kernel
theorem ef_rmJ21_0022 (m : MethodId) (a : Addr) (jr : Int32) : entryFrame m #[(.ref a), (.int 2), (.int 1), (.int jr)] 8 = mkF m 0 #[rv a, iv 2, iv 1, iv jr, .unset, .unset, .unset, .unset] [] := by first | (simp [entryFrame, mkF, argsToLocals, Value.category]; done) | rfl
def QJ21_0022 (Z : State) (a : Addr) (rp : Addr) (ro : Addr) (rs : Addr) (rf : Addr) (kp : ClassId) (ko : ClassId) (ks : ClassId) (kf : ClassId) (ov0 : Int32) (ov1 : Int32) (ov2 : Int32) (ov3 : Int32) (fv0 : Int32) (fv1 : Int32) (fv2 : Int32) (fv3 : Int32) (jr : Int32) (h0 : Heap) (n0 : Nat) (v : Option Value) (h : Heap) (L : List Loc) : Prop := v = some (.int 1) ∧ Fr n0 L ∧ Keep h0 h [rp, ro, rs, rf] ∧ Arv Z h rp kp .int (16 : Int32) [(.int 2), (.int 0), (.int 2), (.int 2)] (.int 0) ∧ Arv Z h ro ko .int (16 : Int32) [(.int (((0 : Int32) + jr) - ((0 : Int32) + ov1))), (.int ov1), (.int ov2), (.int ov3)] (.int 0) ∧ Arv Z h rs ks .int (16 : Int32) [(.int 2), (.int 1), (.int 4), (.int 1)] (.int 0) ∧ Arv Z h rf kf .int (16 : Int32) [(.int fv0), (.int fv1), (.int (own_max fv2 (fv0 - (((0 : Int32) + jr) - ((0 : Int32) + ov1))))), (.int fv3)] (.int 0)
set_option maxRecDepth 65536 in
set_option maxHeartbeats 40000000 in
theorem rmJ21_0022 (l : Launch) (Z : State) (a0 : Array Value) (hw : ∀ d ∈ tables_1, d.before a0 Z = true) (ws : List Jvm.Cond) (a : Addr) (rp : Addr) (ro : Addr) (rs : Addr) (rf : Addr) (kp : ClassId) (ko : ClassId) (ks : ClassId) (kf : ClassId) (ov0 : Int32) (ov1 : Int32) (ov2 : Int32) (ov3 : Int32) (fv0 : Int32) (fv1 : Int32) (fv2 : Int32) (fv3 : Int32) (jr : Int32) (h0 : Heap) (n0 : Nat) (Z0 : n0 ≤ h0.size) (P0 : Exa Z h0 a "com/example/stratal/stratal/logic/StratumGroups") (P1 : Fld Z h0 a "com/example/stratal/stratal/logic/StratumGroups" "mParent" "[I" (.ref rp)) (P2 : Fld Z h0 a "com/example/stratal/stratal/logic/StratumGroups" "mOffset" "[I" (.ref ro)) (P3 : Fld Z h0 a "com/example/stratal/stratal/logic/StratumGroups" "mSize" "[I" (.ref rs)) (P4 : Fld Z h0 a "com/example/stratal/stratal/logic/StratumGroups" "mFloor" "[I" (.ref rf)) (P5 : Fld Z h0 a "com/example/stratal/stratal/logic/StratumGroups" "mRecording" "Z" (.int 0)) (P6 : Arv Z h0 rp kp .int (16 : Int32) [(.int 0), (.int 0), (.int 2), (.int 2)] (.int 0)) (P7 : Arv Z h0 ro ko .int (16 : Int32) [(.int ov0), (.int ov1), (.int ov2), (.int ov3)] (.int 0)) (P8 : Arv Z h0 rs ks .int (16 : Int32) [(.int 2), (.int 1), (.int 2), (.int 1)] (.int 0)) (P9 : Arv Z h0 rf kf .int (16 : Int32) [(.int fv0), (.int fv1), (.int fv2), (.int fv3)] (.int 0)) (P10 : rp ≠ a) (P11 : ro ≠ a) (P12 : rs ≠ a) (P13 : rf ≠ a) (P14 : rp ≠ ro) (P15 : rp ≠ rs) (P16 : rp ≠ rf) (P17 : ro ≠ rs) (P18 : ro ≠ rf) (P19 : rs ≠ rf) (P20 : n0 ≤ rp) (P21 : n0 ≤ ro) (P22 : n0 ≤ rs) (P23 : n0 ≤ rf) :
    MetFree l (⟨"com/example/stratal/stratal/logic/StratumGroups", "join", "(III)I"⟩ : MethodName) (head1 (Jvm.Cond.code (⟨"com/example/stratal/stratal/logic/StratumGroups", "join", "(III)I"⟩ : MethodName) prog_53_method_5_code 8 (some .int) :: ws) ({ frames := 2, cells := 0, slots := 0, locals := 30 } : Room)) (fun aa U => aa = #[(.ref a), (.int 2), (.int 1), (.int jr)] ∧ Z.Warmed39 U.vm ∧ U.heap = h0) (fun _ _ _ _ _ => True) (fun _ U o U' => ∃ v L, o = .returned v ∧ QJ21_0022 Z a rp ro rs rf kp ko ks kf ov0 ov1 ov2 ov3 fv0 fv1 fv2 fv3 jr h0 n0 v U'.heap L ∧ FrameEnd U o U' L ({ frames := 2, cells := 0, slots := 0, locals := 30 } : Room).cells ({ frames := 2, cells := 0, slots := 0, locals := 30 } : Room).slots) := by
  refine MetFree.of_bodySF (plainFor_of_name pn_rmJ21_0022) hisR ?_
  intro p e s m args below meth c s₁ Bd hml0 hP hK
  obtain ⟨rfl, hZ, hh⟩ := hP
  have hx := Bd.exec
  have hby := Bd.bytes
  have hml : c.maxLocals = 8 := hml0
  have hown : s.vm.findClass "com/example/stratal/stratal/logic/StratumGroups" = some m.cls := findClass_of_methodNamed Bd.named
  have hnm := (name_of_methodNamed Bd.named Bd.method).1
  have X0 : Stand p l e ({ frames := 2, cells := 0, slots := 0, locals := 30 } : Room) s m #[(.ref a), (.int 2), (.int 1), (.int jr)] below meth c s₁ [] 0 0 := Stand.of_body Bd
  have e0 : s₁.heap = h0 := by rw [← hh, Bd.state]; rfl
  have N0 := Fr.nil n0
  change OE p.tables e below _ _
  refine OE.v (fun t k => castTop (ef_rmJ21_0022 m a jr) k) ?_
  show OE _ _ _ _ (s₁.setTop (mkF m 0 #[rv a, iv 2, iv 1, iv jr, .unset, .unset, .unset, .unset] []))
  refine OE.v (fun t k => XS.aloadN X0.here hx rfl (hb hby d4_0) rfl rfl k) ?_
  refine OE.v (fun t k => XS.iloadN X0.here hx rfl (hb hby d4_1) rfl k) ?_
  show OE _ _ _ _ (s₁.setTop (mkF m 2 #[rv a, iv 2, iv 1, iv jr, .unset, .unset, .unset, .unset] [(.int 2), (.ref a)]))
  obtain ⟨cq1, kq1, q1a, q1b, q1c⟩ := isOf hZ e0 P0
  obtain ⟨_, _, ⟨T1, L1, k1, n1⟩, -, X1, ⟨Lc1, hQ1, l1, y1, z1⟩, st1⟩ := X0.virtualBack hx (y := (⟨"com/example/stratal/stratal/logic/StratumGroups", "find", "(I)I"⟩ : MethodName)) (z := (⟨"com/example/stratal/stratal/logic/StratumGroups", "find", "(I)I"⟩ : MethodName)) hown (mvT hZ (hw _ (own_w 32 rfl))) (mvT hZ (hw _ (own_w 33 rfl))) (notFace_of_selects (args := #[]) (mvT hZ (hw _ (own_w 35 rfl)))) (mvT hZ (hw _ (own_w 35 rfl))) (mvT hZ (hw _ (own_w 34 rfl))) (by decide) (backOf (W := 0) (rmf2_0022 l Z a0 hw [] a rp kp h0 n0 Z0 P1 P6) hZ (hw _ (own_w 36 rfl)) (hw _ (own_w 2 rfl)) (by decide) (by decide)) q1a q1c (g := (mkF m 2 #[rv a, iv 2, iv 1, iv jr, .unset, .unset, .unset, .unset] [(.int 2), (.ref a)])) rfl (by rw [hml]; rfl) (Steps.refl _) (argsL := [(.int 2)]) (rest := []) (lenOf pd_4 rfl) rfl (Nat.le_of_eq rfl) (hb hby d4_2) (fun _ _ => ⟨rfl, e0, (by decide : 0 + 0 ≤ _), (by decide : 0 + 0 ≤ _)⟩)
  dsimp only [Pt.U, Pt.locs, Pt.cells, Pt.slots] at X1 l1 y1 z1 st1 hQ1
  subst l1 y1 z1
  obtain ⟨rfl, Nq1, e1⟩ := hQ1
  have N1 := Fr.app N0 Nq1
  refine OE.v (fun t k => st1.trans k) ?_
  show OE _ _ _ _ (T1.setTop (mkF m 5 #[rv a, iv 2, iv 1, iv jr, .unset, .unset, .unset, .unset] [(.int 2)]))
  refine OE.v (fun t k => XS.istore X1.here hx rfl (hb hby d4_5) rfl (l' := #[rv a, iv 2, iv 1, iv jr, iv 2, .unset, .unset, .unset]) rfl k) ?_
  refine OE.v (fun t k => XS.aloadN X1.here hx rfl (hb hby d4_7) rfl rfl k) ?_
  refine OE.v (fun t k => XS.iloadN X1.here hx rfl (hb hby d4_8) rfl k) ?_
  show OE _ _ _ _ (T1.setTop (mkF m 9 #[rv a, iv 2, iv 1, iv jr, iv 2, .unset, .unset, .unset] [(.int 1), (.ref a)]))
  obtain ⟨cq2, kq2, q2a, q2b, q2c⟩ := isOf hZ e1 P0
  obtain ⟨_, _, ⟨T2, L2, k2, n2⟩, -, X2, ⟨Lc2, hQ2, l2, y2, z2⟩, st2⟩ := X1.virtualBack hx (y := (⟨"com/example/stratal/stratal/logic/StratumGroups", "find", "(I)I"⟩ : MethodName)) (z := (⟨"com/example/stratal/stratal/logic/StratumGroups", "find", "(I)I"⟩ : MethodName)) hown (mvT hZ (hw _ (own_w 32 rfl))) (mvT hZ (hw _ (own_w 33 rfl))) (notFace_of_selects (args := #[]) (mvT hZ (hw _ (own_w 35 rfl)))) (mvT hZ (hw _ (own_w 35 rfl))) (mvT hZ (hw _ (own_w 34 rfl))) (by decide) (backOf (W := 0) (rmf1_0022 l Z a0 hw [] a rp kp h0 n0 Z0 P1 P6) hZ (hw _ (own_w 36 rfl)) (hw _ (own_w 2 rfl)) (by decide) (by decide)) q2a q2c (g := (mkF m 9 #[rv a, iv 2, iv 1, iv jr, iv 2, .unset, .unset, .unset] [(.int 1), (.ref a)])) rfl (by rw [hml]; rfl) (Steps.refl _) (argsL := [(.int 1)]) (rest := []) (lenOf pd_4 rfl) rfl (Nat.le_of_eq rfl) (hb hby d4_9) (fun _ _ => ⟨rfl, e1, (by decide : 0 + 0 ≤ _), (by decide : 0 + 0 ≤ _)⟩)
  dsimp only [Pt.U, Pt.locs, Pt.cells, Pt.slots] at X2 l2 y2 z2 st2 hQ2
  subst l2 y2 z2
  obtain ⟨rfl, Nq2, e2⟩ := hQ2
  have N2 := Fr.app N1 Nq2
  refine OE.v (fun t k => st2.trans k) ?_
  show OE _ _ _ _ (T2.setTop (mkF m 12 #[rv a, iv 2, iv 1, iv jr, iv 2, .unset, .unset, .unset] [(.int 0)]))
  refine OE.v (fun t k => XS.istore X2.here hx rfl (hb hby d4_12) rfl (l' := #[rv a, iv 2, iv 1, iv jr, iv 2, iv 0, .unset, .unset]) rfl k) ?_
  refine OE.v (fun t k => XS.aloadN X2.here hx rfl (hb hby d4_14) rfl rfl k) ?_
  refine OE.v (fun t k => XS.iloadN X2.here hx rfl (hb hby d4_15) rfl k) ?_
  show OE _ _ _ _ (T2.setTop (mkF m 16 #[rv a, iv 2, iv 1, iv jr, iv 2, iv 0, .unset, .unset] [(.int 2), (.ref a)]))
  obtain ⟨cq3, kq3, q3a, q3b, q3c⟩ := isOf hZ e2 P0
  obtain ⟨_, _, ⟨T3, L3, k3, n3⟩, -, X3, ⟨Lc3, hQ3, l3, y3, z3⟩, st3⟩ := X2.virtualBack hx (y := (⟨"com/example/stratal/stratal/logic/StratumGroups", "offset", "(I)I"⟩ : MethodName)) (z := (⟨"com/example/stratal/stratal/logic/StratumGroups", "offset", "(I)I"⟩ : MethodName)) hown (mvT hZ (hw _ (own_w 37 rfl))) (mvT hZ (hw _ (own_w 38 rfl))) (notFace_of_selects (args := #[]) (mvT hZ (hw _ (own_w 40 rfl)))) (mvT hZ (hw _ (own_w 40 rfl))) (mvT hZ (hw _ (own_w 39 rfl))) (by decide) (backOf (W := 0) (rmo2_0022 l Z a0 hw [] a rp kp ro ko ov0 ov1 ov2 ov3 h0 n0 Z0 P1 P6 P2 P7) hZ (hw _ (own_w 41 rfl)) (hw _ (own_w 2 rfl)) (by decide) (by decide)) q3a q3c (g := (mkF m 16 #[rv a, iv 2, iv 1, iv jr, iv 2, iv 0, .unset, .unset] [(.int 2), (.ref a)])) rfl (by rw [hml]; rfl) (Steps.refl _) (argsL := [(.int 2)]) (rest := []) (lenOf pd_4 rfl) rfl (Nat.le_of_eq rfl) (hb hby d4_16) (fun _ _ => ⟨rfl, e2, (by decide : 0 + 0 ≤ _), (by decide : 0 + 0 ≤ _)⟩)
  dsimp only [Pt.U, Pt.locs, Pt.cells, Pt.slots] at X3 l3 y3 z3 st3 hQ3
  subst l3 y3 z3
  obtain ⟨rfl, Nq3, e3⟩ := hQ3
  have N3 := Fr.app N2 Nq3
  refine OE.v (fun t k => st3.trans k) ?_
  show OE _ _ _ _ (T3.setTop (mkF m 19 #[rv a, iv 2, iv 1, iv jr, iv 2, iv 0, .unset, .unset] [(.int 0)]))
  refine OE.v (fun t k => XS.istore X3.here hx rfl (hb hby d4_19) rfl (l' := #[rv a, iv 2, iv 1, iv jr, iv 2, iv 0, iv 0, .unset]) rfl k) ?_
  refine OE.v (fun t k => XS.aloadN X3.here hx rfl (hb hby d4_21) rfl rfl k) ?_
  refine OE.v (fun t k => XS.iloadN X3.here hx rfl (hb hby d4_22) rfl k) ?_
  show OE _ _ _ _ (T3.setTop (mkF m 23 #[rv a, iv 2, iv 1, iv jr, iv 2, iv 0, iv 0, .unset] [(.int 1), (.ref a)]))
  obtain ⟨cq4, kq4, q4a, q4b, q4c⟩ := isOf hZ e3 P0
  obtain ⟨_, _, ⟨T4, L4, k4, n4⟩, -, X4, ⟨Lc4, hQ4, l4, y4, z4⟩, st4⟩ := X3.virtualBack hx (y := (⟨"com/example/stratal/stratal/logic/StratumGroups", "offset", "(I)I"⟩ : MethodName)) (z := (⟨"com/example/stratal/stratal/logic/StratumGroups", "offset", "(I)I"⟩ : MethodName)) hown (mvT hZ (hw _ (own_w 37 rfl))) (mvT hZ (hw _ (own_w 38 rfl))) (notFace_of_selects (args := #[]) (mvT hZ (hw _ (own_w 40 rfl)))) (mvT hZ (hw _ (own_w 40 rfl))) (mvT hZ (hw _ (own_w 39 rfl))) (by decide) (backOf (W := 0) (rmo1_0022 l Z a0 hw [] a rp kp ro ko ov0 ov1 ov2 ov3 h0 n0 Z0 P1 P6 P2 P7) hZ (hw _ (own_w 41 rfl)) (hw _ (own_w 2 rfl)) (by decide) (by decide)) q4a q4c (g := (mkF m 23 #[rv a, iv 2, iv 1, iv jr, iv 2, iv 0, iv 0, .unset] [(.int 1), (.ref a)])) rfl (by rw [hml]; rfl) (Steps.refl _) (argsL := [(.int 1)]) (rest := []) (lenOf pd_4 rfl) rfl (Nat.le_of_eq rfl) (hb hby d4_23) (fun _ _ => ⟨rfl, e3, (by decide : 0 + 0 ≤ _), (by decide : 0 + 0 ≤ _)⟩)
  dsimp only [Pt.U, Pt.locs, Pt.cells, Pt.slots] at X4 l4 y4 z4 st4 hQ4
  subst l4 y4 z4
  obtain ⟨rfl, Nq4, e4⟩ := hQ4
  have N4 := Fr.app N3 Nq4
  refine OE.v (fun t k => st4.trans k) ?_
  show OE _ _ _ _ (T4.setTop (mkF m 26 #[rv a, iv 2, iv 1, iv jr, iv 2, iv 0, iv 0, .unset] [(.int ((0 : Int32) + ov1))]))
  refine OE.v (fun t k => XS.istore X4.here hx rfl (hb hby d4_26) rfl (l' := #[rv a, iv 2, iv 1, iv jr, iv 2, iv 0, iv 0, iv ((0 : Int32) + ov1)]) rfl k) ?_
  refine OE.v (fun t k => XS.iload X4.here hx rfl (hb hby d4_28) rfl k) ?_
  refine OE.v (fun t k => XS.iload X4.here hx rfl (hb hby d4_30) rfl k) ?_
  show OE _ _ _ _ (T4.setTop (mkF m 32 #[rv a, iv 2, iv 1, iv jr, iv 2, iv 0, iv 0, iv ((0 : Int32) + ov1)] [(.int 0), (.int 2)]))
  refine OE.v (fun t k => XS.icmpYes X4.here hx rfl (pc0 := 32) (pc' := 67) rfl (hb hby d4_32) rfl (feq (by decide)).2 (by decide) (by decide) k) ?_
  show OE _ _ _ _ (T4.setTop (mkF m 67 #[rv a, iv 2, iv 1, iv jr, iv 2, iv 0, iv 0, iv ((0 : Int32) + ov1)] []))
  refine OE.v (fun t k => XS.aloadN X4.here hx rfl (hb hby d4_67) rfl rfl k) ?_
  show OE _ _ _ _ (T4.setTop (mkF m 68 #[rv a, iv 2, iv 1, iv jr, iv 2, iv 0, iv 0, iv ((0 : Int32) + ov1)] [(.ref a)]))
  obtain ⟨T5, X5, e5, st5⟩ := getF X4 hx hZ hown (host := "") (Or.inl (hw _ (own_w 14 rfl))) Via.refl e4 P3 (g := (mkF m 68 #[rv a, iv 2, iv 1, iv jr, iv 2, iv 0, iv 0, iv ((0 : Int32) + ov1)] [(.ref a)])) rfl rfl (hb hby d4_68)
  refine OE.v st5 ?_
  show OE _ _ _ _ (T5.setTop (mkF m 71 #[rv a, iv 2, iv 1, iv jr, iv 2, iv 0, iv 0, iv ((0 : Int32) + ov1)] [(.ref rs)]))
  refine OE.v (fun t k => XS.iload X5.here hx rfl (hb hby d4_71) rfl k) ?_
  show OE _ _ _ _ (T5.setTop (mkF m 73 #[rv a, iv 2, iv 1, iv jr, iv 2, iv 0, iv 0, iv ((0 : Int32) + ov1)] [(.int 2), (.ref rs)]))
  obtain ⟨cl6, Ar6, q6, S6, M6, H6, G6⟩ := id P8
  have hin6 : ¬ ((2 : Int32) < 0 ∨ cl6.slots.size ≤ ((2 : Int32)).toNatClampNeg) := inb_of S6 ⟨by decide, by decide⟩
  have hat6 : cl6.slots[((2 : Int32)).toNatClampNeg]? = some (.int 2) := H6.at hin6 rfl
  refine OE.v (X5.iaload hx (j := (2 : Int32)) (v := (.int 2)) (by rw [e5]; exact Ar6.1) (State.isArrayOf_alike hZ.alike Ar6.2.1) Ar6.2.2 hin6 hat6 (g := (mkF m 73 #[rv a, iv 2, iv 1, iv jr, iv 2, iv 0, iv 0, iv ((0 : Int32) + ov1)] [(.int 2), (.ref rs)])) rfl rfl (hb hby d4_73)) ?_
  show OE _ _ _ _ (T5.setTop (mkF m 74 #[rv a, iv 2, iv 1, iv jr, iv 2, iv 0, iv 0, iv ((0 : Int32) + ov1)] [(.int 2)]))
  refine OE.v (fun t k => XS.aloadN X5.here hx rfl (hb hby d4_74) rfl rfl k) ?_
  show OE _ _ _ _ (T5.setTop (mkF m 75 #[rv a, iv 2, iv 1, iv jr, iv 2, iv 0, iv 0, iv ((0 : Int32) + ov1)] [(.ref a), (.int 2)]))
  obtain ⟨T7, X7, e7, st7⟩ := getF X5 hx hZ hown (host := "") (Or.inl (hw _ (own_w 14 rfl))) Via.refl e5 P3 (g := (mkF m 75 #[rv a, iv 2, iv 1, iv jr, iv 2, iv 0, iv 0, iv ((0 : Int32) + ov1)] [(.ref a), (.int 2)])) rfl rfl (hb hby d4_75)
  refine OE.v st7 ?_
  show OE _ _ _ _ (T7.setTop (mkF m 78 #[rv a, iv 2, iv 1, iv jr, iv 2, iv 0, iv 0, iv ((0 : Int32) + ov1)] [(.ref rs), (.int 2)]))
  refine OE.v (fun t k => XS.iload X7.here hx rfl (hb hby d4_78) rfl k) ?_
  show OE _ _ _ _ (T7.setTop (mkF m 80 #[rv a, iv 2, iv 1, iv jr, iv 2, iv 0, iv 0, iv ((0 : Int32) + ov1)] [(.int 0), (.ref rs), (.int 2)]))
  obtain ⟨cl8, Ar8, q8, S8, M8, H8, G8⟩ := id P8
  have hin8 : ¬ ((0 : Int32) < 0 ∨ cl8.slots.size ≤ ((0 : Int32)).toNatClampNeg) := inb_of S8 ⟨by decide, by decide⟩
  have hat8 : cl8.slots[((0 : Int32)).toNatClampNeg]? = some (.int 2) := H8.at hin8 rfl
  refine OE.v (X7.iaload hx (j := (0 : Int32)) (v := (.int 2)) (by rw [e7]; exact Ar8.1) (State.isArrayOf_alike hZ.alike Ar8.2.1) Ar8.2.2 hin8 hat8 (g := (mkF m 80 #[rv a, iv 2, iv 1, iv jr, iv 2, iv 0, iv 0, iv ((0 : Int32) + ov1)] [(.int 0), (.ref rs), (.int 2)])) rfl rfl (hb hby d4_80)) ?_
  show OE _ _ _ _ (T7.setTop (mkF m 81 #[rv a, iv 2, iv 1, iv jr, iv 2, iv 0, iv 0, iv ((0 : Int32) + ov1)] [(.int 2), (.int 2)]))
  refine OE.v (fun t k => XS.icmpYes X7.here hx rfl (pc0 := 81) (pc' := 101) rfl (hb hby d4_81) rfl (flt (by decide)).2.1 (by decide) (by decide) k) ?_
  show OE _ _ _ _ (T7.setTop (mkF m 101 #[rv a, iv 2, iv 1, iv jr, iv 2, iv 0, iv 0, iv ((0 : Int32) + ov1)] []))
  refine OE.v (fun t k => XS.aloadN X7.here hx rfl (hb hby d4_101) rfl rfl k) ?_
  refine OE.v (fun t k => XS.iload X7.here hx rfl (hb hby d4_102) rfl k) ?_
  refine OE.v (fun t k => XS.iload X7.here hx rfl (hb hby d4_104) rfl k) ?_
  refine OE.v (fun t k => XS.iload X7.here hx rfl (hb hby d4_106) rfl k) ?_
  refine OE.v (fun t k => XS.iloadN X7.here hx rfl (hb hby d4_108) rfl k) ?_
  refine OE.v (fun t k => XS.iadd X7.here hx rfl (hb hby d4_109) rfl k) ?_
  show OE _ _ _ _ (T7.setTop (mkF m 110 #[rv a, iv 2, iv 1, iv jr, iv 2, iv 0, iv 0, iv ((0 : Int32) + ov1)] [(.int ((0 : Int32) + jr)), (.int 2), (.int 0), (.ref a)]))
  refine OE.v (fun t k => XS.iload X7.here hx rfl (hb hby d4_110) rfl k) ?_
  refine OE.v (fun t k => XS.isub X7.here hx rfl (hb hby d4_112) rfl k) ?_
  show OE _ _ _ _ (T7.setTop (mkF m 113 #[rv a, iv 2, iv 1, iv jr, iv 2, iv 0, iv 0, iv ((0 : Int32) + ov1)] [(.int (((0 : Int32) + jr) - ((0 : Int32) + ov1))), (.int 2), (.int 0), (.ref a)]))
  obtain ⟨cq9, q9, q9'⟩ := P0.cell
  obtain ⟨_, _, ⟨T9, L9, k9, n9⟩, -, X9, ⟨Lc9, hQ9, l9, y9, z9⟩, st9⟩ := X7.privateBack hx (y := (⟨"com/example/stratal/stratal/logic/StratumGroups", "hang", "(III)V"⟩ : MethodName)) hown (mvT hZ (hw _ (own_w 42 rfl))) (mvT hZ (hw _ (own_w 43 rfl))) (own_selp (mvT hZ (hw _ (own_w 1 rfl))) (Cond.privateMethod_at (mvP hZ (hw _ (own_w 44 rfl)) (args := #[]))) (mvT hZ (hw _ (own_w 43 rfl))) (by decide)) (Cond.privateMethod_at (mvP hZ (hw _ (own_w 44 rfl)) (args := #[]))) (mvT hZ (hw _ (own_w 45 rfl))) (by decide) (backOf (W := 0) (rmH02_0022 l Z a0 hw [] a rp ro rs rf kp ko ks kf ov0 ov1 ov2 ov3 fv0 fv1 fv2 fv3 (((0 : Int32) + jr) - ((0 : Int32) + ov1)) h0 n0 Z0 P0 P1 P2 P3 P4 P5 P6 P7 P8 P9 P10 P11 P12 P13 P14 P15 P16 P17 P18 P19 P20 P21 P22 P23) hZ (hw _ (own_w 45 rfl)) (hw _ (own_w 2 rfl)) (by decide) (by decide)) (g := (mkF m 113 #[rv a, iv 2, iv 1, iv jr, iv 2, iv 0, iv 0, iv ((0 : Int32) + ov1)] [(.int (((0 : Int32) + jr) - ((0 : Int32) + ov1))), (.int 2), (.int 0), (.ref a)])) rfl (by rw [hml]; rfl) (Steps.refl _) (a := a) (by rw [e7]; exact q9) q9' (argsL := [(.int 0), (.int 2), (.int (((0 : Int32) + jr) - ((0 : Int32) + ov1)))]) (rest := []) (lenOf pd_2 rfl) rfl (Nat.le_of_eq rfl) (hb hby d4_113) (fun _ _ => ⟨rfl, e7, (by decide : 0 + 0 ≤ _), (by decide : 0 + 0 ≤ _)⟩)
  dsimp only [Pt.U, Pt.locs, Pt.cells, Pt.slots] at X9 l9 y9 z9 st9 hQ9
  subst l9 y9 z9
  obtain ⟨h9, e9⟩ : ∃ z, T9.heap = z := ⟨_, rfl⟩
  rw [e9] at hQ9
  obtain ⟨rfl, Nq9, Kq9, q9_0, q9_1, q9_2, q9_3⟩ := hQ9
  have Z9 : n0 ≤ h9.size := Nat.le_trans Z0 Kq9.1
  have K9 : Keep h0 h9 [rp, ro, rs, rf] := (Keep.refl h0 [rp, ro, rs, rf]).trans Kq9 (allS (Or.inl (by simp)) (allS (Or.inl (by simp)) (allS (Or.inl (by simp)) (allS (Or.inl (by simp)) all0))))
  have N9 := Fr.app N4 Nq9
  refine OE.v (fun t k => st9.trans k) ?_
  show OE _ _ _ _ (T9.setTop (mkF m 116 #[rv a, iv 2, iv 1, iv jr, iv 2, iv 0, iv 0, iv ((0 : Int32) + ov1)] []))
  refine OE.v (fun t k => XS.iloadN X9.here hx rfl (hb hby d4_116) rfl k) ?_
  show OE _ _ _ _ (T9.setTop (mkF m 117 #[rv a, iv 2, iv 1, iv jr, iv 2, iv 0, iv 0, iv ((0 : Int32) + ov1)] [(.int 1)]))
  obtain ⟨fs, hr, hrun, hended, hW, hsame⟩ := X9.leave (v := some (.int 1)) (fun h => by rw [Bd.returns] at h; cases h)
  refine ⟨_, _, ?_, hrun, hended, _, _, rfl, ?_, ⟨_, rfl⟩, hW, hsame.mono (by decide) (by decide)⟩
  · exact retI X9 hx Bd.returns (hb hby d4_117) hr
  · show QJ21_0022 Z a rp ro rs rf kp ko ks kf ov0 ov1 ov2 ov3 fv0 fv1 fv2 fv3 jr h0 n0 _ T9.heap _
    rw [e9]
    exact ⟨rfl, N9, K9, q9_0, q9_1, q9_2, q9_3⟩

theorem pn_rmJ31_0022 : plainName "com/example/stratal/stratal/logic/StratumGroups" = true := by first | (simp [plainName, overriddenIn]; done) | decide +kernel
theorem ef_rmJ31_0022 (m : MethodId) (a : Addr) (jr : Int32) : entryFrame m #[(.ref a), (.int 3), (.int 1), (.int jr)] 8 = mkF m 0 #[rv a, iv 3, iv 1, iv jr, .unset, .unset, .unset, .unset] [] := by first | (simp [entryFrame, mkF, argsToLocals, Value.category]; done) | rfl
def QJ31_0022 (Z : State) (a : Addr) (rp : Addr) (ro : Addr) (rs : Addr) (rf : Addr) (kp : ClassId) (ko : ClassId) (ks : ClassId) (kf : ClassId) (ov0 : Int32) (ov1 : Int32) (ov2 : Int32) (ov3 : Int32) (fv0 : Int32) (fv1 : Int32) (fv2 : Int32) (fv3 : Int32) (jr : Int32) (h0 : Heap) (n0 : Nat) (v : Option Value) (h : Heap) (L : List Loc) : Prop := v = some (.int 1) ∧ Fr n0 L ∧ Keep h0 h [rp, ro, rs, rf] ∧ Arv Z h rp kp .int (16 : Int32) [(.int 2), (.int 0), (.int 2), (.int 2)] (.int 0) ∧ Arv Z h ro ko .int (16 : Int32) [(.int ((((0 : Int32) + ov3) + jr) - ((0 : Int32) + ov1))), (.int ov1), (.int ov2), (.int ov3)] (.int 0) ∧ Arv Z h rs ks .int (16 : Int32) [(.int 2), (.int 1), (.int 4), (.int 1)] (.int 0) ∧ Arv Z h rf kf .int (16 : Int32) [(.int fv0), (.int fv1), (.int (own_max fv2 (fv0 - ((((0 : Int32) + ov3) + jr) - ((0 : Int32) + ov1))))), (.int fv3)] (.int 0)
set_option maxRecDepth 65536 in
set_option maxHeartbeats 40000000 in
theorem rmJ31_0022 (l : Launch) (Z : State) (a0 : Array Value) (hw : ∀ d ∈ tables_1, d.before a0 Z = true) (ws : List Jvm.Cond) (a : Addr) (rp : Addr) (ro : Addr) (rs : Addr) (rf : Addr) (kp : ClassId) (ko : ClassId) (ks : ClassId) (kf : ClassId) (ov0 : Int32) (ov1 : Int32) (ov2 : Int32) (ov3 : Int32) (fv0 : Int32) (fv1 : Int32) (fv2 : Int32) (fv3 : Int32) (jr : Int32) (h0 : Heap) (n0 : Nat) (Z0 : n0 ≤ h0.size) (P0 : Exa Z h0 a "com/example/stratal/stratal/logic/StratumGroups") (P1 : Fld Z h0 a "com/example/stratal/stratal/logic/StratumGroups" "mParent" "[I" (.ref rp)) (P2 : Fld Z h0 a "com/example/stratal/stratal/logic/StratumGroups" "mOffset" "[I" (.ref ro)) (P3 : Fld Z h0 a "com/example/stratal/stratal/logic/StratumGroups" "mSize" "[I" (.ref rs)) (P4 : Fld Z h0 a "com/example/stratal/stratal/logic/StratumGroups" "mFloor" "[I" (.ref rf)) (P5 : Fld Z h0 a "com/example/stratal/stratal/logic/StratumGroups" "mRecording" "Z" (.int 0)) (P6 : Arv Z h0 rp kp .int (16 : Int32) [(.int 0), (.int 0), (.int 2), (.int 2)] (.int 0)) (P7 : Arv Z h0 ro ko .int (16 : Int32) [(.int ov0), (.int ov1), (.int ov2), (.int ov3)] (.int 0)) (P8 : Arv Z h0 rs ks .int (16 : Int32) [(.int 2), (.int 1), (.int 2), (.int 1)] (.int 0)) (P9 : Arv Z h0 rf kf .int (16 : Int32) [(.int fv0), (.int fv1), (.int fv2), (.int fv3)] (.int 0)) (P10 : rp ≠ a) (P11 : ro ≠ a) (P12 : rs ≠ a) (P13 : rf ≠ a) (P14 : rp ≠ ro) (P15 : rp ≠ rs) (P16 : rp ≠ rf) (P17 : ro ≠ rs) (P18 : ro ≠ rf) (P19 : rs ≠ rf) (P20 : n0 ≤ rp) (P21 : n0 ≤ ro) (P22 : n0 ≤ rs) (P23 : n0 ≤ rf) :
    MetFree l (⟨"com/example/stratal/stratal/logic/StratumGroups", "join", "(III)I"⟩ : MethodName) (head1 (Jvm.Cond.code (⟨"com/example/stratal/stratal/logic/StratumGroups", "join", "(III)I"⟩ : MethodName) prog_53_method_5_code 8 (some .int) :: ws) ({ frames := 2, cells := 0, slots := 0, locals := 30 } : Room)) (fun aa U => aa = #[(.ref a), (.int 3), (.int 1), (.int jr)] ∧ Z.Warmed39 U.vm ∧ U.heap = h0) (fun _ _ _ _ _ => True) (fun _ U o U' => ∃ v L, o = .returned v ∧ QJ31_0022 Z a rp ro rs rf kp ko ks kf ov0 ov1 ov2 ov3 fv0 fv1 fv2 fv3 jr h0 n0 v U'.heap L ∧ FrameEnd U o U' L ({ frames := 2, cells := 0, slots := 0, locals := 30 } : Room).cells ({ frames := 2, cells := 0, slots := 0, locals := 30 } : Room).slots) := by
  refine MetFree.of_bodySF (plainFor_of_name pn_rmJ31_0022) hisR ?_
  intro p e s m args below meth c s₁ Bd hml0 hP hK
  obtain ⟨rfl, hZ, hh⟩ := hP
  have hx := Bd.exec
  have hby := Bd.bytes
  have hml : c.maxLocals = 8 := hml0
  have hown : s.vm.findClass "com/example/stratal/stratal/logic/StratumGroups" = some m.cls := findClass_of_methodNamed Bd.named
  have hnm := (name_of_methodNamed Bd.named Bd.method).1
  have X0 : Stand p l e ({ frames := 2, cells := 0, slots := 0, locals := 30 } : Room) s m #[(.ref a), (.int 3), (.int 1), (.int jr)] below meth c s₁ [] 0 0 := Stand.of_body Bd
  have e0 : s₁.heap = h0 := by rw [← hh, Bd.state]; rfl
  have N0 := Fr.nil n0
  change OE p.tables e below _ _
  refine OE.v (fun t k => castTop (ef_rmJ31_0022 m a jr) k) ?_
  show OE _ _ _ _ (s₁.setTop (mkF m 0 #[rv a, iv 3, iv 1, iv jr, .unset, .unset, .unset, .unset] []))
  refine OE.v (fun t k => XS.aloadN X0.here hx rfl (hb hby d4_0) rfl rfl k) ?_
  refine OE.v (fun t k => XS.iloadN X0.here hx rfl (hb hby d4_1) rfl k) ?_
  show OE _ _ _ _ (s₁.setTop (mkF m 2 #[rv a, iv 3, iv 1, iv jr, .unset, .unset, .unset, .unset] [(.int 3), (.ref a)]))
  obtain ⟨cq1, kq1, q1a, q1b, q1c⟩ := isOf hZ e0 P0
  obtain ⟨_, _, ⟨T1, L1, k1, n1⟩, -, X1, ⟨Lc1, hQ1, l1, y1, z1⟩, st1⟩ := X0.virtualBack hx (y := (⟨"com/example/stratal/stratal/logic/StratumGroups", "find", "(I)I"⟩ : MethodName)) (z := (⟨"com/example/stratal/stratal/logic/StratumGroups", "find", "(I)I"⟩ : MethodName)) hown (mvT hZ (hw _ (own_w 32 rfl))) (mvT hZ (hw _ (own_w 33 rfl))) (notFace_of_selects (args := #[]) (mvT hZ (hw _ (own_w 35 rfl)))) (mvT hZ (hw _ (own_w 35 rfl))) (mvT hZ (hw _ (own_w 34 rfl))) (by decide) (backOf (W := 0) (rmf3_0022 l Z a0 hw [] a rp kp h0 n0 Z0 P1 P6) hZ (hw _ (own_w 36 rfl)) (hw _ (own_w 2 rfl)) (by decide) (by decide)) q1a q1c (g := (mkF m 2 #[rv a, iv 3, iv 1, iv jr, .unset, .unset, .unset, .unset] [(.int 3), (.ref a)])) rfl (by rw [hml]; rfl) (Steps.refl _) (argsL := [(.int 3)]) (rest := []) (lenOf pd_4 rfl) rfl (Nat.le_of_eq rfl) (hb hby d4_2) (fun _ _ => ⟨rfl, e0, (by decide : 0 + 0 ≤ _), (by decide : 0 + 0 ≤ _)⟩)
  dsimp only [Pt.U, Pt.locs, Pt.cells, Pt.slots] at X1 l1 y1 z1 st1 hQ1
  subst l1 y1 z1
  obtain ⟨rfl, Nq1, e1⟩ := hQ1
  have N1 := Fr.app N0 Nq1
  refine OE.v (fun t k => st1.trans k) ?_
  show OE _ _ _ _ (T1.setTop (mkF m 5 #[rv a, iv 3, iv 1, iv jr, .unset, .unset, .unset, .unset] [(.int 2)]))
  refine OE.v (fun t k => XS.istore X1.here hx rfl (hb hby d4_5) rfl (l' := #[rv a, iv 3, iv 1, iv jr, iv 2, .unset, .unset, .unset]) rfl k) ?_
  refine OE.v (fun t k => XS.aloadN X1.here hx rfl (hb hby d4_7) rfl rfl k) ?_
  refine OE.v (fun t k => XS.iloadN X1.here hx rfl (hb hby d4_8) rfl k) ?_
  show OE _ _ _ _ (T1.setTop (mkF m 9 #[rv a, iv 3, iv 1, iv jr, iv 2, .unset, .unset, .unset] [(.int 1), (.ref a)]))
  obtain ⟨cq2, kq2, q2a, q2b, q2c⟩ := isOf hZ e1 P0
  obtain ⟨_, _, ⟨T2, L2, k2, n2⟩, -, X2, ⟨Lc2, hQ2, l2, y2, z2⟩, st2⟩ := X1.virtualBack hx (y := (⟨"com/example/stratal/stratal/logic/StratumGroups", "find", "(I)I"⟩ : MethodName)) (z := (⟨"com/example/stratal/stratal/logic/StratumGroups", "find", "(I)I"⟩ : MethodName)) hown (mvT hZ (hw _ (own_w 32 rfl))) (mvT hZ (hw _ (own_w 33 rfl))) (notFace_of_selects (args := #[]) (mvT hZ (hw _ (own_w 35 rfl)))) (mvT hZ (hw _ (own_w 35 rfl))) (mvT hZ (hw _ (own_w 34 rfl))) (by decide) (backOf (W := 0) (rmf1_0022 l Z a0 hw [] a rp kp h0 n0 Z0 P1 P6) hZ (hw _ (own_w 36 rfl)) (hw _ (own_w 2 rfl)) (by decide) (by decide)) q2a q2c (g := (mkF m 9 #[rv a, iv 3, iv 1, iv jr, iv 2, .unset, .unset, .unset] [(.int 1), (.ref a)])) rfl (by rw [hml]; rfl) (Steps.refl _) (argsL := [(.int 1)]) (rest := []) (lenOf pd_4 rfl) rfl (Nat.le_of_eq rfl) (hb hby d4_9) (fun _ _ => ⟨rfl, e1, (by decide : 0 + 0 ≤ _), (by decide : 0 + 0 ≤ _)⟩)
  dsimp only [Pt.U, Pt.locs, Pt.cells, Pt.slots] at X2 l2 y2 z2 st2 hQ2
  subst l2 y2 z2
  obtain ⟨rfl, Nq2, e2⟩ := hQ2
  have N2 := Fr.app N1 Nq2
  refine OE.v (fun t k => st2.trans k) ?_
  show OE _ _ _ _ (T2.setTop (mkF m 12 #[rv a, iv 3, iv 1, iv jr, iv 2, .unset, .unset, .unset] [(.int 0)]))
  refine OE.v (fun t k => XS.istore X2.here hx rfl (hb hby d4_12) rfl (l' := #[rv a, iv 3, iv 1, iv jr, iv 2, iv 0, .unset, .unset]) rfl k) ?_
  refine OE.v (fun t k => XS.aloadN X2.here hx rfl (hb hby d4_14) rfl rfl k) ?_
  refine OE.v (fun t k => XS.iloadN X2.here hx rfl (hb hby d4_15) rfl k) ?_
  show OE _ _ _ _ (T2.setTop (mkF m 16 #[rv a, iv 3, iv 1, iv jr, iv 2, iv 0, .unset, .unset] [(.int 3), (.ref a)]))
  obtain ⟨cq3, kq3, q3a, q3b, q3c⟩ := isOf hZ e2 P0
  obtain ⟨_, _, ⟨T3, L3, k3, n3⟩, -, X3, ⟨Lc3, hQ3, l3, y3, z3⟩, st3⟩ := X2.virtualBack hx (y := (⟨"com/example/stratal/stratal/logic/StratumGroups", "offset", "(I)I"⟩ : MethodName)) (z := (⟨"com/example/stratal/stratal/logic/StratumGroups", "offset", "(I)I"⟩ : MethodName)) hown (mvT hZ (hw _ (own_w 37 rfl))) (mvT hZ (hw _ (own_w 38 rfl))) (notFace_of_selects (args := #[]) (mvT hZ (hw _ (own_w 40 rfl)))) (mvT hZ (hw _ (own_w 40 rfl))) (mvT hZ (hw _ (own_w 39 rfl))) (by decide) (backOf (W := 0) (rmo3_0022 l Z a0 hw [] a rp kp ro ko ov0 ov1 ov2 ov3 h0 n0 Z0 P1 P6 P2 P7) hZ (hw _ (own_w 41 rfl)) (hw _ (own_w 2 rfl)) (by decide) (by decide)) q3a q3c (g := (mkF m 16 #[rv a, iv 3, iv 1, iv jr, iv 2, iv 0, .unset, .unset] [(.int 3), (.ref a)])) rfl (by rw [hml]; rfl) (Steps.refl _) (argsL := [(.int 3)]) (rest := []) (lenOf pd_4 rfl) rfl (Nat.le_of_eq rfl) (hb hby d4_16) (fun _ _ => ⟨rfl, e2, (by decide : 0 + 0 ≤ _), (by decide : 0 + 0 ≤ _)⟩)
  dsimp only [Pt.U, Pt.locs, Pt.cells, Pt.slots] at X3 l3 y3 z3 st3 hQ3
  subst l3 y3 z3
  obtain ⟨rfl, Nq3, e3⟩ := hQ3
  have N3 := Fr.app N2 Nq3
  refine OE.v (fun t k => st3.trans k) ?_
  show OE _ _ _ _ (T3.setTop (mkF m 19 #[rv a, iv 3, iv 1, iv jr, iv 2, iv 0, .unset, .unset] [(.int ((0 : Int32) + ov3))]))
  refine OE.v (fun t k => XS.istore X3.here hx rfl (hb hby d4_19) rfl (l' := #[rv a, iv 3, iv 1, iv jr, iv 2, iv 0, iv ((0 : Int32) + ov3), .unset]) rfl k) ?_
  refine OE.v (fun t k => XS.aloadN X3.here hx rfl (hb hby d4_21) rfl rfl k) ?_
  refine OE.v (fun t k => XS.iloadN X3.here hx rfl (hb hby d4_22) rfl k) ?_
  show OE _ _ _ _ (T3.setTop (mkF m 23 #[rv a, iv 3, iv 1, iv jr, iv 2, iv 0, iv ((0 : Int32) + ov3), .unset] [(.int 1), (.ref a)]))
  obtain ⟨cq4, kq4, q4a, q4b, q4c⟩ := isOf hZ e3 P0
  obtain ⟨_, _, ⟨T4, L4, k4, n4⟩, -, X4, ⟨Lc4, hQ4, l4, y4, z4⟩, st4⟩ := X3.virtualBack hx (y := (⟨"com/example/stratal/stratal/logic/StratumGroups", "offset", "(I)I"⟩ : MethodName)) (z := (⟨"com/example/stratal/stratal/logic/StratumGroups", "offset", "(I)I"⟩ : MethodName)) hown (mvT hZ (hw _ (own_w 37 rfl))) (mvT hZ (hw _ (own_w 38 rfl))) (notFace_of_selects (args := #[]) (mvT hZ (hw _ (own_w 40 rfl)))) (mvT hZ (hw _ (own_w 40 rfl))) (mvT hZ (hw _ (own_w 39 rfl))) (by decide) (backOf (W := 0) (rmo1_0022 l Z a0 hw [] a rp kp ro ko ov0 ov1 ov2 ov3 h0 n0 Z0 P1 P6 P2 P7) hZ (hw _ (own_w 41 rfl)) (hw _ (own_w 2 rfl)) (by decide) (by decide)) q4a q4c (g := (mkF m 23 #[rv a, iv 3, iv 1, iv jr, iv 2, iv 0, iv ((0 : Int32) + ov3), .unset] [(.int 1), (.ref a)])) rfl (by rw [hml]; rfl) (Steps.refl _) (argsL := [(.int 1)]) (rest := []) (lenOf pd_4 rfl) rfl (Nat.le_of_eq rfl) (hb hby d4_23) (fun _ _ => ⟨rfl, e3, (by decide : 0 + 0 ≤ _), (by decide : 0 + 0 ≤ _)⟩)
  dsimp only [Pt.U, Pt.locs, Pt.cells, Pt.slots] at X4 l4 y4 z4 st4 hQ4
  subst l4 y4 z4
  obtain ⟨rfl, Nq4, e4⟩ := hQ4
  have N4 := Fr.app N3 Nq4
  refine OE.v (fun t k => st4.trans k) ?_
  show OE _ _ _ _ (T4.setTop (mkF m 26 #[rv a, iv 3, iv 1, iv jr, iv 2, iv 0, iv ((0 : Int32) + ov3), .unset] [(.int ((0 : Int32) + ov1))]))
  refine OE.v (fun t k => XS.istore X4.here hx rfl (hb hby d4_26) rfl (l' := #[rv a, iv 3, iv 1, iv jr, iv 2, iv 0, iv ((0 : Int32) + ov3), iv ((0 : Int32) + ov1)]) rfl k) ?_
  refine OE.v (fun t k => XS.iload X4.here hx rfl (hb hby d4_28) rfl k) ?_
  refine OE.v (fun t k => XS.iload X4.here hx rfl (hb hby d4_30) rfl k) ?_
  show OE _ _ _ _ (T4.setTop (mkF m 32 #[rv a, iv 3, iv 1, iv jr, iv 2, iv 0, iv ((0 : Int32) + ov3), iv ((0 : Int32) + ov1)] [(.int 0), (.int 2)]))
  refine OE.v (fun t k => XS.icmpYes X4.here hx rfl (pc0 := 32) (pc' := 67) rfl (hb hby d4_32) rfl (feq (by decide)).2 (by decide) (by decide) k) ?_
  show OE _ _ _ _ (T4.setTop (mkF m 67 #[rv a, iv 3, iv 1, iv jr, iv 2, iv 0, iv ((0 : Int32) + ov3), iv ((0 : Int32) + ov1)] []))
  refine OE.v (fun t k => XS.aloadN X4.here hx rfl (hb hby d4_67) rfl rfl k) ?_
  show OE _ _ _ _ (T4.setTop (mkF m 68 #[rv a, iv 3, iv 1, iv jr, iv 2, iv 0, iv ((0 : Int32) + ov3), iv ((0 : Int32) + ov1)] [(.ref a)]))
  obtain ⟨T5, X5, e5, st5⟩ := getF X4 hx hZ hown (host := "") (Or.inl (hw _ (own_w 14 rfl))) Via.refl e4 P3 (g := (mkF m 68 #[rv a, iv 3, iv 1, iv jr, iv 2, iv 0, iv ((0 : Int32) + ov3), iv ((0 : Int32) + ov1)] [(.ref a)])) rfl rfl (hb hby d4_68)
  refine OE.v st5 ?_
  show OE _ _ _ _ (T5.setTop (mkF m 71 #[rv a, iv 3, iv 1, iv jr, iv 2, iv 0, iv ((0 : Int32) + ov3), iv ((0 : Int32) + ov1)] [(.ref rs)]))
  refine OE.v (fun t k => XS.iload X5.here hx rfl (hb hby d4_71) rfl k) ?_
  show OE _ _ _ _ (T5.setTop (mkF m 73 #[rv a, iv 3, iv 1, iv jr, iv 2, iv 0, iv ((0 : Int32) + ov3), iv ((0 : Int32) + ov1)] [(.int 2), (.ref rs)]))
  obtain ⟨cl6, Ar6, q6, S6, M6, H6, G6⟩ := id P8
  have hin6 : ¬ ((2 : Int32) < 0 ∨ cl6.slots.size ≤ ((2 : Int32)).toNatClampNeg) := inb_of S6 ⟨by decide, by decide⟩
  have hat6 : cl6.slots[((2 : Int32)).toNatClampNeg]? = some (.int 2) := H6.at hin6 rfl
  refine OE.v (X5.iaload hx (j := (2 : Int32)) (v := (.int 2)) (by rw [e5]; exact Ar6.1) (State.isArrayOf_alike hZ.alike Ar6.2.1) Ar6.2.2 hin6 hat6 (g := (mkF m 73 #[rv a, iv 3, iv 1, iv jr, iv 2, iv 0, iv ((0 : Int32) + ov3), iv ((0 : Int32) + ov1)] [(.int 2), (.ref rs)])) rfl rfl (hb hby d4_73)) ?_
  show OE _ _ _ _ (T5.setTop (mkF m 74 #[rv a, iv 3, iv 1, iv jr, iv 2, iv 0, iv ((0 : Int32) + ov3), iv ((0 : Int32) + ov1)] [(.int 2)]))
  refine OE.v (fun t k => XS.aloadN X5.here hx rfl (hb hby d4_74) rfl rfl k) ?_
  show OE _ _ _ _ (T5.setTop (mkF m 75 #[rv a, iv 3, iv 1, iv jr, iv 2, iv 0, iv ((0 : Int32) + ov3), iv ((0 : Int32) + ov1)] [(.ref a), (.int 2)]))
  obtain ⟨T7, X7, e7, st7⟩ := getF X5 hx hZ hown (host := "") (Or.inl (hw _ (own_w 14 rfl))) Via.refl e5 P3 (g := (mkF m 75 #[rv a, iv 3, iv 1, iv jr, iv 2, iv 0, iv ((0 : Int32) + ov3), iv ((0 : Int32) + ov1)] [(.ref a), (.int 2)])) rfl rfl (hb hby d4_75)
  refine OE.v st7 ?_
  show OE _ _ _ _ (T7.setTop (mkF m 78 #[rv a, iv 3, iv 1, iv jr, iv 2, iv 0, iv ((0 : Int32) + ov3), iv ((0 : Int32) + ov1)] [(.ref rs), (.int 2)]))
  refine OE.v (fun t k => XS.iload X7.here hx rfl (hb hby d4_78) rfl k) ?_
  show OE _ _ _ _ (T7.setTop (mkF m 80 #[rv a, iv 3, iv 1, iv jr, iv 2, iv 0, iv ((0 : Int32) + ov3), iv ((0 : Int32) + ov1)] [(.int 0), (.ref rs), (.int 2)]))
  obtain ⟨cl8, Ar8, q8, S8, M8, H8, G8⟩ := id P8
  have hin8 : ¬ ((0 : Int32) < 0 ∨ cl8.slots.size ≤ ((0 : Int32)).toNatClampNeg) := inb_of S8 ⟨by decide, by decide⟩
  have hat8 : cl8.slots[((0 : Int32)).toNatClampNeg]? = some (.int 2) := H8.at hin8 rfl
  refine OE.v (X7.iaload hx (j := (0 : Int32)) (v := (.int 2)) (by rw [e7]; exact Ar8.1) (State.isArrayOf_alike hZ.alike Ar8.2.1) Ar8.2.2 hin8 hat8 (g := (mkF m 80 #[rv a, iv 3, iv 1, iv jr, iv 2, iv 0, iv ((0 : Int32) + ov3), iv ((0 : Int32) + ov1)] [(.int 0), (.ref rs), (.int 2)])) rfl rfl (hb hby d4_80)) ?_
  show OE _ _ _ _ (T7.setTop (mkF m 81 #[rv a, iv 3, iv 1, iv jr, iv 2, iv 0, iv ((0 : Int32) + ov3), iv ((0 : Int32) + ov1)] [(.int 2), (.int 2)]))
  refine OE.v (fun t k => XS.icmpYes X7.here hx rfl (pc0 := 81) (pc' := 101) rfl (hb hby d4_81) rfl (flt (by decide)).2.1 (by decide) (by decide) k) ?_
  show OE _ _ _ _ (T7.setTop (mkF m 101 #[rv a, iv 3, iv 1, iv jr, iv 2, iv 0, iv ((0 : Int32) + ov3), iv ((0 : Int32) + ov1)] []))
  refine OE.v (fun t k => XS.aloadN X7.here hx rfl (hb hby d4_101) rfl rfl k) ?_
  refine OE.v (fun t k => XS.iload X7.here hx rfl (hb hby d4_102) rfl k) ?_
  refine OE.v (fun t k => XS.iload X7.here hx rfl (hb hby d4_104) rfl k) ?_
  refine OE.v (fun t k => XS.iload X7.here hx rfl (hb hby d4_106) rfl k) ?_
  refine OE.v (fun t k => XS.iloadN X7.here hx rfl (hb hby d4_108) rfl k) ?_
  refine OE.v (fun t k => XS.iadd X7.here hx rfl (hb hby d4_109) rfl k) ?_
  show OE _ _ _ _ (T7.setTop (mkF m 110 #[rv a, iv 3, iv 1, iv jr, iv 2, iv 0, iv ((0 : Int32) + ov3), iv ((0 : Int32) + ov1)] [(.int (((0 : Int32) + ov3) + jr)), (.int 2), (.int 0), (.ref a)]))
  refine OE.v (fun t k => XS.iload X7.here hx rfl (hb hby d4_110) rfl k) ?_
  refine OE.v (fun t k => XS.isub X7.here hx rfl (hb hby d4_112) rfl k) ?_
  show OE _ _ _ _ (T7.setTop (mkF m 113 #[rv a, iv 3, iv 1, iv jr, iv 2, iv 0, iv ((0 : Int32) + ov3), iv ((0 : Int32) + ov1)] [(.int ((((0 : Int32) + ov3) + jr) - ((0 : Int32) + ov1))), (.int 2), (.int 0), (.ref a)]))
  obtain ⟨cq9, q9, q9'⟩ := P0.cell
  obtain ⟨_, _, ⟨T9, L9, k9, n9⟩, -, X9, ⟨Lc9, hQ9, l9, y9, z9⟩, st9⟩ := X7.privateBack hx (y := (⟨"com/example/stratal/stratal/logic/StratumGroups", "hang", "(III)V"⟩ : MethodName)) hown (mvT hZ (hw _ (own_w 42 rfl))) (mvT hZ (hw _ (own_w 43 rfl))) (own_selp (mvT hZ (hw _ (own_w 1 rfl))) (Cond.privateMethod_at (mvP hZ (hw _ (own_w 44 rfl)) (args := #[]))) (mvT hZ (hw _ (own_w 43 rfl))) (by decide)) (Cond.privateMethod_at (mvP hZ (hw _ (own_w 44 rfl)) (args := #[]))) (mvT hZ (hw _ (own_w 45 rfl))) (by decide) (backOf (W := 0) (rmH02_0022 l Z a0 hw [] a rp ro rs rf kp ko ks kf ov0 ov1 ov2 ov3 fv0 fv1 fv2 fv3 ((((0 : Int32) + ov3) + jr) - ((0 : Int32) + ov1)) h0 n0 Z0 P0 P1 P2 P3 P4 P5 P6 P7 P8 P9 P10 P11 P12 P13 P14 P15 P16 P17 P18 P19 P20 P21 P22 P23) hZ (hw _ (own_w 45 rfl)) (hw _ (own_w 2 rfl)) (by decide) (by decide)) (g := (mkF m 113 #[rv a, iv 3, iv 1, iv jr, iv 2, iv 0, iv ((0 : Int32) + ov3), iv ((0 : Int32) + ov1)] [(.int ((((0 : Int32) + ov3) + jr) - ((0 : Int32) + ov1))), (.int 2), (.int 0), (.ref a)])) rfl (by rw [hml]; rfl) (Steps.refl _) (a := a) (by rw [e7]; exact q9) q9' (argsL := [(.int 0), (.int 2), (.int ((((0 : Int32) + ov3) + jr) - ((0 : Int32) + ov1)))]) (rest := []) (lenOf pd_2 rfl) rfl (Nat.le_of_eq rfl) (hb hby d4_113) (fun _ _ => ⟨rfl, e7, (by decide : 0 + 0 ≤ _), (by decide : 0 + 0 ≤ _)⟩)
  dsimp only [Pt.U, Pt.locs, Pt.cells, Pt.slots] at X9 l9 y9 z9 st9 hQ9
  subst l9 y9 z9
  obtain ⟨h9, e9⟩ : ∃ z, T9.heap = z := ⟨_, rfl⟩
  rw [e9] at hQ9
  obtain ⟨rfl, Nq9, Kq9, q9_0, q9_1, q9_2, q9_3⟩ := hQ9
  have Z9 : n0 ≤ h9.size := Nat.le_trans Z0 Kq9.1
  have K9 : Keep h0 h9 [rp, ro, rs, rf] := (Keep.refl h0 [rp, ro, rs, rf]).trans Kq9 (allS (Or.inl (by simp)) (allS (Or.inl (by simp)) (allS (Or.inl (by simp)) (allS (Or.inl (by simp)) all0))))
  have N9 := Fr.app N4 Nq9
  refine OE.v (fun t k => st9.trans k) ?_
  show OE _ _ _ _ (T9.setTop (mkF m 116 #[rv a, iv 3, iv 1, iv jr, iv 2, iv 0, iv ((0 : Int32) + ov3), iv ((0 : Int32) + ov1)] []))
  refine OE.v (fun t k => XS.iloadN X9.here hx rfl (hb hby d4_116) rfl k) ?_
  show OE _ _ _ _ (T9.setTop (mkF m 117 #[rv a, iv 3, iv 1, iv jr, iv 2, iv 0, iv ((0 : Int32) + ov3), iv ((0 : Int32) + ov1)] [(.int 1)]))
  obtain ⟨fs, hr, hrun, hended, hW, hsame⟩ := X9.leave (v := some (.int 1)) (fun h => by rw [Bd.returns] at h; cases h)
  refine ⟨_, _, ?_, hrun, hended, _, _, rfl, ?_, ⟨_, rfl⟩, hW, hsame.mono (by decide) (by decide)⟩
  · exact retI X9 hx Bd.returns (hb hby d4_117) hr
  · show QJ31_0022 Z a rp ro rs rf kp ko ks kf ov0 ov1 ov2 ov3 fv0 fv1 fv2 fv3 jr h0 n0 _ T9.heap _
    rw [e9]
    exact ⟨rfl, N9, K9, q9_0, q9_1, q9_2, q9_3⟩

theorem pn_rm0 : plainName "com/example/stratal/stratal/logic/StratumGroupsOffsetPinLaw" = true := by first | (simp [plainName, overriddenIn]; done) | decide +kernel
theorem pd_0 : parseMethodDescriptor "()V" = some ⟨[], none⟩ := by decide +kernel
theorem pd_1 : parseMethodDescriptor "()I" = some ⟨[], some .int⟩ := by decide +kernel
theorem pd_5 : parseMethodDescriptor "(III)I" = some ⟨[.int, .int, .int], some .int⟩ := by decide +kernel
theorem ef_rm0 (m : MethodId) (r1 : Int32) (r2 : Int32) (r3 : Int32) (fl : Int32) : entryFrame m #[(.int r1), (.int r2), (.int r3), (.int fl)] maxLocals = mkF m 0 #[iv r1, iv r2, iv r3, iv fl, .unset, .unset, .unset, .unset, .unset, .unset, .unset, .unset, .unset, .unset, .unset, .unset, .unset] [] := by first | (simp [entryFrame, mkF, argsToLocals, Value.category, maxLocals]; done) | rfl
def Q0 (Z : State) (r1 : Int32) (r2 : Int32) (r3 : Int32) (fl : Int32) (h0 : Heap) (n0 : Nat) (v : Option Value) (h : Heap) (L : List Loc) : Prop := v = some (.int 1) ∧ Fr n0 L
set_option maxRecDepth 65536 in
set_option maxHeartbeats 40000000 in
theorem rm0 (l : Launch) (Z : State) (a0 : Array Value) (hw : ∀ d ∈ tables_1, d.before a0 Z = true) (ws : List Jvm.Cond) (r1 : Int32) (r2 : Int32) (r3 : Int32) (fl : Int32) (h0 : Heap) (n0 : Nat) (Z0 : n0 ≤ h0.size)  :
    MetFree l x (head1 (Jvm.Cond.code x code maxLocals ret :: ws) room_1) (fun aa U => aa = #[(.int r1), (.int r2), (.int r3), (.int fl)] ∧ Z.Warmed39 U.vm ∧ U.heap = h0) (fun _ _ _ _ _ => True) (fun _ U o U' => ∃ v L, o = .returned v ∧ Q0 Z r1 r2 r3 fl h0 n0 v U'.heap L ∧ FrameEnd U o U' L room_1.cells room_1.slots) := by
  refine MetFree.of_bodySF (plainFor_of_name pn_rm0) hisR ?_
  intro p e s m args below meth c s₁ Bd hml0 hP hK
  obtain ⟨rfl, hZ, hh⟩ := hP
  have hx := Bd.exec
  have hby := Bd.bytes
  have hml : c.maxLocals = 17 := hml0
  have hown : s.vm.findClass "com/example/stratal/stratal/logic/StratumGroupsOffsetPinLaw" = some m.cls := findClass_of_methodNamed Bd.named
  have hnm := (name_of_methodNamed Bd.named Bd.method).1
  have X0 : Stand p l e room_1 s m #[(.int r1), (.int r2), (.int r3), (.int fl)] below meth c s₁ [] 0 0 := Stand.of_body Bd
  have e0 : s₁.heap = h0 := by rw [← hh, Bd.state]; rfl
  have N0 := Fr.nil n0
  change OE p.tables e below _ _
  refine OE.v (fun t k => castTop (ef_rm0 m r1 r2 r3 fl) k) ?_
  show OE _ _ _ _ (s₁.setTop (mkF m 0 #[iv r1, iv r2, iv r3, iv fl, .unset, .unset, .unset, .unset, .unset, .unset, .unset, .unset, .unset, .unset, .unset, .unset, .unset] []))
  refine OE.v (fun t k => XS.iloadN X0.here hx rfl (hb hby at_0) rfl k) ?_
  refine OE.v (fun t k => XS.iconst X0.here hx rfl (hb hby at_1) k) ?_
  refine OE.v (fun t k => XS.iand X0.here hx rfl (hb hby at_2) rfl k) ?_
  refine OE.v (fun t k => XS.istore X0.here hx rfl (hb hby at_3) rfl (l' := #[iv r1, iv r2, iv r3, iv fl, iv (fl &&& (1 : Int32)), .unset, .unset, .unset, .unset, .unset, .unset, .unset, .unset, .unset, .unset, .unset, .unset]) rfl k) ?_
  refine OE.v (fun t k => XS.iconst X0.here hx rfl (hb hby at_5) k) ?_
  refine OE.v (fun t k => XS.iloadN X0.here hx rfl (hb hby at_6) rfl k) ?_
  show OE _ _ _ _ (s₁.setTop (mkF m 7 #[iv r1, iv r2, iv r3, iv fl, iv (fl &&& (1 : Int32)), .unset, .unset, .unset, .unset, .unset, .unset, .unset, .unset, .unset, .unset, .unset, .unset] [(.int fl), (.int 2)]))
  refine OE.v (fun t k => XS.iconst X0.here hx rfl (hb hby at_7) k) ?_
  refine OE.v (fun t k => XS.iushr X0.here hx rfl (hb hby at_8) rfl k) ?_
  refine OE.v (fun t k => XS.iconst X0.here hx rfl (hb hby at_9) k) ?_
  refine OE.v (fun t k => XS.iand X0.here hx rfl (hb hby at_10) rfl k) ?_
  refine OE.v (fun t k => XS.iadd X0.here hx rfl (hb hby at_11) rfl k) ?_
  refine OE.v (fun t k => XS.istore X0.here hx rfl (hb hby at_12) rfl (l' := #[iv r1, iv r2, iv r3, iv fl, iv (fl &&& (1 : Int32)), iv ((2 : Int32) + (((fl.toUInt32 >>> ((1 : Int32) &&& 31).toUInt32).toInt32) &&& (1 : Int32))), .unset, .unset, .unset, .unset, .unset, .unset, .unset, .unset, .unset, .unset, .unset]) rfl k) ?_
  show OE _ _ _ _ (s₁.setTop (mkF m 14 #[iv r1, iv r2, iv r3, iv fl, iv (fl &&& (1 : Int32)), iv ((2 : Int32) + (((fl.toUInt32 >>> ((1 : Int32) &&& 31).toUInt32).toInt32) &&& (1 : Int32))), .unset, .unset, .unset, .unset, .unset, .unset, .unset, .unset, .unset, .unset, .unset] []))
  refine OE.v (fun t k => XS.iloadN X0.here hx rfl (hb hby at_14) rfl k) ?_
  refine OE.v (fun t k => XS.iconst X0.here hx rfl (hb hby at_15) k) ?_
  refine OE.v (fun t k => XS.iushr X0.here hx rfl (hb hby at_16) rfl k) ?_
  refine OE.v (fun t k => XS.iconst X0.here hx rfl (hb hby at_17) k) ?_
  refine OE.v (fun t k => XS.iand X0.here hx rfl (hb hby at_18) rfl k) ?_
  show OE _ _ _ _ (s₁.setTop (mkF m 19 #[iv r1, iv r2, iv r3, iv fl, iv (fl &&& (1 : Int32)), iv ((2 : Int32) + (((fl.toUInt32 >>> ((1 : Int32) &&& 31).toUInt32).toInt32) &&& (1 : Int32))), .unset, .unset, .unset, .unset, .unset, .unset, .unset, .unset, .unset, .unset, .unset] [(.int (((fl.toUInt32 >>> ((2 : Int32) &&& 31).toUInt32).toInt32) &&& (1 : Int32)))]))
  refine OE.cut (fun G => ∀ (T1 : State) (lc1 : List Loc) (X1 : Stand p l e room_1 s m #[(.int r1), (.int r2), (.int r3), (.int fl)] below meth c T1 lc1 0 0) (e1 : T1.heap = h0) (N1 : Fr n0 lc1) (th : Int32), G (T1.setTop (mkF m 27 #[iv r1, iv r2, iv r3, iv fl, iv (fl &&& (1 : Int32)), iv ((2 : Int32) + (((fl.toUInt32 >>> ((1 : Int32) &&& 31).toUInt32).toInt32) &&& (1 : Int32))), .unset, .unset, .unset, .unset, .unset, .unset, .unset, .unset, .unset, .unset, .unset] [(.int th)]))) ?_ ?_
  · intro T1 lc1 X1 e1 N1 th
    show OE _ _ _ _ (T1.setTop (mkF m 27 #[iv r1, iv r2, iv r3, iv fl, iv (fl &&& (1 : Int32)), iv ((2 : Int32) + (((fl.toUInt32 >>> ((1 : Int32) &&& 31).toUInt32).toInt32) &&& (1 : Int32))), .unset, .unset, .unset, .unset, .unset, .unset, .unset, .unset, .unset, .unset, .unset] [(.int th)]))
    refine OE.v (fun t k => XS.istore X1.here hx rfl (hb hby at_27) rfl (l' := #[iv r1, iv r2, iv r3, iv fl, iv (fl &&& (1 : Int32)), iv ((2 : Int32) + (((fl.toUInt32 >>> ((1 : Int32) &&& 31).toUInt32).toInt32) &&& (1 : Int32))), iv th, .unset, .unset, .unset, .unset, .unset, .unset, .unset, .unset, .unset, .unset]) rfl k) ?_
    refine OE.v (fun t k => XS.iloadN X1.here hx rfl (hb hby at_29) rfl k) ?_
    refine OE.v (fun t k => XS.iconst X1.here hx rfl (hb hby at_30) k) ?_
    refine OE.v (fun t k => XS.iushr X1.here hx rfl (hb hby at_31) rfl k) ?_
    refine OE.v (fun t k => XS.iconst X1.here hx rfl (hb hby at_32) k) ?_
    refine OE.v (fun t k => XS.iand X1.here hx rfl (hb hby at_33) rfl k) ?_
    show OE _ _ _ _ (T1.setTop (mkF m 34 #[iv r1, iv r2, iv r3, iv fl, iv (fl &&& (1 : Int32)), iv ((2 : Int32) + (((fl.toUInt32 >>> ((1 : Int32) &&& 31).toUInt32).toInt32) &&& (1 : Int32))), iv th, .unset, .unset, .unset, .unset, .unset, .unset, .unset, .unset, .unset, .unset] [(.int (((fl.toUInt32 >>> ((3 : Int32) &&& 31).toUInt32).toInt32) &&& (1 : Int32)))]))
    refine OE.cut (fun G => ∀ (T2 : State) (lc2 : List Loc) (X2 : Stand p l e room_1 s m #[(.int r1), (.int r2), (.int r3), (.int fl)] below meth c T2 lc2 0 0) (e2 : T2.heap = h0) (N2 : Fr n0 lc2) (rvv : Int32), G (T2.setTop (mkF m 42 #[iv r1, iv r2, iv r3, iv fl, iv (fl &&& (1 : Int32)), iv ((2 : Int32) + (((fl.toUInt32 >>> ((1 : Int32) &&& 31).toUInt32).toInt32) &&& (1 : Int32))), iv th, .unset, .unset, .unset, .unset, .unset, .unset, .unset, .unset, .unset, .unset] [(.int rvv)]))) ?_ ?_
    · intro T2 lc2 X2 e2 N2 rvv
      show OE _ _ _ _ (T2.setTop (mkF m 42 #[iv r1, iv r2, iv r3, iv fl, iv (fl &&& (1 : Int32)), iv ((2 : Int32) + (((fl.toUInt32 >>> ((1 : Int32) &&& 31).toUInt32).toInt32) &&& (1 : Int32))), iv th, .unset, .unset, .unset, .unset, .unset, .unset, .unset, .unset, .unset, .unset] [(.int rvv)]))
      refine OE.v (fun t k => XS.istore X2.here hx rfl (hb hby at_42) rfl (l' := #[iv r1, iv r2, iv r3, iv fl, iv (fl &&& (1 : Int32)), iv ((2 : Int32) + (((fl.toUInt32 >>> ((1 : Int32) &&& 31).toUInt32).toInt32) &&& (1 : Int32))), iv th, iv rvv, .unset, .unset, .unset, .unset, .unset, .unset, .unset, .unset, .unset]) rfl k) ?_
      refine OE.v (fun t k => XS.iloadN X2.here hx rfl (hb hby at_44) rfl k) ?_
      refine OE.v (fun t k => XS.iconst X2.here hx rfl (hb hby at_45) k) ?_
      refine OE.v (fun t k => XS.iushr X2.here hx rfl (hb hby at_46) rfl k) ?_
      refine OE.v (fun t k => XS.iconst X2.here hx rfl (hb hby at_47) k) ?_
      refine OE.v (fun t k => XS.iand X2.here hx rfl (hb hby at_48) rfl k) ?_
      show OE _ _ _ _ (T2.setTop (mkF m 49 #[iv r1, iv r2, iv r3, iv fl, iv (fl &&& (1 : Int32)), iv ((2 : Int32) + (((fl.toUInt32 >>> ((1 : Int32) &&& 31).toUInt32).toInt32) &&& (1 : Int32))), iv th, iv rvv, .unset, .unset, .unset, .unset, .unset, .unset, .unset, .unset, .unset] [(.int (((fl.toUInt32 >>> ((4 : Int32) &&& 31).toUInt32).toInt32) &&& (3 : Int32)))]))
      refine OE.v (fun t k => XS.istore X2.here hx rfl (hb hby at_49) rfl (l' := #[iv r1, iv r2, iv r3, iv fl, iv (fl &&& (1 : Int32)), iv ((2 : Int32) + (((fl.toUInt32 >>> ((1 : Int32) &&& 31).toUInt32).toInt32) &&& (1 : Int32))), iv th, iv rvv, iv (((fl.toUInt32 >>> ((4 : Int32) &&& 31).toUInt32).toInt32) &&& (3 : Int32)), .unset, .unset, .unset, .unset, .unset, .unset, .unset, .unset]) rfl k) ?_
      show OE _ _ _ _ (T2.setTop (mkF m 51 #[iv r1, iv r2, iv r3, iv fl, iv (fl &&& (1 : Int32)), iv ((2 : Int32) + (((fl.toUInt32 >>> ((1 : Int32) &&& 31).toUInt32).toInt32) &&& (1 : Int32))), iv th, iv rvv, iv (((fl.toUInt32 >>> ((4 : Int32) &&& 31).toUInt32).toInt32) &&& (3 : Int32)), .unset, .unset, .unset, .unset, .unset, .unset, .unset, .unset] []))
      obtain ⟨na, h_na⟩ : ∃ z : Int32, z = (fl &&& (1 : Int32)) := ⟨_, rfl⟩
      rw [← h_na]
      show OE _ _ _ _ (T2.setTop (mkF m 51 #[iv r1, iv r2, iv r3, iv fl, iv na, iv ((2 : Int32) + (((fl.toUInt32 >>> ((1 : Int32) &&& 31).toUInt32).toInt32) &&& (1 : Int32))), iv th, iv rvv, iv (((fl.toUInt32 >>> ((4 : Int32) &&& 31).toUInt32).toInt32) &&& (3 : Int32)), .unset, .unset, .unset, .unset, .unset, .unset, .unset, .unset] []))
      obtain ⟨nb, h_nb⟩ : ∃ z : Int32, z = ((2 : Int32) + (((fl.toUInt32 >>> ((1 : Int32) &&& 31).toUInt32).toInt32) &&& (1 : Int32))) := ⟨_, rfl⟩
      rw [← h_nb]
      show OE _ _ _ _ (T2.setTop (mkF m 51 #[iv r1, iv r2, iv r3, iv fl, iv na, iv nb, iv th, iv rvv, iv (((fl.toUInt32 >>> ((4 : Int32) &&& 31).toUInt32).toInt32) &&& (3 : Int32)), .unset, .unset, .unset, .unset, .unset, .unset, .unset, .unset] []))
      obtain ⟨nn, h_nn⟩ : ∃ z : Int32, z = (((fl.toUInt32 >>> ((4 : Int32) &&& 31).toUInt32).toInt32) &&& (3 : Int32)) := ⟨_, rfl⟩
      rw [← h_nn]
      have c_na : na = (0 : Int32) ∨ na = (1 : Int32) := by rw [h_na]; exact own_01 _
      have c_nb : nb = (2 : Int32) ∨ nb = (3 : Int32) := by rw [h_nb]; rcases own_01 ((fl.toUInt32 >>> ((1 : Int32) &&& 31).toUInt32).toInt32) with q | q <;> rw [q] <;> decide
      have c_nn : nn = (0 : Int32) ∨ nn = (1 : Int32) ∨ nn = (2 : Int32) ∨ nn = (3 : Int32) := by rw [h_nn]; exact own_03 _
      show OE _ _ _ _ (T2.setTop (mkF m 51 #[iv r1, iv r2, iv r3, iv fl, iv na, iv nb, iv th, iv rvv, iv nn, .unset, .unset, .unset, .unset, .unset, .unset, .unset, .unset] []))
      obtain ⟨T3, h3, X3, e3, E3, A3, D3, -, st3⟩ := newO X2 hx hZ hown (hw _ (own_w 0 rfl)) (hw _ (own_w 1 rfl)) (hw _ (own_w 2 rfl)) e2 (g := (mkF m 51 #[iv r1, iv r2, iv r3, iv fl, iv na, iv nb, iv th, iv rvv, iv nn, .unset, .unset, .unset, .unset, .unset, .unset, .unset, .unset] [])) rfl (hb hby at_51) (by decide) (by decide)
      obtain ⟨b3, g3⟩ : ∃ z, z = h0.size := ⟨_, rfl⟩
      have ge_b3 : n0 ≤ b3 := Nat.le_trans Z0 (Nat.le_of_eq g3.symm)
      have Z3 : n0 ≤ h3.size := Nat.le_trans Z0 E3.1
      rw [← g3] at A3 D3 st3
      have F3_mParent : Fld Z h3 b3 "com/example/stratal/stratal/logic/StratumGroups" "mParent" "[I" .null := D3 (Or.inl (hw _ (own_w 11 rfl))) (ty := (.array .int)) (by decide)
      have F3_mOffset : Fld Z h3 b3 "com/example/stratal/stratal/logic/StratumGroups" "mOffset" "[I" .null := D3 (Or.inl (hw _ (own_w 13 rfl))) (ty := (.array .int)) (by decide)
      have F3_mSize : Fld Z h3 b3 "com/example/stratal/stratal/logic/StratumGroups" "mSize" "[I" .null := D3 (Or.inl (hw _ (own_w 15 rfl))) (ty := (.array .int)) (by decide)
      have F3_mFloor : Fld Z h3 b3 "com/example/stratal/stratal/logic/StratumGroups" "mFloor" "[I" .null := D3 (Or.inl (hw _ (own_w 17 rfl))) (ty := (.array .int)) (by decide)
      have F3_mRecords : Fld Z h3 b3 "com/example/stratal/stratal/logic/StratumGroups" "mRecords" "[I" .null := D3 (Or.inl (hw _ (own_w 19 rfl))) (ty := (.array .int)) (by decide)
      have F3_mCount : Fld Z h3 b3 "com/example/stratal/stratal/logic/StratumGroups" "mCount" "I" (.int 0) := D3 (Or.inl (hw _ (own_w 26 rfl))) (ty := .int) (by decide)
      have F3_mRecording : Fld Z h3 b3 "com/example/stratal/stratal/logic/StratumGroups" "mRecording" "Z" (.int 0) := D3 (Or.inl (hw _ (own_w 51 rfl))) (ty := .boolean) (by decide)
      have F3_mBroken : Fld Z h3 b3 "com/example/stratal/stratal/logic/StratumGroups" "mBroken" "I" (.int 0) := D3 (Or.inl (hw _ (own_w 58 rfl))) (ty := .int) (by decide)
      have F3_mRecordCount : Fld Z h3 b3 "com/example/stratal/stratal/logic/StratumGroups" "mRecordCount" "I" (.int 0) := D3 (Or.inl (hw _ (own_w 60 rfl))) (ty := .int) (by decide)
      refine OE.v st3 ?_
      show OE _ _ _ _ (T3.setTop (mkF m 54 #[iv r1, iv r2, iv r3, iv fl, iv na, iv nb, iv th, iv rvv, iv nn, .unset, .unset, .unset, .unset, .unset, .unset, .unset, .unset] [(.ref b3)]))
      refine OE.v (fun t k => XS.dup X3.here hx rfl (hb hby at_54) rfl rfl k) ?_
      show OE _ _ _ _ (T3.setTop (mkF m 55 #[iv r1, iv r2, iv r3, iv fl, iv na, iv nb, iv th, iv rvv, iv nn, .unset, .unset, .unset, .unset, .unset, .unset, .unset, .unset] [(.ref b3), (.ref b3)]))
      obtain ⟨_, _, ⟨T4, L4, k4, n4⟩, -, X4, ⟨Lc4, hQ4, l4, y4, z4⟩, st4⟩ := X3.specialBack hx (y := (⟨"com/example/stratal/stratal/logic/StratumGroups", "<init>", "()V"⟩ : MethodName)) rfl hown (mvT hZ (hw _ (own_w 3 rfl))) (mvT hZ (hw _ (own_w 4 rfl))) (mvT hZ (hw _ (own_w 5 rfl))) (by decide) (backOf (W := 1) (rm1 l Z a0 hw [] b3 h3 n0 Z3 A3 F3_mParent F3_mOffset F3_mSize F3_mFloor F3_mRecords F3_mCount F3_mRecording ge_b3) hZ (hw _ (own_w 5 rfl)) (hw _ (own_w 2 rfl)) (by decide) (by decide)) (g := (mkF m 55 #[iv r1, iv r2, iv r3, iv fl, iv na, iv nb, iv th, iv rvv, iv nn, .unset, .unset, .unset, .unset, .unset, .unset, .unset, .unset] [(.ref b3), (.ref b3)])) rfl (by rw [hml]; rfl) (Steps.refl _) (a := b3) (argsL := []) (rest := [(.ref b3)]) (lenOf pd_0 rfl) rfl (Nat.le_of_eq rfl) (hb hby at_55) (fun _ _ => ⟨rfl, e3, (by decide : 1 + 5 ≤ _), (by decide : 9 + 112 ≤ _)⟩)
      dsimp only [Pt.U, Pt.locs, Pt.cells, Pt.slots] at X4 l4 y4 z4 st4 hQ4
      subst l4 y4 z4
      obtain ⟨h4, e4⟩ : ∃ z, T4.heap = z := ⟨_, rfl⟩
      rw [e4] at hQ4
      obtain ⟨rp_4, ro_4, rs_4, rf_4, kp_4, ko_4, ks_4, kf_4, rfl, Nq4, Kq4, q4_0, q4_1, q4_2, q4_3, q4_4, q4_5, q4_6, q4_7, q4_8, q4_9, q4_10, q4_11, q4_12, q4_13, q4_14, q4_15, q4_16, q4_17, q4_18, q4_19, q4_20, q4_21, q4_22, q4_23, q4_24⟩ := hQ4
      have Z4 : n0 ≤ h4.size := Nat.le_trans Z3 Kq4.1
      have N4 := Fr.app N2 Nq4
      refine OE.v (fun t k => st4.trans k) ?_
      show OE _ _ _ _ (T4.setTop (mkF m 58 #[iv r1, iv r2, iv r3, iv fl, iv na, iv nb, iv th, iv rvv, iv nn, .unset, .unset, .unset, .unset, .unset, .unset, .unset, .unset] [(.ref b3)]))
      refine OE.v (fun t k => XS.astore X4.here hx rfl (hb hby at_58) rfl rfl (l' := #[iv r1, iv r2, iv r3, iv fl, iv na, iv nb, iv th, iv rvv, iv nn, rv b3, .unset, .unset, .unset, .unset, .unset, .unset, .unset]) rfl k) ?_
      refine OE.v (fun t k => XS.aload X4.here hx rfl (hb hby at_60) rfl rfl k) ?_
      show OE _ _ _ _ (T4.setTop (mkF m 62 #[iv r1, iv r2, iv r3, iv fl, iv na, iv nb, iv th, iv rvv, iv nn, rv b3, .unset, .unset, .unset, .unset, .unset, .unset, .unset] [(.ref b3)]))
      obtain ⟨cq5, kq5, q5a, q5b, q5c⟩ := isOf hZ e4 q4_0
      obtain ⟨_, _, ⟨T5, L5, k5, n5⟩, -, X5, ⟨Lc5, hQ5, l5, y5, z5⟩, st5⟩ := X4.virtualBack hx (y := (⟨"com/example/stratal/stratal/logic/StratumGroups", "add", "()I"⟩ : MethodName)) (z := (⟨"com/example/stratal/stratal/logic/StratumGroups", "add", "()I"⟩ : MethodName)) hown (mvT hZ (hw _ (own_w 20 rfl))) (mvT hZ (hw _ (own_w 21 rfl))) (notFace_of_selects (args := #[]) (mvT hZ (hw _ (own_w 23 rfl)))) (mvT hZ (hw _ (own_w 23 rfl))) (mvT hZ (hw _ (own_w 22 rfl))) (by decide) (backOf (W := 0) (rmA0 l Z a0 hw [] b3 rp_4 ro_4 rs_4 rf_4 kp_4 ko_4 ks_4 kf_4 h4 n0 Z4 q4_0 q4_1 q4_2 q4_3 q4_4 q4_5 q4_7 q4_8 q4_9 q4_10 q4_11 q4_12 q4_13 q4_14 q4_15 q4_16 q4_17 q4_18 q4_19 q4_20 q4_21 q4_22 q4_23 q4_24 ge_b3 q4_6) hZ (hw _ (own_w 24 rfl)) (hw _ (own_w 2 rfl)) (by decide) (by decide)) q5a q5c (g := (mkF m 62 #[iv r1, iv r2, iv r3, iv fl, iv na, iv nb, iv th, iv rvv, iv nn, rv b3, .unset, .unset, .unset, .unset, .unset, .unset, .unset] [(.ref b3)])) rfl (by rw [hml]; rfl) (Steps.refl _) (argsL := []) (rest := []) (lenOf pd_1 rfl) rfl (Nat.le_of_eq rfl) (hb hby at_62) (fun _ _ => ⟨rfl, e4, (by decide : 6 + 0 ≤ _), (by decide : 121 + 0 ≤ _)⟩)
      dsimp only [Pt.U, Pt.locs, Pt.cells, Pt.slots] at X5 l5 y5 z5 st5 hQ5
      subst l5 y5 z5
      obtain ⟨h5, e5⟩ : ∃ z, T5.heap = z := ⟨_, rfl⟩
      rw [e5] at hQ5
      obtain ⟨rfl, Nq5, Kq5, q5_0, q5_1, q5_2, q5_3, q5_4, q5_5, q5_6, q5_7, q5_8, q5_9, q5_10⟩ := hQ5
      have Z5 : n0 ≤ h5.size := Nat.le_trans Z4 Kq5.1
      have N5 := Fr.app N4 Nq5
      refine OE.v (fun t k => st5.trans k) ?_
      show OE _ _ _ _ (T5.setTop (mkF m 65 #[iv r1, iv r2, iv r3, iv fl, iv na, iv nb, iv th, iv rvv, iv nn, rv b3, .unset, .unset, .unset, .unset, .unset, .unset, .unset] [(.int 0)]))
      refine OE.v (fun t k => XS.pop X5.here hx rfl (hb hby at_65) rfl rfl k) ?_
      refine OE.v (fun t k => XS.aload X5.here hx rfl (hb hby at_66) rfl rfl k) ?_
      show OE _ _ _ _ (T5.setTop (mkF m 68 #[iv r1, iv r2, iv r3, iv fl, iv na, iv nb, iv th, iv rvv, iv nn, rv b3, .unset, .unset, .unset, .unset, .unset, .unset, .unset] [(.ref b3)]))
      obtain ⟨cq6, kq6, q6a, q6b, q6c⟩ := isOf hZ e5 q5_0
      obtain ⟨_, _, ⟨T6, L6, k6, n6⟩, -, X6, ⟨Lc6, hQ6, l6, y6, z6⟩, st6⟩ := X5.virtualBack hx (y := (⟨"com/example/stratal/stratal/logic/StratumGroups", "add", "()I"⟩ : MethodName)) (z := (⟨"com/example/stratal/stratal/logic/StratumGroups", "add", "()I"⟩ : MethodName)) hown (mvT hZ (hw _ (own_w 20 rfl))) (mvT hZ (hw _ (own_w 21 rfl))) (notFace_of_selects (args := #[]) (mvT hZ (hw _ (own_w 23 rfl)))) (mvT hZ (hw _ (own_w 23 rfl))) (mvT hZ (hw _ (own_w 22 rfl))) (by decide) (backOf (W := 0) (rmA1 l Z a0 hw [] b3 rp_4 ro_4 rs_4 rf_4 kp_4 ko_4 ks_4 kf_4 h5 n0 Z5 q5_0 q5_1 q5_2 q5_3 q5_4 q5_5 q5_6 q5_7 q5_8 q5_9 q4_11 q4_12 q4_13 q4_14 q4_15 q4_16 q4_17 q4_18 q4_19 q4_20 q4_21 q4_22 q4_23 q4_24 ge_b3 q5_10) hZ (hw _ (own_w 24 rfl)) (hw _ (own_w 2 rfl)) (by decide) (by decide)) q6a q6c (g := (mkF m 68 #[iv r1, iv r2, iv r3, iv fl, iv na, iv nb, iv th, iv rvv, iv nn, rv b3, .unset, .unset, .unset, .unset, .unset, .unset, .unset] [(.ref b3)])) rfl (by rw [hml]; rfl) (Steps.refl _) (argsL := []) (rest := []) (lenOf pd_1 rfl) rfl (Nat.le_of_eq rfl) (hb hby at_68) (fun _ _ => ⟨rfl, e5, (by decide : 6 + 0 ≤ _), (by decide : 121 + 0 ≤ _)⟩)
      dsimp only [Pt.U, Pt.locs, Pt.cells, Pt.slots] at X6 l6 y6 z6 st6 hQ6
      subst l6 y6 z6
      obtain ⟨h6, e6⟩ : ∃ z, T6.heap = z := ⟨_, rfl⟩
      rw [e6] at hQ6
      obtain ⟨rfl, Nq6, Kq6, q6_0, q6_1, q6_2, q6_3, q6_4, q6_5, q6_6, q6_7, q6_8, q6_9, q6_10⟩ := hQ6
      have Z6 : n0 ≤ h6.size := Nat.le_trans Z5 Kq6.1
      have N6 := Fr.app N5 Nq6
      refine OE.v (fun t k => st6.trans k) ?_
      show OE _ _ _ _ (T6.setTop (mkF m 71 #[iv r1, iv r2, iv r3, iv fl, iv na, iv nb, iv th, iv rvv, iv nn, rv b3, .unset, .unset, .unset, .unset, .unset, .unset, .unset] [(.int 1)]))
      refine OE.v (fun t k => XS.pop X6.here hx rfl (hb hby at_71) rfl rfl k) ?_
      refine OE.v (fun t k => XS.aload X6.here hx rfl (hb hby at_72) rfl rfl k) ?_
      show OE _ _ _ _ (T6.setTop (mkF m 74 #[iv r1, iv r2, iv r3, iv fl, iv na, iv nb, iv th, iv rvv, iv nn, rv b3, .unset, .unset, .unset, .unset, .unset, .unset, .unset] [(.ref b3)]))
      obtain ⟨cq7, kq7, q7a, q7b, q7c⟩ := isOf hZ e6 q6_0
      obtain ⟨_, _, ⟨T7, L7, k7, n7⟩, -, X7, ⟨Lc7, hQ7, l7, y7, z7⟩, st7⟩ := X6.virtualBack hx (y := (⟨"com/example/stratal/stratal/logic/StratumGroups", "add", "()I"⟩ : MethodName)) (z := (⟨"com/example/stratal/stratal/logic/StratumGroups", "add", "()I"⟩ : MethodName)) hown (mvT hZ (hw _ (own_w 20 rfl))) (mvT hZ (hw _ (own_w 21 rfl))) (notFace_of_selects (args := #[]) (mvT hZ (hw _ (own_w 23 rfl)))) (mvT hZ (hw _ (own_w 23 rfl))) (mvT hZ (hw _ (own_w 22 rfl))) (by decide) (backOf (W := 0) (rmA2 l Z a0 hw [] b3 rp_4 ro_4 rs_4 rf_4 kp_4 ko_4 ks_4 kf_4 h6 n0 Z6 q6_0 q6_1 q6_2 q6_3 q6_4 q6_5 q6_6 q6_7 q6_8 q6_9 q4_11 q4_12 q4_13 q4_14 q4_15 q4_16 q4_17 q4_18 q4_19 q4_20 q4_21 q4_22 q4_23 q4_24 ge_b3 q6_10) hZ (hw _ (own_w 24 rfl)) (hw _ (own_w 2 rfl)) (by decide) (by decide)) q7a q7c (g := (mkF m 74 #[iv r1, iv r2, iv r3, iv fl, iv na, iv nb, iv th, iv rvv, iv nn, rv b3, .unset, .unset, .unset, .unset, .unset, .unset, .unset] [(.ref b3)])) rfl (by rw [hml]; rfl) (Steps.refl _) (argsL := []) (rest := []) (lenOf pd_1 rfl) rfl (Nat.le_of_eq rfl) (hb hby at_74) (fun _ _ => ⟨rfl, e6, (by decide : 6 + 0 ≤ _), (by decide : 121 + 0 ≤ _)⟩)
      dsimp only [Pt.U, Pt.locs, Pt.cells, Pt.slots] at X7 l7 y7 z7 st7 hQ7
      subst l7 y7 z7
      obtain ⟨h7, e7⟩ : ∃ z, T7.heap = z := ⟨_, rfl⟩
      rw [e7] at hQ7
      obtain ⟨rfl, Nq7, Kq7, q7_0, q7_1, q7_2, q7_3, q7_4, q7_5, q7_6, q7_7, q7_8, q7_9, q7_10⟩ := hQ7
      have Z7 : n0 ≤ h7.size := Nat.le_trans Z6 Kq7.1
      have N7 := Fr.app N6 Nq7
      refine OE.v (fun t k => st7.trans k) ?_
      show OE _ _ _ _ (T7.setTop (mkF m 77 #[iv r1, iv r2, iv r3, iv fl, iv na, iv nb, iv th, iv rvv, iv nn, rv b3, .unset, .unset, .unset, .unset, .unset, .unset, .unset] [(.int 2)]))
      refine OE.v (fun t k => XS.pop X7.here hx rfl (hb hby at_77) rfl rfl k) ?_
      refine OE.v (fun t k => XS.aload X7.here hx rfl (hb hby at_78) rfl rfl k) ?_
      show OE _ _ _ _ (T7.setTop (mkF m 80 #[iv r1, iv r2, iv r3, iv fl, iv na, iv nb, iv th, iv rvv, iv nn, rv b3, .unset, .unset, .unset, .unset, .unset, .unset, .unset] [(.ref b3)]))
      obtain ⟨cq8, kq8, q8a, q8b, q8c⟩ := isOf hZ e7 q7_0
      obtain ⟨_, _, ⟨T8, L8, k8, n8⟩, -, X8, ⟨Lc8, hQ8, l8, y8, z8⟩, st8⟩ := X7.virtualBack hx (y := (⟨"com/example/stratal/stratal/logic/StratumGroups", "add", "()I"⟩ : MethodName)) (z := (⟨"com/example/stratal/stratal/logic/StratumGroups", "add", "()I"⟩ : MethodName)) hown (mvT hZ (hw _ (own_w 20 rfl))) (mvT hZ (hw _ (own_w 21 rfl))) (notFace_of_selects (args := #[]) (mvT hZ (hw _ (own_w 23 rfl)))) (mvT hZ (hw _ (own_w 23 rfl))) (mvT hZ (hw _ (own_w 22 rfl))) (by decide) (backOf (W := 0) (rmA3 l Z a0 hw [] b3 rp_4 ro_4 rs_4 rf_4 kp_4 ko_4 ks_4 kf_4 h7 n0 Z7 q7_0 q7_1 q7_2 q7_3 q7_4 q7_5 q7_6 q7_7 q7_8 q7_9 q4_11 q4_12 q4_13 q4_14 q4_15 q4_16 q4_17 q4_18 q4_19 q4_20 q4_21 q4_22 q4_23 q4_24 ge_b3 q7_10) hZ (hw _ (own_w 24 rfl)) (hw _ (own_w 2 rfl)) (by decide) (by decide)) q8a q8c (g := (mkF m 80 #[iv r1, iv r2, iv r3, iv fl, iv na, iv nb, iv th, iv rvv, iv nn, rv b3, .unset, .unset, .unset, .unset, .unset, .unset, .unset] [(.ref b3)])) rfl (by rw [hml]; rfl) (Steps.refl _) (argsL := []) (rest := []) (lenOf pd_1 rfl) rfl (Nat.le_of_eq rfl) (hb hby at_80) (fun _ _ => ⟨rfl, e7, (by decide : 6 + 0 ≤ _), (by decide : 121 + 0 ≤ _)⟩)
      dsimp only [Pt.U, Pt.locs, Pt.cells, Pt.slots] at X8 l8 y8 z8 st8 hQ8
      subst l8 y8 z8
      obtain ⟨h8, e8⟩ : ∃ z, T8.heap = z := ⟨_, rfl⟩
      rw [e8] at hQ8
      obtain ⟨rfl, Nq8, Kq8, q8_0, q8_1, q8_2, q8_3, q8_4, q8_5, q8_6, q8_7, q8_8, q8_9, q8_10⟩ := hQ8
      have Z8 : n0 ≤ h8.size := Nat.le_trans Z7 Kq8.1
      have N8 := Fr.app N7 Nq8
      refine OE.v (fun t k => st8.trans k) ?_
      show OE _ _ _ _ (T8.setTop (mkF m 83 #[iv r1, iv r2, iv r3, iv fl, iv na, iv nb, iv th, iv rvv, iv nn, rv b3, .unset, .unset, .unset, .unset, .unset, .unset, .unset] [(.int 3)]))
      refine OE.v (fun t k => XS.pop X8.here hx rfl (hb hby at_83) rfl rfl k) ?_
      refine OE.v (fun t k => XS.aload X8.here hx rfl (hb hby at_84) rfl rfl k) ?_
      refine OE.v (fun t k => XS.iconst X8.here hx rfl (hb hby at_86) k) ?_
      refine OE.v (fun t k => XS.iconst X8.here hx rfl (hb hby at_87) k) ?_
      refine OE.v (fun t k => XS.iloadN X8.here hx rfl (hb hby at_88) rfl k) ?_
      show OE _ _ _ _ (T8.setTop (mkF m 89 #[iv r1, iv r2, iv r3, iv fl, iv na, iv nb, iv th, iv rvv, iv nn, rv b3, .unset, .unset, .unset, .unset, .unset, .unset, .unset] [(.int r1), (.int 1), (.int 0), (.ref b3)]))
      obtain ⟨cq9, kq9, q9a, q9b, q9c⟩ := isOf hZ e8 q8_0
      obtain ⟨_, _, ⟨T9, L9, k9, n9⟩, -, X9, ⟨Lc9, hQ9, l9, y9, z9⟩, st9⟩ := X8.virtualBack hx (y := (⟨"com/example/stratal/stratal/logic/StratumGroups", "join", "(III)I"⟩ : MethodName)) (z := (⟨"com/example/stratal/stratal/logic/StratumGroups", "join", "(III)I"⟩ : MethodName)) hown (mvT hZ (hw _ (own_w 27 rfl))) (mvT hZ (hw _ (own_w 28 rfl))) (notFace_of_selects (args := #[]) (mvT hZ (hw _ (own_w 30 rfl)))) (mvT hZ (hw _ (own_w 30 rfl))) (mvT hZ (hw _ (own_w 29 rfl))) (by decide) (backOf (W := 0) (rmJ01_0123 l Z a0 hw [] b3 rp_4 ro_4 rs_4 rf_4 kp_4 ko_4 ks_4 kf_4 (0 : Int32) (0 : Int32) (0 : Int32) (0 : Int32) (0 : Int32) (0 : Int32) (0 : Int32) (0 : Int32) r1 h8 n0 Z8 q8_0 q8_1 q8_2 q8_3 q8_4 q8_10 q8_6 q8_7 q8_8 q8_9 q4_11 q4_12 q4_13 q4_14 q4_15 q4_16 q4_17 q4_18 q4_19 q4_20 q4_21 q4_22 q4_23 q4_24) hZ (hw _ (own_w 31 rfl)) (hw _ (own_w 2 rfl)) (by decide) (by decide)) q9a q9c (g := (mkF m 89 #[iv r1, iv r2, iv r3, iv fl, iv na, iv nb, iv th, iv rvv, iv nn, rv b3, .unset, .unset, .unset, .unset, .unset, .unset, .unset] [(.int r1), (.int 1), (.int 0), (.ref b3)])) rfl (by rw [hml]; rfl) (Steps.refl _) (argsL := [(.int 0), (.int 1), (.int r1)]) (rest := []) (lenOf pd_5 rfl) rfl (Nat.le_of_eq rfl) (hb hby at_89) (fun _ _ => ⟨rfl, e8, (by decide : 6 + 0 ≤ _), (by decide : 121 + 0 ≤ _)⟩)
      dsimp only [Pt.U, Pt.locs, Pt.cells, Pt.slots] at X9 l9 y9 z9 st9 hQ9
      subst l9 y9 z9
      obtain ⟨h9, e9⟩ : ∃ z, T9.heap = z := ⟨_, rfl⟩
      rw [e9] at hQ9
      obtain ⟨rfl, Nq9, Kq9, q9_0, q9_1, q9_2, q9_3⟩ := hQ9
      have Z9 : n0 ≤ h9.size := Nat.le_trans Z8 Kq9.1
      have N9 := Fr.app N8 Nq9
      refine OE.v (fun t k => st9.trans k) ?_
      show OE _ _ _ _ (T9.setTop (mkF m 92 #[iv r1, iv r2, iv r3, iv fl, iv na, iv nb, iv th, iv rvv, iv nn, rv b3, .unset, .unset, .unset, .unset, .unset, .unset, .unset] [(.int 1)]))
      refine OE.v (fun t k => XS.pop X9.here hx rfl (hb hby at_92) rfl rfl k) ?_
      refine OE.v (fun t k => XS.aload X9.here hx rfl (hb hby at_93) rfl rfl k) ?_
      refine OE.v (fun t k => XS.iconst X9.here hx rfl (hb hby at_95) k) ?_
      refine OE.v (fun t k => XS.iconst X9.here hx rfl (hb hby at_96) k) ?_
      refine OE.v (fun t k => XS.iloadN X9.here hx rfl (hb hby at_97) rfl k) ?_
      show OE _ _ _ _ (T9.setTop (mkF m 98 #[iv r1, iv r2, iv r3, iv fl, iv na, iv nb, iv th, iv rvv, iv nn, rv b3, .unset, .unset, .unset, .unset, .unset, .unset, .unset] [(.int r2), (.int 3), (.int 2), (.ref b3)]))
      obtain ⟨cq10, kq10, q10a, q10b, q10c⟩ := isOf hZ e9 (q8_0.keep Kq9)
      obtain ⟨_, _, ⟨T10, L10, k10, n10⟩, -, X10, ⟨Lc10, hQ10, l10, y10, z10⟩, st10⟩ := X9.virtualBack hx (y := (⟨"com/example/stratal/stratal/logic/StratumGroups", "join", "(III)I"⟩ : MethodName)) (z := (⟨"com/example/stratal/stratal/logic/StratumGroups", "join", "(III)I"⟩ : MethodName)) hown (mvT hZ (hw _ (own_w 27 rfl))) (mvT hZ (hw _ (own_w 28 rfl))) (notFace_of_selects (args := #[]) (mvT hZ (hw _ (own_w 30 rfl)))) (mvT hZ (hw _ (own_w 30 rfl))) (mvT hZ (hw _ (own_w 29 rfl))) (by decide) (backOf (W := 0) (rmJ23_0023 l Z a0 hw [] b3 rp_4 ro_4 rs_4 rf_4 kp_4 ko_4 ks_4 kf_4 (0 : Int32) (((0 : Int32) + r1) - (0 : Int32)) (0 : Int32) (0 : Int32) (own_max (0 : Int32) ((0 : Int32) - (((0 : Int32) + r1) - (0 : Int32)))) (0 : Int32) (0 : Int32) (0 : Int32) r2 h9 n0 Z9 (q8_0.keep Kq9) (q8_1.keep Kq9 (ninS (Ne.symm q4_11) (ninS (Ne.symm q4_12) (ninS (Ne.symm q4_13) (ninS (Ne.symm q4_14) nin0))))) (q8_2.keep Kq9 (ninS (Ne.symm q4_11) (ninS (Ne.symm q4_12) (ninS (Ne.symm q4_13) (ninS (Ne.symm q4_14) nin0))))) (q8_3.keep Kq9 (ninS (Ne.symm q4_11) (ninS (Ne.symm q4_12) (ninS (Ne.symm q4_13) (ninS (Ne.symm q4_14) nin0))))) (q8_4.keep Kq9 (ninS (Ne.symm q4_11) (ninS (Ne.symm q4_12) (ninS (Ne.symm q4_13) (ninS (Ne.symm q4_14) nin0))))) (q8_10.keep Kq9 (ninS (Ne.symm q4_11) (ninS (Ne.symm q4_12) (ninS (Ne.symm q4_13) (ninS (Ne.symm q4_14) nin0))))) q9_0 q9_1 q9_2 q9_3 q4_11 q4_12 q4_13 q4_14 q4_15 q4_16 q4_17 q4_18 q4_19 q4_20 q4_21 q4_22 q4_23 q4_24) hZ (hw _ (own_w 31 rfl)) (hw _ (own_w 2 rfl)) (by decide) (by decide)) q10a q10c (g := (mkF m 98 #[iv r1, iv r2, iv r3, iv fl, iv na, iv nb, iv th, iv rvv, iv nn, rv b3, .unset, .unset, .unset, .unset, .unset, .unset, .unset] [(.int r2), (.int 3), (.int 2), (.ref b3)])) rfl (by rw [hml]; rfl) (Steps.refl _) (argsL := [(.int 2), (.int 3), (.int r2)]) (rest := []) (lenOf pd_5 rfl) rfl (Nat.le_of_eq rfl) (hb hby at_98) (fun _ _ => ⟨rfl, e9, (by decide : 6 + 0 ≤ _), (by decide : 121 + 0 ≤ _)⟩)
      dsimp only [Pt.U, Pt.locs, Pt.cells, Pt.slots] at X10 l10 y10 z10 st10 hQ10
      subst l10 y10 z10
      obtain ⟨h10, e10⟩ : ∃ z, T10.heap = z := ⟨_, rfl⟩
      rw [e10] at hQ10
      obtain ⟨rfl, Nq10, Kq10, q10_0, q10_1, q10_2, q10_3⟩ := hQ10
      have Z10 : n0 ≤ h10.size := Nat.le_trans Z9 Kq10.1
      have N10 := Fr.app N9 Nq10
      refine OE.v (fun t k => st10.trans k) ?_
      show OE _ _ _ _ (T10.setTop (mkF m 101 #[iv r1, iv r2, iv r3, iv fl, iv na, iv nb, iv th, iv rvv, iv nn, rv b3, .unset, .unset, .unset, .unset, .unset, .unset, .unset] [(.int 3)]))
      refine OE.v (fun t k => XS.pop X10.here hx rfl (hb hby at_101) rfl rfl k) ?_
      refine OE.v (fun t k => XS.iload X10.here hx rfl (hb hby at_102) rfl k) ?_
      show OE _ _ _ _ (T10.setTop (mkF m 104 #[iv r1, iv r2, iv r3, iv fl, iv na, iv nb, iv th, iv rvv, iv nn, rv b3, .unset, .unset, .unset, .unset, .unset, .unset, .unset] [(.int th)]))
      by_cases hc104_11 : th = (0 : Int32)
      ·
        refine OE.v (fun t k => XS.ifNo X10.here hx rfl (hb hby at_104) rfl ((if0 _ _).trans (teq hc104_11).2) k) ?_
        show OE _ _ _ _ (T10.setTop (mkF m 107 #[iv r1, iv r2, iv r3, iv fl, iv na, iv nb, iv th, iv rvv, iv nn, rv b3, .unset, .unset, .unset, .unset, .unset, .unset, .unset] []))
        rcases c_nn with enn_12 | enn_12 | enn_12 | enn_12
        ·
          rw [enn_12]
          show OE _ _ _ _ (T10.setTop (mkF m 107 #[iv r1, iv r2, iv r3, iv fl, iv na, iv nb, iv th, iv rvv, iv 0, rv b3, .unset, .unset, .unset, .unset, .unset, .unset, .unset] []))
          refine OE.v (fun t k => XS.iload X10.here hx rfl (hb hby at_107) rfl k) ?_
          refine OE.v (fun t k => XS.iconst X10.here hx rfl (hb hby at_109) k) ?_
          show OE _ _ _ _ (T10.setTop (mkF m 110 #[iv r1, iv r2, iv r3, iv fl, iv na, iv nb, iv th, iv rvv, iv 0, rv b3, .unset, .unset, .unset, .unset, .unset, .unset, .unset] [(.int 1), (.int 0)]))
          refine OE.v (fun t k => XS.icmpYes X10.here hx rfl (pc0 := 110) (pc' := 119) rfl (hb hby at_110) rfl (feq (by decide)).2 (by decide) (by decide) k) ?_
          show OE _ _ _ _ (T10.setTop (mkF m 119 #[iv r1, iv r2, iv r3, iv fl, iv na, iv nb, iv th, iv rvv, iv 0, rv b3, .unset, .unset, .unset, .unset, .unset, .unset, .unset] []))
          refine OE.v (fun t k => XS.iload X10.here hx rfl (hb hby at_119) rfl k) ?_
          refine OE.v (fun t k => XS.iconst X10.here hx rfl (hb hby at_121) k) ?_
          show OE _ _ _ _ (T10.setTop (mkF m 122 #[iv r1, iv r2, iv r3, iv fl, iv na, iv nb, iv th, iv rvv, iv 0, rv b3, .unset, .unset, .unset, .unset, .unset, .unset, .unset] [(.int 3), (.int 0)]))
          refine OE.v (fun t k => XS.icmpYes X10.here hx rfl (pc0 := 122) (pc' := 131) rfl (hb hby at_122) rfl (feq (by decide)).2 (by decide) (by decide) k) ?_
          show OE _ _ _ _ (T10.setTop (mkF m 131 #[iv r1, iv r2, iv r3, iv fl, iv na, iv nb, iv th, iv rvv, iv 0, rv b3, .unset, .unset, .unset, .unset, .unset, .unset, .unset] []))
          refine OE.v (fun t k => XS.iconst X10.here hx rfl (hb hby at_131) k) ?_
          refine OE.v (fun t k => XS.istore X10.here hx rfl (hb hby at_132) rfl (l' := #[iv r1, iv r2, iv r3, iv fl, iv na, iv nb, iv th, iv rvv, iv 0, rv b3, iv 0, .unset, .unset, .unset, .unset, .unset, .unset]) rfl k) ?_
          refine OE.v (fun t k => XS.goto X10.here hx rfl (pc0 := 134) (pc' := 286) rfl (hb hby at_134) (by decide) (by decide) k) ?_
          refine OE.v (fun t k => XS.aload X10.here hx rfl (hb hby at_286) rfl rfl k) ?_
          refine OE.v (fun t k => XS.iload X10.here hx rfl (hb hby at_288) rfl k) ?_
          show OE _ _ _ _ (T10.setTop (mkF m 290 #[iv r1, iv r2, iv r3, iv fl, iv na, iv nb, iv th, iv rvv, iv 0, rv b3, iv 0, .unset, .unset, .unset, .unset, .unset, .unset] [(.int 0), (.ref b3)]))
          obtain ⟨cq13, kq13, q13a, q13b, q13c⟩ := isOf hZ e10 ((q8_0.keep Kq9).keep Kq10)
          obtain ⟨_, _, ⟨T13, L13, k13, n13⟩, -, X13, ⟨Lc13, hQ13, l13, y13, z13⟩, st13⟩ := X10.virtualBack hx (y := (⟨"com/example/stratal/stratal/logic/StratumGroups", "offset", "(I)I"⟩ : MethodName)) (z := (⟨"com/example/stratal/stratal/logic/StratumGroups", "offset", "(I)I"⟩ : MethodName)) hown (mvT hZ (hw _ (own_w 56 rfl))) (mvT hZ (hw _ (own_w 38 rfl))) (notFace_of_selects (args := #[]) (mvT hZ (hw _ (own_w 40 rfl)))) (mvT hZ (hw _ (own_w 40 rfl))) (mvT hZ (hw _ (own_w 39 rfl))) (by decide) (backOf (W := 0) (rmo0_0022 l Z a0 hw [] b3 rp_4 kp_4 ro_4 ko_4 (0 : Int32) (((0 : Int32) + r1) - (0 : Int32)) (0 : Int32) (((0 : Int32) + r2) - (0 : Int32)) h10 n0 Z10 ((q8_1.keep Kq9 (ninS (Ne.symm q4_11) (ninS (Ne.symm q4_12) (ninS (Ne.symm q4_13) (ninS (Ne.symm q4_14) nin0))))).keep Kq10 (ninS (Ne.symm q4_11) (ninS (Ne.symm q4_12) (ninS (Ne.symm q4_13) (ninS (Ne.symm q4_14) nin0))))) q10_0 ((q8_2.keep Kq9 (ninS (Ne.symm q4_11) (ninS (Ne.symm q4_12) (ninS (Ne.symm q4_13) (ninS (Ne.symm q4_14) nin0))))).keep Kq10 (ninS (Ne.symm q4_11) (ninS (Ne.symm q4_12) (ninS (Ne.symm q4_13) (ninS (Ne.symm q4_14) nin0))))) q10_1) hZ (hw _ (own_w 41 rfl)) (hw _ (own_w 2 rfl)) (by decide) (by decide)) q13a q13c (g := (mkF m 290 #[iv r1, iv r2, iv r3, iv fl, iv na, iv nb, iv th, iv rvv, iv 0, rv b3, iv 0, .unset, .unset, .unset, .unset, .unset, .unset] [(.int 0), (.ref b3)])) rfl (by rw [hml]; rfl) (Steps.refl _) (argsL := [(.int 0)]) (rest := []) (lenOf pd_4 rfl) rfl (Nat.le_of_eq rfl) (hb hby at_290) (fun _ _ => ⟨rfl, e10, (by decide : 6 + 0 ≤ _), (by decide : 121 + 0 ≤ _)⟩)
          dsimp only [Pt.U, Pt.locs, Pt.cells, Pt.slots] at X13 l13 y13 z13 st13 hQ13
          subst l13 y13 z13
          obtain ⟨rfl, Nq13, e13⟩ := hQ13
          have N13 := Fr.app N10 Nq13
          refine OE.v (fun t k => st13.trans k) ?_
          show OE _ _ _ _ (T13.setTop (mkF m 293 #[iv r1, iv r2, iv r3, iv fl, iv na, iv nb, iv th, iv rvv, iv 0, rv b3, iv 0, .unset, .unset, .unset, .unset, .unset, .unset] [(.int 0)]))
          refine OE.v (fun t k => XS.iload X13.here hx rfl (hb hby at_293) rfl k) ?_
          show OE _ _ _ _ (T13.setTop (mkF m 295 #[iv r1, iv r2, iv r3, iv fl, iv na, iv nb, iv th, iv rvv, iv 0, rv b3, iv 0, .unset, .unset, .unset, .unset, .unset, .unset] [(.int 0), (.int 0)]))
          refine OE.v (fun t k => XS.icmpNo X13.here hx rfl (hb hby at_295) rfl (teq (by grind)).2 k) ?_
          show OE _ _ _ _ (T13.setTop (mkF m 298 #[iv r1, iv r2, iv r3, iv fl, iv na, iv nb, iv th, iv rvv, iv 0, rv b3, iv 0, .unset, .unset, .unset, .unset, .unset, .unset] []))
          refine OE.v (fun t k => XS.iconst X13.here hx rfl (hb hby at_298) k) ?_
          refine OE.v (fun t k => XS.goto X13.here hx rfl (pc0 := 299) (pc' := 303) rfl (hb hby at_299) (by decide) (by decide) k) ?_
          show OE _ _ _ _ (T13.setTop (mkF m 303 #[iv r1, iv r2, iv r3, iv fl, iv na, iv nb, iv th, iv rvv, iv 0, rv b3, iv 0, .unset, .unset, .unset, .unset, .unset, .unset] [(.int 1)]))
          obtain ⟨fs, hr, hrun, hended, hW, hsame⟩ := X13.leave (v := some (.int 1)) (fun h => by rw [Bd.returns] at h; cases h)
          refine ⟨_, _, ?_, hrun, hended, _, _, rfl, ?_, ⟨_, rfl⟩, hW, hsame.mono (by decide) (by decide)⟩
          · exact retN X13 hx (t := .boolean) Bd.returns (by simp) (hb hby at_303) hr
          · show Q0 Z r1 r2 r3 fl h0 n0 _ T13.heap _
            rw [e13]
            exact ⟨rfl, N13⟩
        ·
          rw [enn_12]
          show OE _ _ _ _ (T10.setTop (mkF m 107 #[iv r1, iv r2, iv r3, iv fl, iv na, iv nb, iv th, iv rvv, iv 1, rv b3, .unset, .unset, .unset, .unset, .unset, .unset, .unset] []))
          refine OE.v (fun t k => XS.iload X10.here hx rfl (hb hby at_107) rfl k) ?_
          refine OE.v (fun t k => XS.iconst X10.here hx rfl (hb hby at_109) k) ?_
          show OE _ _ _ _ (T10.setTop (mkF m 110 #[iv r1, iv r2, iv r3, iv fl, iv na, iv nb, iv th, iv rvv, iv 1, rv b3, .unset, .unset, .unset, .unset, .unset, .unset, .unset] [(.int 1), (.int 1)]))
          refine OE.v (fun t k => XS.icmpNo X10.here hx rfl (hb hby at_110) rfl (teq (by decide)).2 k) ?_
          show OE _ _ _ _ (T10.setTop (mkF m 113 #[iv r1, iv r2, iv r3, iv fl, iv na, iv nb, iv th, iv rvv, iv 1, rv b3, .unset, .unset, .unset, .unset, .unset, .unset, .unset] []))
          refine OE.v (fun t k => XS.iloadN X10.here hx rfl (hb hby at_113) rfl k) ?_
          refine OE.v (fun t k => XS.istore X10.here hx rfl (hb hby at_114) rfl (l' := #[iv r1, iv r2, iv r3, iv fl, iv na, iv nb, iv th, iv rvv, iv 1, rv b3, iv r1, .unset, .unset, .unset, .unset, .unset, .unset]) rfl k) ?_
          refine OE.v (fun t k => XS.goto X10.here hx rfl (pc0 := 116) (pc' := 286) rfl (hb hby at_116) (by decide) (by decide) k) ?_
          refine OE.v (fun t k => XS.aload X10.here hx rfl (hb hby at_286) rfl rfl k) ?_
          refine OE.v (fun t k => XS.iload X10.here hx rfl (hb hby at_288) rfl k) ?_
          show OE _ _ _ _ (T10.setTop (mkF m 290 #[iv r1, iv r2, iv r3, iv fl, iv na, iv nb, iv th, iv rvv, iv 1, rv b3, iv r1, .unset, .unset, .unset, .unset, .unset, .unset] [(.int 1), (.ref b3)]))
          obtain ⟨cq14, kq14, q14a, q14b, q14c⟩ := isOf hZ e10 ((q8_0.keep Kq9).keep Kq10)
          obtain ⟨_, _, ⟨T14, L14, k14, n14⟩, -, X14, ⟨Lc14, hQ14, l14, y14, z14⟩, st14⟩ := X10.virtualBack hx (y := (⟨"com/example/stratal/stratal/logic/StratumGroups", "offset", "(I)I"⟩ : MethodName)) (z := (⟨"com/example/stratal/stratal/logic/StratumGroups", "offset", "(I)I"⟩ : MethodName)) hown (mvT hZ (hw _ (own_w 56 rfl))) (mvT hZ (hw _ (own_w 38 rfl))) (notFace_of_selects (args := #[]) (mvT hZ (hw _ (own_w 40 rfl)))) (mvT hZ (hw _ (own_w 40 rfl))) (mvT hZ (hw _ (own_w 39 rfl))) (by decide) (backOf (W := 0) (rmo1_0022 l Z a0 hw [] b3 rp_4 kp_4 ro_4 ko_4 (0 : Int32) (((0 : Int32) + r1) - (0 : Int32)) (0 : Int32) (((0 : Int32) + r2) - (0 : Int32)) h10 n0 Z10 ((q8_1.keep Kq9 (ninS (Ne.symm q4_11) (ninS (Ne.symm q4_12) (ninS (Ne.symm q4_13) (ninS (Ne.symm q4_14) nin0))))).keep Kq10 (ninS (Ne.symm q4_11) (ninS (Ne.symm q4_12) (ninS (Ne.symm q4_13) (ninS (Ne.symm q4_14) nin0))))) q10_0 ((q8_2.keep Kq9 (ninS (Ne.symm q4_11) (ninS (Ne.symm q4_12) (ninS (Ne.symm q4_13) (ninS (Ne.symm q4_14) nin0))))).keep Kq10 (ninS (Ne.symm q4_11) (ninS (Ne.symm q4_12) (ninS (Ne.symm q4_13) (ninS (Ne.symm q4_14) nin0))))) q10_1) hZ (hw _ (own_w 41 rfl)) (hw _ (own_w 2 rfl)) (by decide) (by decide)) q14a q14c (g := (mkF m 290 #[iv r1, iv r2, iv r3, iv fl, iv na, iv nb, iv th, iv rvv, iv 1, rv b3, iv r1, .unset, .unset, .unset, .unset, .unset, .unset] [(.int 1), (.ref b3)])) rfl (by rw [hml]; rfl) (Steps.refl _) (argsL := [(.int 1)]) (rest := []) (lenOf pd_4 rfl) rfl (Nat.le_of_eq rfl) (hb hby at_290) (fun _ _ => ⟨rfl, e10, (by decide : 6 + 0 ≤ _), (by decide : 121 + 0 ≤ _)⟩)
          dsimp only [Pt.U, Pt.locs, Pt.cells, Pt.slots] at X14 l14 y14 z14 st14 hQ14
          subst l14 y14 z14
          obtain ⟨rfl, Nq14, e14⟩ := hQ14
          have N14 := Fr.app N10 Nq14
          refine OE.v (fun t k => st14.trans k) ?_
          show OE _ _ _ _ (T14.setTop (mkF m 293 #[iv r1, iv r2, iv r3, iv fl, iv na, iv nb, iv th, iv rvv, iv 1, rv b3, iv r1, .unset, .unset, .unset, .unset, .unset, .unset] [(.int ((0 : Int32) + (((0 : Int32) + r1) - (0 : Int32))))]))
          refine OE.v (fun t k => XS.iload X14.here hx rfl (hb hby at_293) rfl k) ?_
          show OE _ _ _ _ (T14.setTop (mkF m 295 #[iv r1, iv r2, iv r3, iv fl, iv na, iv nb, iv th, iv rvv, iv 1, rv b3, iv r1, .unset, .unset, .unset, .unset, .unset, .unset] [(.int r1), (.int ((0 : Int32) + (((0 : Int32) + r1) - (0 : Int32))))]))
          refine OE.v (fun t k => XS.icmpNo X14.here hx rfl (hb hby at_295) rfl (teq (by grind)).2 k) ?_
          show OE _ _ _ _ (T14.setTop (mkF m 298 #[iv r1, iv r2, iv r3, iv fl, iv na, iv nb, iv th, iv rvv, iv 1, rv b3, iv r1, .unset, .unset, .unset, .unset, .unset, .unset] []))
          refine OE.v (fun t k => XS.iconst X14.here hx rfl (hb hby at_298) k) ?_
          refine OE.v (fun t k => XS.goto X14.here hx rfl (pc0 := 299) (pc' := 303) rfl (hb hby at_299) (by decide) (by decide) k) ?_
          show OE _ _ _ _ (T14.setTop (mkF m 303 #[iv r1, iv r2, iv r3, iv fl, iv na, iv nb, iv th, iv rvv, iv 1, rv b3, iv r1, .unset, .unset, .unset, .unset, .unset, .unset] [(.int 1)]))
          obtain ⟨fs, hr, hrun, hended, hW, hsame⟩ := X14.leave (v := some (.int 1)) (fun h => by rw [Bd.returns] at h; cases h)
          refine ⟨_, _, ?_, hrun, hended, _, _, rfl, ?_, ⟨_, rfl⟩, hW, hsame.mono (by decide) (by decide)⟩
          · exact retN X14 hx (t := .boolean) Bd.returns (by simp) (hb hby at_303) hr
          · show Q0 Z r1 r2 r3 fl h0 n0 _ T14.heap _
            rw [e14]
            exact ⟨rfl, N14⟩
        ·
          rw [enn_12]
          show OE _ _ _ _ (T10.setTop (mkF m 107 #[iv r1, iv r2, iv r3, iv fl, iv na, iv nb, iv th, iv rvv, iv 2, rv b3, .unset, .unset, .unset, .unset, .unset, .unset, .unset] []))
          refine OE.v (fun t k => XS.iload X10.here hx rfl (hb hby at_107) rfl k) ?_
          refine OE.v (fun t k => XS.iconst X10.here hx rfl (hb hby at_109) k) ?_
          show OE _ _ _ _ (T10.setTop (mkF m 110 #[iv r1, iv r2, iv r3, iv fl, iv na, iv nb, iv th, iv rvv, iv 2, rv b3, .unset, .unset, .unset, .unset, .unset, .unset, .unset] [(.int 1), (.int 2)]))
          refine OE.v (fun t k => XS.icmpYes X10.here hx rfl (pc0 := 110) (pc' := 119) rfl (hb hby at_110) rfl (feq (by decide)).2 (by decide) (by decide) k) ?_
          show OE _ _ _ _ (T10.setTop (mkF m 119 #[iv r1, iv r2, iv r3, iv fl, iv na, iv nb, iv th, iv rvv, iv 2, rv b3, .unset, .unset, .unset, .unset, .unset, .unset, .unset] []))
          refine OE.v (fun t k => XS.iload X10.here hx rfl (hb hby at_119) rfl k) ?_
          refine OE.v (fun t k => XS.iconst X10.here hx rfl (hb hby at_121) k) ?_
          show OE _ _ _ _ (T10.setTop (mkF m 122 #[iv r1, iv r2, iv r3, iv fl, iv na, iv nb, iv th, iv rvv, iv 2, rv b3, .unset, .unset, .unset, .unset, .unset, .unset, .unset] [(.int 3), (.int 2)]))
          refine OE.v (fun t k => XS.icmpYes X10.here hx rfl (pc0 := 122) (pc' := 131) rfl (hb hby at_122) rfl (feq (by decide)).2 (by decide) (by decide) k) ?_
          show OE _ _ _ _ (T10.setTop (mkF m 131 #[iv r1, iv r2, iv r3, iv fl, iv na, iv nb, iv th, iv rvv, iv 2, rv b3, .unset, .unset, .unset, .unset, .unset, .unset, .unset] []))
          refine OE.v (fun t k => XS.iconst X10.here hx rfl (hb hby at_131) k) ?_
          refine OE.v (fun t k => XS.istore X10.here hx rfl (hb hby at_132) rfl (l' := #[iv r1, iv r2, iv r3, iv fl, iv na, iv nb, iv th, iv rvv, iv 2, rv b3, iv 0, .unset, .unset, .unset, .unset, .unset, .unset]) rfl k) ?_
          refine OE.v (fun t k => XS.goto X10.here hx rfl (pc0 := 134) (pc' := 286) rfl (hb hby at_134) (by decide) (by decide) k) ?_
          refine OE.v (fun t k => XS.aload X10.here hx rfl (hb hby at_286) rfl rfl k) ?_
          refine OE.v (fun t k => XS.iload X10.here hx rfl (hb hby at_288) rfl k) ?_
          show OE _ _ _ _ (T10.setTop (mkF m 290 #[iv r1, iv r2, iv r3, iv fl, iv na, iv nb, iv th, iv rvv, iv 2, rv b3, iv 0, .unset, .unset, .unset, .unset, .unset, .unset] [(.int 2), (.ref b3)]))
          obtain ⟨cq15, kq15, q15a, q15b, q15c⟩ := isOf hZ e10 ((q8_0.keep Kq9).keep Kq10)
          obtain ⟨_, _, ⟨T15, L15, k15, n15⟩, -, X15, ⟨Lc15, hQ15, l15, y15, z15⟩, st15⟩ := X10.virtualBack hx (y := (⟨"com/example/stratal/stratal/logic/StratumGroups", "offset", "(I)I"⟩ : MethodName)) (z := (⟨"com/example/stratal/stratal/logic/StratumGroups", "offset", "(I)I"⟩ : MethodName)) hown (mvT hZ (hw _ (own_w 56 rfl))) (mvT hZ (hw _ (own_w 38 rfl))) (notFace_of_selects (args := #[]) (mvT hZ (hw _ (own_w 40 rfl)))) (mvT hZ (hw _ (own_w 40 rfl))) (mvT hZ (hw _ (own_w 39 rfl))) (by decide) (backOf (W := 0) (rmo2_0022 l Z a0 hw [] b3 rp_4 kp_4 ro_4 ko_4 (0 : Int32) (((0 : Int32) + r1) - (0 : Int32)) (0 : Int32) (((0 : Int32) + r2) - (0 : Int32)) h10 n0 Z10 ((q8_1.keep Kq9 (ninS (Ne.symm q4_11) (ninS (Ne.symm q4_12) (ninS (Ne.symm q4_13) (ninS (Ne.symm q4_14) nin0))))).keep Kq10 (ninS (Ne.symm q4_11) (ninS (Ne.symm q4_12) (ninS (Ne.symm q4_13) (ninS (Ne.symm q4_14) nin0))))) q10_0 ((q8_2.keep Kq9 (ninS (Ne.symm q4_11) (ninS (Ne.symm q4_12) (ninS (Ne.symm q4_13) (ninS (Ne.symm q4_14) nin0))))).keep Kq10 (ninS (Ne.symm q4_11) (ninS (Ne.symm q4_12) (ninS (Ne.symm q4_13) (ninS (Ne.symm q4_14) nin0))))) q10_1) hZ (hw _ (own_w 41 rfl)) (hw _ (own_w 2 rfl)) (by decide) (by decide)) q15a q15c (g := (mkF m 290 #[iv r1, iv r2, iv r3, iv fl, iv na, iv nb, iv th, iv rvv, iv 2, rv b3, iv 0, .unset, .unset, .unset, .unset, .unset, .unset] [(.int 2), (.ref b3)])) rfl (by rw [hml]; rfl) (Steps.refl _) (argsL := [(.int 2)]) (rest := []) (lenOf pd_4 rfl) rfl (Nat.le_of_eq rfl) (hb hby at_290) (fun _ _ => ⟨rfl, e10, (by decide : 6 + 0 ≤ _), (by decide : 121 + 0 ≤ _)⟩)
          dsimp only [Pt.U, Pt.locs, Pt.cells, Pt.slots] at X15 l15 y15 z15 st15 hQ15
          subst l15 y15 z15
          obtain ⟨rfl, Nq15, e15⟩ := hQ15
          have N15 := Fr.app N10 Nq15
          refine OE.v (fun t k => st15.trans k) ?_
          show OE _ _ _ _ (T15.setTop (mkF m 293 #[iv r1, iv r2, iv r3, iv fl, iv na, iv nb, iv th, iv rvv, iv 2, rv b3, iv 0, .unset, .unset, .unset, .unset, .unset, .unset] [(.int 0)]))
          refine OE.v (fun t k => XS.iload X15.here hx rfl (hb hby at_293) rfl k) ?_
          show OE _ _ _ _ (T15.setTop (mkF m 295 #[iv r1, iv r2, iv r3, iv fl, iv na, iv nb, iv th, iv rvv, iv 2, rv b3, iv 0, .unset, .unset, .unset, .unset, .unset, .unset] [(.int 0), (.int 0)]))
          refine OE.v (fun t k => XS.icmpNo X15.here hx rfl (hb hby at_295) rfl (teq (by grind)).2 k) ?_
          show OE _ _ _ _ (T15.setTop (mkF m 298 #[iv r1, iv r2, iv r3, iv fl, iv na, iv nb, iv th, iv rvv, iv 2, rv b3, iv 0, .unset, .unset, .unset, .unset, .unset, .unset] []))
          refine OE.v (fun t k => XS.iconst X15.here hx rfl (hb hby at_298) k) ?_
          refine OE.v (fun t k => XS.goto X15.here hx rfl (pc0 := 299) (pc' := 303) rfl (hb hby at_299) (by decide) (by decide) k) ?_
          show OE _ _ _ _ (T15.setTop (mkF m 303 #[iv r1, iv r2, iv r3, iv fl, iv na, iv nb, iv th, iv rvv, iv 2, rv b3, iv 0, .unset, .unset, .unset, .unset, .unset, .unset] [(.int 1)]))
          obtain ⟨fs, hr, hrun, hended, hW, hsame⟩ := X15.leave (v := some (.int 1)) (fun h => by rw [Bd.returns] at h; cases h)
          refine ⟨_, _, ?_, hrun, hended, _, _, rfl, ?_, ⟨_, rfl⟩, hW, hsame.mono (by decide) (by decide)⟩
          · exact retN X15 hx (t := .boolean) Bd.returns (by simp) (hb hby at_303) hr
          · show Q0 Z r1 r2 r3 fl h0 n0 _ T15.heap _
            rw [e15]
            exact ⟨rfl, N15⟩
        ·
          rw [enn_12]
          show OE _ _ _ _ (T10.setTop (mkF m 107 #[iv r1, iv r2, iv r3, iv fl, iv na, iv nb, iv th, iv rvv, iv 3, rv b3, .unset, .unset, .unset, .unset, .unset, .unset, .unset] []))
          refine OE.v (fun t k => XS.iload X10.here hx rfl (hb hby at_107) rfl k) ?_
          refine OE.v (fun t k => XS.iconst X10.here hx rfl (hb hby at_109) k) ?_
          show OE _ _ _ _ (T10.setTop (mkF m 110 #[iv r1, iv r2, iv r3, iv fl, iv na, iv nb, iv th, iv rvv, iv 3, rv b3, .unset, .unset, .unset, .unset, .unset, .unset, .unset] [(.int 1), (.int 3)]))
          refine OE.v (fun t k => XS.icmpYes X10.here hx rfl (pc0 := 110) (pc' := 119) rfl (hb hby at_110) rfl (feq (by decide)).2 (by decide) (by decide) k) ?_
          show OE _ _ _ _ (T10.setTop (mkF m 119 #[iv r1, iv r2, iv r3, iv fl, iv na, iv nb, iv th, iv rvv, iv 3, rv b3, .unset, .unset, .unset, .unset, .unset, .unset, .unset] []))
          refine OE.v (fun t k => XS.iload X10.here hx rfl (hb hby at_119) rfl k) ?_
          refine OE.v (fun t k => XS.iconst X10.here hx rfl (hb hby at_121) k) ?_
          show OE _ _ _ _ (T10.setTop (mkF m 122 #[iv r1, iv r2, iv r3, iv fl, iv na, iv nb, iv th, iv rvv, iv 3, rv b3, .unset, .unset, .unset, .unset, .unset, .unset, .unset] [(.int 3), (.int 3)]))
          refine OE.v (fun t k => XS.icmpNo X10.here hx rfl (hb hby at_122) rfl (teq (by decide)).2 k) ?_
          show OE _ _ _ _ (T10.setTop (mkF m 125 #[iv r1, iv r2, iv r3, iv fl, iv na, iv nb, iv th, iv rvv, iv 3, rv b3, .unset, .unset, .unset, .unset, .unset, .unset, .unset] []))
          refine OE.v (fun t k => XS.iloadN X10.here hx rfl (hb hby at_125) rfl k) ?_
          refine OE.v (fun t k => XS.istore X10.here hx rfl (hb hby at_126) rfl (l' := #[iv r1, iv r2, iv r3, iv fl, iv na, iv nb, iv th, iv rvv, iv 3, rv b3, iv r2, .unset, .unset, .unset, .unset, .unset, .unset]) rfl k) ?_
          refine OE.v (fun t k => XS.goto X10.here hx rfl (pc0 := 128) (pc' := 286) rfl (hb hby at_128) (by decide) (by decide) k) ?_
          refine OE.v (fun t k => XS.aload X10.here hx rfl (hb hby at_286) rfl rfl k) ?_
          refine OE.v (fun t k => XS.iload X10.here hx rfl (hb hby at_288) rfl k) ?_
          show OE _ _ _ _ (T10.setTop (mkF m 290 #[iv r1, iv r2, iv r3, iv fl, iv na, iv nb, iv th, iv rvv, iv 3, rv b3, iv r2, .unset, .unset, .unset, .unset, .unset, .unset] [(.int 3), (.ref b3)]))
          obtain ⟨cq16, kq16, q16a, q16b, q16c⟩ := isOf hZ e10 ((q8_0.keep Kq9).keep Kq10)
          obtain ⟨_, _, ⟨T16, L16, k16, n16⟩, -, X16, ⟨Lc16, hQ16, l16, y16, z16⟩, st16⟩ := X10.virtualBack hx (y := (⟨"com/example/stratal/stratal/logic/StratumGroups", "offset", "(I)I"⟩ : MethodName)) (z := (⟨"com/example/stratal/stratal/logic/StratumGroups", "offset", "(I)I"⟩ : MethodName)) hown (mvT hZ (hw _ (own_w 56 rfl))) (mvT hZ (hw _ (own_w 38 rfl))) (notFace_of_selects (args := #[]) (mvT hZ (hw _ (own_w 40 rfl)))) (mvT hZ (hw _ (own_w 40 rfl))) (mvT hZ (hw _ (own_w 39 rfl))) (by decide) (backOf (W := 0) (rmo3_0022 l Z a0 hw [] b3 rp_4 kp_4 ro_4 ko_4 (0 : Int32) (((0 : Int32) + r1) - (0 : Int32)) (0 : Int32) (((0 : Int32) + r2) - (0 : Int32)) h10 n0 Z10 ((q8_1.keep Kq9 (ninS (Ne.symm q4_11) (ninS (Ne.symm q4_12) (ninS (Ne.symm q4_13) (ninS (Ne.symm q4_14) nin0))))).keep Kq10 (ninS (Ne.symm q4_11) (ninS (Ne.symm q4_12) (ninS (Ne.symm q4_13) (ninS (Ne.symm q4_14) nin0))))) q10_0 ((q8_2.keep Kq9 (ninS (Ne.symm q4_11) (ninS (Ne.symm q4_12) (ninS (Ne.symm q4_13) (ninS (Ne.symm q4_14) nin0))))).keep Kq10 (ninS (Ne.symm q4_11) (ninS (Ne.symm q4_12) (ninS (Ne.symm q4_13) (ninS (Ne.symm q4_14) nin0))))) q10_1) hZ (hw _ (own_w 41 rfl)) (hw _ (own_w 2 rfl)) (by decide) (by decide)) q16a q16c (g := (mkF m 290 #[iv r1, iv r2, iv r3, iv fl, iv na, iv nb, iv th, iv rvv, iv 3, rv b3, iv r2, .unset, .unset, .unset, .unset, .unset, .unset] [(.int 3), (.ref b3)])) rfl (by rw [hml]; rfl) (Steps.refl _) (argsL := [(.int 3)]) (rest := []) (lenOf pd_4 rfl) rfl (Nat.le_of_eq rfl) (hb hby at_290) (fun _ _ => ⟨rfl, e10, (by decide : 6 + 0 ≤ _), (by decide : 121 + 0 ≤ _)⟩)
          dsimp only [Pt.U, Pt.locs, Pt.cells, Pt.slots] at X16 l16 y16 z16 st16 hQ16
          subst l16 y16 z16
          obtain ⟨rfl, Nq16, e16⟩ := hQ16
          have N16 := Fr.app N10 Nq16
          refine OE.v (fun t k => st16.trans k) ?_
          show OE _ _ _ _ (T16.setTop (mkF m 293 #[iv r1, iv r2, iv r3, iv fl, iv na, iv nb, iv th, iv rvv, iv 3, rv b3, iv r2, .unset, .unset, .unset, .unset, .unset, .unset] [(.int ((0 : Int32) + (((0 : Int32) + r2) - (0 : Int32))))]))
          refine OE.v (fun t k => XS.iload X16.here hx rfl (hb hby at_293) rfl k) ?_
          show OE _ _ _ _ (T16.setTop (mkF m 295 #[iv r1, iv r2, iv r3, iv fl, iv na, iv nb, iv th, iv rvv, iv 3, rv b3, iv r2, .unset, .unset, .unset, .unset, .unset, .unset] [(.int r2), (.int ((0 : Int32) + (((0 : Int32) + r2) - (0 : Int32))))]))
          refine OE.v (fun t k => XS.icmpNo X16.here hx rfl (hb hby at_295) rfl (teq (by grind)).2 k) ?_
          show OE _ _ _ _ (T16.setTop (mkF m 298 #[iv r1, iv r2, iv r3, iv fl, iv na, iv nb, iv th, iv rvv, iv 3, rv b3, iv r2, .unset, .unset, .unset, .unset, .unset, .unset] []))
          refine OE.v (fun t k => XS.iconst X16.here hx rfl (hb hby at_298) k) ?_
          refine OE.v (fun t k => XS.goto X16.here hx rfl (pc0 := 299) (pc' := 303) rfl (hb hby at_299) (by decide) (by decide) k) ?_
          show OE _ _ _ _ (T16.setTop (mkF m 303 #[iv r1, iv r2, iv r3, iv fl, iv na, iv nb, iv th, iv rvv, iv 3, rv b3, iv r2, .unset, .unset, .unset, .unset, .unset, .unset] [(.int 1)]))
          obtain ⟨fs, hr, hrun, hended, hW, hsame⟩ := X16.leave (v := some (.int 1)) (fun h => by rw [Bd.returns] at h; cases h)
          refine ⟨_, _, ?_, hrun, hended, _, _, rfl, ?_, ⟨_, rfl⟩, hW, hsame.mono (by decide) (by decide)⟩
          · exact retN X16 hx (t := .boolean) Bd.returns (by simp) (hb hby at_303) hr
          · show Q0 Z r1 r2 r3 fl h0 n0 _ T16.heap _
            rw [e16]
            exact ⟨rfl, N16⟩
      ·
        refine OE.v (fun t k => XS.ifYes X10.here hx rfl (pc0 := 104) (pc' := 137) rfl (hb hby at_104) rfl ((if0 _ _).trans (feq hc104_11).2) (by decide) (by decide) k) ?_
        show OE _ _ _ _ (T10.setTop (mkF m 137 #[iv r1, iv r2, iv r3, iv fl, iv na, iv nb, iv th, iv rvv, iv nn, rv b3, .unset, .unset, .unset, .unset, .unset, .unset, .unset] []))
        refine OE.v (fun t k => XS.iload X10.here hx rfl (hb hby at_137) rfl k) ?_
        show OE _ _ _ _ (T10.setTop (mkF m 139 #[iv r1, iv r2, iv r3, iv fl, iv na, iv nb, iv th, iv rvv, iv nn, rv b3, .unset, .unset, .unset, .unset, .unset, .unset, .unset] [(.int rvv)]))
        by_cases hc139_17 : rvv = (0 : Int32)
        ·
          refine OE.v (fun t k => XS.ifYes X10.here hx rfl (pc0 := 139) (pc' := 156) rfl (hb hby at_139) rfl ((if0 _ _).trans (teq hc139_17).1) (by decide) (by decide) k) ?_
          show OE _ _ _ _ (T10.setTop (mkF m 156 #[iv r1, iv r2, iv r3, iv fl, iv na, iv nb, iv th, iv rvv, iv nn, rv b3, .unset, .unset, .unset, .unset, .unset, .unset, .unset] []))
          rcases c_na with ena_18 | ena_18
          ·
            rw [ena_18]
            show OE _ _ _ _ (T10.setTop (mkF m 156 #[iv r1, iv r2, iv r3, iv fl, iv 0, iv nb, iv th, iv rvv, iv nn, rv b3, .unset, .unset, .unset, .unset, .unset, .unset, .unset] []))
            rcases c_nb with enb_19 | enb_19
            ·
              rw [enb_19]
              show OE _ _ _ _ (T10.setTop (mkF m 156 #[iv r1, iv r2, iv r3, iv fl, iv 0, iv 2, iv th, iv rvv, iv nn, rv b3, .unset, .unset, .unset, .unset, .unset, .unset, .unset] []))
              refine OE.v (fun t k => XS.aload X10.here hx rfl (hb hby at_156) rfl rfl k) ?_
              refine OE.v (fun t k => XS.iload X10.here hx rfl (hb hby at_158) rfl k) ?_
              refine OE.v (fun t k => XS.iload X10.here hx rfl (hb hby at_160) rfl k) ?_
              refine OE.v (fun t k => XS.iloadN X10.here hx rfl (hb hby at_162) rfl k) ?_
              show OE _ _ _ _ (T10.setTop (mkF m 163 #[iv r1, iv r2, iv r3, iv fl, iv 0, iv 2, iv th, iv rvv, iv nn, rv b3, .unset, .unset, .unset, .unset, .unset, .unset, .unset] [(.int r3), (.int 2), (.int 0), (.ref b3)]))
              obtain ⟨cq20, kq20, q20a, q20b, q20c⟩ := isOf hZ e10 ((q8_0.keep Kq9).keep Kq10)
              obtain ⟨_, _, ⟨T20, L20, k20, n20⟩, -, X20, ⟨Lc20, hQ20, l20, y20, z20⟩, st20⟩ := X10.virtualBack hx (y := (⟨"com/example/stratal/stratal/logic/StratumGroups", "join", "(III)I"⟩ : MethodName)) (z := (⟨"com/example/stratal/stratal/logic/StratumGroups", "join", "(III)I"⟩ : MethodName)) hown (mvT hZ (hw _ (own_w 27 rfl))) (mvT hZ (hw _ (own_w 28 rfl))) (notFace_of_selects (args := #[]) (mvT hZ (hw _ (own_w 30 rfl)))) (mvT hZ (hw _ (own_w 30 rfl))) (mvT hZ (hw _ (own_w 29 rfl))) (by decide) (backOf (W := 0) (rmJ02_0022 l Z a0 hw [] b3 rp_4 ro_4 rs_4 rf_4 kp_4 ko_4 ks_4 kf_4 (0 : Int32) (((0 : Int32) + r1) - (0 : Int32)) (0 : Int32) (((0 : Int32) + r2) - (0 : Int32)) (own_max (0 : Int32) ((0 : Int32) - (((0 : Int32) + r1) - (0 : Int32)))) (0 : Int32) (own_max (0 : Int32) ((0 : Int32) - (((0 : Int32) + r2) - (0 : Int32)))) (0 : Int32) r3 h10 n0 Z10 ((q8_0.keep Kq9).keep Kq10) ((q8_1.keep Kq9 (ninS (Ne.symm q4_11) (ninS (Ne.symm q4_12) (ninS (Ne.symm q4_13) (ninS (Ne.symm q4_14) nin0))))).keep Kq10 (ninS (Ne.symm q4_11) (ninS (Ne.symm q4_12) (ninS (Ne.symm q4_13) (ninS (Ne.symm q4_14) nin0))))) ((q8_2.keep Kq9 (ninS (Ne.symm q4_11) (ninS (Ne.symm q4_12) (ninS (Ne.symm q4_13) (ninS (Ne.symm q4_14) nin0))))).keep Kq10 (ninS (Ne.symm q4_11) (ninS (Ne.symm q4_12) (ninS (Ne.symm q4_13) (ninS (Ne.symm q4_14) nin0))))) ((q8_3.keep Kq9 (ninS (Ne.symm q4_11) (ninS (Ne.symm q4_12) (ninS (Ne.symm q4_13) (ninS (Ne.symm q4_14) nin0))))).keep Kq10 (ninS (Ne.symm q4_11) (ninS (Ne.symm q4_12) (ninS (Ne.symm q4_13) (ninS (Ne.symm q4_14) nin0))))) ((q8_4.keep Kq9 (ninS (Ne.symm q4_11) (ninS (Ne.symm q4_12) (ninS (Ne.symm q4_13) (ninS (Ne.symm q4_14) nin0))))).keep Kq10 (ninS (Ne.symm q4_11) (ninS (Ne.symm q4_12) (ninS (Ne.symm q4_13) (ninS (Ne.symm q4_14) nin0))))) ((q8_10.keep Kq9 (ninS (Ne.symm q4_11) (ninS (Ne.symm q4_12) (ninS (Ne.symm q4_13) (ninS (Ne.symm q4_14) nin0))))).keep Kq10 (ninS (Ne.symm q4_11) (ninS (Ne.symm q4_12) (ninS (Ne.symm q4_13) (ninS (Ne.symm q4_14) nin0))))) q10_0 q10_1 q10_2 q10_3 q4_11 q4_12 q4_13 q4_14 q4_15 q4_16 q4_17 q4_18 q4_19 q4_20 q4_21 q4_22 q4_23 q4_24) hZ (hw _ (own_w 31 rfl)) (hw _ (own_w 2 rfl)) (by decide) (by decide)) q20a q20c (g := (mkF m 163 #[iv r1, iv r2, iv r3, iv fl, iv 0, iv 2, iv th, iv rvv, iv nn, rv b3, .unset, .unset, .unset, .unset, .unset, .unset, .unset] [(.int r3), (.int 2), (.int 0), (.ref b3)])) rfl (by rw [hml]; rfl) (Steps.refl _) (argsL := [(.int 0), (.int 2), (.int r3)]) (rest := []) (lenOf pd_5 rfl) rfl (Nat.le_of_eq rfl) (hb hby at_163) (fun _ _ => ⟨rfl, e10, (by decide : 6 + 0 ≤ _), (by decide : 121 + 0 ≤ _)⟩)
              dsimp only [Pt.U, Pt.locs, Pt.cells, Pt.slots] at X20 l20 y20 z20 st20 hQ20
              subst l20 y20 z20
              obtain ⟨h20, e20⟩ : ∃ z, T20.heap = z := ⟨_, rfl⟩
              rw [e20] at hQ20
              obtain ⟨rfl, Nq20, Kq20, q20_0, q20_1, q20_2, q20_3⟩ := hQ20
              have Z20 : n0 ≤ h20.size := Nat.le_trans Z10 Kq20.1
              have N20 := Fr.app N10 Nq20
              refine OE.v (fun t k => st20.trans k) ?_
              show OE _ _ _ _ (T20.setTop (mkF m 166 #[iv r1, iv r2, iv r3, iv fl, iv 0, iv 2, iv th, iv rvv, iv nn, rv b3, .unset, .unset, .unset, .unset, .unset, .unset, .unset] [(.int 2)]))
              refine OE.v (fun t k => XS.pop X20.here hx rfl (hb hby at_166) rfl rfl k) ?_
              refine OE.v (fun t k => XS.iload X20.here hx rfl (hb hby at_167) rfl k) ?_
              show OE _ _ _ _ (T20.setTop (mkF m 169 #[iv r1, iv r2, iv r3, iv fl, iv 0, iv 2, iv th, iv rvv, iv nn, rv b3, .unset, .unset, .unset, .unset, .unset, .unset, .unset] [(.int 0)]))
              refine OE.v (fun t k => XS.ifNo X20.here hx rfl (hb hby at_169) rfl ((if0 _ _).trans (teq (by decide)).2) k) ?_
              show OE _ _ _ _ (T20.setTop (mkF m 172 #[iv r1, iv r2, iv r3, iv fl, iv 0, iv 2, iv th, iv rvv, iv nn, rv b3, .unset, .unset, .unset, .unset, .unset, .unset, .unset] []))
              refine OE.v (fun t k => XS.iconst X20.here hx rfl (hb hby at_172) k) ?_
              refine OE.v (fun t k => XS.goto X20.here hx rfl (pc0 := 173) (pc' := 177) rfl (hb hby at_173) (by decide) (by decide) k) ?_
              refine OE.v (fun t k => XS.istore X20.here hx rfl (hb hby at_177) rfl (l' := #[iv r1, iv r2, iv r3, iv fl, iv 0, iv 2, iv th, iv rvv, iv nn, rv b3, .unset, iv 0, .unset, .unset, .unset, .unset, .unset]) rfl k) ?_
              refine OE.v (fun t k => XS.iload X20.here hx rfl (hb hby at_179) rfl k) ?_
              show OE _ _ _ _ (T20.setTop (mkF m 181 #[iv r1, iv r2, iv r3, iv fl, iv 0, iv 2, iv th, iv rvv, iv nn, rv b3, .unset, iv 0, .unset, .unset, .unset, .unset, .unset] [(.int rvv)]))
              refine OE.v (fun t k => XS.ifYes X20.here hx rfl (pc0 := 181) (pc' := 191) rfl (hb hby at_181) rfl ((if0 _ _).trans (teq hc139_17).1) (by decide) (by decide) k) ?_
              show OE _ _ _ _ (T20.setTop (mkF m 191 #[iv r1, iv r2, iv r3, iv fl, iv 0, iv 2, iv th, iv rvv, iv nn, rv b3, .unset, iv 0, .unset, .unset, .unset, .unset, .unset] []))
              refine OE.v (fun t k => XS.iload X20.here hx rfl (hb hby at_191) rfl k) ?_
              refine OE.v (fun t k => XS.iloadN X20.here hx rfl (hb hby at_193) rfl k) ?_
              refine OE.v (fun t k => XS.iadd X20.here hx rfl (hb hby at_194) rfl k) ?_
              refine OE.v (fun t k => XS.istore X20.here hx rfl (hb hby at_195) rfl (l' := #[iv r1, iv r2, iv r3, iv fl, iv 0, iv 2, iv th, iv rvv, iv nn, rv b3, .unset, iv 0, iv ((0 : Int32) + r3), .unset, .unset, .unset, .unset]) rfl k) ?_
              refine OE.v (fun t k => XS.iload X20.here hx rfl (hb hby at_197) rfl k) ?_
              refine OE.v (fun t k => XS.iconst X20.here hx rfl (hb hby at_199) k) ?_
              show OE _ _ _ _ (T20.setTop (mkF m 200 #[iv r1, iv r2, iv r3, iv fl, iv 0, iv 2, iv th, iv rvv, iv nn, rv b3, .unset, iv 0, iv ((0 : Int32) + r3), .unset, .unset, .unset, .unset] [(.int 2), (.int 2)]))
              refine OE.v (fun t k => XS.icmpNo X20.here hx rfl (hb hby at_200) rfl (teq (by decide)).2 k) ?_
              show OE _ _ _ _ (T20.setTop (mkF m 203 #[iv r1, iv r2, iv r3, iv fl, iv 0, iv 2, iv th, iv rvv, iv nn, rv b3, .unset, iv 0, iv ((0 : Int32) + r3), .unset, .unset, .unset, .unset] []))
              refine OE.v (fun t k => XS.iload X20.here hx rfl (hb hby at_203) rfl k) ?_
              refine OE.v (fun t k => XS.istore X20.here hx rfl (hb hby at_205) rfl (l' := #[iv r1, iv r2, iv r3, iv fl, iv 0, iv 2, iv th, iv rvv, iv nn, rv b3, .unset, iv 0, iv ((0 : Int32) + r3), iv ((0 : Int32) + r3), .unset, .unset, .unset]) rfl k) ?_
              refine OE.v (fun t k => XS.iload X20.here hx rfl (hb hby at_207) rfl k) ?_
              refine OE.v (fun t k => XS.iloadN X20.here hx rfl (hb hby at_209) rfl k) ?_
              refine OE.v (fun t k => XS.iadd X20.here hx rfl (hb hby at_210) rfl k) ?_
              refine OE.v (fun t k => XS.istore X20.here hx rfl (hb hby at_211) rfl (l' := #[iv r1, iv r2, iv r3, iv fl, iv 0, iv 2, iv th, iv rvv, iv nn, rv b3, .unset, iv 0, iv ((0 : Int32) + r3), iv ((0 : Int32) + r3), iv (((0 : Int32) + r3) + r2), .unset, .unset]) rfl k) ?_
              show OE _ _ _ _ (T20.setTop (mkF m 213 #[iv r1, iv r2, iv r3, iv fl, iv 0, iv 2, iv th, iv rvv, iv nn, rv b3, .unset, iv 0, iv ((0 : Int32) + r3), iv ((0 : Int32) + r3), iv (((0 : Int32) + r3) + r2), .unset, .unset] []))
              refine OE.v (fun t k => XS.goto X20.here hx rfl (pc0 := 213) (pc' := 226) rfl (hb hby at_213) (by decide) (by decide) k) ?_
              refine OE.v (fun t k => XS.iload X20.here hx rfl (hb hby at_226) rfl k) ?_
              show OE _ _ _ _ (T20.setTop (mkF m 228 #[iv r1, iv r2, iv r3, iv fl, iv 0, iv 2, iv th, iv rvv, iv nn, rv b3, .unset, iv 0, iv ((0 : Int32) + r3), iv ((0 : Int32) + r3), iv (((0 : Int32) + r3) + r2), .unset, .unset] [(.int rvv)]))
              refine OE.v (fun t k => XS.ifYes X20.here hx rfl (pc0 := 228) (pc' := 236) rfl (hb hby at_228) rfl ((if0 _ _).trans (teq hc139_17).1) (by decide) (by decide) k) ?_
              show OE _ _ _ _ (T20.setTop (mkF m 236 #[iv r1, iv r2, iv r3, iv fl, iv 0, iv 2, iv th, iv rvv, iv nn, rv b3, .unset, iv 0, iv ((0 : Int32) + r3), iv ((0 : Int32) + r3), iv (((0 : Int32) + r3) + r2), .unset, .unset] []))
              refine OE.v (fun t k => XS.iconst X20.here hx rfl (hb hby at_236) k) ?_
              refine OE.v (fun t k => XS.istore X20.here hx rfl (hb hby at_237) rfl (l' := #[iv r1, iv r2, iv r3, iv fl, iv 0, iv 2, iv th, iv rvv, iv nn, rv b3, .unset, iv 0, iv ((0 : Int32) + r3), iv ((0 : Int32) + r3), iv (((0 : Int32) + r3) + r2), iv 0, .unset]) rfl k) ?_
              refine OE.v (fun t k => XS.iload X20.here hx rfl (hb hby at_239) rfl k) ?_
              show OE _ _ _ _ (T20.setTop (mkF m 241 #[iv r1, iv r2, iv r3, iv fl, iv 0, iv 2, iv th, iv rvv, iv nn, rv b3, .unset, iv 0, iv ((0 : Int32) + r3), iv ((0 : Int32) + r3), iv (((0 : Int32) + r3) + r2), iv 0, .unset] [(.int nn)]))
              refine OE.cut (fun G => ∀ (T21 : State) (lc21 : List Loc) (X21 : Stand p l e room_1 s m #[(.int r1), (.int r2), (.int r3), (.int fl)] below meth c T21 lc21 6 121) (e21 : T21.heap = h20) (N21 : Fr n0 lc21) (sv : Int32) (hj21_0 : sv = if nn = (0 : Int32) then (0 : Int32) else if nn = (1 : Int32) then r1 else if nn = (2 : Int32) then ((0 : Int32) + r3) else (((0 : Int32) + r3) + r2)), G (T21.setTop (mkF m 279 #[iv r1, iv r2, iv r3, iv fl, iv 0, iv 2, iv th, iv rvv, iv nn, rv b3, .unset, iv 0, iv ((0 : Int32) + r3), iv ((0 : Int32) + r3), iv (((0 : Int32) + r3) + r2), iv 0, iv sv] []))) ?_ ?_
              · intro T21 lc21 X21 e21 N21 sv hj21_0
                show OE _ _ _ _ (T21.setTop (mkF m 279 #[iv r1, iv r2, iv r3, iv fl, iv 0, iv 2, iv th, iv rvv, iv nn, rv b3, .unset, iv 0, iv ((0 : Int32) + r3), iv ((0 : Int32) + r3), iv (((0 : Int32) + r3) + r2), iv 0, iv sv] []))
                refine OE.v (fun t k => XS.iload X21.here hx rfl (hb hby at_279) rfl k) ?_
                refine OE.v (fun t k => XS.iload X21.here hx rfl (hb hby at_281) rfl k) ?_
                refine OE.v (fun t k => XS.isub X21.here hx rfl (hb hby at_283) rfl k) ?_
                refine OE.v (fun t k => XS.istore X21.here hx rfl (hb hby at_284) rfl (l' := #[iv r1, iv r2, iv r3, iv fl, iv 0, iv 2, iv th, iv rvv, iv nn, rv b3, iv (sv - (0 : Int32)), iv 0, iv ((0 : Int32) + r3), iv ((0 : Int32) + r3), iv (((0 : Int32) + r3) + r2), iv 0, iv sv]) rfl k) ?_
                show OE _ _ _ _ (T21.setTop (mkF m 286 #[iv r1, iv r2, iv r3, iv fl, iv 0, iv 2, iv th, iv rvv, iv nn, rv b3, iv (sv - (0 : Int32)), iv 0, iv ((0 : Int32) + r3), iv ((0 : Int32) + r3), iv (((0 : Int32) + r3) + r2), iv 0, iv sv] []))
                rcases c_nn with enn_22 | enn_22 | enn_22 | enn_22
                ·
                  rw [enn_22]
                  refine OE.v (fun t k => XS.aload X21.here hx rfl (hb hby at_286) rfl rfl k) ?_
                  refine OE.v (fun t k => XS.iload X21.here hx rfl (hb hby at_288) rfl k) ?_
                  show OE _ _ _ _ (T21.setTop (mkF m 290 #[iv r1, iv r2, iv r3, iv fl, iv 0, iv 2, iv th, iv rvv, iv 0, rv b3, iv (sv - (0 : Int32)), iv 0, iv ((0 : Int32) + r3), iv ((0 : Int32) + r3), iv (((0 : Int32) + r3) + r2), iv 0, iv sv] [(.int 0), (.ref b3)]))
                  obtain ⟨cq23, kq23, q23a, q23b, q23c⟩ := isOf hZ e21 (((q8_0.keep Kq9).keep Kq10).keep Kq20)
                  obtain ⟨_, _, ⟨T23, L23, k23, n23⟩, -, X23, ⟨Lc23, hQ23, l23, y23, z23⟩, st23⟩ := X21.virtualBack hx (y := (⟨"com/example/stratal/stratal/logic/StratumGroups", "offset", "(I)I"⟩ : MethodName)) (z := (⟨"com/example/stratal/stratal/logic/StratumGroups", "offset", "(I)I"⟩ : MethodName)) hown (mvT hZ (hw _ (own_w 56 rfl))) (mvT hZ (hw _ (own_w 38 rfl))) (notFace_of_selects (args := #[]) (mvT hZ (hw _ (own_w 40 rfl)))) (mvT hZ (hw _ (own_w 40 rfl))) (mvT hZ (hw _ (own_w 39 rfl))) (by decide) (backOf (W := 0) (rmo0_0002 l Z a0 hw [] b3 rp_4 kp_4 ro_4 ko_4 (0 : Int32) (((0 : Int32) + r1) - (0 : Int32)) (((0 : Int32) + r3) - (0 : Int32)) (((0 : Int32) + r2) - (0 : Int32)) h20 n0 Z20 (((q8_1.keep Kq9 (ninS (Ne.symm q4_11) (ninS (Ne.symm q4_12) (ninS (Ne.symm q4_13) (ninS (Ne.symm q4_14) nin0))))).keep Kq10 (ninS (Ne.symm q4_11) (ninS (Ne.symm q4_12) (ninS (Ne.symm q4_13) (ninS (Ne.symm q4_14) nin0))))).keep Kq20 (ninS (Ne.symm q4_11) (ninS (Ne.symm q4_12) (ninS (Ne.symm q4_13) (ninS (Ne.symm q4_14) nin0))))) q20_0 (((q8_2.keep Kq9 (ninS (Ne.symm q4_11) (ninS (Ne.symm q4_12) (ninS (Ne.symm q4_13) (ninS (Ne.symm q4_14) nin0))))).keep Kq10 (ninS (Ne.symm q4_11) (ninS (Ne.symm q4_12) (ninS (Ne.symm q4_13) (ninS (Ne.symm q4_14) nin0))))).keep Kq20 (ninS (Ne.symm q4_11) (ninS (Ne.symm q4_12) (ninS (Ne.symm q4_13) (ninS (Ne.symm q4_14) nin0))))) q20_1) hZ (hw _ (own_w 41 rfl)) (hw _ (own_w 2 rfl)) (by decide) (by decide)) q23a q23c (g := (mkF m 290 #[iv r1, iv r2, iv r3, iv fl, iv 0, iv 2, iv th, iv rvv, iv 0, rv b3, iv (sv - (0 : Int32)), iv 0, iv ((0 : Int32) + r3), iv ((0 : Int32) + r3), iv (((0 : Int32) + r3) + r2), iv 0, iv sv] [(.int 0), (.ref b3)])) rfl (by rw [hml]; rfl) (Steps.refl _) (argsL := [(.int 0)]) (rest := []) (lenOf pd_4 rfl) rfl (Nat.le_of_eq rfl) (hb hby at_290) (fun _ _ => ⟨rfl, e21, (by decide : 6 + 0 ≤ _), (by decide : 121 + 0 ≤ _)⟩)
                  dsimp only [Pt.U, Pt.locs, Pt.cells, Pt.slots] at X23 l23 y23 z23 st23 hQ23
                  subst l23 y23 z23
                  obtain ⟨rfl, Nq23, e23⟩ := hQ23
                  have N23 := Fr.app N21 Nq23
                  refine OE.v (fun t k => st23.trans k) ?_
                  show OE _ _ _ _ (T23.setTop (mkF m 293 #[iv r1, iv r2, iv r3, iv fl, iv 0, iv 2, iv th, iv rvv, iv 0, rv b3, iv (sv - (0 : Int32)), iv 0, iv ((0 : Int32) + r3), iv ((0 : Int32) + r3), iv (((0 : Int32) + r3) + r2), iv 0, iv sv] [(.int 0)]))
                  refine OE.v (fun t k => XS.iload X23.here hx rfl (hb hby at_293) rfl k) ?_
                  show OE _ _ _ _ (T23.setTop (mkF m 295 #[iv r1, iv r2, iv r3, iv fl, iv 0, iv 2, iv th, iv rvv, iv 0, rv b3, iv (sv - (0 : Int32)), iv 0, iv ((0 : Int32) + r3), iv ((0 : Int32) + r3), iv (((0 : Int32) + r3) + r2), iv 0, iv sv] [(.int (sv - (0 : Int32))), (.int 0)]))
                  refine OE.v (fun t k => XS.icmpNo X23.here hx rfl (hb hby at_295) rfl (teq (by rw [hj21_0, enn_22, if_pos rfl]; grind)).2 k) ?_
                  show OE _ _ _ _ (T23.setTop (mkF m 298 #[iv r1, iv r2, iv r3, iv fl, iv 0, iv 2, iv th, iv rvv, iv 0, rv b3, iv (sv - (0 : Int32)), iv 0, iv ((0 : Int32) + r3), iv ((0 : Int32) + r3), iv (((0 : Int32) + r3) + r2), iv 0, iv sv] []))
                  refine OE.v (fun t k => XS.iconst X23.here hx rfl (hb hby at_298) k) ?_
                  refine OE.v (fun t k => XS.goto X23.here hx rfl (pc0 := 299) (pc' := 303) rfl (hb hby at_299) (by decide) (by decide) k) ?_
                  show OE _ _ _ _ (T23.setTop (mkF m 303 #[iv r1, iv r2, iv r3, iv fl, iv 0, iv 2, iv th, iv rvv, iv 0, rv b3, iv (sv - (0 : Int32)), iv 0, iv ((0 : Int32) + r3), iv ((0 : Int32) + r3), iv (((0 : Int32) + r3) + r2), iv 0, iv sv] [(.int 1)]))
                  obtain ⟨fs, hr, hrun, hended, hW, hsame⟩ := X23.leave (v := some (.int 1)) (fun h => by rw [Bd.returns] at h; cases h)
                  refine ⟨_, _, ?_, hrun, hended, _, _, rfl, ?_, ⟨_, rfl⟩, hW, hsame.mono (by decide) (by decide)⟩
                  · exact retN X23 hx (t := .boolean) Bd.returns (by simp) (hb hby at_303) hr
                  · show Q0 Z r1 r2 r3 fl h0 n0 _ T23.heap _
                    rw [e23]
                    exact ⟨rfl, N23⟩
                ·
                  rw [enn_22]
                  refine OE.v (fun t k => XS.aload X21.here hx rfl (hb hby at_286) rfl rfl k) ?_
                  refine OE.v (fun t k => XS.iload X21.here hx rfl (hb hby at_288) rfl k) ?_
                  show OE _ _ _ _ (T21.setTop (mkF m 290 #[iv r1, iv r2, iv r3, iv fl, iv 0, iv 2, iv th, iv rvv, iv 1, rv b3, iv (sv - (0 : Int32)), iv 0, iv ((0 : Int32) + r3), iv ((0 : Int32) + r3), iv (((0 : Int32) + r3) + r2), iv 0, iv sv] [(.int 1), (.ref b3)]))
                  obtain ⟨cq24, kq24, q24a, q24b, q24c⟩ := isOf hZ e21 (((q8_0.keep Kq9).keep Kq10).keep Kq20)
                  obtain ⟨_, _, ⟨T24, L24, k24, n24⟩, -, X24, ⟨Lc24, hQ24, l24, y24, z24⟩, st24⟩ := X21.virtualBack hx (y := (⟨"com/example/stratal/stratal/logic/StratumGroups", "offset", "(I)I"⟩ : MethodName)) (z := (⟨"com/example/stratal/stratal/logic/StratumGroups", "offset", "(I)I"⟩ : MethodName)) hown (mvT hZ (hw _ (own_w 56 rfl))) (mvT hZ (hw _ (own_w 38 rfl))) (notFace_of_selects (args := #[]) (mvT hZ (hw _ (own_w 40 rfl)))) (mvT hZ (hw _ (own_w 40 rfl))) (mvT hZ (hw _ (own_w 39 rfl))) (by decide) (backOf (W := 0) (rmo1_0002 l Z a0 hw [] b3 rp_4 kp_4 ro_4 ko_4 (0 : Int32) (((0 : Int32) + r1) - (0 : Int32)) (((0 : Int32) + r3) - (0 : Int32)) (((0 : Int32) + r2) - (0 : Int32)) h20 n0 Z20 (((q8_1.keep Kq9 (ninS (Ne.symm q4_11) (ninS (Ne.symm q4_12) (ninS (Ne.symm q4_13) (ninS (Ne.symm q4_14) nin0))))).keep Kq10 (ninS (Ne.symm q4_11) (ninS (Ne.symm q4_12) (ninS (Ne.symm q4_13) (ninS (Ne.symm q4_14) nin0))))).keep Kq20 (ninS (Ne.symm q4_11) (ninS (Ne.symm q4_12) (ninS (Ne.symm q4_13) (ninS (Ne.symm q4_14) nin0))))) q20_0 (((q8_2.keep Kq9 (ninS (Ne.symm q4_11) (ninS (Ne.symm q4_12) (ninS (Ne.symm q4_13) (ninS (Ne.symm q4_14) nin0))))).keep Kq10 (ninS (Ne.symm q4_11) (ninS (Ne.symm q4_12) (ninS (Ne.symm q4_13) (ninS (Ne.symm q4_14) nin0))))).keep Kq20 (ninS (Ne.symm q4_11) (ninS (Ne.symm q4_12) (ninS (Ne.symm q4_13) (ninS (Ne.symm q4_14) nin0))))) q20_1) hZ (hw _ (own_w 41 rfl)) (hw _ (own_w 2 rfl)) (by decide) (by decide)) q24a q24c (g := (mkF m 290 #[iv r1, iv r2, iv r3, iv fl, iv 0, iv 2, iv th, iv rvv, iv 1, rv b3, iv (sv - (0 : Int32)), iv 0, iv ((0 : Int32) + r3), iv ((0 : Int32) + r3), iv (((0 : Int32) + r3) + r2), iv 0, iv sv] [(.int 1), (.ref b3)])) rfl (by rw [hml]; rfl) (Steps.refl _) (argsL := [(.int 1)]) (rest := []) (lenOf pd_4 rfl) rfl (Nat.le_of_eq rfl) (hb hby at_290) (fun _ _ => ⟨rfl, e21, (by decide : 6 + 0 ≤ _), (by decide : 121 + 0 ≤ _)⟩)
                  dsimp only [Pt.U, Pt.locs, Pt.cells, Pt.slots] at X24 l24 y24 z24 st24 hQ24
                  subst l24 y24 z24
                  obtain ⟨rfl, Nq24, e24⟩ := hQ24
                  have N24 := Fr.app N21 Nq24
                  refine OE.v (fun t k => st24.trans k) ?_
                  show OE _ _ _ _ (T24.setTop (mkF m 293 #[iv r1, iv r2, iv r3, iv fl, iv 0, iv 2, iv th, iv rvv, iv 1, rv b3, iv (sv - (0 : Int32)), iv 0, iv ((0 : Int32) + r3), iv ((0 : Int32) + r3), iv (((0 : Int32) + r3) + r2), iv 0, iv sv] [(.int ((0 : Int32) + (((0 : Int32) + r1) - (0 : Int32))))]))
                  refine OE.v (fun t k => XS.iload X24.here hx rfl (hb hby at_293) rfl k) ?_
                  show OE _ _ _ _ (T24.setTop (mkF m 295 #[iv r1, iv r2, iv r3, iv fl, iv 0, iv 2, iv th, iv rvv, iv 1, rv b3, iv (sv - (0 : Int32)), iv 0, iv ((0 : Int32) + r3), iv ((0 : Int32) + r3), iv (((0 : Int32) + r3) + r2), iv 0, iv sv] [(.int (sv - (0 : Int32))), (.int ((0 : Int32) + (((0 : Int32) + r1) - (0 : Int32))))]))
                  refine OE.v (fun t k => XS.icmpNo X24.here hx rfl (hb hby at_295) rfl (teq (by rw [hj21_0, enn_22, if_neg (by decide), if_pos rfl]; grind)).2 k) ?_
                  show OE _ _ _ _ (T24.setTop (mkF m 298 #[iv r1, iv r2, iv r3, iv fl, iv 0, iv 2, iv th, iv rvv, iv 1, rv b3, iv (sv - (0 : Int32)), iv 0, iv ((0 : Int32) + r3), iv ((0 : Int32) + r3), iv (((0 : Int32) + r3) + r2), iv 0, iv sv] []))
                  refine OE.v (fun t k => XS.iconst X24.here hx rfl (hb hby at_298) k) ?_
                  refine OE.v (fun t k => XS.goto X24.here hx rfl (pc0 := 299) (pc' := 303) rfl (hb hby at_299) (by decide) (by decide) k) ?_
                  show OE _ _ _ _ (T24.setTop (mkF m 303 #[iv r1, iv r2, iv r3, iv fl, iv 0, iv 2, iv th, iv rvv, iv 1, rv b3, iv (sv - (0 : Int32)), iv 0, iv ((0 : Int32) + r3), iv ((0 : Int32) + r3), iv (((0 : Int32) + r3) + r2), iv 0, iv sv] [(.int 1)]))
                  obtain ⟨fs, hr, hrun, hended, hW, hsame⟩ := X24.leave (v := some (.int 1)) (fun h => by rw [Bd.returns] at h; cases h)
                  refine ⟨_, _, ?_, hrun, hended, _, _, rfl, ?_, ⟨_, rfl⟩, hW, hsame.mono (by decide) (by decide)⟩
                  · exact retN X24 hx (t := .boolean) Bd.returns (by simp) (hb hby at_303) hr
                  · show Q0 Z r1 r2 r3 fl h0 n0 _ T24.heap _
                    rw [e24]
                    exact ⟨rfl, N24⟩
                ·
                  rw [enn_22]
                  refine OE.v (fun t k => XS.aload X21.here hx rfl (hb hby at_286) rfl rfl k) ?_
                  refine OE.v (fun t k => XS.iload X21.here hx rfl (hb hby at_288) rfl k) ?_
                  show OE _ _ _ _ (T21.setTop (mkF m 290 #[iv r1, iv r2, iv r3, iv fl, iv 0, iv 2, iv th, iv rvv, iv 2, rv b3, iv (sv - (0 : Int32)), iv 0, iv ((0 : Int32) + r3), iv ((0 : Int32) + r3), iv (((0 : Int32) + r3) + r2), iv 0, iv sv] [(.int 2), (.ref b3)]))
                  obtain ⟨cq25, kq25, q25a, q25b, q25c⟩ := isOf hZ e21 (((q8_0.keep Kq9).keep Kq10).keep Kq20)
                  obtain ⟨_, _, ⟨T25, L25, k25, n25⟩, -, X25, ⟨Lc25, hQ25, l25, y25, z25⟩, st25⟩ := X21.virtualBack hx (y := (⟨"com/example/stratal/stratal/logic/StratumGroups", "offset", "(I)I"⟩ : MethodName)) (z := (⟨"com/example/stratal/stratal/logic/StratumGroups", "offset", "(I)I"⟩ : MethodName)) hown (mvT hZ (hw _ (own_w 56 rfl))) (mvT hZ (hw _ (own_w 38 rfl))) (notFace_of_selects (args := #[]) (mvT hZ (hw _ (own_w 40 rfl)))) (mvT hZ (hw _ (own_w 40 rfl))) (mvT hZ (hw _ (own_w 39 rfl))) (by decide) (backOf (W := 0) (rmo2_0002 l Z a0 hw [] b3 rp_4 kp_4 ro_4 ko_4 (0 : Int32) (((0 : Int32) + r1) - (0 : Int32)) (((0 : Int32) + r3) - (0 : Int32)) (((0 : Int32) + r2) - (0 : Int32)) h20 n0 Z20 (((q8_1.keep Kq9 (ninS (Ne.symm q4_11) (ninS (Ne.symm q4_12) (ninS (Ne.symm q4_13) (ninS (Ne.symm q4_14) nin0))))).keep Kq10 (ninS (Ne.symm q4_11) (ninS (Ne.symm q4_12) (ninS (Ne.symm q4_13) (ninS (Ne.symm q4_14) nin0))))).keep Kq20 (ninS (Ne.symm q4_11) (ninS (Ne.symm q4_12) (ninS (Ne.symm q4_13) (ninS (Ne.symm q4_14) nin0))))) q20_0 (((q8_2.keep Kq9 (ninS (Ne.symm q4_11) (ninS (Ne.symm q4_12) (ninS (Ne.symm q4_13) (ninS (Ne.symm q4_14) nin0))))).keep Kq10 (ninS (Ne.symm q4_11) (ninS (Ne.symm q4_12) (ninS (Ne.symm q4_13) (ninS (Ne.symm q4_14) nin0))))).keep Kq20 (ninS (Ne.symm q4_11) (ninS (Ne.symm q4_12) (ninS (Ne.symm q4_13) (ninS (Ne.symm q4_14) nin0))))) q20_1) hZ (hw _ (own_w 41 rfl)) (hw _ (own_w 2 rfl)) (by decide) (by decide)) q25a q25c (g := (mkF m 290 #[iv r1, iv r2, iv r3, iv fl, iv 0, iv 2, iv th, iv rvv, iv 2, rv b3, iv (sv - (0 : Int32)), iv 0, iv ((0 : Int32) + r3), iv ((0 : Int32) + r3), iv (((0 : Int32) + r3) + r2), iv 0, iv sv] [(.int 2), (.ref b3)])) rfl (by rw [hml]; rfl) (Steps.refl _) (argsL := [(.int 2)]) (rest := []) (lenOf pd_4 rfl) rfl (Nat.le_of_eq rfl) (hb hby at_290) (fun _ _ => ⟨rfl, e21, (by decide : 6 + 0 ≤ _), (by decide : 121 + 0 ≤ _)⟩)
                  dsimp only [Pt.U, Pt.locs, Pt.cells, Pt.slots] at X25 l25 y25 z25 st25 hQ25
                  subst l25 y25 z25
                  obtain ⟨rfl, Nq25, e25⟩ := hQ25
                  have N25 := Fr.app N21 Nq25
                  refine OE.v (fun t k => st25.trans k) ?_
                  show OE _ _ _ _ (T25.setTop (mkF m 293 #[iv r1, iv r2, iv r3, iv fl, iv 0, iv 2, iv th, iv rvv, iv 2, rv b3, iv (sv - (0 : Int32)), iv 0, iv ((0 : Int32) + r3), iv ((0 : Int32) + r3), iv (((0 : Int32) + r3) + r2), iv 0, iv sv] [(.int ((0 : Int32) + (((0 : Int32) + r3) - (0 : Int32))))]))
                  refine OE.v (fun t k => XS.iload X25.here hx rfl (hb hby at_293) rfl k) ?_
                  show OE _ _ _ _ (T25.setTop (mkF m 295 #[iv r1, iv r2, iv r3, iv fl, iv 0, iv 2, iv th, iv rvv, iv 2, rv b3, iv (sv - (0 : Int32)), iv 0, iv ((0 : Int32) + r3), iv ((0 : Int32) + r3), iv (((0 : Int32) + r3) + r2), iv 0, iv sv] [(.int (sv - (0 : Int32))), (.int ((0 : Int32) + (((0 : Int32) + r3) - (0 : Int32))))]))
                  refine OE.v (fun t k => XS.icmpNo X25.here hx rfl (hb hby at_295) rfl (teq (by rw [hj21_0, enn_22, if_neg (by decide), if_neg (by decide), if_pos rfl]; grind)).2 k) ?_
                  show OE _ _ _ _ (T25.setTop (mkF m 298 #[iv r1, iv r2, iv r3, iv fl, iv 0, iv 2, iv th, iv rvv, iv 2, rv b3, iv (sv - (0 : Int32)), iv 0, iv ((0 : Int32) + r3), iv ((0 : Int32) + r3), iv (((0 : Int32) + r3) + r2), iv 0, iv sv] []))
                  refine OE.v (fun t k => XS.iconst X25.here hx rfl (hb hby at_298) k) ?_
                  refine OE.v (fun t k => XS.goto X25.here hx rfl (pc0 := 299) (pc' := 303) rfl (hb hby at_299) (by decide) (by decide) k) ?_
                  show OE _ _ _ _ (T25.setTop (mkF m 303 #[iv r1, iv r2, iv r3, iv fl, iv 0, iv 2, iv th, iv rvv, iv 2, rv b3, iv (sv - (0 : Int32)), iv 0, iv ((0 : Int32) + r3), iv ((0 : Int32) + r3), iv (((0 : Int32) + r3) + r2), iv 0, iv sv] [(.int 1)]))
                  obtain ⟨fs, hr, hrun, hended, hW, hsame⟩ := X25.leave (v := some (.int 1)) (fun h => by rw [Bd.returns] at h; cases h)
                  refine ⟨_, _, ?_, hrun, hended, _, _, rfl, ?_, ⟨_, rfl⟩, hW, hsame.mono (by decide) (by decide)⟩
                  · exact retN X25 hx (t := .boolean) Bd.returns (by simp) (hb hby at_303) hr
                  · show Q0 Z r1 r2 r3 fl h0 n0 _ T25.heap _
                    rw [e25]
                    exact ⟨rfl, N25⟩
                ·
                  rw [enn_22]
                  refine OE.v (fun t k => XS.aload X21.here hx rfl (hb hby at_286) rfl rfl k) ?_
                  refine OE.v (fun t k => XS.iload X21.here hx rfl (hb hby at_288) rfl k) ?_
                  show OE _ _ _ _ (T21.setTop (mkF m 290 #[iv r1, iv r2, iv r3, iv fl, iv 0, iv 2, iv th, iv rvv, iv 3, rv b3, iv (sv - (0 : Int32)), iv 0, iv ((0 : Int32) + r3), iv ((0 : Int32) + r3), iv (((0 : Int32) + r3) + r2), iv 0, iv sv] [(.int 3), (.ref b3)]))
                  obtain ⟨cq26, kq26, q26a, q26b, q26c⟩ := isOf hZ e21 (((q8_0.keep Kq9).keep Kq10).keep Kq20)
                  obtain ⟨_, _, ⟨T26, L26, k26, n26⟩, -, X26, ⟨Lc26, hQ26, l26, y26, z26⟩, st26⟩ := X21.virtualBack hx (y := (⟨"com/example/stratal/stratal/logic/StratumGroups", "offset", "(I)I"⟩ : MethodName)) (z := (⟨"com/example/stratal/stratal/logic/StratumGroups", "offset", "(I)I"⟩ : MethodName)) hown (mvT hZ (hw _ (own_w 56 rfl))) (mvT hZ (hw _ (own_w 38 rfl))) (notFace_of_selects (args := #[]) (mvT hZ (hw _ (own_w 40 rfl)))) (mvT hZ (hw _ (own_w 40 rfl))) (mvT hZ (hw _ (own_w 39 rfl))) (by decide) (backOf (W := 0) (rmo3_0002 l Z a0 hw [] b3 rp_4 kp_4 ro_4 ko_4 (0 : Int32) (((0 : Int32) + r1) - (0 : Int32)) (((0 : Int32) + r3) - (0 : Int32)) (((0 : Int32) + r2) - (0 : Int32)) h20 n0 Z20 (((q8_1.keep Kq9 (ninS (Ne.symm q4_11) (ninS (Ne.symm q4_12) (ninS (Ne.symm q4_13) (ninS (Ne.symm q4_14) nin0))))).keep Kq10 (ninS (Ne.symm q4_11) (ninS (Ne.symm q4_12) (ninS (Ne.symm q4_13) (ninS (Ne.symm q4_14) nin0))))).keep Kq20 (ninS (Ne.symm q4_11) (ninS (Ne.symm q4_12) (ninS (Ne.symm q4_13) (ninS (Ne.symm q4_14) nin0))))) q20_0 (((q8_2.keep Kq9 (ninS (Ne.symm q4_11) (ninS (Ne.symm q4_12) (ninS (Ne.symm q4_13) (ninS (Ne.symm q4_14) nin0))))).keep Kq10 (ninS (Ne.symm q4_11) (ninS (Ne.symm q4_12) (ninS (Ne.symm q4_13) (ninS (Ne.symm q4_14) nin0))))).keep Kq20 (ninS (Ne.symm q4_11) (ninS (Ne.symm q4_12) (ninS (Ne.symm q4_13) (ninS (Ne.symm q4_14) nin0))))) q20_1) hZ (hw _ (own_w 41 rfl)) (hw _ (own_w 2 rfl)) (by decide) (by decide)) q26a q26c (g := (mkF m 290 #[iv r1, iv r2, iv r3, iv fl, iv 0, iv 2, iv th, iv rvv, iv 3, rv b3, iv (sv - (0 : Int32)), iv 0, iv ((0 : Int32) + r3), iv ((0 : Int32) + r3), iv (((0 : Int32) + r3) + r2), iv 0, iv sv] [(.int 3), (.ref b3)])) rfl (by rw [hml]; rfl) (Steps.refl _) (argsL := [(.int 3)]) (rest := []) (lenOf pd_4 rfl) rfl (Nat.le_of_eq rfl) (hb hby at_290) (fun _ _ => ⟨rfl, e21, (by decide : 6 + 0 ≤ _), (by decide : 121 + 0 ≤ _)⟩)
                  dsimp only [Pt.U, Pt.locs, Pt.cells, Pt.slots] at X26 l26 y26 z26 st26 hQ26
                  subst l26 y26 z26
                  obtain ⟨rfl, Nq26, e26⟩ := hQ26
                  have N26 := Fr.app N21 Nq26
                  refine OE.v (fun t k => st26.trans k) ?_
                  show OE _ _ _ _ (T26.setTop (mkF m 293 #[iv r1, iv r2, iv r3, iv fl, iv 0, iv 2, iv th, iv rvv, iv 3, rv b3, iv (sv - (0 : Int32)), iv 0, iv ((0 : Int32) + r3), iv ((0 : Int32) + r3), iv (((0 : Int32) + r3) + r2), iv 0, iv sv] [(.int (((0 : Int32) + (((0 : Int32) + r2) - (0 : Int32))) + (((0 : Int32) + r3) - (0 : Int32))))]))
                  refine OE.v (fun t k => XS.iload X26.here hx rfl (hb hby at_293) rfl k) ?_
                  show OE _ _ _ _ (T26.setTop (mkF m 295 #[iv r1, iv r2, iv r3, iv fl, iv 0, iv 2, iv th, iv rvv, iv 3, rv b3, iv (sv - (0 : Int32)), iv 0, iv ((0 : Int32) + r3), iv ((0 : Int32) + r3), iv (((0 : Int32) + r3) + r2), iv 0, iv sv] [(.int (sv - (0 : Int32))), (.int (((0 : Int32) + (((0 : Int32) + r2) - (0 : Int32))) + (((0 : Int32) + r3) - (0 : Int32))))]))
                  refine OE.v (fun t k => XS.icmpNo X26.here hx rfl (hb hby at_295) rfl (teq (by rw [hj21_0, enn_22, if_neg (by decide), if_neg (by decide), if_neg (by decide)]; grind)).2 k) ?_
                  show OE _ _ _ _ (T26.setTop (mkF m 298 #[iv r1, iv r2, iv r3, iv fl, iv 0, iv 2, iv th, iv rvv, iv 3, rv b3, iv (sv - (0 : Int32)), iv 0, iv ((0 : Int32) + r3), iv ((0 : Int32) + r3), iv (((0 : Int32) + r3) + r2), iv 0, iv sv] []))
                  refine OE.v (fun t k => XS.iconst X26.here hx rfl (hb hby at_298) k) ?_
                  refine OE.v (fun t k => XS.goto X26.here hx rfl (pc0 := 299) (pc' := 303) rfl (hb hby at_299) (by decide) (by decide) k) ?_
                  show OE _ _ _ _ (T26.setTop (mkF m 303 #[iv r1, iv r2, iv r3, iv fl, iv 0, iv 2, iv th, iv rvv, iv 3, rv b3, iv (sv - (0 : Int32)), iv 0, iv ((0 : Int32) + r3), iv ((0 : Int32) + r3), iv (((0 : Int32) + r3) + r2), iv 0, iv sv] [(.int 1)]))
                  obtain ⟨fs, hr, hrun, hended, hW, hsame⟩ := X26.leave (v := some (.int 1)) (fun h => by rw [Bd.returns] at h; cases h)
                  refine ⟨_, _, ?_, hrun, hended, _, _, rfl, ?_, ⟨_, rfl⟩, hW, hsame.mono (by decide) (by decide)⟩
                  · exact retN X26 hx (t := .boolean) Bd.returns (by simp) (hb hby at_303) hr
                  · show Q0 Z r1 r2 r3 fl h0 n0 _ T26.heap _
                    rw [e26]
                    exact ⟨rfl, N26⟩
              intro J21
              by_cases hc241_27 : nn = (0 : Int32)
              ·
                refine OE.v (fun t k => XS.ifNo X20.here hx rfl (hb hby at_241) rfl ((if0 _ _).trans (teq hc241_27).2) k) ?_
                show OE _ _ _ _ (T20.setTop (mkF m 244 #[iv r1, iv r2, iv r3, iv fl, iv 0, iv 2, iv th, iv rvv, iv nn, rv b3, .unset, iv 0, iv ((0 : Int32) + r3), iv ((0 : Int32) + r3), iv (((0 : Int32) + r3) + r2), iv 0, .unset] []))
                refine OE.v (fun t k => XS.iconst X20.here hx rfl (hb hby at_244) k) ?_
                refine OE.v (fun t k => XS.istore X20.here hx rfl (hb hby at_245) rfl (l' := #[iv r1, iv r2, iv r3, iv fl, iv 0, iv 2, iv th, iv rvv, iv nn, rv b3, .unset, iv 0, iv ((0 : Int32) + r3), iv ((0 : Int32) + r3), iv (((0 : Int32) + r3) + r2), iv 0, iv 0]) rfl k) ?_
                refine OE.v (fun t k => XS.goto X20.here hx rfl (pc0 := 247) (pc' := 279) rfl (hb hby at_247) (by decide) (by decide) k) ?_
                exact J21 _ _ X20 e20 N20 (0 : Int32) (by rw [if_pos hc241_27])
              ·
                refine OE.v (fun t k => XS.ifYes X20.here hx rfl (pc0 := 241) (pc' := 250) rfl (hb hby at_241) rfl ((if0 _ _).trans (feq hc241_27).2) (by decide) (by decide) k) ?_
                show OE _ _ _ _ (T20.setTop (mkF m 250 #[iv r1, iv r2, iv r3, iv fl, iv 0, iv 2, iv th, iv rvv, iv nn, rv b3, .unset, iv 0, iv ((0 : Int32) + r3), iv ((0 : Int32) + r3), iv (((0 : Int32) + r3) + r2), iv 0, .unset] []))
                refine OE.v (fun t k => XS.iload X20.here hx rfl (hb hby at_250) rfl k) ?_
                refine OE.v (fun t k => XS.iconst X20.here hx rfl (hb hby at_252) k) ?_
                show OE _ _ _ _ (T20.setTop (mkF m 253 #[iv r1, iv r2, iv r3, iv fl, iv 0, iv 2, iv th, iv rvv, iv nn, rv b3, .unset, iv 0, iv ((0 : Int32) + r3), iv ((0 : Int32) + r3), iv (((0 : Int32) + r3) + r2), iv 0, .unset] [(.int 1), (.int nn)]))
                by_cases hc253_28 : nn = (1 : Int32)
                ·
                  refine OE.v (fun t k => XS.icmpNo X20.here hx rfl (hb hby at_253) rfl (teq hc253_28).2 k) ?_
                  show OE _ _ _ _ (T20.setTop (mkF m 256 #[iv r1, iv r2, iv r3, iv fl, iv 0, iv 2, iv th, iv rvv, iv nn, rv b3, .unset, iv 0, iv ((0 : Int32) + r3), iv ((0 : Int32) + r3), iv (((0 : Int32) + r3) + r2), iv 0, .unset] []))
                  refine OE.v (fun t k => XS.iloadN X20.here hx rfl (hb hby at_256) rfl k) ?_
                  refine OE.v (fun t k => XS.istore X20.here hx rfl (hb hby at_257) rfl (l' := #[iv r1, iv r2, iv r3, iv fl, iv 0, iv 2, iv th, iv rvv, iv nn, rv b3, .unset, iv 0, iv ((0 : Int32) + r3), iv ((0 : Int32) + r3), iv (((0 : Int32) + r3) + r2), iv 0, iv r1]) rfl k) ?_
                  refine OE.v (fun t k => XS.goto X20.here hx rfl (pc0 := 259) (pc' := 279) rfl (hb hby at_259) (by decide) (by decide) k) ?_
                  exact J21 _ _ X20 e20 N20 r1 (by rw [if_neg hc241_27, if_pos hc253_28])
                ·
                  refine OE.v (fun t k => XS.icmpYes X20.here hx rfl (pc0 := 253) (pc' := 262) rfl (hb hby at_253) rfl (feq hc253_28).2 (by decide) (by decide) k) ?_
                  show OE _ _ _ _ (T20.setTop (mkF m 262 #[iv r1, iv r2, iv r3, iv fl, iv 0, iv 2, iv th, iv rvv, iv nn, rv b3, .unset, iv 0, iv ((0 : Int32) + r3), iv ((0 : Int32) + r3), iv (((0 : Int32) + r3) + r2), iv 0, .unset] []))
                  refine OE.v (fun t k => XS.iload X20.here hx rfl (hb hby at_262) rfl k) ?_
                  refine OE.v (fun t k => XS.iconst X20.here hx rfl (hb hby at_264) k) ?_
                  show OE _ _ _ _ (T20.setTop (mkF m 265 #[iv r1, iv r2, iv r3, iv fl, iv 0, iv 2, iv th, iv rvv, iv nn, rv b3, .unset, iv 0, iv ((0 : Int32) + r3), iv ((0 : Int32) + r3), iv (((0 : Int32) + r3) + r2), iv 0, .unset] [(.int 2), (.int nn)]))
                  by_cases hc265_29 : nn = (2 : Int32)
                  ·
                    refine OE.v (fun t k => XS.icmpNo X20.here hx rfl (hb hby at_265) rfl (teq hc265_29).2 k) ?_
                    show OE _ _ _ _ (T20.setTop (mkF m 268 #[iv r1, iv r2, iv r3, iv fl, iv 0, iv 2, iv th, iv rvv, iv nn, rv b3, .unset, iv 0, iv ((0 : Int32) + r3), iv ((0 : Int32) + r3), iv (((0 : Int32) + r3) + r2), iv 0, .unset] []))
                    refine OE.v (fun t k => XS.iload X20.here hx rfl (hb hby at_268) rfl k) ?_
                    refine OE.v (fun t k => XS.istore X20.here hx rfl (hb hby at_270) rfl (l' := #[iv r1, iv r2, iv r3, iv fl, iv 0, iv 2, iv th, iv rvv, iv nn, rv b3, .unset, iv 0, iv ((0 : Int32) + r3), iv ((0 : Int32) + r3), iv (((0 : Int32) + r3) + r2), iv 0, iv ((0 : Int32) + r3)]) rfl k) ?_
                    refine OE.v (fun t k => XS.goto X20.here hx rfl (pc0 := 272) (pc' := 279) rfl (hb hby at_272) (by decide) (by decide) k) ?_
                    exact J21 _ _ X20 e20 N20 ((0 : Int32) + r3) (by rw [if_neg hc241_27, if_neg hc253_28, if_pos hc265_29])
                  ·
                    refine OE.v (fun t k => XS.icmpYes X20.here hx rfl (pc0 := 265) (pc' := 275) rfl (hb hby at_265) rfl (feq hc265_29).2 (by decide) (by decide) k) ?_
                    show OE _ _ _ _ (T20.setTop (mkF m 275 #[iv r1, iv r2, iv r3, iv fl, iv 0, iv 2, iv th, iv rvv, iv nn, rv b3, .unset, iv 0, iv ((0 : Int32) + r3), iv ((0 : Int32) + r3), iv (((0 : Int32) + r3) + r2), iv 0, .unset] []))
                    refine OE.v (fun t k => XS.iload X20.here hx rfl (hb hby at_275) rfl k) ?_
                    refine OE.v (fun t k => XS.istore X20.here hx rfl (hb hby at_277) rfl (l' := #[iv r1, iv r2, iv r3, iv fl, iv 0, iv 2, iv th, iv rvv, iv nn, rv b3, .unset, iv 0, iv ((0 : Int32) + r3), iv ((0 : Int32) + r3), iv (((0 : Int32) + r3) + r2), iv 0, iv (((0 : Int32) + r3) + r2)]) rfl k) ?_
                    exact J21 _ _ X20 e20 N20 (((0 : Int32) + r3) + r2) (by rw [if_neg hc241_27, if_neg hc253_28, if_neg hc265_29])
            ·
              rw [enb_19]
              show OE _ _ _ _ (T10.setTop (mkF m 156 #[iv r1, iv r2, iv r3, iv fl, iv 0, iv 3, iv th, iv rvv, iv nn, rv b3, .unset, .unset, .unset, .unset, .unset, .unset, .unset] []))
              refine OE.v (fun t k => XS.aload X10.here hx rfl (hb hby at_156) rfl rfl k) ?_
              refine OE.v (fun t k => XS.iload X10.here hx rfl (hb hby at_158) rfl k) ?_
              refine OE.v (fun t k => XS.iload X10.here hx rfl (hb hby at_160) rfl k) ?_
              refine OE.v (fun t k => XS.iloadN X10.here hx rfl (hb hby at_162) rfl k) ?_
              show OE _ _ _ _ (T10.setTop (mkF m 163 #[iv r1, iv r2, iv r3, iv fl, iv 0, iv 3, iv th, iv rvv, iv nn, rv b3, .unset, .unset, .unset, .unset, .unset, .unset, .unset] [(.int r3), (.int 3), (.int 0), (.ref b3)]))
              obtain ⟨cq30, kq30, q30a, q30b, q30c⟩ := isOf hZ e10 ((q8_0.keep Kq9).keep Kq10)
              obtain ⟨_, _, ⟨T30, L30, k30, n30⟩, -, X30, ⟨Lc30, hQ30, l30, y30, z30⟩, st30⟩ := X10.virtualBack hx (y := (⟨"com/example/stratal/stratal/logic/StratumGroups", "join", "(III)I"⟩ : MethodName)) (z := (⟨"com/example/stratal/stratal/logic/StratumGroups", "join", "(III)I"⟩ : MethodName)) hown (mvT hZ (hw _ (own_w 27 rfl))) (mvT hZ (hw _ (own_w 28 rfl))) (notFace_of_selects (args := #[]) (mvT hZ (hw _ (own_w 30 rfl)))) (mvT hZ (hw _ (own_w 30 rfl))) (mvT hZ (hw _ (own_w 29 rfl))) (by decide) (backOf (W := 0) (rmJ03_0022 l Z a0 hw [] b3 rp_4 ro_4 rs_4 rf_4 kp_4 ko_4 ks_4 kf_4 (0 : Int32) (((0 : Int32) + r1) - (0 : Int32)) (0 : Int32) (((0 : Int32) + r2) - (0 : Int32)) (own_max (0 : Int32) ((0 : Int32) - (((0 : Int32) + r1) - (0 : Int32)))) (0 : Int32) (own_max (0 : Int32) ((0 : Int32) - (((0 : Int32) + r2) - (0 : Int32)))) (0 : Int32) r3 h10 n0 Z10 ((q8_0.keep Kq9).keep Kq10) ((q8_1.keep Kq9 (ninS (Ne.symm q4_11) (ninS (Ne.symm q4_12) (ninS (Ne.symm q4_13) (ninS (Ne.symm q4_14) nin0))))).keep Kq10 (ninS (Ne.symm q4_11) (ninS (Ne.symm q4_12) (ninS (Ne.symm q4_13) (ninS (Ne.symm q4_14) nin0))))) ((q8_2.keep Kq9 (ninS (Ne.symm q4_11) (ninS (Ne.symm q4_12) (ninS (Ne.symm q4_13) (ninS (Ne.symm q4_14) nin0))))).keep Kq10 (ninS (Ne.symm q4_11) (ninS (Ne.symm q4_12) (ninS (Ne.symm q4_13) (ninS (Ne.symm q4_14) nin0))))) ((q8_3.keep Kq9 (ninS (Ne.symm q4_11) (ninS (Ne.symm q4_12) (ninS (Ne.symm q4_13) (ninS (Ne.symm q4_14) nin0))))).keep Kq10 (ninS (Ne.symm q4_11) (ninS (Ne.symm q4_12) (ninS (Ne.symm q4_13) (ninS (Ne.symm q4_14) nin0))))) ((q8_4.keep Kq9 (ninS (Ne.symm q4_11) (ninS (Ne.symm q4_12) (ninS (Ne.symm q4_13) (ninS (Ne.symm q4_14) nin0))))).keep Kq10 (ninS (Ne.symm q4_11) (ninS (Ne.symm q4_12) (ninS (Ne.symm q4_13) (ninS (Ne.symm q4_14) nin0))))) ((q8_10.keep Kq9 (ninS (Ne.symm q4_11) (ninS (Ne.symm q4_12) (ninS (Ne.symm q4_13) (ninS (Ne.symm q4_14) nin0))))).keep Kq10 (ninS (Ne.symm q4_11) (ninS (Ne.symm q4_12) (ninS (Ne.symm q4_13) (ninS (Ne.symm q4_14) nin0))))) q10_0 q10_1 q10_2 q10_3 q4_11 q4_12 q4_13 q4_14 q4_15 q4_16 q4_17 q4_18 q4_19 q4_20 q4_21 q4_22 q4_23 q4_24) hZ (hw _ (own_w 31 rfl)) (hw _ (own_w 2 rfl)) (by decide) (by decide)) q30a q30c (g := (mkF m 163 #[iv r1, iv r2, iv r3, iv fl, iv 0, iv 3, iv th, iv rvv, iv nn, rv b3, .unset, .unset, .unset, .unset, .unset, .unset, .unset] [(.int r3), (.int 3), (.int 0), (.ref b3)])) rfl (by rw [hml]; rfl) (Steps.refl _) (argsL := [(.int 0), (.int 3), (.int r3)]) (rest := []) (lenOf pd_5 rfl) rfl (Nat.le_of_eq rfl) (hb hby at_163) (fun _ _ => ⟨rfl, e10, (by decide : 6 + 0 ≤ _), (by decide : 121 + 0 ≤ _)⟩)
              dsimp only [Pt.U, Pt.locs, Pt.cells, Pt.slots] at X30 l30 y30 z30 st30 hQ30
              subst l30 y30 z30
              obtain ⟨h30, e30⟩ : ∃ z, T30.heap = z := ⟨_, rfl⟩
              rw [e30] at hQ30
              obtain ⟨rfl, Nq30, Kq30, q30_0, q30_1, q30_2, q30_3⟩ := hQ30
              have Z30 : n0 ≤ h30.size := Nat.le_trans Z10 Kq30.1
              have N30 := Fr.app N10 Nq30
              refine OE.v (fun t k => st30.trans k) ?_
              show OE _ _ _ _ (T30.setTop (mkF m 166 #[iv r1, iv r2, iv r3, iv fl, iv 0, iv 3, iv th, iv rvv, iv nn, rv b3, .unset, .unset, .unset, .unset, .unset, .unset, .unset] [(.int 3)]))
              refine OE.v (fun t k => XS.pop X30.here hx rfl (hb hby at_166) rfl rfl k) ?_
              refine OE.v (fun t k => XS.iload X30.here hx rfl (hb hby at_167) rfl k) ?_
              show OE _ _ _ _ (T30.setTop (mkF m 169 #[iv r1, iv r2, iv r3, iv fl, iv 0, iv 3, iv th, iv rvv, iv nn, rv b3, .unset, .unset, .unset, .unset, .unset, .unset, .unset] [(.int 0)]))
              refine OE.v (fun t k => XS.ifNo X30.here hx rfl (hb hby at_169) rfl ((if0 _ _).trans (teq (by decide)).2) k) ?_
              show OE _ _ _ _ (T30.setTop (mkF m 172 #[iv r1, iv r2, iv r3, iv fl, iv 0, iv 3, iv th, iv rvv, iv nn, rv b3, .unset, .unset, .unset, .unset, .unset, .unset, .unset] []))
              refine OE.v (fun t k => XS.iconst X30.here hx rfl (hb hby at_172) k) ?_
              refine OE.v (fun t k => XS.goto X30.here hx rfl (pc0 := 173) (pc' := 177) rfl (hb hby at_173) (by decide) (by decide) k) ?_
              refine OE.v (fun t k => XS.istore X30.here hx rfl (hb hby at_177) rfl (l' := #[iv r1, iv r2, iv r3, iv fl, iv 0, iv 3, iv th, iv rvv, iv nn, rv b3, .unset, iv 0, .unset, .unset, .unset, .unset, .unset]) rfl k) ?_
              refine OE.v (fun t k => XS.iload X30.here hx rfl (hb hby at_179) rfl k) ?_
              show OE _ _ _ _ (T30.setTop (mkF m 181 #[iv r1, iv r2, iv r3, iv fl, iv 0, iv 3, iv th, iv rvv, iv nn, rv b3, .unset, iv 0, .unset, .unset, .unset, .unset, .unset] [(.int rvv)]))
              refine OE.v (fun t k => XS.ifYes X30.here hx rfl (pc0 := 181) (pc' := 191) rfl (hb hby at_181) rfl ((if0 _ _).trans (teq hc139_17).1) (by decide) (by decide) k) ?_
              show OE _ _ _ _ (T30.setTop (mkF m 191 #[iv r1, iv r2, iv r3, iv fl, iv 0, iv 3, iv th, iv rvv, iv nn, rv b3, .unset, iv 0, .unset, .unset, .unset, .unset, .unset] []))
              refine OE.v (fun t k => XS.iload X30.here hx rfl (hb hby at_191) rfl k) ?_
              refine OE.v (fun t k => XS.iloadN X30.here hx rfl (hb hby at_193) rfl k) ?_
              refine OE.v (fun t k => XS.iadd X30.here hx rfl (hb hby at_194) rfl k) ?_
              refine OE.v (fun t k => XS.istore X30.here hx rfl (hb hby at_195) rfl (l' := #[iv r1, iv r2, iv r3, iv fl, iv 0, iv 3, iv th, iv rvv, iv nn, rv b3, .unset, iv 0, iv ((0 : Int32) + r3), .unset, .unset, .unset, .unset]) rfl k) ?_
              refine OE.v (fun t k => XS.iload X30.here hx rfl (hb hby at_197) rfl k) ?_
              refine OE.v (fun t k => XS.iconst X30.here hx rfl (hb hby at_199) k) ?_
              show OE _ _ _ _ (T30.setTop (mkF m 200 #[iv r1, iv r2, iv r3, iv fl, iv 0, iv 3, iv th, iv rvv, iv nn, rv b3, .unset, iv 0, iv ((0 : Int32) + r3), .unset, .unset, .unset, .unset] [(.int 2), (.int 3)]))
              refine OE.v (fun t k => XS.icmpYes X30.here hx rfl (pc0 := 200) (pc' := 216) rfl (hb hby at_200) rfl (feq (by decide)).2 (by decide) (by decide) k) ?_
              show OE _ _ _ _ (T30.setTop (mkF m 216 #[iv r1, iv r2, iv r3, iv fl, iv 0, iv 3, iv th, iv rvv, iv nn, rv b3, .unset, iv 0, iv ((0 : Int32) + r3), .unset, .unset, .unset, .unset] []))
              refine OE.v (fun t k => XS.iload X30.here hx rfl (hb hby at_216) rfl k) ?_
              refine OE.v (fun t k => XS.istore X30.here hx rfl (hb hby at_218) rfl (l' := #[iv r1, iv r2, iv r3, iv fl, iv 0, iv 3, iv th, iv rvv, iv nn, rv b3, .unset, iv 0, iv ((0 : Int32) + r3), .unset, iv ((0 : Int32) + r3), .unset, .unset]) rfl k) ?_
              refine OE.v (fun t k => XS.iload X30.here hx rfl (hb hby at_220) rfl k) ?_
              refine OE.v (fun t k => XS.iloadN X30.here hx rfl (hb hby at_222) rfl k) ?_
              refine OE.v (fun t k => XS.isub X30.here hx rfl (hb hby at_223) rfl k) ?_
              refine OE.v (fun t k => XS.istore X30.here hx rfl (hb hby at_224) rfl (l' := #[iv r1, iv r2, iv r3, iv fl, iv 0, iv 3, iv th, iv rvv, iv nn, rv b3, .unset, iv 0, iv ((0 : Int32) + r3), iv (((0 : Int32) + r3) - r2), iv ((0 : Int32) + r3), .unset, .unset]) rfl k) ?_
              show OE _ _ _ _ (T30.setTop (mkF m 226 #[iv r1, iv r2, iv r3, iv fl, iv 0, iv 3, iv th, iv rvv, iv nn, rv b3, .unset, iv 0, iv ((0 : Int32) + r3), iv (((0 : Int32) + r3) - r2), iv ((0 : Int32) + r3), .unset, .unset] []))
              refine OE.v (fun t k => XS.iload X30.here hx rfl (hb hby at_226) rfl k) ?_
              show OE _ _ _ _ (T30.setTop (mkF m 228 #[iv r1, iv r2, iv r3, iv fl, iv 0, iv 3, iv th, iv rvv, iv nn, rv b3, .unset, iv 0, iv ((0 : Int32) + r3), iv (((0 : Int32) + r3) - r2), iv ((0 : Int32) + r3), .unset, .unset] [(.int rvv)]))
              refine OE.v (fun t k => XS.ifYes X30.here hx rfl (pc0 := 228) (pc' := 236) rfl (hb hby at_228) rfl ((if0 _ _).trans (teq hc139_17).1) (by decide) (by decide) k) ?_
              show OE _ _ _ _ (T30.setTop (mkF m 236 #[iv r1, iv r2, iv r3, iv fl, iv 0, iv 3, iv th, iv rvv, iv nn, rv b3, .unset, iv 0, iv ((0 : Int32) + r3), iv (((0 : Int32) + r3) - r2), iv ((0 : Int32) + r3), .unset, .unset] []))
              refine OE.v (fun t k => XS.iconst X30.here hx rfl (hb hby at_236) k) ?_
              refine OE.v (fun t k => XS.istore X30.here hx rfl (hb hby at_237) rfl (l' := #[iv r1, iv r2, iv r3, iv fl, iv 0, iv 3, iv th, iv rvv, iv nn, rv b3, .unset, iv 0, iv ((0 : Int32) + r3), iv (((0 : Int32) + r3) - r2), iv ((0 : Int32) + r3), iv 0, .unset]) rfl k) ?_
              refine OE.v (fun t k => XS.iload X30.here hx rfl (hb hby at_239) rfl k) ?_
              show OE _ _ _ _ (T30.setTop (mkF m 241 #[iv r1, iv r2, iv r3, iv fl, iv 0, iv 3, iv th, iv rvv, iv nn, rv b3, .unset, iv 0, iv ((0 : Int32) + r3), iv (((0 : Int32) + r3) - r2), iv ((0 : Int32) + r3), iv 0, .unset] [(.int nn)]))
              refine OE.cut (fun G => ∀ (T31 : State) (lc31 : List Loc) (X31 : Stand p l e room_1 s m #[(.int r1), (.int r2), (.int r3), (.int fl)] below meth c T31 lc31 6 121) (e31 : T31.heap = h30) (N31 : Fr n0 lc31) (sv : Int32) (hj31_0 : sv = if nn = (0 : Int32) then (0 : Int32) else if nn = (1 : Int32) then r1 else if nn = (2 : Int32) then (((0 : Int32) + r3) - r2) else ((0 : Int32) + r3)), G (T31.setTop (mkF m 279 #[iv r1, iv r2, iv r3, iv fl, iv 0, iv 3, iv th, iv rvv, iv nn, rv b3, .unset, iv 0, iv ((0 : Int32) + r3), iv (((0 : Int32) + r3) - r2), iv ((0 : Int32) + r3), iv 0, iv sv] []))) ?_ ?_
              · intro T31 lc31 X31 e31 N31 sv hj31_0
                show OE _ _ _ _ (T31.setTop (mkF m 279 #[iv r1, iv r2, iv r3, iv fl, iv 0, iv 3, iv th, iv rvv, iv nn, rv b3, .unset, iv 0, iv ((0 : Int32) + r3), iv (((0 : Int32) + r3) - r2), iv ((0 : Int32) + r3), iv 0, iv sv] []))
                refine OE.v (fun t k => XS.iload X31.here hx rfl (hb hby at_279) rfl k) ?_
                refine OE.v (fun t k => XS.iload X31.here hx rfl (hb hby at_281) rfl k) ?_
                refine OE.v (fun t k => XS.isub X31.here hx rfl (hb hby at_283) rfl k) ?_
                refine OE.v (fun t k => XS.istore X31.here hx rfl (hb hby at_284) rfl (l' := #[iv r1, iv r2, iv r3, iv fl, iv 0, iv 3, iv th, iv rvv, iv nn, rv b3, iv (sv - (0 : Int32)), iv 0, iv ((0 : Int32) + r3), iv (((0 : Int32) + r3) - r2), iv ((0 : Int32) + r3), iv 0, iv sv]) rfl k) ?_
                show OE _ _ _ _ (T31.setTop (mkF m 286 #[iv r1, iv r2, iv r3, iv fl, iv 0, iv 3, iv th, iv rvv, iv nn, rv b3, iv (sv - (0 : Int32)), iv 0, iv ((0 : Int32) + r3), iv (((0 : Int32) + r3) - r2), iv ((0 : Int32) + r3), iv 0, iv sv] []))
                rcases c_nn with enn_32 | enn_32 | enn_32 | enn_32
                ·
                  rw [enn_32]
                  refine OE.v (fun t k => XS.aload X31.here hx rfl (hb hby at_286) rfl rfl k) ?_
                  refine OE.v (fun t k => XS.iload X31.here hx rfl (hb hby at_288) rfl k) ?_
                  show OE _ _ _ _ (T31.setTop (mkF m 290 #[iv r1, iv r2, iv r3, iv fl, iv 0, iv 3, iv th, iv rvv, iv 0, rv b3, iv (sv - (0 : Int32)), iv 0, iv ((0 : Int32) + r3), iv (((0 : Int32) + r3) - r2), iv ((0 : Int32) + r3), iv 0, iv sv] [(.int 0), (.ref b3)]))
                  obtain ⟨cq33, kq33, q33a, q33b, q33c⟩ := isOf hZ e31 (((q8_0.keep Kq9).keep Kq10).keep Kq30)
                  obtain ⟨_, _, ⟨T33, L33, k33, n33⟩, -, X33, ⟨Lc33, hQ33, l33, y33, z33⟩, st33⟩ := X31.virtualBack hx (y := (⟨"com/example/stratal/stratal/logic/StratumGroups", "offset", "(I)I"⟩ : MethodName)) (z := (⟨"com/example/stratal/stratal/logic/StratumGroups", "offset", "(I)I"⟩ : MethodName)) hown (mvT hZ (hw _ (own_w 56 rfl))) (mvT hZ (hw _ (own_w 38 rfl))) (notFace_of_selects (args := #[]) (mvT hZ (hw _ (own_w 40 rfl)))) (mvT hZ (hw _ (own_w 40 rfl))) (mvT hZ (hw _ (own_w 39 rfl))) (by decide) (backOf (W := 0) (rmo0_0002 l Z a0 hw [] b3 rp_4 kp_4 ro_4 ko_4 (0 : Int32) (((0 : Int32) + r1) - (0 : Int32)) (((0 : Int32) + r3) - ((0 : Int32) + (((0 : Int32) + r2) - (0 : Int32)))) (((0 : Int32) + r2) - (0 : Int32)) h30 n0 Z30 (((q8_1.keep Kq9 (ninS (Ne.symm q4_11) (ninS (Ne.symm q4_12) (ninS (Ne.symm q4_13) (ninS (Ne.symm q4_14) nin0))))).keep Kq10 (ninS (Ne.symm q4_11) (ninS (Ne.symm q4_12) (ninS (Ne.symm q4_13) (ninS (Ne.symm q4_14) nin0))))).keep Kq30 (ninS (Ne.symm q4_11) (ninS (Ne.symm q4_12) (ninS (Ne.symm q4_13) (ninS (Ne.symm q4_14) nin0))))) q30_0 (((q8_2.keep Kq9 (ninS (Ne.symm q4_11) (ninS (Ne.symm q4_12) (ninS (Ne.symm q4_13) (ninS (Ne.symm q4_14) nin0))))).keep Kq10 (ninS (Ne.symm q4_11) (ninS (Ne.symm q4_12) (ninS (Ne.symm q4_13) (ninS (Ne.symm q4_14) nin0))))).keep Kq30 (ninS (Ne.symm q4_11) (ninS (Ne.symm q4_12) (ninS (Ne.symm q4_13) (ninS (Ne.symm q4_14) nin0))))) q30_1) hZ (hw _ (own_w 41 rfl)) (hw _ (own_w 2 rfl)) (by decide) (by decide)) q33a q33c (g := (mkF m 290 #[iv r1, iv r2, iv r3, iv fl, iv 0, iv 3, iv th, iv rvv, iv 0, rv b3, iv (sv - (0 : Int32)), iv 0, iv ((0 : Int32) + r3), iv (((0 : Int32) + r3) - r2), iv ((0 : Int32) + r3), iv 0, iv sv] [(.int 0), (.ref b3)])) rfl (by rw [hml]; rfl) (Steps.refl _) (argsL := [(.int 0)]) (rest := []) (lenOf pd_4 rfl) rfl (Nat.le_of_eq rfl) (hb hby at_290) (fun _ _ => ⟨rfl, e31, (by decide : 6 + 0 ≤ _), (by decide : 121 + 0 ≤ _)⟩)
                  dsimp only [Pt.U, Pt.locs, Pt.cells, Pt.slots] at X33 l33 y33 z33 st33 hQ33
                  subst l33 y33 z33
                  obtain ⟨rfl, Nq33, e33⟩ := hQ33
                  have N33 := Fr.app N31 Nq33
                  refine OE.v (fun t k => st33.trans k) ?_
                  show OE _ _ _ _ (T33.setTop (mkF m 293 #[iv r1, iv r2, iv r3, iv fl, iv 0, iv 3, iv th, iv rvv, iv 0, rv b3, iv (sv - (0 : Int32)), iv 0, iv ((0 : Int32) + r3), iv (((0 : Int32) + r3) - r2), iv ((0 : Int32) + r3), iv 0, iv sv] [(.int 0)]))
                  refine OE.v (fun t k => XS.iload X33.here hx rfl (hb hby at_293) rfl k) ?_
                  show OE _ _ _ _ (T33.setTop (mkF m 295 #[iv r1, iv r2, iv r3, iv fl, iv 0, iv 3, iv th, iv rvv, iv 0, rv b3, iv (sv - (0 : Int32)), iv 0, iv ((0 : Int32) + r3), iv (((0 : Int32) + r3) - r2), iv ((0 : Int32) + r3), iv 0, iv sv] [(.int (sv - (0 : Int32))), (.int 0)]))
                  refine OE.v (fun t k => XS.icmpNo X33.here hx rfl (hb hby at_295) rfl (teq (by rw [hj31_0, enn_32, if_pos rfl]; grind)).2 k) ?_
                  show OE _ _ _ _ (T33.setTop (mkF m 298 #[iv r1, iv r2, iv r3, iv fl, iv 0, iv 3, iv th, iv rvv, iv 0, rv b3, iv (sv - (0 : Int32)), iv 0, iv ((0 : Int32) + r3), iv (((0 : Int32) + r3) - r2), iv ((0 : Int32) + r3), iv 0, iv sv] []))
                  refine OE.v (fun t k => XS.iconst X33.here hx rfl (hb hby at_298) k) ?_
                  refine OE.v (fun t k => XS.goto X33.here hx rfl (pc0 := 299) (pc' := 303) rfl (hb hby at_299) (by decide) (by decide) k) ?_
                  show OE _ _ _ _ (T33.setTop (mkF m 303 #[iv r1, iv r2, iv r3, iv fl, iv 0, iv 3, iv th, iv rvv, iv 0, rv b3, iv (sv - (0 : Int32)), iv 0, iv ((0 : Int32) + r3), iv (((0 : Int32) + r3) - r2), iv ((0 : Int32) + r3), iv 0, iv sv] [(.int 1)]))
                  obtain ⟨fs, hr, hrun, hended, hW, hsame⟩ := X33.leave (v := some (.int 1)) (fun h => by rw [Bd.returns] at h; cases h)
                  refine ⟨_, _, ?_, hrun, hended, _, _, rfl, ?_, ⟨_, rfl⟩, hW, hsame.mono (by decide) (by decide)⟩
                  · exact retN X33 hx (t := .boolean) Bd.returns (by simp) (hb hby at_303) hr
                  · show Q0 Z r1 r2 r3 fl h0 n0 _ T33.heap _
                    rw [e33]
                    exact ⟨rfl, N33⟩
                ·
                  rw [enn_32]
                  refine OE.v (fun t k => XS.aload X31.here hx rfl (hb hby at_286) rfl rfl k) ?_
                  refine OE.v (fun t k => XS.iload X31.here hx rfl (hb hby at_288) rfl k) ?_
                  show OE _ _ _ _ (T31.setTop (mkF m 290 #[iv r1, iv r2, iv r3, iv fl, iv 0, iv 3, iv th, iv rvv, iv 1, rv b3, iv (sv - (0 : Int32)), iv 0, iv ((0 : Int32) + r3), iv (((0 : Int32) + r3) - r2), iv ((0 : Int32) + r3), iv 0, iv sv] [(.int 1), (.ref b3)]))
                  obtain ⟨cq34, kq34, q34a, q34b, q34c⟩ := isOf hZ e31 (((q8_0.keep Kq9).keep Kq10).keep Kq30)
                  obtain ⟨_, _, ⟨T34, L34, k34, n34⟩, -, X34, ⟨Lc34, hQ34, l34, y34, z34⟩, st34⟩ := X31.virtualBack hx (y := (⟨"com/example/stratal/stratal/logic/StratumGroups", "offset", "(I)I"⟩ : MethodName)) (z := (⟨"com/example/stratal/stratal/logic/StratumGroups", "offset", "(I)I"⟩ : MethodName)) hown (mvT hZ (hw _ (own_w 56 rfl))) (mvT hZ (hw _ (own_w 38 rfl))) (notFace_of_selects (args := #[]) (mvT hZ (hw _ (own_w 40 rfl)))) (mvT hZ (hw _ (own_w 40 rfl))) (mvT hZ (hw _ (own_w 39 rfl))) (by decide) (backOf (W := 0) (rmo1_0002 l Z a0 hw [] b3 rp_4 kp_4 ro_4 ko_4 (0 : Int32) (((0 : Int32) + r1) - (0 : Int32)) (((0 : Int32) + r3) - ((0 : Int32) + (((0 : Int32) + r2) - (0 : Int32)))) (((0 : Int32) + r2) - (0 : Int32)) h30 n0 Z30 (((q8_1.keep Kq9 (ninS (Ne.symm q4_11) (ninS (Ne.symm q4_12) (ninS (Ne.symm q4_13) (ninS (Ne.symm q4_14) nin0))))).keep Kq10 (ninS (Ne.symm q4_11) (ninS (Ne.symm q4_12) (ninS (Ne.symm q4_13) (ninS (Ne.symm q4_14) nin0))))).keep Kq30 (ninS (Ne.symm q4_11) (ninS (Ne.symm q4_12) (ninS (Ne.symm q4_13) (ninS (Ne.symm q4_14) nin0))))) q30_0 (((q8_2.keep Kq9 (ninS (Ne.symm q4_11) (ninS (Ne.symm q4_12) (ninS (Ne.symm q4_13) (ninS (Ne.symm q4_14) nin0))))).keep Kq10 (ninS (Ne.symm q4_11) (ninS (Ne.symm q4_12) (ninS (Ne.symm q4_13) (ninS (Ne.symm q4_14) nin0))))).keep Kq30 (ninS (Ne.symm q4_11) (ninS (Ne.symm q4_12) (ninS (Ne.symm q4_13) (ninS (Ne.symm q4_14) nin0))))) q30_1) hZ (hw _ (own_w 41 rfl)) (hw _ (own_w 2 rfl)) (by decide) (by decide)) q34a q34c (g := (mkF m 290 #[iv r1, iv r2, iv r3, iv fl, iv 0, iv 3, iv th, iv rvv, iv 1, rv b3, iv (sv - (0 : Int32)), iv 0, iv ((0 : Int32) + r3), iv (((0 : Int32) + r3) - r2), iv ((0 : Int32) + r3), iv 0, iv sv] [(.int 1), (.ref b3)])) rfl (by rw [hml]; rfl) (Steps.refl _) (argsL := [(.int 1)]) (rest := []) (lenOf pd_4 rfl) rfl (Nat.le_of_eq rfl) (hb hby at_290) (fun _ _ => ⟨rfl, e31, (by decide : 6 + 0 ≤ _), (by decide : 121 + 0 ≤ _)⟩)
                  dsimp only [Pt.U, Pt.locs, Pt.cells, Pt.slots] at X34 l34 y34 z34 st34 hQ34
                  subst l34 y34 z34
                  obtain ⟨rfl, Nq34, e34⟩ := hQ34
                  have N34 := Fr.app N31 Nq34
                  refine OE.v (fun t k => st34.trans k) ?_
                  show OE _ _ _ _ (T34.setTop (mkF m 293 #[iv r1, iv r2, iv r3, iv fl, iv 0, iv 3, iv th, iv rvv, iv 1, rv b3, iv (sv - (0 : Int32)), iv 0, iv ((0 : Int32) + r3), iv (((0 : Int32) + r3) - r2), iv ((0 : Int32) + r3), iv 0, iv sv] [(.int ((0 : Int32) + (((0 : Int32) + r1) - (0 : Int32))))]))
                  refine OE.v (fun t k => XS.iload X34.here hx rfl (hb hby at_293) rfl k) ?_
                  show OE _ _ _ _ (T34.setTop (mkF m 295 #[iv r1, iv r2, iv r3, iv fl, iv 0, iv 3, iv th, iv rvv, iv 1, rv b3, iv (sv - (0 : Int32)), iv 0, iv ((0 : Int32) + r3), iv (((0 : Int32) + r3) - r2), iv ((0 : Int32) + r3), iv 0, iv sv] [(.int (sv - (0 : Int32))), (.int ((0 : Int32) + (((0 : Int32) + r1) - (0 : Int32))))]))
                  refine OE.v (fun t k => XS.icmpNo X34.here hx rfl (hb hby at_295) rfl (teq (by rw [hj31_0, enn_32, if_neg (by decide), if_pos rfl]; grind)).2 k) ?_
                  show OE _ _ _ _ (T34.setTop (mkF m 298 #[iv r1, iv r2, iv r3, iv fl, iv 0, iv 3, iv th, iv rvv, iv 1, rv b3, iv (sv - (0 : Int32)), iv 0, iv ((0 : Int32) + r3), iv (((0 : Int32) + r3) - r2), iv ((0 : Int32) + r3), iv 0, iv sv] []))
                  refine OE.v (fun t k => XS.iconst X34.here hx rfl (hb hby at_298) k) ?_
                  refine OE.v (fun t k => XS.goto X34.here hx rfl (pc0 := 299) (pc' := 303) rfl (hb hby at_299) (by decide) (by decide) k) ?_
                  show OE _ _ _ _ (T34.setTop (mkF m 303 #[iv r1, iv r2, iv r3, iv fl, iv 0, iv 3, iv th, iv rvv, iv 1, rv b3, iv (sv - (0 : Int32)), iv 0, iv ((0 : Int32) + r3), iv (((0 : Int32) + r3) - r2), iv ((0 : Int32) + r3), iv 0, iv sv] [(.int 1)]))
                  obtain ⟨fs, hr, hrun, hended, hW, hsame⟩ := X34.leave (v := some (.int 1)) (fun h => by rw [Bd.returns] at h; cases h)
                  refine ⟨_, _, ?_, hrun, hended, _, _, rfl, ?_, ⟨_, rfl⟩, hW, hsame.mono (by decide) (by decide)⟩
                  · exact retN X34 hx (t := .boolean) Bd.returns (by simp) (hb hby at_303) hr
                  · show Q0 Z r1 r2 r3 fl h0 n0 _ T34.heap _
                    rw [e34]
                    exact ⟨rfl, N34⟩
                ·
                  rw [enn_32]
                  refine OE.v (fun t k => XS.aload X31.here hx rfl (hb hby at_286) rfl rfl k) ?_
                  refine OE.v (fun t k => XS.iload X31.here hx rfl (hb hby at_288) rfl k) ?_
                  show OE _ _ _ _ (T31.setTop (mkF m 290 #[iv r1, iv r2, iv r3, iv fl, iv 0, iv 3, iv th, iv rvv, iv 2, rv b3, iv (sv - (0 : Int32)), iv 0, iv ((0 : Int32) + r3), iv (((0 : Int32) + r3) - r2), iv ((0 : Int32) + r3), iv 0, iv sv] [(.int 2), (.ref b3)]))
                  obtain ⟨cq35, kq35, q35a, q35b, q35c⟩ := isOf hZ e31 (((q8_0.keep Kq9).keep Kq10).keep Kq30)
                  obtain ⟨_, _, ⟨T35, L35, k35, n35⟩, -, X35, ⟨Lc35, hQ35, l35, y35, z35⟩, st35⟩ := X31.virtualBack hx (y := (⟨"com/example/stratal/stratal/logic/StratumGroups", "offset", "(I)I"⟩ : MethodName)) (z := (⟨"com/example/stratal/stratal/logic/StratumGroups", "offset", "(I)I"⟩ : MethodName)) hown (mvT hZ (hw _ (own_w 56 rfl))) (mvT hZ (hw _ (own_w 38 rfl))) (notFace_of_selects (args := #[]) (mvT hZ (hw _ (own_w 40 rfl)))) (mvT hZ (hw _ (own_w 40 rfl))) (mvT hZ (hw _ (own_w 39 rfl))) (by decide) (backOf (W := 0) (rmo2_0002 l Z a0 hw [] b3 rp_4 kp_4 ro_4 ko_4 (0 : Int32) (((0 : Int32) + r1) - (0 : Int32)) (((0 : Int32) + r3) - ((0 : Int32) + (((0 : Int32) + r2) - (0 : Int32)))) (((0 : Int32) + r2) - (0 : Int32)) h30 n0 Z30 (((q8_1.keep Kq9 (ninS (Ne.symm q4_11) (ninS (Ne.symm q4_12) (ninS (Ne.symm q4_13) (ninS (Ne.symm q4_14) nin0))))).keep Kq10 (ninS (Ne.symm q4_11) (ninS (Ne.symm q4_12) (ninS (Ne.symm q4_13) (ninS (Ne.symm q4_14) nin0))))).keep Kq30 (ninS (Ne.symm q4_11) (ninS (Ne.symm q4_12) (ninS (Ne.symm q4_13) (ninS (Ne.symm q4_14) nin0))))) q30_0 (((q8_2.keep Kq9 (ninS (Ne.symm q4_11) (ninS (Ne.symm q4_12) (ninS (Ne.symm q4_13) (ninS (Ne.symm q4_14) nin0))))).keep Kq10 (ninS (Ne.symm q4_11) (ninS (Ne.symm q4_12) (ninS (Ne.symm q4_13) (ninS (Ne.symm q4_14) nin0))))).keep Kq30 (ninS (Ne.symm q4_11) (ninS (Ne.symm q4_12) (ninS (Ne.symm q4_13) (ninS (Ne.symm q4_14) nin0))))) q30_1) hZ (hw _ (own_w 41 rfl)) (hw _ (own_w 2 rfl)) (by decide) (by decide)) q35a q35c (g := (mkF m 290 #[iv r1, iv r2, iv r3, iv fl, iv 0, iv 3, iv th, iv rvv, iv 2, rv b3, iv (sv - (0 : Int32)), iv 0, iv ((0 : Int32) + r3), iv (((0 : Int32) + r3) - r2), iv ((0 : Int32) + r3), iv 0, iv sv] [(.int 2), (.ref b3)])) rfl (by rw [hml]; rfl) (Steps.refl _) (argsL := [(.int 2)]) (rest := []) (lenOf pd_4 rfl) rfl (Nat.le_of_eq rfl) (hb hby at_290) (fun _ _ => ⟨rfl, e31, (by decide : 6 + 0 ≤ _), (by decide : 121 + 0 ≤ _)⟩)
                  dsimp only [Pt.U, Pt.locs, Pt.cells, Pt.slots] at X35 l35 y35 z35 st35 hQ35
                  subst l35 y35 z35
                  obtain ⟨rfl, Nq35, e35⟩ := hQ35
                  have N35 := Fr.app N31 Nq35
                  refine OE.v (fun t k => st35.trans k) ?_
                  show OE _ _ _ _ (T35.setTop (mkF m 293 #[iv r1, iv r2, iv r3, iv fl, iv 0, iv 3, iv th, iv rvv, iv 2, rv b3, iv (sv - (0 : Int32)), iv 0, iv ((0 : Int32) + r3), iv (((0 : Int32) + r3) - r2), iv ((0 : Int32) + r3), iv 0, iv sv] [(.int ((0 : Int32) + (((0 : Int32) + r3) - ((0 : Int32) + (((0 : Int32) + r2) - (0 : Int32))))))]))
                  refine OE.v (fun t k => XS.iload X35.here hx rfl (hb hby at_293) rfl k) ?_
                  show OE _ _ _ _ (T35.setTop (mkF m 295 #[iv r1, iv r2, iv r3, iv fl, iv 0, iv 3, iv th, iv rvv, iv 2, rv b3, iv (sv - (0 : Int32)), iv 0, iv ((0 : Int32) + r3), iv (((0 : Int32) + r3) - r2), iv ((0 : Int32) + r3), iv 0, iv sv] [(.int (sv - (0 : Int32))), (.int ((0 : Int32) + (((0 : Int32) + r3) - ((0 : Int32) + (((0 : Int32) + r2) - (0 : Int32))))))]))
                  refine OE.v (fun t k => XS.icmpNo X35.here hx rfl (hb hby at_295) rfl (teq (by rw [hj31_0, enn_32, if_neg (by decide), if_neg (by decide), if_pos rfl]; grind)).2 k) ?_
                  show OE _ _ _ _ (T35.setTop (mkF m 298 #[iv r1, iv r2, iv r3, iv fl, iv 0, iv 3, iv th, iv rvv, iv 2, rv b3, iv (sv - (0 : Int32)), iv 0, iv ((0 : Int32) + r3), iv (((0 : Int32) + r3) - r2), iv ((0 : Int32) + r3), iv 0, iv sv] []))
                  refine OE.v (fun t k => XS.iconst X35.here hx rfl (hb hby at_298) k) ?_
                  refine OE.v (fun t k => XS.goto X35.here hx rfl (pc0 := 299) (pc' := 303) rfl (hb hby at_299) (by decide) (by decide) k) ?_
                  show OE _ _ _ _ (T35.setTop (mkF m 303 #[iv r1, iv r2, iv r3, iv fl, iv 0, iv 3, iv th, iv rvv, iv 2, rv b3, iv (sv - (0 : Int32)), iv 0, iv ((0 : Int32) + r3), iv (((0 : Int32) + r3) - r2), iv ((0 : Int32) + r3), iv 0, iv sv] [(.int 1)]))
                  obtain ⟨fs, hr, hrun, hended, hW, hsame⟩ := X35.leave (v := some (.int 1)) (fun h => by rw [Bd.returns] at h; cases h)
                  refine ⟨_, _, ?_, hrun, hended, _, _, rfl, ?_, ⟨_, rfl⟩, hW, hsame.mono (by decide) (by decide)⟩
                  · exact retN X35 hx (t := .boolean) Bd.returns (by simp) (hb hby at_303) hr
                  · show Q0 Z r1 r2 r3 fl h0 n0 _ T35.heap _
                    rw [e35]
                    exact ⟨rfl, N35⟩
                ·
                  rw [enn_32]
                  refine OE.v (fun t k => XS.aload X31.here hx rfl (hb hby at_286) rfl rfl k) ?_
                  refine OE.v (fun t k => XS.iload X31.here hx rfl (hb hby at_288) rfl k) ?_
                  show OE _ _ _ _ (T31.setTop (mkF m 290 #[iv r1, iv r2, iv r3, iv fl, iv 0, iv 3, iv th, iv rvv, iv 3, rv b3, iv (sv - (0 : Int32)), iv 0, iv ((0 : Int32) + r3), iv (((0 : Int32) + r3) - r2), iv ((0 : Int32) + r3), iv 0, iv sv] [(.int 3), (.ref b3)]))
                  obtain ⟨cq36, kq36, q36a, q36b, q36c⟩ := isOf hZ e31 (((q8_0.keep Kq9).keep Kq10).keep Kq30)
                  obtain ⟨_, _, ⟨T36, L36, k36, n36⟩, -, X36, ⟨Lc36, hQ36, l36, y36, z36⟩, st36⟩ := X31.virtualBack hx (y := (⟨"com/example/stratal/stratal/logic/StratumGroups", "offset", "(I)I"⟩ : MethodName)) (z := (⟨"com/example/stratal/stratal/logic/StratumGroups", "offset", "(I)I"⟩ : MethodName)) hown (mvT hZ (hw _ (own_w 56 rfl))) (mvT hZ (hw _ (own_w 38 rfl))) (notFace_of_selects (args := #[]) (mvT hZ (hw _ (own_w 40 rfl)))) (mvT hZ (hw _ (own_w 40 rfl))) (mvT hZ (hw _ (own_w 39 rfl))) (by decide) (backOf (W := 0) (rmo3_0002 l Z a0 hw [] b3 rp_4 kp_4 ro_4 ko_4 (0 : Int32) (((0 : Int32) + r1) - (0 : Int32)) (((0 : Int32) + r3) - ((0 : Int32) + (((0 : Int32) + r2) - (0 : Int32)))) (((0 : Int32) + r2) - (0 : Int32)) h30 n0 Z30 (((q8_1.keep Kq9 (ninS (Ne.symm q4_11) (ninS (Ne.symm q4_12) (ninS (Ne.symm q4_13) (ninS (Ne.symm q4_14) nin0))))).keep Kq10 (ninS (Ne.symm q4_11) (ninS (Ne.symm q4_12) (ninS (Ne.symm q4_13) (ninS (Ne.symm q4_14) nin0))))).keep Kq30 (ninS (Ne.symm q4_11) (ninS (Ne.symm q4_12) (ninS (Ne.symm q4_13) (ninS (Ne.symm q4_14) nin0))))) q30_0 (((q8_2.keep Kq9 (ninS (Ne.symm q4_11) (ninS (Ne.symm q4_12) (ninS (Ne.symm q4_13) (ninS (Ne.symm q4_14) nin0))))).keep Kq10 (ninS (Ne.symm q4_11) (ninS (Ne.symm q4_12) (ninS (Ne.symm q4_13) (ninS (Ne.symm q4_14) nin0))))).keep Kq30 (ninS (Ne.symm q4_11) (ninS (Ne.symm q4_12) (ninS (Ne.symm q4_13) (ninS (Ne.symm q4_14) nin0))))) q30_1) hZ (hw _ (own_w 41 rfl)) (hw _ (own_w 2 rfl)) (by decide) (by decide)) q36a q36c (g := (mkF m 290 #[iv r1, iv r2, iv r3, iv fl, iv 0, iv 3, iv th, iv rvv, iv 3, rv b3, iv (sv - (0 : Int32)), iv 0, iv ((0 : Int32) + r3), iv (((0 : Int32) + r3) - r2), iv ((0 : Int32) + r3), iv 0, iv sv] [(.int 3), (.ref b3)])) rfl (by rw [hml]; rfl) (Steps.refl _) (argsL := [(.int 3)]) (rest := []) (lenOf pd_4 rfl) rfl (Nat.le_of_eq rfl) (hb hby at_290) (fun _ _ => ⟨rfl, e31, (by decide : 6 + 0 ≤ _), (by decide : 121 + 0 ≤ _)⟩)
                  dsimp only [Pt.U, Pt.locs, Pt.cells, Pt.slots] at X36 l36 y36 z36 st36 hQ36
                  subst l36 y36 z36
                  obtain ⟨rfl, Nq36, e36⟩ := hQ36
                  have N36 := Fr.app N31 Nq36
                  refine OE.v (fun t k => st36.trans k) ?_
                  show OE _ _ _ _ (T36.setTop (mkF m 293 #[iv r1, iv r2, iv r3, iv fl, iv 0, iv 3, iv th, iv rvv, iv 3, rv b3, iv (sv - (0 : Int32)), iv 0, iv ((0 : Int32) + r3), iv (((0 : Int32) + r3) - r2), iv ((0 : Int32) + r3), iv 0, iv sv] [(.int (((0 : Int32) + (((0 : Int32) + r2) - (0 : Int32))) + (((0 : Int32) + r3) - ((0 : Int32) + (((0 : Int32) + r2) - (0 : Int32))))))]))
                  refine OE.v (fun t k => XS.iload X36.here hx rfl (hb hby at_293) rfl k) ?_
                  show OE _ _ _ _ (T36.setTop (mkF m 295 #[iv r1, iv r2, iv r3, iv fl, iv 0, iv 3, iv th, iv rvv, iv 3, rv b3, iv (sv - (0 : Int32)), iv 0, iv ((0 : Int32) + r3), iv (((0 : Int32) + r3) - r2), iv ((0 : Int32) + r3), iv 0, iv sv] [(.int (sv - (0 : Int32))), (.int (((0 : Int32) + (((0 : Int32) + r2) - (0 : Int32))) + (((0 : Int32) + r3) - ((0 : Int32) + (((0 : Int32) + r2) - (0 : Int32))))))]))
                  refine OE.v (fun t k => XS.icmpNo X36.here hx rfl (hb hby at_295) rfl (teq (by rw [hj31_0, enn_32, if_neg (by decide), if_neg (by decide), if_neg (by decide)]; grind)).2 k) ?_
                  show OE _ _ _ _ (T36.setTop (mkF m 298 #[iv r1, iv r2, iv r3, iv fl, iv 0, iv 3, iv th, iv rvv, iv 3, rv b3, iv (sv - (0 : Int32)), iv 0, iv ((0 : Int32) + r3), iv (((0 : Int32) + r3) - r2), iv ((0 : Int32) + r3), iv 0, iv sv] []))
                  refine OE.v (fun t k => XS.iconst X36.here hx rfl (hb hby at_298) k) ?_
                  refine OE.v (fun t k => XS.goto X36.here hx rfl (pc0 := 299) (pc' := 303) rfl (hb hby at_299) (by decide) (by decide) k) ?_
                  show OE _ _ _ _ (T36.setTop (mkF m 303 #[iv r1, iv r2, iv r3, iv fl, iv 0, iv 3, iv th, iv rvv, iv 3, rv b3, iv (sv - (0 : Int32)), iv 0, iv ((0 : Int32) + r3), iv (((0 : Int32) + r3) - r2), iv ((0 : Int32) + r3), iv 0, iv sv] [(.int 1)]))
                  obtain ⟨fs, hr, hrun, hended, hW, hsame⟩ := X36.leave (v := some (.int 1)) (fun h => by rw [Bd.returns] at h; cases h)
                  refine ⟨_, _, ?_, hrun, hended, _, _, rfl, ?_, ⟨_, rfl⟩, hW, hsame.mono (by decide) (by decide)⟩
                  · exact retN X36 hx (t := .boolean) Bd.returns (by simp) (hb hby at_303) hr
                  · show Q0 Z r1 r2 r3 fl h0 n0 _ T36.heap _
                    rw [e36]
                    exact ⟨rfl, N36⟩
              intro J31
              by_cases hc241_37 : nn = (0 : Int32)
              ·
                refine OE.v (fun t k => XS.ifNo X30.here hx rfl (hb hby at_241) rfl ((if0 _ _).trans (teq hc241_37).2) k) ?_
                show OE _ _ _ _ (T30.setTop (mkF m 244 #[iv r1, iv r2, iv r3, iv fl, iv 0, iv 3, iv th, iv rvv, iv nn, rv b3, .unset, iv 0, iv ((0 : Int32) + r3), iv (((0 : Int32) + r3) - r2), iv ((0 : Int32) + r3), iv 0, .unset] []))
                refine OE.v (fun t k => XS.iconst X30.here hx rfl (hb hby at_244) k) ?_
                refine OE.v (fun t k => XS.istore X30.here hx rfl (hb hby at_245) rfl (l' := #[iv r1, iv r2, iv r3, iv fl, iv 0, iv 3, iv th, iv rvv, iv nn, rv b3, .unset, iv 0, iv ((0 : Int32) + r3), iv (((0 : Int32) + r3) - r2), iv ((0 : Int32) + r3), iv 0, iv 0]) rfl k) ?_
                refine OE.v (fun t k => XS.goto X30.here hx rfl (pc0 := 247) (pc' := 279) rfl (hb hby at_247) (by decide) (by decide) k) ?_
                exact J31 _ _ X30 e30 N30 (0 : Int32) (by rw [if_pos hc241_37])
              ·
                refine OE.v (fun t k => XS.ifYes X30.here hx rfl (pc0 := 241) (pc' := 250) rfl (hb hby at_241) rfl ((if0 _ _).trans (feq hc241_37).2) (by decide) (by decide) k) ?_
                show OE _ _ _ _ (T30.setTop (mkF m 250 #[iv r1, iv r2, iv r3, iv fl, iv 0, iv 3, iv th, iv rvv, iv nn, rv b3, .unset, iv 0, iv ((0 : Int32) + r3), iv (((0 : Int32) + r3) - r2), iv ((0 : Int32) + r3), iv 0, .unset] []))
                refine OE.v (fun t k => XS.iload X30.here hx rfl (hb hby at_250) rfl k) ?_
                refine OE.v (fun t k => XS.iconst X30.here hx rfl (hb hby at_252) k) ?_
                show OE _ _ _ _ (T30.setTop (mkF m 253 #[iv r1, iv r2, iv r3, iv fl, iv 0, iv 3, iv th, iv rvv, iv nn, rv b3, .unset, iv 0, iv ((0 : Int32) + r3), iv (((0 : Int32) + r3) - r2), iv ((0 : Int32) + r3), iv 0, .unset] [(.int 1), (.int nn)]))
                by_cases hc253_38 : nn = (1 : Int32)
                ·
                  refine OE.v (fun t k => XS.icmpNo X30.here hx rfl (hb hby at_253) rfl (teq hc253_38).2 k) ?_
                  show OE _ _ _ _ (T30.setTop (mkF m 256 #[iv r1, iv r2, iv r3, iv fl, iv 0, iv 3, iv th, iv rvv, iv nn, rv b3, .unset, iv 0, iv ((0 : Int32) + r3), iv (((0 : Int32) + r3) - r2), iv ((0 : Int32) + r3), iv 0, .unset] []))
                  refine OE.v (fun t k => XS.iloadN X30.here hx rfl (hb hby at_256) rfl k) ?_
                  refine OE.v (fun t k => XS.istore X30.here hx rfl (hb hby at_257) rfl (l' := #[iv r1, iv r2, iv r3, iv fl, iv 0, iv 3, iv th, iv rvv, iv nn, rv b3, .unset, iv 0, iv ((0 : Int32) + r3), iv (((0 : Int32) + r3) - r2), iv ((0 : Int32) + r3), iv 0, iv r1]) rfl k) ?_
                  refine OE.v (fun t k => XS.goto X30.here hx rfl (pc0 := 259) (pc' := 279) rfl (hb hby at_259) (by decide) (by decide) k) ?_
                  exact J31 _ _ X30 e30 N30 r1 (by rw [if_neg hc241_37, if_pos hc253_38])
                ·
                  refine OE.v (fun t k => XS.icmpYes X30.here hx rfl (pc0 := 253) (pc' := 262) rfl (hb hby at_253) rfl (feq hc253_38).2 (by decide) (by decide) k) ?_
                  show OE _ _ _ _ (T30.setTop (mkF m 262 #[iv r1, iv r2, iv r3, iv fl, iv 0, iv 3, iv th, iv rvv, iv nn, rv b3, .unset, iv 0, iv ((0 : Int32) + r3), iv (((0 : Int32) + r3) - r2), iv ((0 : Int32) + r3), iv 0, .unset] []))
                  refine OE.v (fun t k => XS.iload X30.here hx rfl (hb hby at_262) rfl k) ?_
                  refine OE.v (fun t k => XS.iconst X30.here hx rfl (hb hby at_264) k) ?_
                  show OE _ _ _ _ (T30.setTop (mkF m 265 #[iv r1, iv r2, iv r3, iv fl, iv 0, iv 3, iv th, iv rvv, iv nn, rv b3, .unset, iv 0, iv ((0 : Int32) + r3), iv (((0 : Int32) + r3) - r2), iv ((0 : Int32) + r3), iv 0, .unset] [(.int 2), (.int nn)]))
                  by_cases hc265_39 : nn = (2 : Int32)
                  ·
                    refine OE.v (fun t k => XS.icmpNo X30.here hx rfl (hb hby at_265) rfl (teq hc265_39).2 k) ?_
                    show OE _ _ _ _ (T30.setTop (mkF m 268 #[iv r1, iv r2, iv r3, iv fl, iv 0, iv 3, iv th, iv rvv, iv nn, rv b3, .unset, iv 0, iv ((0 : Int32) + r3), iv (((0 : Int32) + r3) - r2), iv ((0 : Int32) + r3), iv 0, .unset] []))
                    refine OE.v (fun t k => XS.iload X30.here hx rfl (hb hby at_268) rfl k) ?_
                    refine OE.v (fun t k => XS.istore X30.here hx rfl (hb hby at_270) rfl (l' := #[iv r1, iv r2, iv r3, iv fl, iv 0, iv 3, iv th, iv rvv, iv nn, rv b3, .unset, iv 0, iv ((0 : Int32) + r3), iv (((0 : Int32) + r3) - r2), iv ((0 : Int32) + r3), iv 0, iv (((0 : Int32) + r3) - r2)]) rfl k) ?_
                    refine OE.v (fun t k => XS.goto X30.here hx rfl (pc0 := 272) (pc' := 279) rfl (hb hby at_272) (by decide) (by decide) k) ?_
                    exact J31 _ _ X30 e30 N30 (((0 : Int32) + r3) - r2) (by rw [if_neg hc241_37, if_neg hc253_38, if_pos hc265_39])
                  ·
                    refine OE.v (fun t k => XS.icmpYes X30.here hx rfl (pc0 := 265) (pc' := 275) rfl (hb hby at_265) rfl (feq hc265_39).2 (by decide) (by decide) k) ?_
                    show OE _ _ _ _ (T30.setTop (mkF m 275 #[iv r1, iv r2, iv r3, iv fl, iv 0, iv 3, iv th, iv rvv, iv nn, rv b3, .unset, iv 0, iv ((0 : Int32) + r3), iv (((0 : Int32) + r3) - r2), iv ((0 : Int32) + r3), iv 0, .unset] []))
                    refine OE.v (fun t k => XS.iload X30.here hx rfl (hb hby at_275) rfl k) ?_
                    refine OE.v (fun t k => XS.istore X30.here hx rfl (hb hby at_277) rfl (l' := #[iv r1, iv r2, iv r3, iv fl, iv 0, iv 3, iv th, iv rvv, iv nn, rv b3, .unset, iv 0, iv ((0 : Int32) + r3), iv (((0 : Int32) + r3) - r2), iv ((0 : Int32) + r3), iv 0, iv ((0 : Int32) + r3)]) rfl k) ?_
                    exact J31 _ _ X30 e30 N30 ((0 : Int32) + r3) (by rw [if_neg hc241_37, if_neg hc253_38, if_neg hc265_39])
          ·
            rw [ena_18]
            show OE _ _ _ _ (T10.setTop (mkF m 156 #[iv r1, iv r2, iv r3, iv fl, iv 1, iv nb, iv th, iv rvv, iv nn, rv b3, .unset, .unset, .unset, .unset, .unset, .unset, .unset] []))
            rcases c_nb with enb_40 | enb_40
            ·
              rw [enb_40]
              show OE _ _ _ _ (T10.setTop (mkF m 156 #[iv r1, iv r2, iv r3, iv fl, iv 1, iv 2, iv th, iv rvv, iv nn, rv b3, .unset, .unset, .unset, .unset, .unset, .unset, .unset] []))
              refine OE.v (fun t k => XS.aload X10.here hx rfl (hb hby at_156) rfl rfl k) ?_
              refine OE.v (fun t k => XS.iload X10.here hx rfl (hb hby at_158) rfl k) ?_
              refine OE.v (fun t k => XS.iload X10.here hx rfl (hb hby at_160) rfl k) ?_
              refine OE.v (fun t k => XS.iloadN X10.here hx rfl (hb hby at_162) rfl k) ?_
              show OE _ _ _ _ (T10.setTop (mkF m 163 #[iv r1, iv r2, iv r3, iv fl, iv 1, iv 2, iv th, iv rvv, iv nn, rv b3, .unset, .unset, .unset, .unset, .unset, .unset, .unset] [(.int r3), (.int 2), (.int 1), (.ref b3)]))
              obtain ⟨cq41, kq41, q41a, q41b, q41c⟩ := isOf hZ e10 ((q8_0.keep Kq9).keep Kq10)
              obtain ⟨_, _, ⟨T41, L41, k41, n41⟩, -, X41, ⟨Lc41, hQ41, l41, y41, z41⟩, st41⟩ := X10.virtualBack hx (y := (⟨"com/example/stratal/stratal/logic/StratumGroups", "join", "(III)I"⟩ : MethodName)) (z := (⟨"com/example/stratal/stratal/logic/StratumGroups", "join", "(III)I"⟩ : MethodName)) hown (mvT hZ (hw _ (own_w 27 rfl))) (mvT hZ (hw _ (own_w 28 rfl))) (notFace_of_selects (args := #[]) (mvT hZ (hw _ (own_w 30 rfl)))) (mvT hZ (hw _ (own_w 30 rfl))) (mvT hZ (hw _ (own_w 29 rfl))) (by decide) (backOf (W := 0) (rmJ12_0022 l Z a0 hw [] b3 rp_4 ro_4 rs_4 rf_4 kp_4 ko_4 ks_4 kf_4 (0 : Int32) (((0 : Int32) + r1) - (0 : Int32)) (0 : Int32) (((0 : Int32) + r2) - (0 : Int32)) (own_max (0 : Int32) ((0 : Int32) - (((0 : Int32) + r1) - (0 : Int32)))) (0 : Int32) (own_max (0 : Int32) ((0 : Int32) - (((0 : Int32) + r2) - (0 : Int32)))) (0 : Int32) r3 h10 n0 Z10 ((q8_0.keep Kq9).keep Kq10) ((q8_1.keep Kq9 (ninS (Ne.symm q4_11) (ninS (Ne.symm q4_12) (ninS (Ne.symm q4_13) (ninS (Ne.symm q4_14) nin0))))).keep Kq10 (ninS (Ne.symm q4_11) (ninS (Ne.symm q4_12) (ninS (Ne.symm q4_13) (ninS (Ne.symm q4_14) nin0))))) ((q8_2.keep Kq9 (ninS (Ne.symm q4_11) (ninS (Ne.symm q4_12) (ninS (Ne.symm q4_13) (ninS (Ne.symm q4_14) nin0))))).keep Kq10 (ninS (Ne.symm q4_11) (ninS (Ne.symm q4_12) (ninS (Ne.symm q4_13) (ninS (Ne.symm q4_14) nin0))))) ((q8_3.keep Kq9 (ninS (Ne.symm q4_11) (ninS (Ne.symm q4_12) (ninS (Ne.symm q4_13) (ninS (Ne.symm q4_14) nin0))))).keep Kq10 (ninS (Ne.symm q4_11) (ninS (Ne.symm q4_12) (ninS (Ne.symm q4_13) (ninS (Ne.symm q4_14) nin0))))) ((q8_4.keep Kq9 (ninS (Ne.symm q4_11) (ninS (Ne.symm q4_12) (ninS (Ne.symm q4_13) (ninS (Ne.symm q4_14) nin0))))).keep Kq10 (ninS (Ne.symm q4_11) (ninS (Ne.symm q4_12) (ninS (Ne.symm q4_13) (ninS (Ne.symm q4_14) nin0))))) ((q8_10.keep Kq9 (ninS (Ne.symm q4_11) (ninS (Ne.symm q4_12) (ninS (Ne.symm q4_13) (ninS (Ne.symm q4_14) nin0))))).keep Kq10 (ninS (Ne.symm q4_11) (ninS (Ne.symm q4_12) (ninS (Ne.symm q4_13) (ninS (Ne.symm q4_14) nin0))))) q10_0 q10_1 q10_2 q10_3 q4_11 q4_12 q4_13 q4_14 q4_15 q4_16 q4_17 q4_18 q4_19 q4_20 q4_21 q4_22 q4_23 q4_24) hZ (hw _ (own_w 31 rfl)) (hw _ (own_w 2 rfl)) (by decide) (by decide)) q41a q41c (g := (mkF m 163 #[iv r1, iv r2, iv r3, iv fl, iv 1, iv 2, iv th, iv rvv, iv nn, rv b3, .unset, .unset, .unset, .unset, .unset, .unset, .unset] [(.int r3), (.int 2), (.int 1), (.ref b3)])) rfl (by rw [hml]; rfl) (Steps.refl _) (argsL := [(.int 1), (.int 2), (.int r3)]) (rest := []) (lenOf pd_5 rfl) rfl (Nat.le_of_eq rfl) (hb hby at_163) (fun _ _ => ⟨rfl, e10, (by decide : 6 + 0 ≤ _), (by decide : 121 + 0 ≤ _)⟩)
              dsimp only [Pt.U, Pt.locs, Pt.cells, Pt.slots] at X41 l41 y41 z41 st41 hQ41
              subst l41 y41 z41
              obtain ⟨h41, e41⟩ : ∃ z, T41.heap = z := ⟨_, rfl⟩
              rw [e41] at hQ41
              obtain ⟨rfl, Nq41, Kq41, q41_0, q41_1, q41_2, q41_3⟩ := hQ41
              have Z41 : n0 ≤ h41.size := Nat.le_trans Z10 Kq41.1
              have N41 := Fr.app N10 Nq41
              refine OE.v (fun t k => st41.trans k) ?_
              show OE _ _ _ _ (T41.setTop (mkF m 166 #[iv r1, iv r2, iv r3, iv fl, iv 1, iv 2, iv th, iv rvv, iv nn, rv b3, .unset, .unset, .unset, .unset, .unset, .unset, .unset] [(.int 2)]))
              refine OE.v (fun t k => XS.pop X41.here hx rfl (hb hby at_166) rfl rfl k) ?_
              refine OE.v (fun t k => XS.iload X41.here hx rfl (hb hby at_167) rfl k) ?_
              show OE _ _ _ _ (T41.setTop (mkF m 169 #[iv r1, iv r2, iv r3, iv fl, iv 1, iv 2, iv th, iv rvv, iv nn, rv b3, .unset, .unset, .unset, .unset, .unset, .unset, .unset] [(.int 1)]))
              refine OE.v (fun t k => XS.ifYes X41.here hx rfl (pc0 := 169) (pc' := 176) rfl (hb hby at_169) rfl ((if0 _ _).trans (feq (by decide)).2) (by decide) (by decide) k) ?_
              show OE _ _ _ _ (T41.setTop (mkF m 176 #[iv r1, iv r2, iv r3, iv fl, iv 1, iv 2, iv th, iv rvv, iv nn, rv b3, .unset, .unset, .unset, .unset, .unset, .unset, .unset] []))
              refine OE.v (fun t k => XS.iloadN X41.here hx rfl (hb hby at_176) rfl k) ?_
              refine OE.v (fun t k => XS.istore X41.here hx rfl (hb hby at_177) rfl (l' := #[iv r1, iv r2, iv r3, iv fl, iv 1, iv 2, iv th, iv rvv, iv nn, rv b3, .unset, iv r1, .unset, .unset, .unset, .unset, .unset]) rfl k) ?_
              refine OE.v (fun t k => XS.iload X41.here hx rfl (hb hby at_179) rfl k) ?_
              show OE _ _ _ _ (T41.setTop (mkF m 181 #[iv r1, iv r2, iv r3, iv fl, iv 1, iv 2, iv th, iv rvv, iv nn, rv b3, .unset, iv r1, .unset, .unset, .unset, .unset, .unset] [(.int rvv)]))
              refine OE.v (fun t k => XS.ifYes X41.here hx rfl (pc0 := 181) (pc' := 191) rfl (hb hby at_181) rfl ((if0 _ _).trans (teq hc139_17).1) (by decide) (by decide) k) ?_
              show OE _ _ _ _ (T41.setTop (mkF m 191 #[iv r1, iv r2, iv r3, iv fl, iv 1, iv 2, iv th, iv rvv, iv nn, rv b3, .unset, iv r1, .unset, .unset, .unset, .unset, .unset] []))
              refine OE.v (fun t k => XS.iload X41.here hx rfl (hb hby at_191) rfl k) ?_
              refine OE.v (fun t k => XS.iloadN X41.here hx rfl (hb hby at_193) rfl k) ?_
              refine OE.v (fun t k => XS.iadd X41.here hx rfl (hb hby at_194) rfl k) ?_
              refine OE.v (fun t k => XS.istore X41.here hx rfl (hb hby at_195) rfl (l' := #[iv r1, iv r2, iv r3, iv fl, iv 1, iv 2, iv th, iv rvv, iv nn, rv b3, .unset, iv r1, iv (r1 + r3), .unset, .unset, .unset, .unset]) rfl k) ?_
              refine OE.v (fun t k => XS.iload X41.here hx rfl (hb hby at_197) rfl k) ?_
              refine OE.v (fun t k => XS.iconst X41.here hx rfl (hb hby at_199) k) ?_
              show OE _ _ _ _ (T41.setTop (mkF m 200 #[iv r1, iv r2, iv r3, iv fl, iv 1, iv 2, iv th, iv rvv, iv nn, rv b3, .unset, iv r1, iv (r1 + r3), .unset, .unset, .unset, .unset] [(.int 2), (.int 2)]))
              refine OE.v (fun t k => XS.icmpNo X41.here hx rfl (hb hby at_200) rfl (teq (by decide)).2 k) ?_
              show OE _ _ _ _ (T41.setTop (mkF m 203 #[iv r1, iv r2, iv r3, iv fl, iv 1, iv 2, iv th, iv rvv, iv nn, rv b3, .unset, iv r1, iv (r1 + r3), .unset, .unset, .unset, .unset] []))
              refine OE.v (fun t k => XS.iload X41.here hx rfl (hb hby at_203) rfl k) ?_
              refine OE.v (fun t k => XS.istore X41.here hx rfl (hb hby at_205) rfl (l' := #[iv r1, iv r2, iv r3, iv fl, iv 1, iv 2, iv th, iv rvv, iv nn, rv b3, .unset, iv r1, iv (r1 + r3), iv (r1 + r3), .unset, .unset, .unset]) rfl k) ?_
              refine OE.v (fun t k => XS.iload X41.here hx rfl (hb hby at_207) rfl k) ?_
              refine OE.v (fun t k => XS.iloadN X41.here hx rfl (hb hby at_209) rfl k) ?_
              refine OE.v (fun t k => XS.iadd X41.here hx rfl (hb hby at_210) rfl k) ?_
              refine OE.v (fun t k => XS.istore X41.here hx rfl (hb hby at_211) rfl (l' := #[iv r1, iv r2, iv r3, iv fl, iv 1, iv 2, iv th, iv rvv, iv nn, rv b3, .unset, iv r1, iv (r1 + r3), iv (r1 + r3), iv ((r1 + r3) + r2), .unset, .unset]) rfl k) ?_
              show OE _ _ _ _ (T41.setTop (mkF m 213 #[iv r1, iv r2, iv r3, iv fl, iv 1, iv 2, iv th, iv rvv, iv nn, rv b3, .unset, iv r1, iv (r1 + r3), iv (r1 + r3), iv ((r1 + r3) + r2), .unset, .unset] []))
              refine OE.v (fun t k => XS.goto X41.here hx rfl (pc0 := 213) (pc' := 226) rfl (hb hby at_213) (by decide) (by decide) k) ?_
              refine OE.v (fun t k => XS.iload X41.here hx rfl (hb hby at_226) rfl k) ?_
              show OE _ _ _ _ (T41.setTop (mkF m 228 #[iv r1, iv r2, iv r3, iv fl, iv 1, iv 2, iv th, iv rvv, iv nn, rv b3, .unset, iv r1, iv (r1 + r3), iv (r1 + r3), iv ((r1 + r3) + r2), .unset, .unset] [(.int rvv)]))
              refine OE.v (fun t k => XS.ifYes X41.here hx rfl (pc0 := 228) (pc' := 236) rfl (hb hby at_228) rfl ((if0 _ _).trans (teq hc139_17).1) (by decide) (by decide) k) ?_
              show OE _ _ _ _ (T41.setTop (mkF m 236 #[iv r1, iv r2, iv r3, iv fl, iv 1, iv 2, iv th, iv rvv, iv nn, rv b3, .unset, iv r1, iv (r1 + r3), iv (r1 + r3), iv ((r1 + r3) + r2), .unset, .unset] []))
              refine OE.v (fun t k => XS.iconst X41.here hx rfl (hb hby at_236) k) ?_
              refine OE.v (fun t k => XS.istore X41.here hx rfl (hb hby at_237) rfl (l' := #[iv r1, iv r2, iv r3, iv fl, iv 1, iv 2, iv th, iv rvv, iv nn, rv b3, .unset, iv r1, iv (r1 + r3), iv (r1 + r3), iv ((r1 + r3) + r2), iv 0, .unset]) rfl k) ?_
              refine OE.v (fun t k => XS.iload X41.here hx rfl (hb hby at_239) rfl k) ?_
              show OE _ _ _ _ (T41.setTop (mkF m 241 #[iv r1, iv r2, iv r3, iv fl, iv 1, iv 2, iv th, iv rvv, iv nn, rv b3, .unset, iv r1, iv (r1 + r3), iv (r1 + r3), iv ((r1 + r3) + r2), iv 0, .unset] [(.int nn)]))
              refine OE.cut (fun G => ∀ (T42 : State) (lc42 : List Loc) (X42 : Stand p l e room_1 s m #[(.int r1), (.int r2), (.int r3), (.int fl)] below meth c T42 lc42 6 121) (e42 : T42.heap = h41) (N42 : Fr n0 lc42) (sv : Int32) (hj42_0 : sv = if nn = (0 : Int32) then (0 : Int32) else if nn = (1 : Int32) then r1 else if nn = (2 : Int32) then (r1 + r3) else ((r1 + r3) + r2)), G (T42.setTop (mkF m 279 #[iv r1, iv r2, iv r3, iv fl, iv 1, iv 2, iv th, iv rvv, iv nn, rv b3, .unset, iv r1, iv (r1 + r3), iv (r1 + r3), iv ((r1 + r3) + r2), iv 0, iv sv] []))) ?_ ?_
              · intro T42 lc42 X42 e42 N42 sv hj42_0
                show OE _ _ _ _ (T42.setTop (mkF m 279 #[iv r1, iv r2, iv r3, iv fl, iv 1, iv 2, iv th, iv rvv, iv nn, rv b3, .unset, iv r1, iv (r1 + r3), iv (r1 + r3), iv ((r1 + r3) + r2), iv 0, iv sv] []))
                refine OE.v (fun t k => XS.iload X42.here hx rfl (hb hby at_279) rfl k) ?_
                refine OE.v (fun t k => XS.iload X42.here hx rfl (hb hby at_281) rfl k) ?_
                refine OE.v (fun t k => XS.isub X42.here hx rfl (hb hby at_283) rfl k) ?_
                refine OE.v (fun t k => XS.istore X42.here hx rfl (hb hby at_284) rfl (l' := #[iv r1, iv r2, iv r3, iv fl, iv 1, iv 2, iv th, iv rvv, iv nn, rv b3, iv (sv - (0 : Int32)), iv r1, iv (r1 + r3), iv (r1 + r3), iv ((r1 + r3) + r2), iv 0, iv sv]) rfl k) ?_
                show OE _ _ _ _ (T42.setTop (mkF m 286 #[iv r1, iv r2, iv r3, iv fl, iv 1, iv 2, iv th, iv rvv, iv nn, rv b3, iv (sv - (0 : Int32)), iv r1, iv (r1 + r3), iv (r1 + r3), iv ((r1 + r3) + r2), iv 0, iv sv] []))
                rcases c_nn with enn_43 | enn_43 | enn_43 | enn_43
                ·
                  rw [enn_43]
                  refine OE.v (fun t k => XS.aload X42.here hx rfl (hb hby at_286) rfl rfl k) ?_
                  refine OE.v (fun t k => XS.iload X42.here hx rfl (hb hby at_288) rfl k) ?_
                  show OE _ _ _ _ (T42.setTop (mkF m 290 #[iv r1, iv r2, iv r3, iv fl, iv 1, iv 2, iv th, iv rvv, iv 0, rv b3, iv (sv - (0 : Int32)), iv r1, iv (r1 + r3), iv (r1 + r3), iv ((r1 + r3) + r2), iv 0, iv sv] [(.int 0), (.ref b3)]))
                  obtain ⟨cq44, kq44, q44a, q44b, q44c⟩ := isOf hZ e42 (((q8_0.keep Kq9).keep Kq10).keep Kq41)
                  obtain ⟨_, _, ⟨T44, L44, k44, n44⟩, -, X44, ⟨Lc44, hQ44, l44, y44, z44⟩, st44⟩ := X42.virtualBack hx (y := (⟨"com/example/stratal/stratal/logic/StratumGroups", "offset", "(I)I"⟩ : MethodName)) (z := (⟨"com/example/stratal/stratal/logic/StratumGroups", "offset", "(I)I"⟩ : MethodName)) hown (mvT hZ (hw _ (own_w 56 rfl))) (mvT hZ (hw _ (own_w 38 rfl))) (notFace_of_selects (args := #[]) (mvT hZ (hw _ (own_w 40 rfl)))) (mvT hZ (hw _ (own_w 40 rfl))) (mvT hZ (hw _ (own_w 39 rfl))) (by decide) (backOf (W := 0) (rmo0_0002 l Z a0 hw [] b3 rp_4 kp_4 ro_4 ko_4 (0 : Int32) (((0 : Int32) + r1) - (0 : Int32)) ((((0 : Int32) + (((0 : Int32) + r1) - (0 : Int32))) + r3) - (0 : Int32)) (((0 : Int32) + r2) - (0 : Int32)) h41 n0 Z41 (((q8_1.keep Kq9 (ninS (Ne.symm q4_11) (ninS (Ne.symm q4_12) (ninS (Ne.symm q4_13) (ninS (Ne.symm q4_14) nin0))))).keep Kq10 (ninS (Ne.symm q4_11) (ninS (Ne.symm q4_12) (ninS (Ne.symm q4_13) (ninS (Ne.symm q4_14) nin0))))).keep Kq41 (ninS (Ne.symm q4_11) (ninS (Ne.symm q4_12) (ninS (Ne.symm q4_13) (ninS (Ne.symm q4_14) nin0))))) q41_0 (((q8_2.keep Kq9 (ninS (Ne.symm q4_11) (ninS (Ne.symm q4_12) (ninS (Ne.symm q4_13) (ninS (Ne.symm q4_14) nin0))))).keep Kq10 (ninS (Ne.symm q4_11) (ninS (Ne.symm q4_12) (ninS (Ne.symm q4_13) (ninS (Ne.symm q4_14) nin0))))).keep Kq41 (ninS (Ne.symm q4_11) (ninS (Ne.symm q4_12) (ninS (Ne.symm q4_13) (ninS (Ne.symm q4_14) nin0))))) q41_1) hZ (hw _ (own_w 41 rfl)) (hw _ (own_w 2 rfl)) (by decide) (by decide)) q44a q44c (g := (mkF m 290 #[iv r1, iv r2, iv r3, iv fl, iv 1, iv 2, iv th, iv rvv, iv 0, rv b3, iv (sv - (0 : Int32)), iv r1, iv (r1 + r3), iv (r1 + r3), iv ((r1 + r3) + r2), iv 0, iv sv] [(.int 0), (.ref b3)])) rfl (by rw [hml]; rfl) (Steps.refl _) (argsL := [(.int 0)]) (rest := []) (lenOf pd_4 rfl) rfl (Nat.le_of_eq rfl) (hb hby at_290) (fun _ _ => ⟨rfl, e42, (by decide : 6 + 0 ≤ _), (by decide : 121 + 0 ≤ _)⟩)
                  dsimp only [Pt.U, Pt.locs, Pt.cells, Pt.slots] at X44 l44 y44 z44 st44 hQ44
                  subst l44 y44 z44
                  obtain ⟨rfl, Nq44, e44⟩ := hQ44
                  have N44 := Fr.app N42 Nq44
                  refine OE.v (fun t k => st44.trans k) ?_
                  show OE _ _ _ _ (T44.setTop (mkF m 293 #[iv r1, iv r2, iv r3, iv fl, iv 1, iv 2, iv th, iv rvv, iv 0, rv b3, iv (sv - (0 : Int32)), iv r1, iv (r1 + r3), iv (r1 + r3), iv ((r1 + r3) + r2), iv 0, iv sv] [(.int 0)]))
                  refine OE.v (fun t k => XS.iload X44.here hx rfl (hb hby at_293) rfl k) ?_
                  show OE _ _ _ _ (T44.setTop (mkF m 295 #[iv r1, iv r2, iv r3, iv fl, iv 1, iv 2, iv th, iv rvv, iv 0, rv b3, iv (sv - (0 : Int32)), iv r1, iv (r1 + r3), iv (r1 + r3), iv ((r1 + r3) + r2), iv 0, iv sv] [(.int (sv - (0 : Int32))), (.int 0)]))
                  refine OE.v (fun t k => XS.icmpNo X44.here hx rfl (hb hby at_295) rfl (teq (by rw [hj42_0, enn_43, if_pos rfl]; grind)).2 k) ?_
                  show OE _ _ _ _ (T44.setTop (mkF m 298 #[iv r1, iv r2, iv r3, iv fl, iv 1, iv 2, iv th, iv rvv, iv 0, rv b3, iv (sv - (0 : Int32)), iv r1, iv (r1 + r3), iv (r1 + r3), iv ((r1 + r3) + r2), iv 0, iv sv] []))
                  refine OE.v (fun t k => XS.iconst X44.here hx rfl (hb hby at_298) k) ?_
                  refine OE.v (fun t k => XS.goto X44.here hx rfl (pc0 := 299) (pc' := 303) rfl (hb hby at_299) (by decide) (by decide) k) ?_
                  show OE _ _ _ _ (T44.setTop (mkF m 303 #[iv r1, iv r2, iv r3, iv fl, iv 1, iv 2, iv th, iv rvv, iv 0, rv b3, iv (sv - (0 : Int32)), iv r1, iv (r1 + r3), iv (r1 + r3), iv ((r1 + r3) + r2), iv 0, iv sv] [(.int 1)]))
                  obtain ⟨fs, hr, hrun, hended, hW, hsame⟩ := X44.leave (v := some (.int 1)) (fun h => by rw [Bd.returns] at h; cases h)
                  refine ⟨_, _, ?_, hrun, hended, _, _, rfl, ?_, ⟨_, rfl⟩, hW, hsame.mono (by decide) (by decide)⟩
                  · exact retN X44 hx (t := .boolean) Bd.returns (by simp) (hb hby at_303) hr
                  · show Q0 Z r1 r2 r3 fl h0 n0 _ T44.heap _
                    rw [e44]
                    exact ⟨rfl, N44⟩
                ·
                  rw [enn_43]
                  refine OE.v (fun t k => XS.aload X42.here hx rfl (hb hby at_286) rfl rfl k) ?_
                  refine OE.v (fun t k => XS.iload X42.here hx rfl (hb hby at_288) rfl k) ?_
                  show OE _ _ _ _ (T42.setTop (mkF m 290 #[iv r1, iv r2, iv r3, iv fl, iv 1, iv 2, iv th, iv rvv, iv 1, rv b3, iv (sv - (0 : Int32)), iv r1, iv (r1 + r3), iv (r1 + r3), iv ((r1 + r3) + r2), iv 0, iv sv] [(.int 1), (.ref b3)]))
                  obtain ⟨cq45, kq45, q45a, q45b, q45c⟩ := isOf hZ e42 (((q8_0.keep Kq9).keep Kq10).keep Kq41)
                  obtain ⟨_, _, ⟨T45, L45, k45, n45⟩, -, X45, ⟨Lc45, hQ45, l45, y45, z45⟩, st45⟩ := X42.virtualBack hx (y := (⟨"com/example/stratal/stratal/logic/StratumGroups", "offset", "(I)I"⟩ : MethodName)) (z := (⟨"com/example/stratal/stratal/logic/StratumGroups", "offset", "(I)I"⟩ : MethodName)) hown (mvT hZ (hw _ (own_w 56 rfl))) (mvT hZ (hw _ (own_w 38 rfl))) (notFace_of_selects (args := #[]) (mvT hZ (hw _ (own_w 40 rfl)))) (mvT hZ (hw _ (own_w 40 rfl))) (mvT hZ (hw _ (own_w 39 rfl))) (by decide) (backOf (W := 0) (rmo1_0002 l Z a0 hw [] b3 rp_4 kp_4 ro_4 ko_4 (0 : Int32) (((0 : Int32) + r1) - (0 : Int32)) ((((0 : Int32) + (((0 : Int32) + r1) - (0 : Int32))) + r3) - (0 : Int32)) (((0 : Int32) + r2) - (0 : Int32)) h41 n0 Z41 (((q8_1.keep Kq9 (ninS (Ne.symm q4_11) (ninS (Ne.symm q4_12) (ninS (Ne.symm q4_13) (ninS (Ne.symm q4_14) nin0))))).keep Kq10 (ninS (Ne.symm q4_11) (ninS (Ne.symm q4_12) (ninS (Ne.symm q4_13) (ninS (Ne.symm q4_14) nin0))))).keep Kq41 (ninS (Ne.symm q4_11) (ninS (Ne.symm q4_12) (ninS (Ne.symm q4_13) (ninS (Ne.symm q4_14) nin0))))) q41_0 (((q8_2.keep Kq9 (ninS (Ne.symm q4_11) (ninS (Ne.symm q4_12) (ninS (Ne.symm q4_13) (ninS (Ne.symm q4_14) nin0))))).keep Kq10 (ninS (Ne.symm q4_11) (ninS (Ne.symm q4_12) (ninS (Ne.symm q4_13) (ninS (Ne.symm q4_14) nin0))))).keep Kq41 (ninS (Ne.symm q4_11) (ninS (Ne.symm q4_12) (ninS (Ne.symm q4_13) (ninS (Ne.symm q4_14) nin0))))) q41_1) hZ (hw _ (own_w 41 rfl)) (hw _ (own_w 2 rfl)) (by decide) (by decide)) q45a q45c (g := (mkF m 290 #[iv r1, iv r2, iv r3, iv fl, iv 1, iv 2, iv th, iv rvv, iv 1, rv b3, iv (sv - (0 : Int32)), iv r1, iv (r1 + r3), iv (r1 + r3), iv ((r1 + r3) + r2), iv 0, iv sv] [(.int 1), (.ref b3)])) rfl (by rw [hml]; rfl) (Steps.refl _) (argsL := [(.int 1)]) (rest := []) (lenOf pd_4 rfl) rfl (Nat.le_of_eq rfl) (hb hby at_290) (fun _ _ => ⟨rfl, e42, (by decide : 6 + 0 ≤ _), (by decide : 121 + 0 ≤ _)⟩)
                  dsimp only [Pt.U, Pt.locs, Pt.cells, Pt.slots] at X45 l45 y45 z45 st45 hQ45
                  subst l45 y45 z45
                  obtain ⟨rfl, Nq45, e45⟩ := hQ45
                  have N45 := Fr.app N42 Nq45
                  refine OE.v (fun t k => st45.trans k) ?_
                  show OE _ _ _ _ (T45.setTop (mkF m 293 #[iv r1, iv r2, iv r3, iv fl, iv 1, iv 2, iv th, iv rvv, iv 1, rv b3, iv (sv - (0 : Int32)), iv r1, iv (r1 + r3), iv (r1 + r3), iv ((r1 + r3) + r2), iv 0, iv sv] [(.int ((0 : Int32) + (((0 : Int32) + r1) - (0 : Int32))))]))
                  refine OE.v (fun t k => XS.iload X45.here hx rfl (hb hby at_293) rfl k) ?_
                  show OE _ _ _ _ (T45.setTop (mkF m 295 #[iv r1, iv r2, iv r3, iv fl, iv 1, iv 2, iv th, iv rvv, iv 1, rv b3, iv (sv - (0 : Int32)), iv r1, iv (r1 + r3), iv (r1 + r3), iv ((r1 + r3) + r2), iv 0, iv sv] [(.int (sv - (0 : Int32))), (.int ((0 : Int32) + (((0 : Int32) + r1) - (0 : Int32))))]))
                  refine OE.v (fun t k => XS.icmpNo X45.here hx rfl (hb hby at_295) rfl (teq (by rw [hj42_0, enn_43, if_neg (by decide), if_pos rfl]; grind)).2 k) ?_
                  show OE _ _ _ _ (T45.setTop (mkF m 298 #[iv r1, iv r2, iv r3, iv fl, iv 1, iv 2, iv th, iv rvv, iv 1, rv b3, iv (sv - (0 : Int32)), iv r1, iv (r1 + r3), iv (r1 + r3), iv ((r1 + r3) + r2), iv 0, iv sv] []))
                  refine OE.v (fun t k => XS.iconst X45.here hx rfl (hb hby at_298) k) ?_
                  refine OE.v (fun t k => XS.goto X45.here hx rfl (pc0 := 299) (pc' := 303) rfl (hb hby at_299) (by decide) (by decide) k) ?_
                  show OE _ _ _ _ (T45.setTop (mkF m 303 #[iv r1, iv r2, iv r3, iv fl, iv 1, iv 2, iv th, iv rvv, iv 1, rv b3, iv (sv - (0 : Int32)), iv r1, iv (r1 + r3), iv (r1 + r3), iv ((r1 + r3) + r2), iv 0, iv sv] [(.int 1)]))
                  obtain ⟨fs, hr, hrun, hended, hW, hsame⟩ := X45.leave (v := some (.int 1)) (fun h => by rw [Bd.returns] at h; cases h)
                  refine ⟨_, _, ?_, hrun, hended, _, _, rfl, ?_, ⟨_, rfl⟩, hW, hsame.mono (by decide) (by decide)⟩
                  · exact retN X45 hx (t := .boolean) Bd.returns (by simp) (hb hby at_303) hr
                  · show Q0 Z r1 r2 r3 fl h0 n0 _ T45.heap _
                    rw [e45]
                    exact ⟨rfl, N45⟩
                ·
                  rw [enn_43]
                  refine OE.v (fun t k => XS.aload X42.here hx rfl (hb hby at_286) rfl rfl k) ?_
                  refine OE.v (fun t k => XS.iload X42.here hx rfl (hb hby at_288) rfl k) ?_
                  show OE _ _ _ _ (T42.setTop (mkF m 290 #[iv r1, iv r2, iv r3, iv fl, iv 1, iv 2, iv th, iv rvv, iv 2, rv b3, iv (sv - (0 : Int32)), iv r1, iv (r1 + r3), iv (r1 + r3), iv ((r1 + r3) + r2), iv 0, iv sv] [(.int 2), (.ref b3)]))
                  obtain ⟨cq46, kq46, q46a, q46b, q46c⟩ := isOf hZ e42 (((q8_0.keep Kq9).keep Kq10).keep Kq41)
                  obtain ⟨_, _, ⟨T46, L46, k46, n46⟩, -, X46, ⟨Lc46, hQ46, l46, y46, z46⟩, st46⟩ := X42.virtualBack hx (y := (⟨"com/example/stratal/stratal/logic/StratumGroups", "offset", "(I)I"⟩ : MethodName)) (z := (⟨"com/example/stratal/stratal/logic/StratumGroups", "offset", "(I)I"⟩ : MethodName)) hown (mvT hZ (hw _ (own_w 56 rfl))) (mvT hZ (hw _ (own_w 38 rfl))) (notFace_of_selects (args := #[]) (mvT hZ (hw _ (own_w 40 rfl)))) (mvT hZ (hw _ (own_w 40 rfl))) (mvT hZ (hw _ (own_w 39 rfl))) (by decide) (backOf (W := 0) (rmo2_0002 l Z a0 hw [] b3 rp_4 kp_4 ro_4 ko_4 (0 : Int32) (((0 : Int32) + r1) - (0 : Int32)) ((((0 : Int32) + (((0 : Int32) + r1) - (0 : Int32))) + r3) - (0 : Int32)) (((0 : Int32) + r2) - (0 : Int32)) h41 n0 Z41 (((q8_1.keep Kq9 (ninS (Ne.symm q4_11) (ninS (Ne.symm q4_12) (ninS (Ne.symm q4_13) (ninS (Ne.symm q4_14) nin0))))).keep Kq10 (ninS (Ne.symm q4_11) (ninS (Ne.symm q4_12) (ninS (Ne.symm q4_13) (ninS (Ne.symm q4_14) nin0))))).keep Kq41 (ninS (Ne.symm q4_11) (ninS (Ne.symm q4_12) (ninS (Ne.symm q4_13) (ninS (Ne.symm q4_14) nin0))))) q41_0 (((q8_2.keep Kq9 (ninS (Ne.symm q4_11) (ninS (Ne.symm q4_12) (ninS (Ne.symm q4_13) (ninS (Ne.symm q4_14) nin0))))).keep Kq10 (ninS (Ne.symm q4_11) (ninS (Ne.symm q4_12) (ninS (Ne.symm q4_13) (ninS (Ne.symm q4_14) nin0))))).keep Kq41 (ninS (Ne.symm q4_11) (ninS (Ne.symm q4_12) (ninS (Ne.symm q4_13) (ninS (Ne.symm q4_14) nin0))))) q41_1) hZ (hw _ (own_w 41 rfl)) (hw _ (own_w 2 rfl)) (by decide) (by decide)) q46a q46c (g := (mkF m 290 #[iv r1, iv r2, iv r3, iv fl, iv 1, iv 2, iv th, iv rvv, iv 2, rv b3, iv (sv - (0 : Int32)), iv r1, iv (r1 + r3), iv (r1 + r3), iv ((r1 + r3) + r2), iv 0, iv sv] [(.int 2), (.ref b3)])) rfl (by rw [hml]; rfl) (Steps.refl _) (argsL := [(.int 2)]) (rest := []) (lenOf pd_4 rfl) rfl (Nat.le_of_eq rfl) (hb hby at_290) (fun _ _ => ⟨rfl, e42, (by decide : 6 + 0 ≤ _), (by decide : 121 + 0 ≤ _)⟩)
                  dsimp only [Pt.U, Pt.locs, Pt.cells, Pt.slots] at X46 l46 y46 z46 st46 hQ46
                  subst l46 y46 z46
                  obtain ⟨rfl, Nq46, e46⟩ := hQ46
                  have N46 := Fr.app N42 Nq46
                  refine OE.v (fun t k => st46.trans k) ?_
                  show OE _ _ _ _ (T46.setTop (mkF m 293 #[iv r1, iv r2, iv r3, iv fl, iv 1, iv 2, iv th, iv rvv, iv 2, rv b3, iv (sv - (0 : Int32)), iv r1, iv (r1 + r3), iv (r1 + r3), iv ((r1 + r3) + r2), iv 0, iv sv] [(.int ((0 : Int32) + ((((0 : Int32) + (((0 : Int32) + r1) - (0 : Int32))) + r3) - (0 : Int32))))]))
                  refine OE.v (fun t k => XS.iload X46.here hx rfl (hb hby at_293) rfl k) ?_
                  show OE _ _ _ _ (T46.setTop (mkF m 295 #[iv r1, iv r2, iv r3, iv fl, iv 1, iv 2, iv th, iv rvv, iv 2, rv b3, iv (sv - (0 : Int32)), iv r1, iv (r1 + r3), iv (r1 + r3), iv ((r1 + r3) + r2), iv 0, iv sv] [(.int (sv - (0 : Int32))), (.int ((0 : Int32) + ((((0 : Int32) + (((0 : Int32) + r1) - (0 : Int32))) + r3) - (0 : Int32))))]))
                  refine OE.v (fun t k => XS.icmpNo X46.here hx rfl (hb hby at_295) rfl (teq (by rw [hj42_0, enn_43, if_neg (by decide), if_neg (by decide), if_pos rfl]; grind)).2 k) ?_
                  show OE _ _ _ _ (T46.setTop (mkF m 298 #[iv r1, iv r2, iv r3, iv fl, iv 1, iv 2, iv th, iv rvv, iv 2, rv b3, iv (sv - (0 : Int32)), iv r1, iv (r1 + r3), iv (r1 + r3), iv ((r1 + r3) + r2), iv 0, iv sv] []))
                  refine OE.v (fun t k => XS.iconst X46.here hx rfl (hb hby at_298) k) ?_
                  refine OE.v (fun t k => XS.goto X46.here hx rfl (pc0 := 299) (pc' := 303) rfl (hb hby at_299) (by decide) (by decide) k) ?_
                  show OE _ _ _ _ (T46.setTop (mkF m 303 #[iv r1, iv r2, iv r3, iv fl, iv 1, iv 2, iv th, iv rvv, iv 2, rv b3, iv (sv - (0 : Int32)), iv r1, iv (r1 + r3), iv (r1 + r3), iv ((r1 + r3) + r2), iv 0, iv sv] [(.int 1)]))
                  obtain ⟨fs, hr, hrun, hended, hW, hsame⟩ := X46.leave (v := some (.int 1)) (fun h => by rw [Bd.returns] at h; cases h)
                  refine ⟨_, _, ?_, hrun, hended, _, _, rfl, ?_, ⟨_, rfl⟩, hW, hsame.mono (by decide) (by decide)⟩
                  · exact retN X46 hx (t := .boolean) Bd.returns (by simp) (hb hby at_303) hr
                  · show Q0 Z r1 r2 r3 fl h0 n0 _ T46.heap _
                    rw [e46]
                    exact ⟨rfl, N46⟩
                ·
                  rw [enn_43]
                  refine OE.v (fun t k => XS.aload X42.here hx rfl (hb hby at_286) rfl rfl k) ?_
                  refine OE.v (fun t k => XS.iload X42.here hx rfl (hb hby at_288) rfl k) ?_
                  show OE _ _ _ _ (T42.setTop (mkF m 290 #[iv r1, iv r2, iv r3, iv fl, iv 1, iv 2, iv th, iv rvv, iv 3, rv b3, iv (sv - (0 : Int32)), iv r1, iv (r1 + r3), iv (r1 + r3), iv ((r1 + r3) + r2), iv 0, iv sv] [(.int 3), (.ref b3)]))
                  obtain ⟨cq47, kq47, q47a, q47b, q47c⟩ := isOf hZ e42 (((q8_0.keep Kq9).keep Kq10).keep Kq41)
                  obtain ⟨_, _, ⟨T47, L47, k47, n47⟩, -, X47, ⟨Lc47, hQ47, l47, y47, z47⟩, st47⟩ := X42.virtualBack hx (y := (⟨"com/example/stratal/stratal/logic/StratumGroups", "offset", "(I)I"⟩ : MethodName)) (z := (⟨"com/example/stratal/stratal/logic/StratumGroups", "offset", "(I)I"⟩ : MethodName)) hown (mvT hZ (hw _ (own_w 56 rfl))) (mvT hZ (hw _ (own_w 38 rfl))) (notFace_of_selects (args := #[]) (mvT hZ (hw _ (own_w 40 rfl)))) (mvT hZ (hw _ (own_w 40 rfl))) (mvT hZ (hw _ (own_w 39 rfl))) (by decide) (backOf (W := 0) (rmo3_0002 l Z a0 hw [] b3 rp_4 kp_4 ro_4 ko_4 (0 : Int32) (((0 : Int32) + r1) - (0 : Int32)) ((((0 : Int32) + (((0 : Int32) + r1) - (0 : Int32))) + r3) - (0 : Int32)) (((0 : Int32) + r2) - (0 : Int32)) h41 n0 Z41 (((q8_1.keep Kq9 (ninS (Ne.symm q4_11) (ninS (Ne.symm q4_12) (ninS (Ne.symm q4_13) (ninS (Ne.symm q4_14) nin0))))).keep Kq10 (ninS (Ne.symm q4_11) (ninS (Ne.symm q4_12) (ninS (Ne.symm q4_13) (ninS (Ne.symm q4_14) nin0))))).keep Kq41 (ninS (Ne.symm q4_11) (ninS (Ne.symm q4_12) (ninS (Ne.symm q4_13) (ninS (Ne.symm q4_14) nin0))))) q41_0 (((q8_2.keep Kq9 (ninS (Ne.symm q4_11) (ninS (Ne.symm q4_12) (ninS (Ne.symm q4_13) (ninS (Ne.symm q4_14) nin0))))).keep Kq10 (ninS (Ne.symm q4_11) (ninS (Ne.symm q4_12) (ninS (Ne.symm q4_13) (ninS (Ne.symm q4_14) nin0))))).keep Kq41 (ninS (Ne.symm q4_11) (ninS (Ne.symm q4_12) (ninS (Ne.symm q4_13) (ninS (Ne.symm q4_14) nin0))))) q41_1) hZ (hw _ (own_w 41 rfl)) (hw _ (own_w 2 rfl)) (by decide) (by decide)) q47a q47c (g := (mkF m 290 #[iv r1, iv r2, iv r3, iv fl, iv 1, iv 2, iv th, iv rvv, iv 3, rv b3, iv (sv - (0 : Int32)), iv r1, iv (r1 + r3), iv (r1 + r3), iv ((r1 + r3) + r2), iv 0, iv sv] [(.int 3), (.ref b3)])) rfl (by rw [hml]; rfl) (Steps.refl _) (argsL := [(.int 3)]) (rest := []) (lenOf pd_4 rfl) rfl (Nat.le_of_eq rfl) (hb hby at_290) (fun _ _ => ⟨rfl, e42, (by decide : 6 + 0 ≤ _), (by decide : 121 + 0 ≤ _)⟩)
                  dsimp only [Pt.U, Pt.locs, Pt.cells, Pt.slots] at X47 l47 y47 z47 st47 hQ47
                  subst l47 y47 z47
                  obtain ⟨rfl, Nq47, e47⟩ := hQ47
                  have N47 := Fr.app N42 Nq47
                  refine OE.v (fun t k => st47.trans k) ?_
                  show OE _ _ _ _ (T47.setTop (mkF m 293 #[iv r1, iv r2, iv r3, iv fl, iv 1, iv 2, iv th, iv rvv, iv 3, rv b3, iv (sv - (0 : Int32)), iv r1, iv (r1 + r3), iv (r1 + r3), iv ((r1 + r3) + r2), iv 0, iv sv] [(.int (((0 : Int32) + (((0 : Int32) + r2) - (0 : Int32))) + ((((0 : Int32) + (((0 : Int32) + r1) - (0 : Int32))) + r3) - (0 : Int32))))]))
                  refine OE.v (fun t k => XS.iload X47.here hx rfl (hb hby at_293) rfl k) ?_
                  show OE _ _ _ _ (T47.setTop (mkF m 295 #[iv r1, iv r2, iv r3, iv fl, iv 1, iv 2, iv th, iv rvv, iv 3, rv b3, iv (sv - (0 : Int32)), iv r1, iv (r1 + r3), iv (r1 + r3), iv ((r1 + r3) + r2), iv 0, iv sv] [(.int (sv - (0 : Int32))), (.int (((0 : Int32) + (((0 : Int32) + r2) - (0 : Int32))) + ((((0 : Int32) + (((0 : Int32) + r1) - (0 : Int32))) + r3) - (0 : Int32))))]))
                  refine OE.v (fun t k => XS.icmpNo X47.here hx rfl (hb hby at_295) rfl (teq (by rw [hj42_0, enn_43, if_neg (by decide), if_neg (by decide), if_neg (by decide)]; grind)).2 k) ?_
                  show OE _ _ _ _ (T47.setTop (mkF m 298 #[iv r1, iv r2, iv r3, iv fl, iv 1, iv 2, iv th, iv rvv, iv 3, rv b3, iv (sv - (0 : Int32)), iv r1, iv (r1 + r3), iv (r1 + r3), iv ((r1 + r3) + r2), iv 0, iv sv] []))
                  refine OE.v (fun t k => XS.iconst X47.here hx rfl (hb hby at_298) k) ?_
                  refine OE.v (fun t k => XS.goto X47.here hx rfl (pc0 := 299) (pc' := 303) rfl (hb hby at_299) (by decide) (by decide) k) ?_
                  show OE _ _ _ _ (T47.setTop (mkF m 303 #[iv r1, iv r2, iv r3, iv fl, iv 1, iv 2, iv th, iv rvv, iv 3, rv b3, iv (sv - (0 : Int32)), iv r1, iv (r1 + r3), iv (r1 + r3), iv ((r1 + r3) + r2), iv 0, iv sv] [(.int 1)]))
                  obtain ⟨fs, hr, hrun, hended, hW, hsame⟩ := X47.leave (v := some (.int 1)) (fun h => by rw [Bd.returns] at h; cases h)
                  refine ⟨_, _, ?_, hrun, hended, _, _, rfl, ?_, ⟨_, rfl⟩, hW, hsame.mono (by decide) (by decide)⟩
                  · exact retN X47 hx (t := .boolean) Bd.returns (by simp) (hb hby at_303) hr
                  · show Q0 Z r1 r2 r3 fl h0 n0 _ T47.heap _
                    rw [e47]
                    exact ⟨rfl, N47⟩
              intro J42
              by_cases hc241_48 : nn = (0 : Int32)
              ·
                refine OE.v (fun t k => XS.ifNo X41.here hx rfl (hb hby at_241) rfl ((if0 _ _).trans (teq hc241_48).2) k) ?_
                show OE _ _ _ _ (T41.setTop (mkF m 244 #[iv r1, iv r2, iv r3, iv fl, iv 1, iv 2, iv th, iv rvv, iv nn, rv b3, .unset, iv r1, iv (r1 + r3), iv (r1 + r3), iv ((r1 + r3) + r2), iv 0, .unset] []))
                refine OE.v (fun t k => XS.iconst X41.here hx rfl (hb hby at_244) k) ?_
                refine OE.v (fun t k => XS.istore X41.here hx rfl (hb hby at_245) rfl (l' := #[iv r1, iv r2, iv r3, iv fl, iv 1, iv 2, iv th, iv rvv, iv nn, rv b3, .unset, iv r1, iv (r1 + r3), iv (r1 + r3), iv ((r1 + r3) + r2), iv 0, iv 0]) rfl k) ?_
                refine OE.v (fun t k => XS.goto X41.here hx rfl (pc0 := 247) (pc' := 279) rfl (hb hby at_247) (by decide) (by decide) k) ?_
                exact J42 _ _ X41 e41 N41 (0 : Int32) (by rw [if_pos hc241_48])
              ·
                refine OE.v (fun t k => XS.ifYes X41.here hx rfl (pc0 := 241) (pc' := 250) rfl (hb hby at_241) rfl ((if0 _ _).trans (feq hc241_48).2) (by decide) (by decide) k) ?_
                show OE _ _ _ _ (T41.setTop (mkF m 250 #[iv r1, iv r2, iv r3, iv fl, iv 1, iv 2, iv th, iv rvv, iv nn, rv b3, .unset, iv r1, iv (r1 + r3), iv (r1 + r3), iv ((r1 + r3) + r2), iv 0, .unset] []))
                refine OE.v (fun t k => XS.iload X41.here hx rfl (hb hby at_250) rfl k) ?_
                refine OE.v (fun t k => XS.iconst X41.here hx rfl (hb hby at_252) k) ?_
                show OE _ _ _ _ (T41.setTop (mkF m 253 #[iv r1, iv r2, iv r3, iv fl, iv 1, iv 2, iv th, iv rvv, iv nn, rv b3, .unset, iv r1, iv (r1 + r3), iv (r1 + r3), iv ((r1 + r3) + r2), iv 0, .unset] [(.int 1), (.int nn)]))
                by_cases hc253_49 : nn = (1 : Int32)
                ·
                  refine OE.v (fun t k => XS.icmpNo X41.here hx rfl (hb hby at_253) rfl (teq hc253_49).2 k) ?_
                  show OE _ _ _ _ (T41.setTop (mkF m 256 #[iv r1, iv r2, iv r3, iv fl, iv 1, iv 2, iv th, iv rvv, iv nn, rv b3, .unset, iv r1, iv (r1 + r3), iv (r1 + r3), iv ((r1 + r3) + r2), iv 0, .unset] []))
                  refine OE.v (fun t k => XS.iloadN X41.here hx rfl (hb hby at_256) rfl k) ?_
                  refine OE.v (fun t k => XS.istore X41.here hx rfl (hb hby at_257) rfl (l' := #[iv r1, iv r2, iv r3, iv fl, iv 1, iv 2, iv th, iv rvv, iv nn, rv b3, .unset, iv r1, iv (r1 + r3), iv (r1 + r3), iv ((r1 + r3) + r2), iv 0, iv r1]) rfl k) ?_
                  refine OE.v (fun t k => XS.goto X41.here hx rfl (pc0 := 259) (pc' := 279) rfl (hb hby at_259) (by decide) (by decide) k) ?_
                  exact J42 _ _ X41 e41 N41 r1 (by rw [if_neg hc241_48, if_pos hc253_49])
                ·
                  refine OE.v (fun t k => XS.icmpYes X41.here hx rfl (pc0 := 253) (pc' := 262) rfl (hb hby at_253) rfl (feq hc253_49).2 (by decide) (by decide) k) ?_
                  show OE _ _ _ _ (T41.setTop (mkF m 262 #[iv r1, iv r2, iv r3, iv fl, iv 1, iv 2, iv th, iv rvv, iv nn, rv b3, .unset, iv r1, iv (r1 + r3), iv (r1 + r3), iv ((r1 + r3) + r2), iv 0, .unset] []))
                  refine OE.v (fun t k => XS.iload X41.here hx rfl (hb hby at_262) rfl k) ?_
                  refine OE.v (fun t k => XS.iconst X41.here hx rfl (hb hby at_264) k) ?_
                  show OE _ _ _ _ (T41.setTop (mkF m 265 #[iv r1, iv r2, iv r3, iv fl, iv 1, iv 2, iv th, iv rvv, iv nn, rv b3, .unset, iv r1, iv (r1 + r3), iv (r1 + r3), iv ((r1 + r3) + r2), iv 0, .unset] [(.int 2), (.int nn)]))
                  by_cases hc265_50 : nn = (2 : Int32)
                  ·
                    refine OE.v (fun t k => XS.icmpNo X41.here hx rfl (hb hby at_265) rfl (teq hc265_50).2 k) ?_
                    show OE _ _ _ _ (T41.setTop (mkF m 268 #[iv r1, iv r2, iv r3, iv fl, iv 1, iv 2, iv th, iv rvv, iv nn, rv b3, .unset, iv r1, iv (r1 + r3), iv (r1 + r3), iv ((r1 + r3) + r2), iv 0, .unset] []))
                    refine OE.v (fun t k => XS.iload X41.here hx rfl (hb hby at_268) rfl k) ?_
                    refine OE.v (fun t k => XS.istore X41.here hx rfl (hb hby at_270) rfl (l' := #[iv r1, iv r2, iv r3, iv fl, iv 1, iv 2, iv th, iv rvv, iv nn, rv b3, .unset, iv r1, iv (r1 + r3), iv (r1 + r3), iv ((r1 + r3) + r2), iv 0, iv (r1 + r3)]) rfl k) ?_
                    refine OE.v (fun t k => XS.goto X41.here hx rfl (pc0 := 272) (pc' := 279) rfl (hb hby at_272) (by decide) (by decide) k) ?_
                    exact J42 _ _ X41 e41 N41 (r1 + r3) (by rw [if_neg hc241_48, if_neg hc253_49, if_pos hc265_50])
                  ·
                    refine OE.v (fun t k => XS.icmpYes X41.here hx rfl (pc0 := 265) (pc' := 275) rfl (hb hby at_265) rfl (feq hc265_50).2 (by decide) (by decide) k) ?_
                    show OE _ _ _ _ (T41.setTop (mkF m 275 #[iv r1, iv r2, iv r3, iv fl, iv 1, iv 2, iv th, iv rvv, iv nn, rv b3, .unset, iv r1, iv (r1 + r3), iv (r1 + r3), iv ((r1 + r3) + r2), iv 0, .unset] []))
                    refine OE.v (fun t k => XS.iload X41.here hx rfl (hb hby at_275) rfl k) ?_
                    refine OE.v (fun t k => XS.istore X41.here hx rfl (hb hby at_277) rfl (l' := #[iv r1, iv r2, iv r3, iv fl, iv 1, iv 2, iv th, iv rvv, iv nn, rv b3, .unset, iv r1, iv (r1 + r3), iv (r1 + r3), iv ((r1 + r3) + r2), iv 0, iv ((r1 + r3) + r2)]) rfl k) ?_
                    exact J42 _ _ X41 e41 N41 ((r1 + r3) + r2) (by rw [if_neg hc241_48, if_neg hc253_49, if_neg hc265_50])
            ·
              rw [enb_40]
              show OE _ _ _ _ (T10.setTop (mkF m 156 #[iv r1, iv r2, iv r3, iv fl, iv 1, iv 3, iv th, iv rvv, iv nn, rv b3, .unset, .unset, .unset, .unset, .unset, .unset, .unset] []))
              refine OE.v (fun t k => XS.aload X10.here hx rfl (hb hby at_156) rfl rfl k) ?_
              refine OE.v (fun t k => XS.iload X10.here hx rfl (hb hby at_158) rfl k) ?_
              refine OE.v (fun t k => XS.iload X10.here hx rfl (hb hby at_160) rfl k) ?_
              refine OE.v (fun t k => XS.iloadN X10.here hx rfl (hb hby at_162) rfl k) ?_
              show OE _ _ _ _ (T10.setTop (mkF m 163 #[iv r1, iv r2, iv r3, iv fl, iv 1, iv 3, iv th, iv rvv, iv nn, rv b3, .unset, .unset, .unset, .unset, .unset, .unset, .unset] [(.int r3), (.int 3), (.int 1), (.ref b3)]))
              obtain ⟨cq51, kq51, q51a, q51b, q51c⟩ := isOf hZ e10 ((q8_0.keep Kq9).keep Kq10)
              obtain ⟨_, _, ⟨T51, L51, k51, n51⟩, -, X51, ⟨Lc51, hQ51, l51, y51, z51⟩, st51⟩ := X10.virtualBack hx (y := (⟨"com/example/stratal/stratal/logic/StratumGroups", "join", "(III)I"⟩ : MethodName)) (z := (⟨"com/example/stratal/stratal/logic/StratumGroups", "join", "(III)I"⟩ : MethodName)) hown (mvT hZ (hw _ (own_w 27 rfl))) (mvT hZ (hw _ (own_w 28 rfl))) (notFace_of_selects (args := #[]) (mvT hZ (hw _ (own_w 30 rfl)))) (mvT hZ (hw _ (own_w 30 rfl))) (mvT hZ (hw _ (own_w 29 rfl))) (by decide) (backOf (W := 0) (rmJ13_0022 l Z a0 hw [] b3 rp_4 ro_4 rs_4 rf_4 kp_4 ko_4 ks_4 kf_4 (0 : Int32) (((0 : Int32) + r1) - (0 : Int32)) (0 : Int32) (((0 : Int32) + r2) - (0 : Int32)) (own_max (0 : Int32) ((0 : Int32) - (((0 : Int32) + r1) - (0 : Int32)))) (0 : Int32) (own_max (0 : Int32) ((0 : Int32) - (((0 : Int32) + r2) - (0 : Int32)))) (0 : Int32) r3 h10 n0 Z10 ((q8_0.keep Kq9).keep Kq10) ((q8_1.keep Kq9 (ninS (Ne.symm q4_11) (ninS (Ne.symm q4_12) (ninS (Ne.symm q4_13) (ninS (Ne.symm q4_14) nin0))))).keep Kq10 (ninS (Ne.symm q4_11) (ninS (Ne.symm q4_12) (ninS (Ne.symm q4_13) (ninS (Ne.symm q4_14) nin0))))) ((q8_2.keep Kq9 (ninS (Ne.symm q4_11) (ninS (Ne.symm q4_12) (ninS (Ne.symm q4_13) (ninS (Ne.symm q4_14) nin0))))).keep Kq10 (ninS (Ne.symm q4_11) (ninS (Ne.symm q4_12) (ninS (Ne.symm q4_13) (ninS (Ne.symm q4_14) nin0))))) ((q8_3.keep Kq9 (ninS (Ne.symm q4_11) (ninS (Ne.symm q4_12) (ninS (Ne.symm q4_13) (ninS (Ne.symm q4_14) nin0))))).keep Kq10 (ninS (Ne.symm q4_11) (ninS (Ne.symm q4_12) (ninS (Ne.symm q4_13) (ninS (Ne.symm q4_14) nin0))))) ((q8_4.keep Kq9 (ninS (Ne.symm q4_11) (ninS (Ne.symm q4_12) (ninS (Ne.symm q4_13) (ninS (Ne.symm q4_14) nin0))))).keep Kq10 (ninS (Ne.symm q4_11) (ninS (Ne.symm q4_12) (ninS (Ne.symm q4_13) (ninS (Ne.symm q4_14) nin0))))) ((q8_10.keep Kq9 (ninS (Ne.symm q4_11) (ninS (Ne.symm q4_12) (ninS (Ne.symm q4_13) (ninS (Ne.symm q4_14) nin0))))).keep Kq10 (ninS (Ne.symm q4_11) (ninS (Ne.symm q4_12) (ninS (Ne.symm q4_13) (ninS (Ne.symm q4_14) nin0))))) q10_0 q10_1 q10_2 q10_3 q4_11 q4_12 q4_13 q4_14 q4_15 q4_16 q4_17 q4_18 q4_19 q4_20 q4_21 q4_22 q4_23 q4_24) hZ (hw _ (own_w 31 rfl)) (hw _ (own_w 2 rfl)) (by decide) (by decide)) q51a q51c (g := (mkF m 163 #[iv r1, iv r2, iv r3, iv fl, iv 1, iv 3, iv th, iv rvv, iv nn, rv b3, .unset, .unset, .unset, .unset, .unset, .unset, .unset] [(.int r3), (.int 3), (.int 1), (.ref b3)])) rfl (by rw [hml]; rfl) (Steps.refl _) (argsL := [(.int 1), (.int 3), (.int r3)]) (rest := []) (lenOf pd_5 rfl) rfl (Nat.le_of_eq rfl) (hb hby at_163) (fun _ _ => ⟨rfl, e10, (by decide : 6 + 0 ≤ _), (by decide : 121 + 0 ≤ _)⟩)
              dsimp only [Pt.U, Pt.locs, Pt.cells, Pt.slots] at X51 l51 y51 z51 st51 hQ51
              subst l51 y51 z51
              obtain ⟨h51, e51⟩ : ∃ z, T51.heap = z := ⟨_, rfl⟩
              rw [e51] at hQ51
              obtain ⟨rfl, Nq51, Kq51, q51_0, q51_1, q51_2, q51_3⟩ := hQ51
              have Z51 : n0 ≤ h51.size := Nat.le_trans Z10 Kq51.1
              have N51 := Fr.app N10 Nq51
              refine OE.v (fun t k => st51.trans k) ?_
              show OE _ _ _ _ (T51.setTop (mkF m 166 #[iv r1, iv r2, iv r3, iv fl, iv 1, iv 3, iv th, iv rvv, iv nn, rv b3, .unset, .unset, .unset, .unset, .unset, .unset, .unset] [(.int 3)]))
              refine OE.v (fun t k => XS.pop X51.here hx rfl (hb hby at_166) rfl rfl k) ?_
              refine OE.v (fun t k => XS.iload X51.here hx rfl (hb hby at_167) rfl k) ?_
              show OE _ _ _ _ (T51.setTop (mkF m 169 #[iv r1, iv r2, iv r3, iv fl, iv 1, iv 3, iv th, iv rvv, iv nn, rv b3, .unset, .unset, .unset, .unset, .unset, .unset, .unset] [(.int 1)]))
              refine OE.v (fun t k => XS.ifYes X51.here hx rfl (pc0 := 169) (pc' := 176) rfl (hb hby at_169) rfl ((if0 _ _).trans (feq (by decide)).2) (by decide) (by decide) k) ?_
              show OE _ _ _ _ (T51.setTop (mkF m 176 #[iv r1, iv r2, iv r3, iv fl, iv 1, iv 3, iv th, iv rvv, iv nn, rv b3, .unset, .unset, .unset, .unset, .unset, .unset, .unset] []))
              refine OE.v (fun t k => XS.iloadN X51.here hx rfl (hb hby at_176) rfl k) ?_
              refine OE.v (fun t k => XS.istore X51.here hx rfl (hb hby at_177) rfl (l' := #[iv r1, iv r2, iv r3, iv fl, iv 1, iv 3, iv th, iv rvv, iv nn, rv b3, .unset, iv r1, .unset, .unset, .unset, .unset, .unset]) rfl k) ?_
              refine OE.v (fun t k => XS.iload X51.here hx rfl (hb hby at_179) rfl k) ?_
              show OE _ _ _ _ (T51.setTop (mkF m 181 #[iv r1, iv r2, iv r3, iv fl, iv 1, iv 3, iv th, iv rvv, iv nn, rv b3, .unset, iv r1, .unset, .unset, .unset, .unset, .unset] [(.int rvv)]))
              refine OE.v (fun t k => XS.ifYes X51.here hx rfl (pc0 := 181) (pc' := 191) rfl (hb hby at_181) rfl ((if0 _ _).trans (teq hc139_17).1) (by decide) (by decide) k) ?_
              show OE _ _ _ _ (T51.setTop (mkF m 191 #[iv r1, iv r2, iv r3, iv fl, iv 1, iv 3, iv th, iv rvv, iv nn, rv b3, .unset, iv r1, .unset, .unset, .unset, .unset, .unset] []))
              refine OE.v (fun t k => XS.iload X51.here hx rfl (hb hby at_191) rfl k) ?_
              refine OE.v (fun t k => XS.iloadN X51.here hx rfl (hb hby at_193) rfl k) ?_
              refine OE.v (fun t k => XS.iadd X51.here hx rfl (hb hby at_194) rfl k) ?_
              refine OE.v (fun t k => XS.istore X51.here hx rfl (hb hby at_195) rfl (l' := #[iv r1, iv r2, iv r3, iv fl, iv 1, iv 3, iv th, iv rvv, iv nn, rv b3, .unset, iv r1, iv (r1 + r3), .unset, .unset, .unset, .unset]) rfl k) ?_
              refine OE.v (fun t k => XS.iload X51.here hx rfl (hb hby at_197) rfl k) ?_
              refine OE.v (fun t k => XS.iconst X51.here hx rfl (hb hby at_199) k) ?_
              show OE _ _ _ _ (T51.setTop (mkF m 200 #[iv r1, iv r2, iv r3, iv fl, iv 1, iv 3, iv th, iv rvv, iv nn, rv b3, .unset, iv r1, iv (r1 + r3), .unset, .unset, .unset, .unset] [(.int 2), (.int 3)]))
              refine OE.v (fun t k => XS.icmpYes X51.here hx rfl (pc0 := 200) (pc' := 216) rfl (hb hby at_200) rfl (feq (by decide)).2 (by decide) (by decide) k) ?_
              show OE _ _ _ _ (T51.setTop (mkF m 216 #[iv r1, iv r2, iv r3, iv fl, iv 1, iv 3, iv th, iv rvv, iv nn, rv b3, .unset, iv r1, iv (r1 + r3), .unset, .unset, .unset, .unset] []))
              refine OE.v (fun t k => XS.iload X51.here hx rfl (hb hby at_216) rfl k) ?_
              refine OE.v (fun t k => XS.istore X51.here hx rfl (hb hby at_218) rfl (l' := #[iv r1, iv r2, iv r3, iv fl, iv 1, iv 3, iv th, iv rvv, iv nn, rv b3, .unset, iv r1, iv (r1 + r3), .unset, iv (r1 + r3), .unset, .unset]) rfl k) ?_
              refine OE.v (fun t k => XS.iload X51.here hx rfl (hb hby at_220) rfl k) ?_
              refine OE.v (fun t k => XS.iloadN X51.here hx rfl (hb hby at_222) rfl k) ?_
              refine OE.v (fun t k => XS.isub X51.here hx rfl (hb hby at_223) rfl k) ?_
              refine OE.v (fun t k => XS.istore X51.here hx rfl (hb hby at_224) rfl (l' := #[iv r1, iv r2, iv r3, iv fl, iv 1, iv 3, iv th, iv rvv, iv nn, rv b3, .unset, iv r1, iv (r1 + r3), iv ((r1 + r3) - r2), iv (r1 + r3), .unset, .unset]) rfl k) ?_
              show OE _ _ _ _ (T51.setTop (mkF m 226 #[iv r1, iv r2, iv r3, iv fl, iv 1, iv 3, iv th, iv rvv, iv nn, rv b3, .unset, iv r1, iv (r1 + r3), iv ((r1 + r3) - r2), iv (r1 + r3), .unset, .unset] []))
              refine OE.v (fun t k => XS.iload X51.here hx rfl (hb hby at_226) rfl k) ?_
              show OE _ _ _ _ (T51.setTop (mkF m 228 #[iv r1, iv r2, iv r3, iv fl, iv 1, iv 3, iv th, iv rvv, iv nn, rv b3, .unset, iv r1, iv (r1 + r3), iv ((r1 + r3) - r2), iv (r1 + r3), .unset, .unset] [(.int rvv)]))
              refine OE.v (fun t k => XS.ifYes X51.here hx rfl (pc0 := 228) (pc' := 236) rfl (hb hby at_228) rfl ((if0 _ _).trans (teq hc139_17).1) (by decide) (by decide) k) ?_
              show OE _ _ _ _ (T51.setTop (mkF m 236 #[iv r1, iv r2, iv r3, iv fl, iv 1, iv 3, iv th, iv rvv, iv nn, rv b3, .unset, iv r1, iv (r1 + r3), iv ((r1 + r3) - r2), iv (r1 + r3), .unset, .unset] []))
              refine OE.v (fun t k => XS.iconst X51.here hx rfl (hb hby at_236) k) ?_
              refine OE.v (fun t k => XS.istore X51.here hx rfl (hb hby at_237) rfl (l' := #[iv r1, iv r2, iv r3, iv fl, iv 1, iv 3, iv th, iv rvv, iv nn, rv b3, .unset, iv r1, iv (r1 + r3), iv ((r1 + r3) - r2), iv (r1 + r3), iv 0, .unset]) rfl k) ?_
              refine OE.v (fun t k => XS.iload X51.here hx rfl (hb hby at_239) rfl k) ?_
              show OE _ _ _ _ (T51.setTop (mkF m 241 #[iv r1, iv r2, iv r3, iv fl, iv 1, iv 3, iv th, iv rvv, iv nn, rv b3, .unset, iv r1, iv (r1 + r3), iv ((r1 + r3) - r2), iv (r1 + r3), iv 0, .unset] [(.int nn)]))
              refine OE.cut (fun G => ∀ (T52 : State) (lc52 : List Loc) (X52 : Stand p l e room_1 s m #[(.int r1), (.int r2), (.int r3), (.int fl)] below meth c T52 lc52 6 121) (e52 : T52.heap = h51) (N52 : Fr n0 lc52) (sv : Int32) (hj52_0 : sv = if nn = (0 : Int32) then (0 : Int32) else if nn = (1 : Int32) then r1 else if nn = (2 : Int32) then ((r1 + r3) - r2) else (r1 + r3)), G (T52.setTop (mkF m 279 #[iv r1, iv r2, iv r3, iv fl, iv 1, iv 3, iv th, iv rvv, iv nn, rv b3, .unset, iv r1, iv (r1 + r3), iv ((r1 + r3) - r2), iv (r1 + r3), iv 0, iv sv] []))) ?_ ?_
              · intro T52 lc52 X52 e52 N52 sv hj52_0
                show OE _ _ _ _ (T52.setTop (mkF m 279 #[iv r1, iv r2, iv r3, iv fl, iv 1, iv 3, iv th, iv rvv, iv nn, rv b3, .unset, iv r1, iv (r1 + r3), iv ((r1 + r3) - r2), iv (r1 + r3), iv 0, iv sv] []))
                refine OE.v (fun t k => XS.iload X52.here hx rfl (hb hby at_279) rfl k) ?_
                refine OE.v (fun t k => XS.iload X52.here hx rfl (hb hby at_281) rfl k) ?_
                refine OE.v (fun t k => XS.isub X52.here hx rfl (hb hby at_283) rfl k) ?_
                refine OE.v (fun t k => XS.istore X52.here hx rfl (hb hby at_284) rfl (l' := #[iv r1, iv r2, iv r3, iv fl, iv 1, iv 3, iv th, iv rvv, iv nn, rv b3, iv (sv - (0 : Int32)), iv r1, iv (r1 + r3), iv ((r1 + r3) - r2), iv (r1 + r3), iv 0, iv sv]) rfl k) ?_
                show OE _ _ _ _ (T52.setTop (mkF m 286 #[iv r1, iv r2, iv r3, iv fl, iv 1, iv 3, iv th, iv rvv, iv nn, rv b3, iv (sv - (0 : Int32)), iv r1, iv (r1 + r3), iv ((r1 + r3) - r2), iv (r1 + r3), iv 0, iv sv] []))
                rcases c_nn with enn_53 | enn_53 | enn_53 | enn_53
                ·
                  rw [enn_53]
                  refine OE.v (fun t k => XS.aload X52.here hx rfl (hb hby at_286) rfl rfl k) ?_
                  refine OE.v (fun t k => XS.iload X52.here hx rfl (hb hby at_288) rfl k) ?_
                  show OE _ _ _ _ (T52.setTop (mkF m 290 #[iv r1, iv r2, iv r3, iv fl, iv 1, iv 3, iv th, iv rvv, iv 0, rv b3, iv (sv - (0 : Int32)), iv r1, iv (r1 + r3), iv ((r1 + r3) - r2), iv (r1 + r3), iv 0, iv sv] [(.int 0), (.ref b3)]))
                  obtain ⟨cq54, kq54, q54a, q54b, q54c⟩ := isOf hZ e52 (((q8_0.keep Kq9).keep Kq10).keep Kq51)
                  obtain ⟨_, _, ⟨T54, L54, k54, n54⟩, -, X54, ⟨Lc54, hQ54, l54, y54, z54⟩, st54⟩ := X52.virtualBack hx (y := (⟨"com/example/stratal/stratal/logic/StratumGroups", "offset", "(I)I"⟩ : MethodName)) (z := (⟨"com/example/stratal/stratal/logic/StratumGroups", "offset", "(I)I"⟩ : MethodName)) hown (mvT hZ (hw _ (own_w 56 rfl))) (mvT hZ (hw _ (own_w 38 rfl))) (notFace_of_selects (args := #[]) (mvT hZ (hw _ (own_w 40 rfl)))) (mvT hZ (hw _ (own_w 40 rfl))) (mvT hZ (hw _ (own_w 39 rfl))) (by decide) (backOf (W := 0) (rmo0_0002 l Z a0 hw [] b3 rp_4 kp_4 ro_4 ko_4 (0 : Int32) (((0 : Int32) + r1) - (0 : Int32)) ((((0 : Int32) + (((0 : Int32) + r1) - (0 : Int32))) + r3) - ((0 : Int32) + (((0 : Int32) + r2) - (0 : Int32)))) (((0 : Int32) + r2) - (0 : Int32)) h51 n0 Z51 (((q8_1.keep Kq9 (ninS (Ne.symm q4_11) (ninS (Ne.symm q4_12) (ninS (Ne.symm q4_13) (ninS (Ne.symm q4_14) nin0))))).keep Kq10 (ninS (Ne.symm q4_11) (ninS (Ne.symm q4_12) (ninS (Ne.symm q4_13) (ninS (Ne.symm q4_14) nin0))))).keep Kq51 (ninS (Ne.symm q4_11) (ninS (Ne.symm q4_12) (ninS (Ne.symm q4_13) (ninS (Ne.symm q4_14) nin0))))) q51_0 (((q8_2.keep Kq9 (ninS (Ne.symm q4_11) (ninS (Ne.symm q4_12) (ninS (Ne.symm q4_13) (ninS (Ne.symm q4_14) nin0))))).keep Kq10 (ninS (Ne.symm q4_11) (ninS (Ne.symm q4_12) (ninS (Ne.symm q4_13) (ninS (Ne.symm q4_14) nin0))))).keep Kq51 (ninS (Ne.symm q4_11) (ninS (Ne.symm q4_12) (ninS (Ne.symm q4_13) (ninS (Ne.symm q4_14) nin0))))) q51_1) hZ (hw _ (own_w 41 rfl)) (hw _ (own_w 2 rfl)) (by decide) (by decide)) q54a q54c (g := (mkF m 290 #[iv r1, iv r2, iv r3, iv fl, iv 1, iv 3, iv th, iv rvv, iv 0, rv b3, iv (sv - (0 : Int32)), iv r1, iv (r1 + r3), iv ((r1 + r3) - r2), iv (r1 + r3), iv 0, iv sv] [(.int 0), (.ref b3)])) rfl (by rw [hml]; rfl) (Steps.refl _) (argsL := [(.int 0)]) (rest := []) (lenOf pd_4 rfl) rfl (Nat.le_of_eq rfl) (hb hby at_290) (fun _ _ => ⟨rfl, e52, (by decide : 6 + 0 ≤ _), (by decide : 121 + 0 ≤ _)⟩)
                  dsimp only [Pt.U, Pt.locs, Pt.cells, Pt.slots] at X54 l54 y54 z54 st54 hQ54
                  subst l54 y54 z54
                  obtain ⟨rfl, Nq54, e54⟩ := hQ54
                  have N54 := Fr.app N52 Nq54
                  refine OE.v (fun t k => st54.trans k) ?_
                  show OE _ _ _ _ (T54.setTop (mkF m 293 #[iv r1, iv r2, iv r3, iv fl, iv 1, iv 3, iv th, iv rvv, iv 0, rv b3, iv (sv - (0 : Int32)), iv r1, iv (r1 + r3), iv ((r1 + r3) - r2), iv (r1 + r3), iv 0, iv sv] [(.int 0)]))
                  refine OE.v (fun t k => XS.iload X54.here hx rfl (hb hby at_293) rfl k) ?_
                  show OE _ _ _ _ (T54.setTop (mkF m 295 #[iv r1, iv r2, iv r3, iv fl, iv 1, iv 3, iv th, iv rvv, iv 0, rv b3, iv (sv - (0 : Int32)), iv r1, iv (r1 + r3), iv ((r1 + r3) - r2), iv (r1 + r3), iv 0, iv sv] [(.int (sv - (0 : Int32))), (.int 0)]))
                  refine OE.v (fun t k => XS.icmpNo X54.here hx rfl (hb hby at_295) rfl (teq (by rw [hj52_0, enn_53, if_pos rfl]; grind)).2 k) ?_
                  show OE _ _ _ _ (T54.setTop (mkF m 298 #[iv r1, iv r2, iv r3, iv fl, iv 1, iv 3, iv th, iv rvv, iv 0, rv b3, iv (sv - (0 : Int32)), iv r1, iv (r1 + r3), iv ((r1 + r3) - r2), iv (r1 + r3), iv 0, iv sv] []))
                  refine OE.v (fun t k => XS.iconst X54.here hx rfl (hb hby at_298) k) ?_
                  refine OE.v (fun t k => XS.goto X54.here hx rfl (pc0 := 299) (pc' := 303) rfl (hb hby at_299) (by decide) (by decide) k) ?_
                  show OE _ _ _ _ (T54.setTop (mkF m 303 #[iv r1, iv r2, iv r3, iv fl, iv 1, iv 3, iv th, iv rvv, iv 0, rv b3, iv (sv - (0 : Int32)), iv r1, iv (r1 + r3), iv ((r1 + r3) - r2), iv (r1 + r3), iv 0, iv sv] [(.int 1)]))
                  obtain ⟨fs, hr, hrun, hended, hW, hsame⟩ := X54.leave (v := some (.int 1)) (fun h => by rw [Bd.returns] at h; cases h)
                  refine ⟨_, _, ?_, hrun, hended, _, _, rfl, ?_, ⟨_, rfl⟩, hW, hsame.mono (by decide) (by decide)⟩
                  · exact retN X54 hx (t := .boolean) Bd.returns (by simp) (hb hby at_303) hr
                  · show Q0 Z r1 r2 r3 fl h0 n0 _ T54.heap _
                    rw [e54]
                    exact ⟨rfl, N54⟩
                ·
                  rw [enn_53]
                  refine OE.v (fun t k => XS.aload X52.here hx rfl (hb hby at_286) rfl rfl k) ?_
                  refine OE.v (fun t k => XS.iload X52.here hx rfl (hb hby at_288) rfl k) ?_
                  show OE _ _ _ _ (T52.setTop (mkF m 290 #[iv r1, iv r2, iv r3, iv fl, iv 1, iv 3, iv th, iv rvv, iv 1, rv b3, iv (sv - (0 : Int32)), iv r1, iv (r1 + r3), iv ((r1 + r3) - r2), iv (r1 + r3), iv 0, iv sv] [(.int 1), (.ref b3)]))
                  obtain ⟨cq55, kq55, q55a, q55b, q55c⟩ := isOf hZ e52 (((q8_0.keep Kq9).keep Kq10).keep Kq51)
                  obtain ⟨_, _, ⟨T55, L55, k55, n55⟩, -, X55, ⟨Lc55, hQ55, l55, y55, z55⟩, st55⟩ := X52.virtualBack hx (y := (⟨"com/example/stratal/stratal/logic/StratumGroups", "offset", "(I)I"⟩ : MethodName)) (z := (⟨"com/example/stratal/stratal/logic/StratumGroups", "offset", "(I)I"⟩ : MethodName)) hown (mvT hZ (hw _ (own_w 56 rfl))) (mvT hZ (hw _ (own_w 38 rfl))) (notFace_of_selects (args := #[]) (mvT hZ (hw _ (own_w 40 rfl)))) (mvT hZ (hw _ (own_w 40 rfl))) (mvT hZ (hw _ (own_w 39 rfl))) (by decide) (backOf (W := 0) (rmo1_0002 l Z a0 hw [] b3 rp_4 kp_4 ro_4 ko_4 (0 : Int32) (((0 : Int32) + r1) - (0 : Int32)) ((((0 : Int32) + (((0 : Int32) + r1) - (0 : Int32))) + r3) - ((0 : Int32) + (((0 : Int32) + r2) - (0 : Int32)))) (((0 : Int32) + r2) - (0 : Int32)) h51 n0 Z51 (((q8_1.keep Kq9 (ninS (Ne.symm q4_11) (ninS (Ne.symm q4_12) (ninS (Ne.symm q4_13) (ninS (Ne.symm q4_14) nin0))))).keep Kq10 (ninS (Ne.symm q4_11) (ninS (Ne.symm q4_12) (ninS (Ne.symm q4_13) (ninS (Ne.symm q4_14) nin0))))).keep Kq51 (ninS (Ne.symm q4_11) (ninS (Ne.symm q4_12) (ninS (Ne.symm q4_13) (ninS (Ne.symm q4_14) nin0))))) q51_0 (((q8_2.keep Kq9 (ninS (Ne.symm q4_11) (ninS (Ne.symm q4_12) (ninS (Ne.symm q4_13) (ninS (Ne.symm q4_14) nin0))))).keep Kq10 (ninS (Ne.symm q4_11) (ninS (Ne.symm q4_12) (ninS (Ne.symm q4_13) (ninS (Ne.symm q4_14) nin0))))).keep Kq51 (ninS (Ne.symm q4_11) (ninS (Ne.symm q4_12) (ninS (Ne.symm q4_13) (ninS (Ne.symm q4_14) nin0))))) q51_1) hZ (hw _ (own_w 41 rfl)) (hw _ (own_w 2 rfl)) (by decide) (by decide)) q55a q55c (g := (mkF m 290 #[iv r1, iv r2, iv r3, iv fl, iv 1, iv 3, iv th, iv rvv, iv 1, rv b3, iv (sv - (0 : Int32)), iv r1, iv (r1 + r3), iv ((r1 + r3) - r2), iv (r1 + r3), iv 0, iv sv] [(.int 1), (.ref b3)])) rfl (by rw [hml]; rfl) (Steps.refl _) (argsL := [(.int 1)]) (rest := []) (lenOf pd_4 rfl) rfl (Nat.le_of_eq rfl) (hb hby at_290) (fun _ _ => ⟨rfl, e52, (by decide : 6 + 0 ≤ _), (by decide : 121 + 0 ≤ _)⟩)
                  dsimp only [Pt.U, Pt.locs, Pt.cells, Pt.slots] at X55 l55 y55 z55 st55 hQ55
                  subst l55 y55 z55
                  obtain ⟨rfl, Nq55, e55⟩ := hQ55
                  have N55 := Fr.app N52 Nq55
                  refine OE.v (fun t k => st55.trans k) ?_
                  show OE _ _ _ _ (T55.setTop (mkF m 293 #[iv r1, iv r2, iv r3, iv fl, iv 1, iv 3, iv th, iv rvv, iv 1, rv b3, iv (sv - (0 : Int32)), iv r1, iv (r1 + r3), iv ((r1 + r3) - r2), iv (r1 + r3), iv 0, iv sv] [(.int ((0 : Int32) + (((0 : Int32) + r1) - (0 : Int32))))]))
                  refine OE.v (fun t k => XS.iload X55.here hx rfl (hb hby at_293) rfl k) ?_
                  show OE _ _ _ _ (T55.setTop (mkF m 295 #[iv r1, iv r2, iv r3, iv fl, iv 1, iv 3, iv th, iv rvv, iv 1, rv b3, iv (sv - (0 : Int32)), iv r1, iv (r1 + r3), iv ((r1 + r3) - r2), iv (r1 + r3), iv 0, iv sv] [(.int (sv - (0 : Int32))), (.int ((0 : Int32) + (((0 : Int32) + r1) - (0 : Int32))))]))
                  refine OE.v (fun t k => XS.icmpNo X55.here hx rfl (hb hby at_295) rfl (teq (by rw [hj52_0, enn_53, if_neg (by decide), if_pos rfl]; grind)).2 k) ?_
                  show OE _ _ _ _ (T55.setTop (mkF m 298 #[iv r1, iv r2, iv r3, iv fl, iv 1, iv 3, iv th, iv rvv, iv 1, rv b3, iv (sv - (0 : Int32)), iv r1, iv (r1 + r3), iv ((r1 + r3) - r2), iv (r1 + r3), iv 0, iv sv] []))
                  refine OE.v (fun t k => XS.iconst X55.here hx rfl (hb hby at_298) k) ?_
                  refine OE.v (fun t k => XS.goto X55.here hx rfl (pc0 := 299) (pc' := 303) rfl (hb hby at_299) (by decide) (by decide) k) ?_
                  show OE _ _ _ _ (T55.setTop (mkF m 303 #[iv r1, iv r2, iv r3, iv fl, iv 1, iv 3, iv th, iv rvv, iv 1, rv b3, iv (sv - (0 : Int32)), iv r1, iv (r1 + r3), iv ((r1 + r3) - r2), iv (r1 + r3), iv 0, iv sv] [(.int 1)]))
                  obtain ⟨fs, hr, hrun, hended, hW, hsame⟩ := X55.leave (v := some (.int 1)) (fun h => by rw [Bd.returns] at h; cases h)
                  refine ⟨_, _, ?_, hrun, hended, _, _, rfl, ?_, ⟨_, rfl⟩, hW, hsame.mono (by decide) (by decide)⟩
                  · exact retN X55 hx (t := .boolean) Bd.returns (by simp) (hb hby at_303) hr
                  · show Q0 Z r1 r2 r3 fl h0 n0 _ T55.heap _
                    rw [e55]
                    exact ⟨rfl, N55⟩
                ·
                  rw [enn_53]
                  refine OE.v (fun t k => XS.aload X52.here hx rfl (hb hby at_286) rfl rfl k) ?_
                  refine OE.v (fun t k => XS.iload X52.here hx rfl (hb hby at_288) rfl k) ?_
                  show OE _ _ _ _ (T52.setTop (mkF m 290 #[iv r1, iv r2, iv r3, iv fl, iv 1, iv 3, iv th, iv rvv, iv 2, rv b3, iv (sv - (0 : Int32)), iv r1, iv (r1 + r3), iv ((r1 + r3) - r2), iv (r1 + r3), iv 0, iv sv] [(.int 2), (.ref b3)]))
                  obtain ⟨cq56, kq56, q56a, q56b, q56c⟩ := isOf hZ e52 (((q8_0.keep Kq9).keep Kq10).keep Kq51)
                  obtain ⟨_, _, ⟨T56, L56, k56, n56⟩, -, X56, ⟨Lc56, hQ56, l56, y56, z56⟩, st56⟩ := X52.virtualBack hx (y := (⟨"com/example/stratal/stratal/logic/StratumGroups", "offset", "(I)I"⟩ : MethodName)) (z := (⟨"com/example/stratal/stratal/logic/StratumGroups", "offset", "(I)I"⟩ : MethodName)) hown (mvT hZ (hw _ (own_w 56 rfl))) (mvT hZ (hw _ (own_w 38 rfl))) (notFace_of_selects (args := #[]) (mvT hZ (hw _ (own_w 40 rfl)))) (mvT hZ (hw _ (own_w 40 rfl))) (mvT hZ (hw _ (own_w 39 rfl))) (by decide) (backOf (W := 0) (rmo2_0002 l Z a0 hw [] b3 rp_4 kp_4 ro_4 ko_4 (0 : Int32) (((0 : Int32) + r1) - (0 : Int32)) ((((0 : Int32) + (((0 : Int32) + r1) - (0 : Int32))) + r3) - ((0 : Int32) + (((0 : Int32) + r2) - (0 : Int32)))) (((0 : Int32) + r2) - (0 : Int32)) h51 n0 Z51 (((q8_1.keep Kq9 (ninS (Ne.symm q4_11) (ninS (Ne.symm q4_12) (ninS (Ne.symm q4_13) (ninS (Ne.symm q4_14) nin0))))).keep Kq10 (ninS (Ne.symm q4_11) (ninS (Ne.symm q4_12) (ninS (Ne.symm q4_13) (ninS (Ne.symm q4_14) nin0))))).keep Kq51 (ninS (Ne.symm q4_11) (ninS (Ne.symm q4_12) (ninS (Ne.symm q4_13) (ninS (Ne.symm q4_14) nin0))))) q51_0 (((q8_2.keep Kq9 (ninS (Ne.symm q4_11) (ninS (Ne.symm q4_12) (ninS (Ne.symm q4_13) (ninS (Ne.symm q4_14) nin0))))).keep Kq10 (ninS (Ne.symm q4_11) (ninS (Ne.symm q4_12) (ninS (Ne.symm q4_13) (ninS (Ne.symm q4_14) nin0))))).keep Kq51 (ninS (Ne.symm q4_11) (ninS (Ne.symm q4_12) (ninS (Ne.symm q4_13) (ninS (Ne.symm q4_14) nin0))))) q51_1) hZ (hw _ (own_w 41 rfl)) (hw _ (own_w 2 rfl)) (by decide) (by decide)) q56a q56c (g := (mkF m 290 #[iv r1, iv r2, iv r3, iv fl, iv 1, iv 3, iv th, iv rvv, iv 2, rv b3, iv (sv - (0 : Int32)), iv r1, iv (r1 + r3), iv ((r1 + r3) - r2), iv (r1 + r3), iv 0, iv sv] [(.int 2), (.ref b3)])) rfl (by rw [hml]; rfl) (Steps.refl _) (argsL := [(.int 2)]) (rest := []) (lenOf pd_4 rfl) rfl (Nat.le_of_eq rfl) (hb hby at_290) (fun _ _ => ⟨rfl, e52, (by decide : 6 + 0 ≤ _), (by decide : 121 + 0 ≤ _)⟩)
                  dsimp only [Pt.U, Pt.locs, Pt.cells, Pt.slots] at X56 l56 y56 z56 st56 hQ56
                  subst l56 y56 z56
                  obtain ⟨rfl, Nq56, e56⟩ := hQ56
                  have N56 := Fr.app N52 Nq56
                  refine OE.v (fun t k => st56.trans k) ?_
                  show OE _ _ _ _ (T56.setTop (mkF m 293 #[iv r1, iv r2, iv r3, iv fl, iv 1, iv 3, iv th, iv rvv, iv 2, rv b3, iv (sv - (0 : Int32)), iv r1, iv (r1 + r3), iv ((r1 + r3) - r2), iv (r1 + r3), iv 0, iv sv] [(.int ((0 : Int32) + ((((0 : Int32) + (((0 : Int32) + r1) - (0 : Int32))) + r3) - ((0 : Int32) + (((0 : Int32) + r2) - (0 : Int32))))))]))
                  refine OE.v (fun t k => XS.iload X56.here hx rfl (hb hby at_293) rfl k) ?_
                  show OE _ _ _ _ (T56.setTop (mkF m 295 #[iv r1, iv r2, iv r3, iv fl, iv 1, iv 3, iv th, iv rvv, iv 2, rv b3, iv (sv - (0 : Int32)), iv r1, iv (r1 + r3), iv ((r1 + r3) - r2), iv (r1 + r3), iv 0, iv sv] [(.int (sv - (0 : Int32))), (.int ((0 : Int32) + ((((0 : Int32) + (((0 : Int32) + r1) - (0 : Int32))) + r3) - ((0 : Int32) + (((0 : Int32) + r2) - (0 : Int32))))))]))
                  refine OE.v (fun t k => XS.icmpNo X56.here hx rfl (hb hby at_295) rfl (teq (by rw [hj52_0, enn_53, if_neg (by decide), if_neg (by decide), if_pos rfl]; grind)).2 k) ?_
                  show OE _ _ _ _ (T56.setTop (mkF m 298 #[iv r1, iv r2, iv r3, iv fl, iv 1, iv 3, iv th, iv rvv, iv 2, rv b3, iv (sv - (0 : Int32)), iv r1, iv (r1 + r3), iv ((r1 + r3) - r2), iv (r1 + r3), iv 0, iv sv] []))
                  refine OE.v (fun t k => XS.iconst X56.here hx rfl (hb hby at_298) k) ?_
                  refine OE.v (fun t k => XS.goto X56.here hx rfl (pc0 := 299) (pc' := 303) rfl (hb hby at_299) (by decide) (by decide) k) ?_
                  show OE _ _ _ _ (T56.setTop (mkF m 303 #[iv r1, iv r2, iv r3, iv fl, iv 1, iv 3, iv th, iv rvv, iv 2, rv b3, iv (sv - (0 : Int32)), iv r1, iv (r1 + r3), iv ((r1 + r3) - r2), iv (r1 + r3), iv 0, iv sv] [(.int 1)]))
                  obtain ⟨fs, hr, hrun, hended, hW, hsame⟩ := X56.leave (v := some (.int 1)) (fun h => by rw [Bd.returns] at h; cases h)
                  refine ⟨_, _, ?_, hrun, hended, _, _, rfl, ?_, ⟨_, rfl⟩, hW, hsame.mono (by decide) (by decide)⟩
                  · exact retN X56 hx (t := .boolean) Bd.returns (by simp) (hb hby at_303) hr
                  · show Q0 Z r1 r2 r3 fl h0 n0 _ T56.heap _
                    rw [e56]
                    exact ⟨rfl, N56⟩
                ·
                  rw [enn_53]
                  refine OE.v (fun t k => XS.aload X52.here hx rfl (hb hby at_286) rfl rfl k) ?_
                  refine OE.v (fun t k => XS.iload X52.here hx rfl (hb hby at_288) rfl k) ?_
                  show OE _ _ _ _ (T52.setTop (mkF m 290 #[iv r1, iv r2, iv r3, iv fl, iv 1, iv 3, iv th, iv rvv, iv 3, rv b3, iv (sv - (0 : Int32)), iv r1, iv (r1 + r3), iv ((r1 + r3) - r2), iv (r1 + r3), iv 0, iv sv] [(.int 3), (.ref b3)]))
                  obtain ⟨cq57, kq57, q57a, q57b, q57c⟩ := isOf hZ e52 (((q8_0.keep Kq9).keep Kq10).keep Kq51)
                  obtain ⟨_, _, ⟨T57, L57, k57, n57⟩, -, X57, ⟨Lc57, hQ57, l57, y57, z57⟩, st57⟩ := X52.virtualBack hx (y := (⟨"com/example/stratal/stratal/logic/StratumGroups", "offset", "(I)I"⟩ : MethodName)) (z := (⟨"com/example/stratal/stratal/logic/StratumGroups", "offset", "(I)I"⟩ : MethodName)) hown (mvT hZ (hw _ (own_w 56 rfl))) (mvT hZ (hw _ (own_w 38 rfl))) (notFace_of_selects (args := #[]) (mvT hZ (hw _ (own_w 40 rfl)))) (mvT hZ (hw _ (own_w 40 rfl))) (mvT hZ (hw _ (own_w 39 rfl))) (by decide) (backOf (W := 0) (rmo3_0002 l Z a0 hw [] b3 rp_4 kp_4 ro_4 ko_4 (0 : Int32) (((0 : Int32) + r1) - (0 : Int32)) ((((0 : Int32) + (((0 : Int32) + r1) - (0 : Int32))) + r3) - ((0 : Int32) + (((0 : Int32) + r2) - (0 : Int32)))) (((0 : Int32) + r2) - (0 : Int32)) h51 n0 Z51 (((q8_1.keep Kq9 (ninS (Ne.symm q4_11) (ninS (Ne.symm q4_12) (ninS (Ne.symm q4_13) (ninS (Ne.symm q4_14) nin0))))).keep Kq10 (ninS (Ne.symm q4_11) (ninS (Ne.symm q4_12) (ninS (Ne.symm q4_13) (ninS (Ne.symm q4_14) nin0))))).keep Kq51 (ninS (Ne.symm q4_11) (ninS (Ne.symm q4_12) (ninS (Ne.symm q4_13) (ninS (Ne.symm q4_14) nin0))))) q51_0 (((q8_2.keep Kq9 (ninS (Ne.symm q4_11) (ninS (Ne.symm q4_12) (ninS (Ne.symm q4_13) (ninS (Ne.symm q4_14) nin0))))).keep Kq10 (ninS (Ne.symm q4_11) (ninS (Ne.symm q4_12) (ninS (Ne.symm q4_13) (ninS (Ne.symm q4_14) nin0))))).keep Kq51 (ninS (Ne.symm q4_11) (ninS (Ne.symm q4_12) (ninS (Ne.symm q4_13) (ninS (Ne.symm q4_14) nin0))))) q51_1) hZ (hw _ (own_w 41 rfl)) (hw _ (own_w 2 rfl)) (by decide) (by decide)) q57a q57c (g := (mkF m 290 #[iv r1, iv r2, iv r3, iv fl, iv 1, iv 3, iv th, iv rvv, iv 3, rv b3, iv (sv - (0 : Int32)), iv r1, iv (r1 + r3), iv ((r1 + r3) - r2), iv (r1 + r3), iv 0, iv sv] [(.int 3), (.ref b3)])) rfl (by rw [hml]; rfl) (Steps.refl _) (argsL := [(.int 3)]) (rest := []) (lenOf pd_4 rfl) rfl (Nat.le_of_eq rfl) (hb hby at_290) (fun _ _ => ⟨rfl, e52, (by decide : 6 + 0 ≤ _), (by decide : 121 + 0 ≤ _)⟩)
                  dsimp only [Pt.U, Pt.locs, Pt.cells, Pt.slots] at X57 l57 y57 z57 st57 hQ57
                  subst l57 y57 z57
                  obtain ⟨rfl, Nq57, e57⟩ := hQ57
                  have N57 := Fr.app N52 Nq57
                  refine OE.v (fun t k => st57.trans k) ?_
                  show OE _ _ _ _ (T57.setTop (mkF m 293 #[iv r1, iv r2, iv r3, iv fl, iv 1, iv 3, iv th, iv rvv, iv 3, rv b3, iv (sv - (0 : Int32)), iv r1, iv (r1 + r3), iv ((r1 + r3) - r2), iv (r1 + r3), iv 0, iv sv] [(.int (((0 : Int32) + (((0 : Int32) + r2) - (0 : Int32))) + ((((0 : Int32) + (((0 : Int32) + r1) - (0 : Int32))) + r3) - ((0 : Int32) + (((0 : Int32) + r2) - (0 : Int32))))))]))
                  refine OE.v (fun t k => XS.iload X57.here hx rfl (hb hby at_293) rfl k) ?_
                  show OE _ _ _ _ (T57.setTop (mkF m 295 #[iv r1, iv r2, iv r3, iv fl, iv 1, iv 3, iv th, iv rvv, iv 3, rv b3, iv (sv - (0 : Int32)), iv r1, iv (r1 + r3), iv ((r1 + r3) - r2), iv (r1 + r3), iv 0, iv sv] [(.int (sv - (0 : Int32))), (.int (((0 : Int32) + (((0 : Int32) + r2) - (0 : Int32))) + ((((0 : Int32) + (((0 : Int32) + r1) - (0 : Int32))) + r3) - ((0 : Int32) + (((0 : Int32) + r2) - (0 : Int32))))))]))
                  refine OE.v (fun t k => XS.icmpNo X57.here hx rfl (hb hby at_295) rfl (teq (by rw [hj52_0, enn_53, if_neg (by decide), if_neg (by decide), if_neg (by decide)]; grind)).2 k) ?_
                  show OE _ _ _ _ (T57.setTop (mkF m 298 #[iv r1, iv r2, iv r3, iv fl, iv 1, iv 3, iv th, iv rvv, iv 3, rv b3, iv (sv - (0 : Int32)), iv r1, iv (r1 + r3), iv ((r1 + r3) - r2), iv (r1 + r3), iv 0, iv sv] []))
                  refine OE.v (fun t k => XS.iconst X57.here hx rfl (hb hby at_298) k) ?_
                  refine OE.v (fun t k => XS.goto X57.here hx rfl (pc0 := 299) (pc' := 303) rfl (hb hby at_299) (by decide) (by decide) k) ?_
                  show OE _ _ _ _ (T57.setTop (mkF m 303 #[iv r1, iv r2, iv r3, iv fl, iv 1, iv 3, iv th, iv rvv, iv 3, rv b3, iv (sv - (0 : Int32)), iv r1, iv (r1 + r3), iv ((r1 + r3) - r2), iv (r1 + r3), iv 0, iv sv] [(.int 1)]))
                  obtain ⟨fs, hr, hrun, hended, hW, hsame⟩ := X57.leave (v := some (.int 1)) (fun h => by rw [Bd.returns] at h; cases h)
                  refine ⟨_, _, ?_, hrun, hended, _, _, rfl, ?_, ⟨_, rfl⟩, hW, hsame.mono (by decide) (by decide)⟩
                  · exact retN X57 hx (t := .boolean) Bd.returns (by simp) (hb hby at_303) hr
                  · show Q0 Z r1 r2 r3 fl h0 n0 _ T57.heap _
                    rw [e57]
                    exact ⟨rfl, N57⟩
              intro J52
              by_cases hc241_58 : nn = (0 : Int32)
              ·
                refine OE.v (fun t k => XS.ifNo X51.here hx rfl (hb hby at_241) rfl ((if0 _ _).trans (teq hc241_58).2) k) ?_
                show OE _ _ _ _ (T51.setTop (mkF m 244 #[iv r1, iv r2, iv r3, iv fl, iv 1, iv 3, iv th, iv rvv, iv nn, rv b3, .unset, iv r1, iv (r1 + r3), iv ((r1 + r3) - r2), iv (r1 + r3), iv 0, .unset] []))
                refine OE.v (fun t k => XS.iconst X51.here hx rfl (hb hby at_244) k) ?_
                refine OE.v (fun t k => XS.istore X51.here hx rfl (hb hby at_245) rfl (l' := #[iv r1, iv r2, iv r3, iv fl, iv 1, iv 3, iv th, iv rvv, iv nn, rv b3, .unset, iv r1, iv (r1 + r3), iv ((r1 + r3) - r2), iv (r1 + r3), iv 0, iv 0]) rfl k) ?_
                refine OE.v (fun t k => XS.goto X51.here hx rfl (pc0 := 247) (pc' := 279) rfl (hb hby at_247) (by decide) (by decide) k) ?_
                exact J52 _ _ X51 e51 N51 (0 : Int32) (by rw [if_pos hc241_58])
              ·
                refine OE.v (fun t k => XS.ifYes X51.here hx rfl (pc0 := 241) (pc' := 250) rfl (hb hby at_241) rfl ((if0 _ _).trans (feq hc241_58).2) (by decide) (by decide) k) ?_
                show OE _ _ _ _ (T51.setTop (mkF m 250 #[iv r1, iv r2, iv r3, iv fl, iv 1, iv 3, iv th, iv rvv, iv nn, rv b3, .unset, iv r1, iv (r1 + r3), iv ((r1 + r3) - r2), iv (r1 + r3), iv 0, .unset] []))
                refine OE.v (fun t k => XS.iload X51.here hx rfl (hb hby at_250) rfl k) ?_
                refine OE.v (fun t k => XS.iconst X51.here hx rfl (hb hby at_252) k) ?_
                show OE _ _ _ _ (T51.setTop (mkF m 253 #[iv r1, iv r2, iv r3, iv fl, iv 1, iv 3, iv th, iv rvv, iv nn, rv b3, .unset, iv r1, iv (r1 + r3), iv ((r1 + r3) - r2), iv (r1 + r3), iv 0, .unset] [(.int 1), (.int nn)]))
                by_cases hc253_59 : nn = (1 : Int32)
                ·
                  refine OE.v (fun t k => XS.icmpNo X51.here hx rfl (hb hby at_253) rfl (teq hc253_59).2 k) ?_
                  show OE _ _ _ _ (T51.setTop (mkF m 256 #[iv r1, iv r2, iv r3, iv fl, iv 1, iv 3, iv th, iv rvv, iv nn, rv b3, .unset, iv r1, iv (r1 + r3), iv ((r1 + r3) - r2), iv (r1 + r3), iv 0, .unset] []))
                  refine OE.v (fun t k => XS.iloadN X51.here hx rfl (hb hby at_256) rfl k) ?_
                  refine OE.v (fun t k => XS.istore X51.here hx rfl (hb hby at_257) rfl (l' := #[iv r1, iv r2, iv r3, iv fl, iv 1, iv 3, iv th, iv rvv, iv nn, rv b3, .unset, iv r1, iv (r1 + r3), iv ((r1 + r3) - r2), iv (r1 + r3), iv 0, iv r1]) rfl k) ?_
                  refine OE.v (fun t k => XS.goto X51.here hx rfl (pc0 := 259) (pc' := 279) rfl (hb hby at_259) (by decide) (by decide) k) ?_
                  exact J52 _ _ X51 e51 N51 r1 (by rw [if_neg hc241_58, if_pos hc253_59])
                ·
                  refine OE.v (fun t k => XS.icmpYes X51.here hx rfl (pc0 := 253) (pc' := 262) rfl (hb hby at_253) rfl (feq hc253_59).2 (by decide) (by decide) k) ?_
                  show OE _ _ _ _ (T51.setTop (mkF m 262 #[iv r1, iv r2, iv r3, iv fl, iv 1, iv 3, iv th, iv rvv, iv nn, rv b3, .unset, iv r1, iv (r1 + r3), iv ((r1 + r3) - r2), iv (r1 + r3), iv 0, .unset] []))
                  refine OE.v (fun t k => XS.iload X51.here hx rfl (hb hby at_262) rfl k) ?_
                  refine OE.v (fun t k => XS.iconst X51.here hx rfl (hb hby at_264) k) ?_
                  show OE _ _ _ _ (T51.setTop (mkF m 265 #[iv r1, iv r2, iv r3, iv fl, iv 1, iv 3, iv th, iv rvv, iv nn, rv b3, .unset, iv r1, iv (r1 + r3), iv ((r1 + r3) - r2), iv (r1 + r3), iv 0, .unset] [(.int 2), (.int nn)]))
                  by_cases hc265_60 : nn = (2 : Int32)
                  ·
                    refine OE.v (fun t k => XS.icmpNo X51.here hx rfl (hb hby at_265) rfl (teq hc265_60).2 k) ?_
                    show OE _ _ _ _ (T51.setTop (mkF m 268 #[iv r1, iv r2, iv r3, iv fl, iv 1, iv 3, iv th, iv rvv, iv nn, rv b3, .unset, iv r1, iv (r1 + r3), iv ((r1 + r3) - r2), iv (r1 + r3), iv 0, .unset] []))
                    refine OE.v (fun t k => XS.iload X51.here hx rfl (hb hby at_268) rfl k) ?_
                    refine OE.v (fun t k => XS.istore X51.here hx rfl (hb hby at_270) rfl (l' := #[iv r1, iv r2, iv r3, iv fl, iv 1, iv 3, iv th, iv rvv, iv nn, rv b3, .unset, iv r1, iv (r1 + r3), iv ((r1 + r3) - r2), iv (r1 + r3), iv 0, iv ((r1 + r3) - r2)]) rfl k) ?_
                    refine OE.v (fun t k => XS.goto X51.here hx rfl (pc0 := 272) (pc' := 279) rfl (hb hby at_272) (by decide) (by decide) k) ?_
                    exact J52 _ _ X51 e51 N51 ((r1 + r3) - r2) (by rw [if_neg hc241_58, if_neg hc253_59, if_pos hc265_60])
                  ·
                    refine OE.v (fun t k => XS.icmpYes X51.here hx rfl (pc0 := 265) (pc' := 275) rfl (hb hby at_265) rfl (feq hc265_60).2 (by decide) (by decide) k) ?_
                    show OE _ _ _ _ (T51.setTop (mkF m 275 #[iv r1, iv r2, iv r3, iv fl, iv 1, iv 3, iv th, iv rvv, iv nn, rv b3, .unset, iv r1, iv (r1 + r3), iv ((r1 + r3) - r2), iv (r1 + r3), iv 0, .unset] []))
                    refine OE.v (fun t k => XS.iload X51.here hx rfl (hb hby at_275) rfl k) ?_
                    refine OE.v (fun t k => XS.istore X51.here hx rfl (hb hby at_277) rfl (l' := #[iv r1, iv r2, iv r3, iv fl, iv 1, iv 3, iv th, iv rvv, iv nn, rv b3, .unset, iv r1, iv (r1 + r3), iv ((r1 + r3) - r2), iv (r1 + r3), iv 0, iv (r1 + r3)]) rfl k) ?_
                    exact J52 _ _ X51 e51 N51 (r1 + r3) (by rw [if_neg hc241_58, if_neg hc253_59, if_neg hc265_60])
        ·
          refine OE.v (fun t k => XS.ifNo X10.here hx rfl (hb hby at_139) rfl ((if0 _ _).trans (feq hc139_17).1) k) ?_
          show OE _ _ _ _ (T10.setTop (mkF m 142 #[iv r1, iv r2, iv r3, iv fl, iv na, iv nb, iv th, iv rvv, iv nn, rv b3, .unset, .unset, .unset, .unset, .unset, .unset, .unset] []))
          rcases c_na with ena_61 | ena_61
          ·
            rw [ena_61]
            show OE _ _ _ _ (T10.setTop (mkF m 142 #[iv r1, iv r2, iv r3, iv fl, iv 0, iv nb, iv th, iv rvv, iv nn, rv b3, .unset, .unset, .unset, .unset, .unset, .unset, .unset] []))
            rcases c_nb with enb_62 | enb_62
            ·
              rw [enb_62]
              show OE _ _ _ _ (T10.setTop (mkF m 142 #[iv r1, iv r2, iv r3, iv fl, iv 0, iv 2, iv th, iv rvv, iv nn, rv b3, .unset, .unset, .unset, .unset, .unset, .unset, .unset] []))
              refine OE.v (fun t k => XS.aload X10.here hx rfl (hb hby at_142) rfl rfl k) ?_
              refine OE.v (fun t k => XS.iload X10.here hx rfl (hb hby at_144) rfl k) ?_
              refine OE.v (fun t k => XS.iload X10.here hx rfl (hb hby at_146) rfl k) ?_
              refine OE.v (fun t k => XS.iloadN X10.here hx rfl (hb hby at_148) rfl k) ?_
              show OE _ _ _ _ (T10.setTop (mkF m 149 #[iv r1, iv r2, iv r3, iv fl, iv 0, iv 2, iv th, iv rvv, iv nn, rv b3, .unset, .unset, .unset, .unset, .unset, .unset, .unset] [(.int r3), (.int 0), (.int 2), (.ref b3)]))
              obtain ⟨cq63, kq63, q63a, q63b, q63c⟩ := isOf hZ e10 ((q8_0.keep Kq9).keep Kq10)
              obtain ⟨_, _, ⟨T63, L63, k63, n63⟩, -, X63, ⟨Lc63, hQ63, l63, y63, z63⟩, st63⟩ := X10.virtualBack hx (y := (⟨"com/example/stratal/stratal/logic/StratumGroups", "join", "(III)I"⟩ : MethodName)) (z := (⟨"com/example/stratal/stratal/logic/StratumGroups", "join", "(III)I"⟩ : MethodName)) hown (mvT hZ (hw _ (own_w 27 rfl))) (mvT hZ (hw _ (own_w 28 rfl))) (notFace_of_selects (args := #[]) (mvT hZ (hw _ (own_w 30 rfl)))) (mvT hZ (hw _ (own_w 30 rfl))) (mvT hZ (hw _ (own_w 29 rfl))) (by decide) (backOf (W := 0) (rmJ20_0022 l Z a0 hw [] b3 rp_4 ro_4 rs_4 rf_4 kp_4 ko_4 ks_4 kf_4 (0 : Int32) (((0 : Int32) + r1) - (0 : Int32)) (0 : Int32) (((0 : Int32) + r2) - (0 : Int32)) (own_max (0 : Int32) ((0 : Int32) - (((0 : Int32) + r1) - (0 : Int32)))) (0 : Int32) (own_max (0 : Int32) ((0 : Int32) - (((0 : Int32) + r2) - (0 : Int32)))) (0 : Int32) r3 h10 n0 Z10 ((q8_0.keep Kq9).keep Kq10) ((q8_1.keep Kq9 (ninS (Ne.symm q4_11) (ninS (Ne.symm q4_12) (ninS (Ne.symm q4_13) (ninS (Ne.symm q4_14) nin0))))).keep Kq10 (ninS (Ne.symm q4_11) (ninS (Ne.symm q4_12) (ninS (Ne.symm q4_13) (ninS (Ne.symm q4_14) nin0))))) ((q8_2.keep Kq9 (ninS (Ne.symm q4_11) (ninS (Ne.symm q4_12) (ninS (Ne.symm q4_13) (ninS (Ne.symm q4_14) nin0))))).keep Kq10 (ninS (Ne.symm q4_11) (ninS (Ne.symm q4_12) (ninS (Ne.symm q4_13) (ninS (Ne.symm q4_14) nin0))))) ((q8_3.keep Kq9 (ninS (Ne.symm q4_11) (ninS (Ne.symm q4_12) (ninS (Ne.symm q4_13) (ninS (Ne.symm q4_14) nin0))))).keep Kq10 (ninS (Ne.symm q4_11) (ninS (Ne.symm q4_12) (ninS (Ne.symm q4_13) (ninS (Ne.symm q4_14) nin0))))) ((q8_4.keep Kq9 (ninS (Ne.symm q4_11) (ninS (Ne.symm q4_12) (ninS (Ne.symm q4_13) (ninS (Ne.symm q4_14) nin0))))).keep Kq10 (ninS (Ne.symm q4_11) (ninS (Ne.symm q4_12) (ninS (Ne.symm q4_13) (ninS (Ne.symm q4_14) nin0))))) ((q8_10.keep Kq9 (ninS (Ne.symm q4_11) (ninS (Ne.symm q4_12) (ninS (Ne.symm q4_13) (ninS (Ne.symm q4_14) nin0))))).keep Kq10 (ninS (Ne.symm q4_11) (ninS (Ne.symm q4_12) (ninS (Ne.symm q4_13) (ninS (Ne.symm q4_14) nin0))))) q10_0 q10_1 q10_2 q10_3 q4_11 q4_12 q4_13 q4_14 q4_15 q4_16 q4_17 q4_18 q4_19 q4_20 q4_21 q4_22 q4_23 q4_24) hZ (hw _ (own_w 31 rfl)) (hw _ (own_w 2 rfl)) (by decide) (by decide)) q63a q63c (g := (mkF m 149 #[iv r1, iv r2, iv r3, iv fl, iv 0, iv 2, iv th, iv rvv, iv nn, rv b3, .unset, .unset, .unset, .unset, .unset, .unset, .unset] [(.int r3), (.int 0), (.int 2), (.ref b3)])) rfl (by rw [hml]; rfl) (Steps.refl _) (argsL := [(.int 2), (.int 0), (.int r3)]) (rest := []) (lenOf pd_5 rfl) rfl (Nat.le_of_eq rfl) (hb hby at_149) (fun _ _ => ⟨rfl, e10, (by decide : 6 + 0 ≤ _), (by decide : 121 + 0 ≤ _)⟩)
              dsimp only [Pt.U, Pt.locs, Pt.cells, Pt.slots] at X63 l63 y63 z63 st63 hQ63
              subst l63 y63 z63
              obtain ⟨h63, e63⟩ : ∃ z, T63.heap = z := ⟨_, rfl⟩
              rw [e63] at hQ63
              obtain ⟨rfl, Nq63, Kq63, q63_0, q63_1, q63_2, q63_3⟩ := hQ63
              have Z63 : n0 ≤ h63.size := Nat.le_trans Z10 Kq63.1
              have N63 := Fr.app N10 Nq63
              refine OE.v (fun t k => st63.trans k) ?_
              show OE _ _ _ _ (T63.setTop (mkF m 152 #[iv r1, iv r2, iv r3, iv fl, iv 0, iv 2, iv th, iv rvv, iv nn, rv b3, .unset, .unset, .unset, .unset, .unset, .unset, .unset] [(.int 0)]))
              refine OE.v (fun t k => XS.pop X63.here hx rfl (hb hby at_152) rfl rfl k) ?_
              refine OE.v (fun t k => XS.goto X63.here hx rfl (pc0 := 153) (pc' := 167) rfl (hb hby at_153) (by decide) (by decide) k) ?_
              refine OE.v (fun t k => XS.iload X63.here hx rfl (hb hby at_167) rfl k) ?_
              show OE _ _ _ _ (T63.setTop (mkF m 169 #[iv r1, iv r2, iv r3, iv fl, iv 0, iv 2, iv th, iv rvv, iv nn, rv b3, .unset, .unset, .unset, .unset, .unset, .unset, .unset] [(.int 0)]))
              refine OE.v (fun t k => XS.ifNo X63.here hx rfl (hb hby at_169) rfl ((if0 _ _).trans (teq (by decide)).2) k) ?_
              show OE _ _ _ _ (T63.setTop (mkF m 172 #[iv r1, iv r2, iv r3, iv fl, iv 0, iv 2, iv th, iv rvv, iv nn, rv b3, .unset, .unset, .unset, .unset, .unset, .unset, .unset] []))
              refine OE.v (fun t k => XS.iconst X63.here hx rfl (hb hby at_172) k) ?_
              refine OE.v (fun t k => XS.goto X63.here hx rfl (pc0 := 173) (pc' := 177) rfl (hb hby at_173) (by decide) (by decide) k) ?_
              refine OE.v (fun t k => XS.istore X63.here hx rfl (hb hby at_177) rfl (l' := #[iv r1, iv r2, iv r3, iv fl, iv 0, iv 2, iv th, iv rvv, iv nn, rv b3, .unset, iv 0, .unset, .unset, .unset, .unset, .unset]) rfl k) ?_
              refine OE.v (fun t k => XS.iload X63.here hx rfl (hb hby at_179) rfl k) ?_
              show OE _ _ _ _ (T63.setTop (mkF m 181 #[iv r1, iv r2, iv r3, iv fl, iv 0, iv 2, iv th, iv rvv, iv nn, rv b3, .unset, iv 0, .unset, .unset, .unset, .unset, .unset] [(.int rvv)]))
              refine OE.v (fun t k => XS.ifNo X63.here hx rfl (hb hby at_181) rfl ((if0 _ _).trans (feq hc139_17).1) k) ?_
              show OE _ _ _ _ (T63.setTop (mkF m 184 #[iv r1, iv r2, iv r3, iv fl, iv 0, iv 2, iv th, iv rvv, iv nn, rv b3, .unset, iv 0, .unset, .unset, .unset, .unset, .unset] []))
              refine OE.v (fun t k => XS.iload X63.here hx rfl (hb hby at_184) rfl k) ?_
              refine OE.v (fun t k => XS.iloadN X63.here hx rfl (hb hby at_186) rfl k) ?_
              refine OE.v (fun t k => XS.isub X63.here hx rfl (hb hby at_187) rfl k) ?_
              refine OE.v (fun t k => XS.goto X63.here hx rfl (pc0 := 188) (pc' := 195) rfl (hb hby at_188) (by decide) (by decide) k) ?_
              refine OE.v (fun t k => XS.istore X63.here hx rfl (hb hby at_195) rfl (l' := #[iv r1, iv r2, iv r3, iv fl, iv 0, iv 2, iv th, iv rvv, iv nn, rv b3, .unset, iv 0, iv ((0 : Int32) - r3), .unset, .unset, .unset, .unset]) rfl k) ?_
              refine OE.v (fun t k => XS.iload X63.here hx rfl (hb hby at_197) rfl k) ?_
              show OE _ _ _ _ (T63.setTop (mkF m 199 #[iv r1, iv r2, iv r3, iv fl, iv 0, iv 2, iv th, iv rvv, iv nn, rv b3, .unset, iv 0, iv ((0 : Int32) - r3), .unset, .unset, .unset, .unset] [(.int 2)]))
              refine OE.v (fun t k => XS.iconst X63.here hx rfl (hb hby at_199) k) ?_
              show OE _ _ _ _ (T63.setTop (mkF m 200 #[iv r1, iv r2, iv r3, iv fl, iv 0, iv 2, iv th, iv rvv, iv nn, rv b3, .unset, iv 0, iv ((0 : Int32) - r3), .unset, .unset, .unset, .unset] [(.int 2), (.int 2)]))
              refine OE.v (fun t k => XS.icmpNo X63.here hx rfl (hb hby at_200) rfl (teq (by decide)).2 k) ?_
              show OE _ _ _ _ (T63.setTop (mkF m 203 #[iv r1, iv r2, iv r3, iv fl, iv 0, iv 2, iv th, iv rvv, iv nn, rv b3, .unset, iv 0, iv ((0 : Int32) - r3), .unset, .unset, .unset, .unset] []))
              refine OE.v (fun t k => XS.iload X63.here hx rfl (hb hby at_203) rfl k) ?_
              refine OE.v (fun t k => XS.istore X63.here hx rfl (hb hby at_205) rfl (l' := #[iv r1, iv r2, iv r3, iv fl, iv 0, iv 2, iv th, iv rvv, iv nn, rv b3, .unset, iv 0, iv ((0 : Int32) - r3), iv ((0 : Int32) - r3), .unset, .unset, .unset]) rfl k) ?_
              refine OE.v (fun t k => XS.iload X63.here hx rfl (hb hby at_207) rfl k) ?_
              refine OE.v (fun t k => XS.iloadN X63.here hx rfl (hb hby at_209) rfl k) ?_
              refine OE.v (fun t k => XS.iadd X63.here hx rfl (hb hby at_210) rfl k) ?_
              refine OE.v (fun t k => XS.istore X63.here hx rfl (hb hby at_211) rfl (l' := #[iv r1, iv r2, iv r3, iv fl, iv 0, iv 2, iv th, iv rvv, iv nn, rv b3, .unset, iv 0, iv ((0 : Int32) - r3), iv ((0 : Int32) - r3), iv (((0 : Int32) - r3) + r2), .unset, .unset]) rfl k) ?_
              show OE _ _ _ _ (T63.setTop (mkF m 213 #[iv r1, iv r2, iv r3, iv fl, iv 0, iv 2, iv th, iv rvv, iv nn, rv b3, .unset, iv 0, iv ((0 : Int32) - r3), iv ((0 : Int32) - r3), iv (((0 : Int32) - r3) + r2), .unset, .unset] []))
              refine OE.v (fun t k => XS.goto X63.here hx rfl (pc0 := 213) (pc' := 226) rfl (hb hby at_213) (by decide) (by decide) k) ?_
              refine OE.v (fun t k => XS.iload X63.here hx rfl (hb hby at_226) rfl k) ?_
              show OE _ _ _ _ (T63.setTop (mkF m 228 #[iv r1, iv r2, iv r3, iv fl, iv 0, iv 2, iv th, iv rvv, iv nn, rv b3, .unset, iv 0, iv ((0 : Int32) - r3), iv ((0 : Int32) - r3), iv (((0 : Int32) - r3) + r2), .unset, .unset] [(.int rvv)]))
              refine OE.v (fun t k => XS.ifNo X63.here hx rfl (hb hby at_228) rfl ((if0 _ _).trans (feq hc139_17).1) k) ?_
              show OE _ _ _ _ (T63.setTop (mkF m 231 #[iv r1, iv r2, iv r3, iv fl, iv 0, iv 2, iv th, iv rvv, iv nn, rv b3, .unset, iv 0, iv ((0 : Int32) - r3), iv ((0 : Int32) - r3), iv (((0 : Int32) - r3) + r2), .unset, .unset] []))
              refine OE.v (fun t k => XS.iload X63.here hx rfl (hb hby at_231) rfl k) ?_
              refine OE.v (fun t k => XS.goto X63.here hx rfl (pc0 := 233) (pc' := 237) rfl (hb hby at_233) (by decide) (by decide) k) ?_
              refine OE.v (fun t k => XS.istore X63.here hx rfl (hb hby at_237) rfl (l' := #[iv r1, iv r2, iv r3, iv fl, iv 0, iv 2, iv th, iv rvv, iv nn, rv b3, .unset, iv 0, iv ((0 : Int32) - r3), iv ((0 : Int32) - r3), iv (((0 : Int32) - r3) + r2), iv ((0 : Int32) - r3), .unset]) rfl k) ?_
              refine OE.v (fun t k => XS.iload X63.here hx rfl (hb hby at_239) rfl k) ?_
              show OE _ _ _ _ (T63.setTop (mkF m 241 #[iv r1, iv r2, iv r3, iv fl, iv 0, iv 2, iv th, iv rvv, iv nn, rv b3, .unset, iv 0, iv ((0 : Int32) - r3), iv ((0 : Int32) - r3), iv (((0 : Int32) - r3) + r2), iv ((0 : Int32) - r3), .unset] [(.int nn)]))
              refine OE.cut (fun G => ∀ (T64 : State) (lc64 : List Loc) (X64 : Stand p l e room_1 s m #[(.int r1), (.int r2), (.int r3), (.int fl)] below meth c T64 lc64 6 121) (e64 : T64.heap = h63) (N64 : Fr n0 lc64) (sv : Int32) (hj64_0 : sv = if nn = (0 : Int32) then (0 : Int32) else if nn = (1 : Int32) then r1 else if nn = (2 : Int32) then ((0 : Int32) - r3) else (((0 : Int32) - r3) + r2)), G (T64.setTop (mkF m 279 #[iv r1, iv r2, iv r3, iv fl, iv 0, iv 2, iv th, iv rvv, iv nn, rv b3, .unset, iv 0, iv ((0 : Int32) - r3), iv ((0 : Int32) - r3), iv (((0 : Int32) - r3) + r2), iv ((0 : Int32) - r3), iv sv] []))) ?_ ?_
              · intro T64 lc64 X64 e64 N64 sv hj64_0
                show OE _ _ _ _ (T64.setTop (mkF m 279 #[iv r1, iv r2, iv r3, iv fl, iv 0, iv 2, iv th, iv rvv, iv nn, rv b3, .unset, iv 0, iv ((0 : Int32) - r3), iv ((0 : Int32) - r3), iv (((0 : Int32) - r3) + r2), iv ((0 : Int32) - r3), iv sv] []))
                refine OE.v (fun t k => XS.iload X64.here hx rfl (hb hby at_279) rfl k) ?_
                refine OE.v (fun t k => XS.iload X64.here hx rfl (hb hby at_281) rfl k) ?_
                refine OE.v (fun t k => XS.isub X64.here hx rfl (hb hby at_283) rfl k) ?_
                refine OE.v (fun t k => XS.istore X64.here hx rfl (hb hby at_284) rfl (l' := #[iv r1, iv r2, iv r3, iv fl, iv 0, iv 2, iv th, iv rvv, iv nn, rv b3, iv (sv - ((0 : Int32) - r3)), iv 0, iv ((0 : Int32) - r3), iv ((0 : Int32) - r3), iv (((0 : Int32) - r3) + r2), iv ((0 : Int32) - r3), iv sv]) rfl k) ?_
                show OE _ _ _ _ (T64.setTop (mkF m 286 #[iv r1, iv r2, iv r3, iv fl, iv 0, iv 2, iv th, iv rvv, iv nn, rv b3, iv (sv - ((0 : Int32) - r3)), iv 0, iv ((0 : Int32) - r3), iv ((0 : Int32) - r3), iv (((0 : Int32) - r3) + r2), iv ((0 : Int32) - r3), iv sv] []))
                rcases c_nn with enn_65 | enn_65 | enn_65 | enn_65
                ·
                  rw [enn_65]
                  refine OE.v (fun t k => XS.aload X64.here hx rfl (hb hby at_286) rfl rfl k) ?_
                  refine OE.v (fun t k => XS.iload X64.here hx rfl (hb hby at_288) rfl k) ?_
                  show OE _ _ _ _ (T64.setTop (mkF m 290 #[iv r1, iv r2, iv r3, iv fl, iv 0, iv 2, iv th, iv rvv, iv 0, rv b3, iv (sv - ((0 : Int32) - r3)), iv 0, iv ((0 : Int32) - r3), iv ((0 : Int32) - r3), iv (((0 : Int32) - r3) + r2), iv ((0 : Int32) - r3), iv sv] [(.int 0), (.ref b3)]))
                  obtain ⟨cq66, kq66, q66a, q66b, q66c⟩ := isOf hZ e64 (((q8_0.keep Kq9).keep Kq10).keep Kq63)
                  obtain ⟨_, _, ⟨T66, L66, k66, n66⟩, -, X66, ⟨Lc66, hQ66, l66, y66, z66⟩, st66⟩ := X64.virtualBack hx (y := (⟨"com/example/stratal/stratal/logic/StratumGroups", "offset", "(I)I"⟩ : MethodName)) (z := (⟨"com/example/stratal/stratal/logic/StratumGroups", "offset", "(I)I"⟩ : MethodName)) hown (mvT hZ (hw _ (own_w 56 rfl))) (mvT hZ (hw _ (own_w 38 rfl))) (notFace_of_selects (args := #[]) (mvT hZ (hw _ (own_w 40 rfl)))) (mvT hZ (hw _ (own_w 40 rfl))) (mvT hZ (hw _ (own_w 39 rfl))) (by decide) (backOf (W := 0) (rmo0_2022 l Z a0 hw [] b3 rp_4 kp_4 ro_4 ko_4 (((0 : Int32) + r3) - (0 : Int32)) (((0 : Int32) + r1) - (0 : Int32)) (0 : Int32) (((0 : Int32) + r2) - (0 : Int32)) h63 n0 Z63 (((q8_1.keep Kq9 (ninS (Ne.symm q4_11) (ninS (Ne.symm q4_12) (ninS (Ne.symm q4_13) (ninS (Ne.symm q4_14) nin0))))).keep Kq10 (ninS (Ne.symm q4_11) (ninS (Ne.symm q4_12) (ninS (Ne.symm q4_13) (ninS (Ne.symm q4_14) nin0))))).keep Kq63 (ninS (Ne.symm q4_11) (ninS (Ne.symm q4_12) (ninS (Ne.symm q4_13) (ninS (Ne.symm q4_14) nin0))))) q63_0 (((q8_2.keep Kq9 (ninS (Ne.symm q4_11) (ninS (Ne.symm q4_12) (ninS (Ne.symm q4_13) (ninS (Ne.symm q4_14) nin0))))).keep Kq10 (ninS (Ne.symm q4_11) (ninS (Ne.symm q4_12) (ninS (Ne.symm q4_13) (ninS (Ne.symm q4_14) nin0))))).keep Kq63 (ninS (Ne.symm q4_11) (ninS (Ne.symm q4_12) (ninS (Ne.symm q4_13) (ninS (Ne.symm q4_14) nin0))))) q63_1) hZ (hw _ (own_w 41 rfl)) (hw _ (own_w 2 rfl)) (by decide) (by decide)) q66a q66c (g := (mkF m 290 #[iv r1, iv r2, iv r3, iv fl, iv 0, iv 2, iv th, iv rvv, iv 0, rv b3, iv (sv - ((0 : Int32) - r3)), iv 0, iv ((0 : Int32) - r3), iv ((0 : Int32) - r3), iv (((0 : Int32) - r3) + r2), iv ((0 : Int32) - r3), iv sv] [(.int 0), (.ref b3)])) rfl (by rw [hml]; rfl) (Steps.refl _) (argsL := [(.int 0)]) (rest := []) (lenOf pd_4 rfl) rfl (Nat.le_of_eq rfl) (hb hby at_290) (fun _ _ => ⟨rfl, e64, (by decide : 6 + 0 ≤ _), (by decide : 121 + 0 ≤ _)⟩)
                  dsimp only [Pt.U, Pt.locs, Pt.cells, Pt.slots] at X66 l66 y66 z66 st66 hQ66
                  subst l66 y66 z66
                  obtain ⟨rfl, Nq66, e66⟩ := hQ66
                  have N66 := Fr.app N64 Nq66
                  refine OE.v (fun t k => st66.trans k) ?_
                  show OE _ _ _ _ (T66.setTop (mkF m 293 #[iv r1, iv r2, iv r3, iv fl, iv 0, iv 2, iv th, iv rvv, iv 0, rv b3, iv (sv - ((0 : Int32) - r3)), iv 0, iv ((0 : Int32) - r3), iv ((0 : Int32) - r3), iv (((0 : Int32) - r3) + r2), iv ((0 : Int32) - r3), iv sv] [(.int ((0 : Int32) + (((0 : Int32) + r3) - (0 : Int32))))]))
                  refine OE.v (fun t k => XS.iload X66.here hx rfl (hb hby at_293) rfl k) ?_
                  show OE _ _ _ _ (T66.setTop (mkF m 295 #[iv r1, iv r2, iv r3, iv fl, iv 0, iv 2, iv th, iv rvv, iv 0, rv b3, iv (sv - ((0 : Int32) - r3)), iv 0, iv ((0 : Int32) - r3), iv ((0 : Int32) - r3), iv (((0 : Int32) - r3) + r2), iv ((0 : Int32) - r3), iv sv] [(.int (sv - ((0 : Int32) - r3))), (.int ((0 : Int32) + (((0 : Int32) + r3) - (0 : Int32))))]))
                  refine OE.v (fun t k => XS.icmpNo X66.here hx rfl (hb hby at_295) rfl (teq (by rw [hj64_0, enn_65, if_pos rfl]; grind)).2 k) ?_
                  show OE _ _ _ _ (T66.setTop (mkF m 298 #[iv r1, iv r2, iv r3, iv fl, iv 0, iv 2, iv th, iv rvv, iv 0, rv b3, iv (sv - ((0 : Int32) - r3)), iv 0, iv ((0 : Int32) - r3), iv ((0 : Int32) - r3), iv (((0 : Int32) - r3) + r2), iv ((0 : Int32) - r3), iv sv] []))
                  refine OE.v (fun t k => XS.iconst X66.here hx rfl (hb hby at_298) k) ?_
                  refine OE.v (fun t k => XS.goto X66.here hx rfl (pc0 := 299) (pc' := 303) rfl (hb hby at_299) (by decide) (by decide) k) ?_
                  show OE _ _ _ _ (T66.setTop (mkF m 303 #[iv r1, iv r2, iv r3, iv fl, iv 0, iv 2, iv th, iv rvv, iv 0, rv b3, iv (sv - ((0 : Int32) - r3)), iv 0, iv ((0 : Int32) - r3), iv ((0 : Int32) - r3), iv (((0 : Int32) - r3) + r2), iv ((0 : Int32) - r3), iv sv] [(.int 1)]))
                  obtain ⟨fs, hr, hrun, hended, hW, hsame⟩ := X66.leave (v := some (.int 1)) (fun h => by rw [Bd.returns] at h; cases h)
                  refine ⟨_, _, ?_, hrun, hended, _, _, rfl, ?_, ⟨_, rfl⟩, hW, hsame.mono (by decide) (by decide)⟩
                  · exact retN X66 hx (t := .boolean) Bd.returns (by simp) (hb hby at_303) hr
                  · show Q0 Z r1 r2 r3 fl h0 n0 _ T66.heap _
                    rw [e66]
                    exact ⟨rfl, N66⟩
                ·
                  rw [enn_65]
                  refine OE.v (fun t k => XS.aload X64.here hx rfl (hb hby at_286) rfl rfl k) ?_
                  refine OE.v (fun t k => XS.iload X64.here hx rfl (hb hby at_288) rfl k) ?_
                  show OE _ _ _ _ (T64.setTop (mkF m 290 #[iv r1, iv r2, iv r3, iv fl, iv 0, iv 2, iv th, iv rvv, iv 1, rv b3, iv (sv - ((0 : Int32) - r3)), iv 0, iv ((0 : Int32) - r3), iv ((0 : Int32) - r3), iv (((0 : Int32) - r3) + r2), iv ((0 : Int32) - r3), iv sv] [(.int 1), (.ref b3)]))
                  obtain ⟨cq67, kq67, q67a, q67b, q67c⟩ := isOf hZ e64 (((q8_0.keep Kq9).keep Kq10).keep Kq63)
                  obtain ⟨_, _, ⟨T67, L67, k67, n67⟩, -, X67, ⟨Lc67, hQ67, l67, y67, z67⟩, st67⟩ := X64.virtualBack hx (y := (⟨"com/example/stratal/stratal/logic/StratumGroups", "offset", "(I)I"⟩ : MethodName)) (z := (⟨"com/example/stratal/stratal/logic/StratumGroups", "offset", "(I)I"⟩ : MethodName)) hown (mvT hZ (hw _ (own_w 56 rfl))) (mvT hZ (hw _ (own_w 38 rfl))) (notFace_of_selects (args := #[]) (mvT hZ (hw _ (own_w 40 rfl)))) (mvT hZ (hw _ (own_w 40 rfl))) (mvT hZ (hw _ (own_w 39 rfl))) (by decide) (backOf (W := 0) (rmo1_2022 l Z a0 hw [] b3 rp_4 kp_4 ro_4 ko_4 (((0 : Int32) + r3) - (0 : Int32)) (((0 : Int32) + r1) - (0 : Int32)) (0 : Int32) (((0 : Int32) + r2) - (0 : Int32)) h63 n0 Z63 (((q8_1.keep Kq9 (ninS (Ne.symm q4_11) (ninS (Ne.symm q4_12) (ninS (Ne.symm q4_13) (ninS (Ne.symm q4_14) nin0))))).keep Kq10 (ninS (Ne.symm q4_11) (ninS (Ne.symm q4_12) (ninS (Ne.symm q4_13) (ninS (Ne.symm q4_14) nin0))))).keep Kq63 (ninS (Ne.symm q4_11) (ninS (Ne.symm q4_12) (ninS (Ne.symm q4_13) (ninS (Ne.symm q4_14) nin0))))) q63_0 (((q8_2.keep Kq9 (ninS (Ne.symm q4_11) (ninS (Ne.symm q4_12) (ninS (Ne.symm q4_13) (ninS (Ne.symm q4_14) nin0))))).keep Kq10 (ninS (Ne.symm q4_11) (ninS (Ne.symm q4_12) (ninS (Ne.symm q4_13) (ninS (Ne.symm q4_14) nin0))))).keep Kq63 (ninS (Ne.symm q4_11) (ninS (Ne.symm q4_12) (ninS (Ne.symm q4_13) (ninS (Ne.symm q4_14) nin0))))) q63_1) hZ (hw _ (own_w 41 rfl)) (hw _ (own_w 2 rfl)) (by decide) (by decide)) q67a q67c (g := (mkF m 290 #[iv r1, iv r2, iv r3, iv fl, iv 0, iv 2, iv th, iv rvv, iv 1, rv b3, iv (sv - ((0 : Int32) - r3)), iv 0, iv ((0 : Int32) - r3), iv ((0 : Int32) - r3), iv (((0 : Int32) - r3) + r2), iv ((0 : Int32) - r3), iv sv] [(.int 1), (.ref b3)])) rfl (by rw [hml]; rfl) (Steps.refl _) (argsL := [(.int 1)]) (rest := []) (lenOf pd_4 rfl) rfl (Nat.le_of_eq rfl) (hb hby at_290) (fun _ _ => ⟨rfl, e64, (by decide : 6 + 0 ≤ _), (by decide : 121 + 0 ≤ _)⟩)
                  dsimp only [Pt.U, Pt.locs, Pt.cells, Pt.slots] at X67 l67 y67 z67 st67 hQ67
                  subst l67 y67 z67
                  obtain ⟨rfl, Nq67, e67⟩ := hQ67
                  have N67 := Fr.app N64 Nq67
                  refine OE.v (fun t k => st67.trans k) ?_
                  show OE _ _ _ _ (T67.setTop (mkF m 293 #[iv r1, iv r2, iv r3, iv fl, iv 0, iv 2, iv th, iv rvv, iv 1, rv b3, iv (sv - ((0 : Int32) - r3)), iv 0, iv ((0 : Int32) - r3), iv ((0 : Int32) - r3), iv (((0 : Int32) - r3) + r2), iv ((0 : Int32) - r3), iv sv] [(.int (((0 : Int32) + (((0 : Int32) + r1) - (0 : Int32))) + (((0 : Int32) + r3) - (0 : Int32))))]))
                  refine OE.v (fun t k => XS.iload X67.here hx rfl (hb hby at_293) rfl k) ?_
                  show OE _ _ _ _ (T67.setTop (mkF m 295 #[iv r1, iv r2, iv r3, iv fl, iv 0, iv 2, iv th, iv rvv, iv 1, rv b3, iv (sv - ((0 : Int32) - r3)), iv 0, iv ((0 : Int32) - r3), iv ((0 : Int32) - r3), iv (((0 : Int32) - r3) + r2), iv ((0 : Int32) - r3), iv sv] [(.int (sv - ((0 : Int32) - r3))), (.int (((0 : Int32) + (((0 : Int32) + r1) - (0 : Int32))) + (((0 : Int32) + r3) - (0 : Int32))))]))
                  refine OE.v (fun t k => XS.icmpNo X67.here hx rfl (hb hby at_295) rfl (teq (by rw [hj64_0, enn_65, if_neg (by decide), if_pos rfl]; grind)).2 k) ?_
                  show OE _ _ _ _ (T67.setTop (mkF m 298 #[iv r1, iv r2, iv r3, iv fl, iv 0, iv 2, iv th, iv rvv, iv 1, rv b3, iv (sv - ((0 : Int32) - r3)), iv 0, iv ((0 : Int32) - r3), iv ((0 : Int32) - r3), iv (((0 : Int32) - r3) + r2), iv ((0 : Int32) - r3), iv sv] []))
                  refine OE.v (fun t k => XS.iconst X67.here hx rfl (hb hby at_298) k) ?_
                  refine OE.v (fun t k => XS.goto X67.here hx rfl (pc0 := 299) (pc' := 303) rfl (hb hby at_299) (by decide) (by decide) k) ?_
                  show OE _ _ _ _ (T67.setTop (mkF m 303 #[iv r1, iv r2, iv r3, iv fl, iv 0, iv 2, iv th, iv rvv, iv 1, rv b3, iv (sv - ((0 : Int32) - r3)), iv 0, iv ((0 : Int32) - r3), iv ((0 : Int32) - r3), iv (((0 : Int32) - r3) + r2), iv ((0 : Int32) - r3), iv sv] [(.int 1)]))
                  obtain ⟨fs, hr, hrun, hended, hW, hsame⟩ := X67.leave (v := some (.int 1)) (fun h => by rw [Bd.returns] at h; cases h)
                  refine ⟨_, _, ?_, hrun, hended, _, _, rfl, ?_, ⟨_, rfl⟩, hW, hsame.mono (by decide) (by decide)⟩
                  · exact retN X67 hx (t := .boolean) Bd.returns (by simp) (hb hby at_303) hr
                  · show Q0 Z r1 r2 r3 fl h0 n0 _ T67.heap _
                    rw [e67]
                    exact ⟨rfl, N67⟩
                ·
                  rw [enn_65]
                  refine OE.v (fun t k => XS.aload X64.here hx rfl (hb hby at_286) rfl rfl k) ?_
                  refine OE.v (fun t k => XS.iload X64.here hx rfl (hb hby at_288) rfl k) ?_
                  show OE _ _ _ _ (T64.setTop (mkF m 290 #[iv r1, iv r2, iv r3, iv fl, iv 0, iv 2, iv th, iv rvv, iv 2, rv b3, iv (sv - ((0 : Int32) - r3)), iv 0, iv ((0 : Int32) - r3), iv ((0 : Int32) - r3), iv (((0 : Int32) - r3) + r2), iv ((0 : Int32) - r3), iv sv] [(.int 2), (.ref b3)]))
                  obtain ⟨cq68, kq68, q68a, q68b, q68c⟩ := isOf hZ e64 (((q8_0.keep Kq9).keep Kq10).keep Kq63)
                  obtain ⟨_, _, ⟨T68, L68, k68, n68⟩, -, X68, ⟨Lc68, hQ68, l68, y68, z68⟩, st68⟩ := X64.virtualBack hx (y := (⟨"com/example/stratal/stratal/logic/StratumGroups", "offset", "(I)I"⟩ : MethodName)) (z := (⟨"com/example/stratal/stratal/logic/StratumGroups", "offset", "(I)I"⟩ : MethodName)) hown (mvT hZ (hw _ (own_w 56 rfl))) (mvT hZ (hw _ (own_w 38 rfl))) (notFace_of_selects (args := #[]) (mvT hZ (hw _ (own_w 40 rfl)))) (mvT hZ (hw _ (own_w 40 rfl))) (mvT hZ (hw _ (own_w 39 rfl))) (by decide) (backOf (W := 0) (rmo2_2022 l Z a0 hw [] b3 rp_4 kp_4 ro_4 ko_4 (((0 : Int32) + r3) - (0 : Int32)) (((0 : Int32) + r1) - (0 : Int32)) (0 : Int32) (((0 : Int32) + r2) - (0 : Int32)) h63 n0 Z63 (((q8_1.keep Kq9 (ninS (Ne.symm q4_11) (ninS (Ne.symm q4_12) (ninS (Ne.symm q4_13) (ninS (Ne.symm q4_14) nin0))))).keep Kq10 (ninS (Ne.symm q4_11) (ninS (Ne.symm q4_12) (ninS (Ne.symm q4_13) (ninS (Ne.symm q4_14) nin0))))).keep Kq63 (ninS (Ne.symm q4_11) (ninS (Ne.symm q4_12) (ninS (Ne.symm q4_13) (ninS (Ne.symm q4_14) nin0))))) q63_0 (((q8_2.keep Kq9 (ninS (Ne.symm q4_11) (ninS (Ne.symm q4_12) (ninS (Ne.symm q4_13) (ninS (Ne.symm q4_14) nin0))))).keep Kq10 (ninS (Ne.symm q4_11) (ninS (Ne.symm q4_12) (ninS (Ne.symm q4_13) (ninS (Ne.symm q4_14) nin0))))).keep Kq63 (ninS (Ne.symm q4_11) (ninS (Ne.symm q4_12) (ninS (Ne.symm q4_13) (ninS (Ne.symm q4_14) nin0))))) q63_1) hZ (hw _ (own_w 41 rfl)) (hw _ (own_w 2 rfl)) (by decide) (by decide)) q68a q68c (g := (mkF m 290 #[iv r1, iv r2, iv r3, iv fl, iv 0, iv 2, iv th, iv rvv, iv 2, rv b3, iv (sv - ((0 : Int32) - r3)), iv 0, iv ((0 : Int32) - r3), iv ((0 : Int32) - r3), iv (((0 : Int32) - r3) + r2), iv ((0 : Int32) - r3), iv sv] [(.int 2), (.ref b3)])) rfl (by rw [hml]; rfl) (Steps.refl _) (argsL := [(.int 2)]) (rest := []) (lenOf pd_4 rfl) rfl (Nat.le_of_eq rfl) (hb hby at_290) (fun _ _ => ⟨rfl, e64, (by decide : 6 + 0 ≤ _), (by decide : 121 + 0 ≤ _)⟩)
                  dsimp only [Pt.U, Pt.locs, Pt.cells, Pt.slots] at X68 l68 y68 z68 st68 hQ68
                  subst l68 y68 z68
                  obtain ⟨rfl, Nq68, e68⟩ := hQ68
                  have N68 := Fr.app N64 Nq68
                  refine OE.v (fun t k => st68.trans k) ?_
                  show OE _ _ _ _ (T68.setTop (mkF m 293 #[iv r1, iv r2, iv r3, iv fl, iv 0, iv 2, iv th, iv rvv, iv 2, rv b3, iv (sv - ((0 : Int32) - r3)), iv 0, iv ((0 : Int32) - r3), iv ((0 : Int32) - r3), iv (((0 : Int32) - r3) + r2), iv ((0 : Int32) - r3), iv sv] [(.int 0)]))
                  refine OE.v (fun t k => XS.iload X68.here hx rfl (hb hby at_293) rfl k) ?_
                  show OE _ _ _ _ (T68.setTop (mkF m 295 #[iv r1, iv r2, iv r3, iv fl, iv 0, iv 2, iv th, iv rvv, iv 2, rv b3, iv (sv - ((0 : Int32) - r3)), iv 0, iv ((0 : Int32) - r3), iv ((0 : Int32) - r3), iv (((0 : Int32) - r3) + r2), iv ((0 : Int32) - r3), iv sv] [(.int (sv - ((0 : Int32) - r3))), (.int 0)]))
                  refine OE.v (fun t k => XS.icmpNo X68.here hx rfl (hb hby at_295) rfl (teq (by rw [hj64_0, enn_65, if_neg (by decide), if_neg (by decide), if_pos rfl]; grind)).2 k) ?_
                  show OE _ _ _ _ (T68.setTop (mkF m 298 #[iv r1, iv r2, iv r3, iv fl, iv 0, iv 2, iv th, iv rvv, iv 2, rv b3, iv (sv - ((0 : Int32) - r3)), iv 0, iv ((0 : Int32) - r3), iv ((0 : Int32) - r3), iv (((0 : Int32) - r3) + r2), iv ((0 : Int32) - r3), iv sv] []))
                  refine OE.v (fun t k => XS.iconst X68.here hx rfl (hb hby at_298) k) ?_
                  refine OE.v (fun t k => XS.goto X68.here hx rfl (pc0 := 299) (pc' := 303) rfl (hb hby at_299) (by decide) (by decide) k) ?_
                  show OE _ _ _ _ (T68.setTop (mkF m 303 #[iv r1, iv r2, iv r3, iv fl, iv 0, iv 2, iv th, iv rvv, iv 2, rv b3, iv (sv - ((0 : Int32) - r3)), iv 0, iv ((0 : Int32) - r3), iv ((0 : Int32) - r3), iv (((0 : Int32) - r3) + r2), iv ((0 : Int32) - r3), iv sv] [(.int 1)]))
                  obtain ⟨fs, hr, hrun, hended, hW, hsame⟩ := X68.leave (v := some (.int 1)) (fun h => by rw [Bd.returns] at h; cases h)
                  refine ⟨_, _, ?_, hrun, hended, _, _, rfl, ?_, ⟨_, rfl⟩, hW, hsame.mono (by decide) (by decide)⟩
                  · exact retN X68 hx (t := .boolean) Bd.returns (by simp) (hb hby at_303) hr
                  · show Q0 Z r1 r2 r3 fl h0 n0 _ T68.heap _
                    rw [e68]
                    exact ⟨rfl, N68⟩
                ·
                  rw [enn_65]
                  refine OE.v (fun t k => XS.aload X64.here hx rfl (hb hby at_286) rfl rfl k) ?_
                  refine OE.v (fun t k => XS.iload X64.here hx rfl (hb hby at_288) rfl k) ?_
                  show OE _ _ _ _ (T64.setTop (mkF m 290 #[iv r1, iv r2, iv r3, iv fl, iv 0, iv 2, iv th, iv rvv, iv 3, rv b3, iv (sv - ((0 : Int32) - r3)), iv 0, iv ((0 : Int32) - r3), iv ((0 : Int32) - r3), iv (((0 : Int32) - r3) + r2), iv ((0 : Int32) - r3), iv sv] [(.int 3), (.ref b3)]))
                  obtain ⟨cq69, kq69, q69a, q69b, q69c⟩ := isOf hZ e64 (((q8_0.keep Kq9).keep Kq10).keep Kq63)
                  obtain ⟨_, _, ⟨T69, L69, k69, n69⟩, -, X69, ⟨Lc69, hQ69, l69, y69, z69⟩, st69⟩ := X64.virtualBack hx (y := (⟨"com/example/stratal/stratal/logic/StratumGroups", "offset", "(I)I"⟩ : MethodName)) (z := (⟨"com/example/stratal/stratal/logic/StratumGroups", "offset", "(I)I"⟩ : MethodName)) hown (mvT hZ (hw _ (own_w 56 rfl))) (mvT hZ (hw _ (own_w 38 rfl))) (notFace_of_selects (args := #[]) (mvT hZ (hw _ (own_w 40 rfl)))) (mvT hZ (hw _ (own_w 40 rfl))) (mvT hZ (hw _ (own_w 39 rfl))) (by decide) (backOf (W := 0) (rmo3_2022 l Z a0 hw [] b3 rp_4 kp_4 ro_4 ko_4 (((0 : Int32) + r3) - (0 : Int32)) (((0 : Int32) + r1) - (0 : Int32)) (0 : Int32) (((0 : Int32) + r2) - (0 : Int32)) h63 n0 Z63 (((q8_1.keep Kq9 (ninS (Ne.symm q4_11) (ninS (Ne.symm q4_12) (ninS (Ne.symm q4_13) (ninS (Ne.symm q4_14) nin0))))).keep Kq10 (ninS (Ne.symm q4_11) (ninS (Ne.symm q4_12) (ninS (Ne.symm q4_13) (ninS (Ne.symm q4_14) nin0))))).keep Kq63 (ninS (Ne.symm q4_11) (ninS (Ne.symm q4_12) (ninS (Ne.symm q4_13) (ninS (Ne.symm q4_14) nin0))))) q63_0 (((q8_2.keep Kq9 (ninS (Ne.symm q4_11) (ninS (Ne.symm q4_12) (ninS (Ne.symm q4_13) (ninS (Ne.symm q4_14) nin0))))).keep Kq10 (ninS (Ne.symm q4_11) (ninS (Ne.symm q4_12) (ninS (Ne.symm q4_13) (ninS (Ne.symm q4_14) nin0))))).keep Kq63 (ninS (Ne.symm q4_11) (ninS (Ne.symm q4_12) (ninS (Ne.symm q4_13) (ninS (Ne.symm q4_14) nin0))))) q63_1) hZ (hw _ (own_w 41 rfl)) (hw _ (own_w 2 rfl)) (by decide) (by decide)) q69a q69c (g := (mkF m 290 #[iv r1, iv r2, iv r3, iv fl, iv 0, iv 2, iv th, iv rvv, iv 3, rv b3, iv (sv - ((0 : Int32) - r3)), iv 0, iv ((0 : Int32) - r3), iv ((0 : Int32) - r3), iv (((0 : Int32) - r3) + r2), iv ((0 : Int32) - r3), iv sv] [(.int 3), (.ref b3)])) rfl (by rw [hml]; rfl) (Steps.refl _) (argsL := [(.int 3)]) (rest := []) (lenOf pd_4 rfl) rfl (Nat.le_of_eq rfl) (hb hby at_290) (fun _ _ => ⟨rfl, e64, (by decide : 6 + 0 ≤ _), (by decide : 121 + 0 ≤ _)⟩)
                  dsimp only [Pt.U, Pt.locs, Pt.cells, Pt.slots] at X69 l69 y69 z69 st69 hQ69
                  subst l69 y69 z69
                  obtain ⟨rfl, Nq69, e69⟩ := hQ69
                  have N69 := Fr.app N64 Nq69
                  refine OE.v (fun t k => st69.trans k) ?_
                  show OE _ _ _ _ (T69.setTop (mkF m 293 #[iv r1, iv r2, iv r3, iv fl, iv 0, iv 2, iv th, iv rvv, iv 3, rv b3, iv (sv - ((0 : Int32) - r3)), iv 0, iv ((0 : Int32) - r3), iv ((0 : Int32) - r3), iv (((0 : Int32) - r3) + r2), iv ((0 : Int32) - r3), iv sv] [(.int ((0 : Int32) + (((0 : Int32) + r2) - (0 : Int32))))]))
                  refine OE.v (fun t k => XS.iload X69.here hx rfl (hb hby at_293) rfl k) ?_
                  show OE _ _ _ _ (T69.setTop (mkF m 295 #[iv r1, iv r2, iv r3, iv fl, iv 0, iv 2, iv th, iv rvv, iv 3, rv b3, iv (sv - ((0 : Int32) - r3)), iv 0, iv ((0 : Int32) - r3), iv ((0 : Int32) - r3), iv (((0 : Int32) - r3) + r2), iv ((0 : Int32) - r3), iv sv] [(.int (sv - ((0 : Int32) - r3))), (.int ((0 : Int32) + (((0 : Int32) + r2) - (0 : Int32))))]))
                  refine OE.v (fun t k => XS.icmpNo X69.here hx rfl (hb hby at_295) rfl (teq (by rw [hj64_0, enn_65, if_neg (by decide), if_neg (by decide), if_neg (by decide)]; grind)).2 k) ?_
                  show OE _ _ _ _ (T69.setTop (mkF m 298 #[iv r1, iv r2, iv r3, iv fl, iv 0, iv 2, iv th, iv rvv, iv 3, rv b3, iv (sv - ((0 : Int32) - r3)), iv 0, iv ((0 : Int32) - r3), iv ((0 : Int32) - r3), iv (((0 : Int32) - r3) + r2), iv ((0 : Int32) - r3), iv sv] []))
                  refine OE.v (fun t k => XS.iconst X69.here hx rfl (hb hby at_298) k) ?_
                  refine OE.v (fun t k => XS.goto X69.here hx rfl (pc0 := 299) (pc' := 303) rfl (hb hby at_299) (by decide) (by decide) k) ?_
                  show OE _ _ _ _ (T69.setTop (mkF m 303 #[iv r1, iv r2, iv r3, iv fl, iv 0, iv 2, iv th, iv rvv, iv 3, rv b3, iv (sv - ((0 : Int32) - r3)), iv 0, iv ((0 : Int32) - r3), iv ((0 : Int32) - r3), iv (((0 : Int32) - r3) + r2), iv ((0 : Int32) - r3), iv sv] [(.int 1)]))
                  obtain ⟨fs, hr, hrun, hended, hW, hsame⟩ := X69.leave (v := some (.int 1)) (fun h => by rw [Bd.returns] at h; cases h)
                  refine ⟨_, _, ?_, hrun, hended, _, _, rfl, ?_, ⟨_, rfl⟩, hW, hsame.mono (by decide) (by decide)⟩
                  · exact retN X69 hx (t := .boolean) Bd.returns (by simp) (hb hby at_303) hr
                  · show Q0 Z r1 r2 r3 fl h0 n0 _ T69.heap _
                    rw [e69]
                    exact ⟨rfl, N69⟩
              intro J64
              by_cases hc241_70 : nn = (0 : Int32)
              ·
                refine OE.v (fun t k => XS.ifNo X63.here hx rfl (hb hby at_241) rfl ((if0 _ _).trans (teq hc241_70).2) k) ?_
                show OE _ _ _ _ (T63.setTop (mkF m 244 #[iv r1, iv r2, iv r3, iv fl, iv 0, iv 2, iv th, iv rvv, iv nn, rv b3, .unset, iv 0, iv ((0 : Int32) - r3), iv ((0 : Int32) - r3), iv (((0 : Int32) - r3) + r2), iv ((0 : Int32) - r3), .unset] []))
                refine OE.v (fun t k => XS.iconst X63.here hx rfl (hb hby at_244) k) ?_
                refine OE.v (fun t k => XS.istore X63.here hx rfl (hb hby at_245) rfl (l' := #[iv r1, iv r2, iv r3, iv fl, iv 0, iv 2, iv th, iv rvv, iv nn, rv b3, .unset, iv 0, iv ((0 : Int32) - r3), iv ((0 : Int32) - r3), iv (((0 : Int32) - r3) + r2), iv ((0 : Int32) - r3), iv 0]) rfl k) ?_
                refine OE.v (fun t k => XS.goto X63.here hx rfl (pc0 := 247) (pc' := 279) rfl (hb hby at_247) (by decide) (by decide) k) ?_
                exact J64 _ _ X63 e63 N63 (0 : Int32) (by rw [if_pos hc241_70])
              ·
                refine OE.v (fun t k => XS.ifYes X63.here hx rfl (pc0 := 241) (pc' := 250) rfl (hb hby at_241) rfl ((if0 _ _).trans (feq hc241_70).2) (by decide) (by decide) k) ?_
                show OE _ _ _ _ (T63.setTop (mkF m 250 #[iv r1, iv r2, iv r3, iv fl, iv 0, iv 2, iv th, iv rvv, iv nn, rv b3, .unset, iv 0, iv ((0 : Int32) - r3), iv ((0 : Int32) - r3), iv (((0 : Int32) - r3) + r2), iv ((0 : Int32) - r3), .unset] []))
                refine OE.v (fun t k => XS.iload X63.here hx rfl (hb hby at_250) rfl k) ?_
                refine OE.v (fun t k => XS.iconst X63.here hx rfl (hb hby at_252) k) ?_
                show OE _ _ _ _ (T63.setTop (mkF m 253 #[iv r1, iv r2, iv r3, iv fl, iv 0, iv 2, iv th, iv rvv, iv nn, rv b3, .unset, iv 0, iv ((0 : Int32) - r3), iv ((0 : Int32) - r3), iv (((0 : Int32) - r3) + r2), iv ((0 : Int32) - r3), .unset] [(.int 1), (.int nn)]))
                by_cases hc253_71 : nn = (1 : Int32)
                ·
                  refine OE.v (fun t k => XS.icmpNo X63.here hx rfl (hb hby at_253) rfl (teq hc253_71).2 k) ?_
                  show OE _ _ _ _ (T63.setTop (mkF m 256 #[iv r1, iv r2, iv r3, iv fl, iv 0, iv 2, iv th, iv rvv, iv nn, rv b3, .unset, iv 0, iv ((0 : Int32) - r3), iv ((0 : Int32) - r3), iv (((0 : Int32) - r3) + r2), iv ((0 : Int32) - r3), .unset] []))
                  refine OE.v (fun t k => XS.iloadN X63.here hx rfl (hb hby at_256) rfl k) ?_
                  refine OE.v (fun t k => XS.istore X63.here hx rfl (hb hby at_257) rfl (l' := #[iv r1, iv r2, iv r3, iv fl, iv 0, iv 2, iv th, iv rvv, iv nn, rv b3, .unset, iv 0, iv ((0 : Int32) - r3), iv ((0 : Int32) - r3), iv (((0 : Int32) - r3) + r2), iv ((0 : Int32) - r3), iv r1]) rfl k) ?_
                  refine OE.v (fun t k => XS.goto X63.here hx rfl (pc0 := 259) (pc' := 279) rfl (hb hby at_259) (by decide) (by decide) k) ?_
                  exact J64 _ _ X63 e63 N63 r1 (by rw [if_neg hc241_70, if_pos hc253_71])
                ·
                  refine OE.v (fun t k => XS.icmpYes X63.here hx rfl (pc0 := 253) (pc' := 262) rfl (hb hby at_253) rfl (feq hc253_71).2 (by decide) (by decide) k) ?_
                  show OE _ _ _ _ (T63.setTop (mkF m 262 #[iv r1, iv r2, iv r3, iv fl, iv 0, iv 2, iv th, iv rvv, iv nn, rv b3, .unset, iv 0, iv ((0 : Int32) - r3), iv ((0 : Int32) - r3), iv (((0 : Int32) - r3) + r2), iv ((0 : Int32) - r3), .unset] []))
                  refine OE.v (fun t k => XS.iload X63.here hx rfl (hb hby at_262) rfl k) ?_
                  refine OE.v (fun t k => XS.iconst X63.here hx rfl (hb hby at_264) k) ?_
                  show OE _ _ _ _ (T63.setTop (mkF m 265 #[iv r1, iv r2, iv r3, iv fl, iv 0, iv 2, iv th, iv rvv, iv nn, rv b3, .unset, iv 0, iv ((0 : Int32) - r3), iv ((0 : Int32) - r3), iv (((0 : Int32) - r3) + r2), iv ((0 : Int32) - r3), .unset] [(.int 2), (.int nn)]))
                  by_cases hc265_72 : nn = (2 : Int32)
                  ·
                    refine OE.v (fun t k => XS.icmpNo X63.here hx rfl (hb hby at_265) rfl (teq hc265_72).2 k) ?_
                    show OE _ _ _ _ (T63.setTop (mkF m 268 #[iv r1, iv r2, iv r3, iv fl, iv 0, iv 2, iv th, iv rvv, iv nn, rv b3, .unset, iv 0, iv ((0 : Int32) - r3), iv ((0 : Int32) - r3), iv (((0 : Int32) - r3) + r2), iv ((0 : Int32) - r3), .unset] []))
                    refine OE.v (fun t k => XS.iload X63.here hx rfl (hb hby at_268) rfl k) ?_
                    refine OE.v (fun t k => XS.istore X63.here hx rfl (hb hby at_270) rfl (l' := #[iv r1, iv r2, iv r3, iv fl, iv 0, iv 2, iv th, iv rvv, iv nn, rv b3, .unset, iv 0, iv ((0 : Int32) - r3), iv ((0 : Int32) - r3), iv (((0 : Int32) - r3) + r2), iv ((0 : Int32) - r3), iv ((0 : Int32) - r3)]) rfl k) ?_
                    refine OE.v (fun t k => XS.goto X63.here hx rfl (pc0 := 272) (pc' := 279) rfl (hb hby at_272) (by decide) (by decide) k) ?_
                    exact J64 _ _ X63 e63 N63 ((0 : Int32) - r3) (by rw [if_neg hc241_70, if_neg hc253_71, if_pos hc265_72])
                  ·
                    refine OE.v (fun t k => XS.icmpYes X63.here hx rfl (pc0 := 265) (pc' := 275) rfl (hb hby at_265) rfl (feq hc265_72).2 (by decide) (by decide) k) ?_
                    show OE _ _ _ _ (T63.setTop (mkF m 275 #[iv r1, iv r2, iv r3, iv fl, iv 0, iv 2, iv th, iv rvv, iv nn, rv b3, .unset, iv 0, iv ((0 : Int32) - r3), iv ((0 : Int32) - r3), iv (((0 : Int32) - r3) + r2), iv ((0 : Int32) - r3), .unset] []))
                    refine OE.v (fun t k => XS.iload X63.here hx rfl (hb hby at_275) rfl k) ?_
                    refine OE.v (fun t k => XS.istore X63.here hx rfl (hb hby at_277) rfl (l' := #[iv r1, iv r2, iv r3, iv fl, iv 0, iv 2, iv th, iv rvv, iv nn, rv b3, .unset, iv 0, iv ((0 : Int32) - r3), iv ((0 : Int32) - r3), iv (((0 : Int32) - r3) + r2), iv ((0 : Int32) - r3), iv (((0 : Int32) - r3) + r2)]) rfl k) ?_
                    exact J64 _ _ X63 e63 N63 (((0 : Int32) - r3) + r2) (by rw [if_neg hc241_70, if_neg hc253_71, if_neg hc265_72])
            ·
              rw [enb_62]
              show OE _ _ _ _ (T10.setTop (mkF m 142 #[iv r1, iv r2, iv r3, iv fl, iv 0, iv 3, iv th, iv rvv, iv nn, rv b3, .unset, .unset, .unset, .unset, .unset, .unset, .unset] []))
              refine OE.v (fun t k => XS.aload X10.here hx rfl (hb hby at_142) rfl rfl k) ?_
              refine OE.v (fun t k => XS.iload X10.here hx rfl (hb hby at_144) rfl k) ?_
              refine OE.v (fun t k => XS.iload X10.here hx rfl (hb hby at_146) rfl k) ?_
              refine OE.v (fun t k => XS.iloadN X10.here hx rfl (hb hby at_148) rfl k) ?_
              show OE _ _ _ _ (T10.setTop (mkF m 149 #[iv r1, iv r2, iv r3, iv fl, iv 0, iv 3, iv th, iv rvv, iv nn, rv b3, .unset, .unset, .unset, .unset, .unset, .unset, .unset] [(.int r3), (.int 0), (.int 3), (.ref b3)]))
              obtain ⟨cq73, kq73, q73a, q73b, q73c⟩ := isOf hZ e10 ((q8_0.keep Kq9).keep Kq10)
              obtain ⟨_, _, ⟨T73, L73, k73, n73⟩, -, X73, ⟨Lc73, hQ73, l73, y73, z73⟩, st73⟩ := X10.virtualBack hx (y := (⟨"com/example/stratal/stratal/logic/StratumGroups", "join", "(III)I"⟩ : MethodName)) (z := (⟨"com/example/stratal/stratal/logic/StratumGroups", "join", "(III)I"⟩ : MethodName)) hown (mvT hZ (hw _ (own_w 27 rfl))) (mvT hZ (hw _ (own_w 28 rfl))) (notFace_of_selects (args := #[]) (mvT hZ (hw _ (own_w 30 rfl)))) (mvT hZ (hw _ (own_w 30 rfl))) (mvT hZ (hw _ (own_w 29 rfl))) (by decide) (backOf (W := 0) (rmJ30_0022 l Z a0 hw [] b3 rp_4 ro_4 rs_4 rf_4 kp_4 ko_4 ks_4 kf_4 (0 : Int32) (((0 : Int32) + r1) - (0 : Int32)) (0 : Int32) (((0 : Int32) + r2) - (0 : Int32)) (own_max (0 : Int32) ((0 : Int32) - (((0 : Int32) + r1) - (0 : Int32)))) (0 : Int32) (own_max (0 : Int32) ((0 : Int32) - (((0 : Int32) + r2) - (0 : Int32)))) (0 : Int32) r3 h10 n0 Z10 ((q8_0.keep Kq9).keep Kq10) ((q8_1.keep Kq9 (ninS (Ne.symm q4_11) (ninS (Ne.symm q4_12) (ninS (Ne.symm q4_13) (ninS (Ne.symm q4_14) nin0))))).keep Kq10 (ninS (Ne.symm q4_11) (ninS (Ne.symm q4_12) (ninS (Ne.symm q4_13) (ninS (Ne.symm q4_14) nin0))))) ((q8_2.keep Kq9 (ninS (Ne.symm q4_11) (ninS (Ne.symm q4_12) (ninS (Ne.symm q4_13) (ninS (Ne.symm q4_14) nin0))))).keep Kq10 (ninS (Ne.symm q4_11) (ninS (Ne.symm q4_12) (ninS (Ne.symm q4_13) (ninS (Ne.symm q4_14) nin0))))) ((q8_3.keep Kq9 (ninS (Ne.symm q4_11) (ninS (Ne.symm q4_12) (ninS (Ne.symm q4_13) (ninS (Ne.symm q4_14) nin0))))).keep Kq10 (ninS (Ne.symm q4_11) (ninS (Ne.symm q4_12) (ninS (Ne.symm q4_13) (ninS (Ne.symm q4_14) nin0))))) ((q8_4.keep Kq9 (ninS (Ne.symm q4_11) (ninS (Ne.symm q4_12) (ninS (Ne.symm q4_13) (ninS (Ne.symm q4_14) nin0))))).keep Kq10 (ninS (Ne.symm q4_11) (ninS (Ne.symm q4_12) (ninS (Ne.symm q4_13) (ninS (Ne.symm q4_14) nin0))))) ((q8_10.keep Kq9 (ninS (Ne.symm q4_11) (ninS (Ne.symm q4_12) (ninS (Ne.symm q4_13) (ninS (Ne.symm q4_14) nin0))))).keep Kq10 (ninS (Ne.symm q4_11) (ninS (Ne.symm q4_12) (ninS (Ne.symm q4_13) (ninS (Ne.symm q4_14) nin0))))) q10_0 q10_1 q10_2 q10_3 q4_11 q4_12 q4_13 q4_14 q4_15 q4_16 q4_17 q4_18 q4_19 q4_20 q4_21 q4_22 q4_23 q4_24) hZ (hw _ (own_w 31 rfl)) (hw _ (own_w 2 rfl)) (by decide) (by decide)) q73a q73c (g := (mkF m 149 #[iv r1, iv r2, iv r3, iv fl, iv 0, iv 3, iv th, iv rvv, iv nn, rv b3, .unset, .unset, .unset, .unset, .unset, .unset, .unset] [(.int r3), (.int 0), (.int 3), (.ref b3)])) rfl (by rw [hml]; rfl) (Steps.refl _) (argsL := [(.int 3), (.int 0), (.int r3)]) (rest := []) (lenOf pd_5 rfl) rfl (Nat.le_of_eq rfl) (hb hby at_149) (fun _ _ => ⟨rfl, e10, (by decide : 6 + 0 ≤ _), (by decide : 121 + 0 ≤ _)⟩)
              dsimp only [Pt.U, Pt.locs, Pt.cells, Pt.slots] at X73 l73 y73 z73 st73 hQ73
              subst l73 y73 z73
              obtain ⟨h73, e73⟩ : ∃ z, T73.heap = z := ⟨_, rfl⟩
              rw [e73] at hQ73
              obtain ⟨rfl, Nq73, Kq73, q73_0, q73_1, q73_2, q73_3⟩ := hQ73
              have Z73 : n0 ≤ h73.size := Nat.le_trans Z10 Kq73.1
              have N73 := Fr.app N10 Nq73
              refine OE.v (fun t k => st73.trans k) ?_
              show OE _ _ _ _ (T73.setTop (mkF m 152 #[iv r1, iv r2, iv r3, iv fl, iv 0, iv 3, iv th, iv rvv, iv nn, rv b3, .unset, .unset, .unset, .unset, .unset, .unset, .unset] [(.int 0)]))
              refine OE.v (fun t k => XS.pop X73.here hx rfl (hb hby at_152) rfl rfl k) ?_
              refine OE.v (fun t k => XS.goto X73.here hx rfl (pc0 := 153) (pc' := 167) rfl (hb hby at_153) (by decide) (by decide) k) ?_
              refine OE.v (fun t k => XS.iload X73.here hx rfl (hb hby at_167) rfl k) ?_
              show OE _ _ _ _ (T73.setTop (mkF m 169 #[iv r1, iv r2, iv r3, iv fl, iv 0, iv 3, iv th, iv rvv, iv nn, rv b3, .unset, .unset, .unset, .unset, .unset, .unset, .unset] [(.int 0)]))
              refine OE.v (fun t k => XS.ifNo X73.here hx rfl (hb hby at_169) rfl ((if0 _ _).trans (teq (by decide)).2) k) ?_
              show OE _ _ _ _ (T73.setTop (mkF m 172 #[iv r1, iv r2, iv r3, iv fl, iv 0, iv 3, iv th, iv rvv, iv nn, rv b3, .unset, .unset, .unset, .unset, .unset, .unset, .unset] []))
              refine OE.v (fun t k => XS.iconst X73.here hx rfl (hb hby at_172) k) ?_
              refine OE.v (fun t k => XS.goto X73.here hx rfl (pc0 := 173) (pc' := 177) rfl (hb hby at_173) (by decide) (by decide) k) ?_
              refine OE.v (fun t k => XS.istore X73.here hx rfl (hb hby at_177) rfl (l' := #[iv r1, iv r2, iv r3, iv fl, iv 0, iv 3, iv th, iv rvv, iv nn, rv b3, .unset, iv 0, .unset, .unset, .unset, .unset, .unset]) rfl k) ?_
              refine OE.v (fun t k => XS.iload X73.here hx rfl (hb hby at_179) rfl k) ?_
              show OE _ _ _ _ (T73.setTop (mkF m 181 #[iv r1, iv r2, iv r3, iv fl, iv 0, iv 3, iv th, iv rvv, iv nn, rv b3, .unset, iv 0, .unset, .unset, .unset, .unset, .unset] [(.int rvv)]))
              refine OE.v (fun t k => XS.ifNo X73.here hx rfl (hb hby at_181) rfl ((if0 _ _).trans (feq hc139_17).1) k) ?_
              show OE _ _ _ _ (T73.setTop (mkF m 184 #[iv r1, iv r2, iv r3, iv fl, iv 0, iv 3, iv th, iv rvv, iv nn, rv b3, .unset, iv 0, .unset, .unset, .unset, .unset, .unset] []))
              refine OE.v (fun t k => XS.iload X73.here hx rfl (hb hby at_184) rfl k) ?_
              refine OE.v (fun t k => XS.iloadN X73.here hx rfl (hb hby at_186) rfl k) ?_
              refine OE.v (fun t k => XS.isub X73.here hx rfl (hb hby at_187) rfl k) ?_
              refine OE.v (fun t k => XS.goto X73.here hx rfl (pc0 := 188) (pc' := 195) rfl (hb hby at_188) (by decide) (by decide) k) ?_
              refine OE.v (fun t k => XS.istore X73.here hx rfl (hb hby at_195) rfl (l' := #[iv r1, iv r2, iv r3, iv fl, iv 0, iv 3, iv th, iv rvv, iv nn, rv b3, .unset, iv 0, iv ((0 : Int32) - r3), .unset, .unset, .unset, .unset]) rfl k) ?_
              refine OE.v (fun t k => XS.iload X73.here hx rfl (hb hby at_197) rfl k) ?_
              show OE _ _ _ _ (T73.setTop (mkF m 199 #[iv r1, iv r2, iv r3, iv fl, iv 0, iv 3, iv th, iv rvv, iv nn, rv b3, .unset, iv 0, iv ((0 : Int32) - r3), .unset, .unset, .unset, .unset] [(.int 3)]))
              refine OE.v (fun t k => XS.iconst X73.here hx rfl (hb hby at_199) k) ?_
              show OE _ _ _ _ (T73.setTop (mkF m 200 #[iv r1, iv r2, iv r3, iv fl, iv 0, iv 3, iv th, iv rvv, iv nn, rv b3, .unset, iv 0, iv ((0 : Int32) - r3), .unset, .unset, .unset, .unset] [(.int 2), (.int 3)]))
              refine OE.v (fun t k => XS.icmpYes X73.here hx rfl (pc0 := 200) (pc' := 216) rfl (hb hby at_200) rfl (feq (by decide)).2 (by decide) (by decide) k) ?_
              show OE _ _ _ _ (T73.setTop (mkF m 216 #[iv r1, iv r2, iv r3, iv fl, iv 0, iv 3, iv th, iv rvv, iv nn, rv b3, .unset, iv 0, iv ((0 : Int32) - r3), .unset, .unset, .unset, .unset] []))
              refine OE.v (fun t k => XS.iload X73.here hx rfl (hb hby at_216) rfl k) ?_
              refine OE.v (fun t k => XS.istore X73.here hx rfl (hb hby at_218) rfl (l' := #[iv r1, iv r2, iv r3, iv fl, iv 0, iv 3, iv th, iv rvv, iv nn, rv b3, .unset, iv 0, iv ((0 : Int32) - r3), .unset, iv ((0 : Int32) - r3), .unset, .unset]) rfl k) ?_
              refine OE.v (fun t k => XS.iload X73.here hx rfl (hb hby at_220) rfl k) ?_
              refine OE.v (fun t k => XS.iloadN X73.here hx rfl (hb hby at_222) rfl k) ?_
              refine OE.v (fun t k => XS.isub X73.here hx rfl (hb hby at_223) rfl k) ?_
              refine OE.v (fun t k => XS.istore X73.here hx rfl (hb hby at_224) rfl (l' := #[iv r1, iv r2, iv r3, iv fl, iv 0, iv 3, iv th, iv rvv, iv nn, rv b3, .unset, iv 0, iv ((0 : Int32) - r3), iv (((0 : Int32) - r3) - r2), iv ((0 : Int32) - r3), .unset, .unset]) rfl k) ?_
              show OE _ _ _ _ (T73.setTop (mkF m 226 #[iv r1, iv r2, iv r3, iv fl, iv 0, iv 3, iv th, iv rvv, iv nn, rv b3, .unset, iv 0, iv ((0 : Int32) - r3), iv (((0 : Int32) - r3) - r2), iv ((0 : Int32) - r3), .unset, .unset] []))
              refine OE.v (fun t k => XS.iload X73.here hx rfl (hb hby at_226) rfl k) ?_
              show OE _ _ _ _ (T73.setTop (mkF m 228 #[iv r1, iv r2, iv r3, iv fl, iv 0, iv 3, iv th, iv rvv, iv nn, rv b3, .unset, iv 0, iv ((0 : Int32) - r3), iv (((0 : Int32) - r3) - r2), iv ((0 : Int32) - r3), .unset, .unset] [(.int rvv)]))
              refine OE.v (fun t k => XS.ifNo X73.here hx rfl (hb hby at_228) rfl ((if0 _ _).trans (feq hc139_17).1) k) ?_
              show OE _ _ _ _ (T73.setTop (mkF m 231 #[iv r1, iv r2, iv r3, iv fl, iv 0, iv 3, iv th, iv rvv, iv nn, rv b3, .unset, iv 0, iv ((0 : Int32) - r3), iv (((0 : Int32) - r3) - r2), iv ((0 : Int32) - r3), .unset, .unset] []))
              refine OE.v (fun t k => XS.iload X73.here hx rfl (hb hby at_231) rfl k) ?_
              refine OE.v (fun t k => XS.goto X73.here hx rfl (pc0 := 233) (pc' := 237) rfl (hb hby at_233) (by decide) (by decide) k) ?_
              refine OE.v (fun t k => XS.istore X73.here hx rfl (hb hby at_237) rfl (l' := #[iv r1, iv r2, iv r3, iv fl, iv 0, iv 3, iv th, iv rvv, iv nn, rv b3, .unset, iv 0, iv ((0 : Int32) - r3), iv (((0 : Int32) - r3) - r2), iv ((0 : Int32) - r3), iv (((0 : Int32) - r3) - r2), .unset]) rfl k) ?_
              refine OE.v (fun t k => XS.iload X73.here hx rfl (hb hby at_239) rfl k) ?_
              show OE _ _ _ _ (T73.setTop (mkF m 241 #[iv r1, iv r2, iv r3, iv fl, iv 0, iv 3, iv th, iv rvv, iv nn, rv b3, .unset, iv 0, iv ((0 : Int32) - r3), iv (((0 : Int32) - r3) - r2), iv ((0 : Int32) - r3), iv (((0 : Int32) - r3) - r2), .unset] [(.int nn)]))
              refine OE.cut (fun G => ∀ (T74 : State) (lc74 : List Loc) (X74 : Stand p l e room_1 s m #[(.int r1), (.int r2), (.int r3), (.int fl)] below meth c T74 lc74 6 121) (e74 : T74.heap = h73) (N74 : Fr n0 lc74) (sv : Int32) (hj74_0 : sv = if nn = (0 : Int32) then (0 : Int32) else if nn = (1 : Int32) then r1 else if nn = (2 : Int32) then (((0 : Int32) - r3) - r2) else ((0 : Int32) - r3)), G (T74.setTop (mkF m 279 #[iv r1, iv r2, iv r3, iv fl, iv 0, iv 3, iv th, iv rvv, iv nn, rv b3, .unset, iv 0, iv ((0 : Int32) - r3), iv (((0 : Int32) - r3) - r2), iv ((0 : Int32) - r3), iv (((0 : Int32) - r3) - r2), iv sv] []))) ?_ ?_
              · intro T74 lc74 X74 e74 N74 sv hj74_0
                show OE _ _ _ _ (T74.setTop (mkF m 279 #[iv r1, iv r2, iv r3, iv fl, iv 0, iv 3, iv th, iv rvv, iv nn, rv b3, .unset, iv 0, iv ((0 : Int32) - r3), iv (((0 : Int32) - r3) - r2), iv ((0 : Int32) - r3), iv (((0 : Int32) - r3) - r2), iv sv] []))
                refine OE.v (fun t k => XS.iload X74.here hx rfl (hb hby at_279) rfl k) ?_
                refine OE.v (fun t k => XS.iload X74.here hx rfl (hb hby at_281) rfl k) ?_
                refine OE.v (fun t k => XS.isub X74.here hx rfl (hb hby at_283) rfl k) ?_
                refine OE.v (fun t k => XS.istore X74.here hx rfl (hb hby at_284) rfl (l' := #[iv r1, iv r2, iv r3, iv fl, iv 0, iv 3, iv th, iv rvv, iv nn, rv b3, iv (sv - (((0 : Int32) - r3) - r2)), iv 0, iv ((0 : Int32) - r3), iv (((0 : Int32) - r3) - r2), iv ((0 : Int32) - r3), iv (((0 : Int32) - r3) - r2), iv sv]) rfl k) ?_
                show OE _ _ _ _ (T74.setTop (mkF m 286 #[iv r1, iv r2, iv r3, iv fl, iv 0, iv 3, iv th, iv rvv, iv nn, rv b3, iv (sv - (((0 : Int32) - r3) - r2)), iv 0, iv ((0 : Int32) - r3), iv (((0 : Int32) - r3) - r2), iv ((0 : Int32) - r3), iv (((0 : Int32) - r3) - r2), iv sv] []))
                rcases c_nn with enn_75 | enn_75 | enn_75 | enn_75
                ·
                  rw [enn_75]
                  refine OE.v (fun t k => XS.aload X74.here hx rfl (hb hby at_286) rfl rfl k) ?_
                  refine OE.v (fun t k => XS.iload X74.here hx rfl (hb hby at_288) rfl k) ?_
                  show OE _ _ _ _ (T74.setTop (mkF m 290 #[iv r1, iv r2, iv r3, iv fl, iv 0, iv 3, iv th, iv rvv, iv 0, rv b3, iv (sv - (((0 : Int32) - r3) - r2)), iv 0, iv ((0 : Int32) - r3), iv (((0 : Int32) - r3) - r2), iv ((0 : Int32) - r3), iv (((0 : Int32) - r3) - r2), iv sv] [(.int 0), (.ref b3)]))
                  obtain ⟨cq76, kq76, q76a, q76b, q76c⟩ := isOf hZ e74 (((q8_0.keep Kq9).keep Kq10).keep Kq73)
                  obtain ⟨_, _, ⟨T76, L76, k76, n76⟩, -, X76, ⟨Lc76, hQ76, l76, y76, z76⟩, st76⟩ := X74.virtualBack hx (y := (⟨"com/example/stratal/stratal/logic/StratumGroups", "offset", "(I)I"⟩ : MethodName)) (z := (⟨"com/example/stratal/stratal/logic/StratumGroups", "offset", "(I)I"⟩ : MethodName)) hown (mvT hZ (hw _ (own_w 56 rfl))) (mvT hZ (hw _ (own_w 38 rfl))) (notFace_of_selects (args := #[]) (mvT hZ (hw _ (own_w 40 rfl)))) (mvT hZ (hw _ (own_w 40 rfl))) (mvT hZ (hw _ (own_w 39 rfl))) (by decide) (backOf (W := 0) (rmo0_2022 l Z a0 hw [] b3 rp_4 kp_4 ro_4 ko_4 ((((0 : Int32) + (((0 : Int32) + r2) - (0 : Int32))) + r3) - (0 : Int32)) (((0 : Int32) + r1) - (0 : Int32)) (0 : Int32) (((0 : Int32) + r2) - (0 : Int32)) h73 n0 Z73 (((q8_1.keep Kq9 (ninS (Ne.symm q4_11) (ninS (Ne.symm q4_12) (ninS (Ne.symm q4_13) (ninS (Ne.symm q4_14) nin0))))).keep Kq10 (ninS (Ne.symm q4_11) (ninS (Ne.symm q4_12) (ninS (Ne.symm q4_13) (ninS (Ne.symm q4_14) nin0))))).keep Kq73 (ninS (Ne.symm q4_11) (ninS (Ne.symm q4_12) (ninS (Ne.symm q4_13) (ninS (Ne.symm q4_14) nin0))))) q73_0 (((q8_2.keep Kq9 (ninS (Ne.symm q4_11) (ninS (Ne.symm q4_12) (ninS (Ne.symm q4_13) (ninS (Ne.symm q4_14) nin0))))).keep Kq10 (ninS (Ne.symm q4_11) (ninS (Ne.symm q4_12) (ninS (Ne.symm q4_13) (ninS (Ne.symm q4_14) nin0))))).keep Kq73 (ninS (Ne.symm q4_11) (ninS (Ne.symm q4_12) (ninS (Ne.symm q4_13) (ninS (Ne.symm q4_14) nin0))))) q73_1) hZ (hw _ (own_w 41 rfl)) (hw _ (own_w 2 rfl)) (by decide) (by decide)) q76a q76c (g := (mkF m 290 #[iv r1, iv r2, iv r3, iv fl, iv 0, iv 3, iv th, iv rvv, iv 0, rv b3, iv (sv - (((0 : Int32) - r3) - r2)), iv 0, iv ((0 : Int32) - r3), iv (((0 : Int32) - r3) - r2), iv ((0 : Int32) - r3), iv (((0 : Int32) - r3) - r2), iv sv] [(.int 0), (.ref b3)])) rfl (by rw [hml]; rfl) (Steps.refl _) (argsL := [(.int 0)]) (rest := []) (lenOf pd_4 rfl) rfl (Nat.le_of_eq rfl) (hb hby at_290) (fun _ _ => ⟨rfl, e74, (by decide : 6 + 0 ≤ _), (by decide : 121 + 0 ≤ _)⟩)
                  dsimp only [Pt.U, Pt.locs, Pt.cells, Pt.slots] at X76 l76 y76 z76 st76 hQ76
                  subst l76 y76 z76
                  obtain ⟨rfl, Nq76, e76⟩ := hQ76
                  have N76 := Fr.app N74 Nq76
                  refine OE.v (fun t k => st76.trans k) ?_
                  show OE _ _ _ _ (T76.setTop (mkF m 293 #[iv r1, iv r2, iv r3, iv fl, iv 0, iv 3, iv th, iv rvv, iv 0, rv b3, iv (sv - (((0 : Int32) - r3) - r2)), iv 0, iv ((0 : Int32) - r3), iv (((0 : Int32) - r3) - r2), iv ((0 : Int32) - r3), iv (((0 : Int32) - r3) - r2), iv sv] [(.int ((0 : Int32) + ((((0 : Int32) + (((0 : Int32) + r2) - (0 : Int32))) + r3) - (0 : Int32))))]))
                  refine OE.v (fun t k => XS.iload X76.here hx rfl (hb hby at_293) rfl k) ?_
                  show OE _ _ _ _ (T76.setTop (mkF m 295 #[iv r1, iv r2, iv r3, iv fl, iv 0, iv 3, iv th, iv rvv, iv 0, rv b3, iv (sv - (((0 : Int32) - r3) - r2)), iv 0, iv ((0 : Int32) - r3), iv (((0 : Int32) - r3) - r2), iv ((0 : Int32) - r3), iv (((0 : Int32) - r3) - r2), iv sv] [(.int (sv - (((0 : Int32) - r3) - r2))), (.int ((0 : Int32) + ((((0 : Int32) + (((0 : Int32) + r2) - (0 : Int32))) + r3) - (0 : Int32))))]))
                  refine OE.v (fun t k => XS.icmpNo X76.here hx rfl (hb hby at_295) rfl (teq (by rw [hj74_0, enn_75, if_pos rfl]; grind)).2 k) ?_
                  show OE _ _ _ _ (T76.setTop (mkF m 298 #[iv r1, iv r2, iv r3, iv fl, iv 0, iv 3, iv th, iv rvv, iv 0, rv b3, iv (sv - (((0 : Int32) - r3) - r2)), iv 0, iv ((0 : Int32) - r3), iv (((0 : Int32) - r3) - r2), iv ((0 : Int32) - r3), iv (((0 : Int32) - r3) - r2), iv sv] []))
                  refine OE.v (fun t k => XS.iconst X76.here hx rfl (hb hby at_298) k) ?_
                  refine OE.v (fun t k => XS.goto X76.here hx rfl (pc0 := 299) (pc' := 303) rfl (hb hby at_299) (by decide) (by decide) k) ?_
                  show OE _ _ _ _ (T76.setTop (mkF m 303 #[iv r1, iv r2, iv r3, iv fl, iv 0, iv 3, iv th, iv rvv, iv 0, rv b3, iv (sv - (((0 : Int32) - r3) - r2)), iv 0, iv ((0 : Int32) - r3), iv (((0 : Int32) - r3) - r2), iv ((0 : Int32) - r3), iv (((0 : Int32) - r3) - r2), iv sv] [(.int 1)]))
                  obtain ⟨fs, hr, hrun, hended, hW, hsame⟩ := X76.leave (v := some (.int 1)) (fun h => by rw [Bd.returns] at h; cases h)
                  refine ⟨_, _, ?_, hrun, hended, _, _, rfl, ?_, ⟨_, rfl⟩, hW, hsame.mono (by decide) (by decide)⟩
                  · exact retN X76 hx (t := .boolean) Bd.returns (by simp) (hb hby at_303) hr
                  · show Q0 Z r1 r2 r3 fl h0 n0 _ T76.heap _
                    rw [e76]
                    exact ⟨rfl, N76⟩
                ·
                  rw [enn_75]
                  refine OE.v (fun t k => XS.aload X74.here hx rfl (hb hby at_286) rfl rfl k) ?_
                  refine OE.v (fun t k => XS.iload X74.here hx rfl (hb hby at_288) rfl k) ?_
                  show OE _ _ _ _ (T74.setTop (mkF m 290 #[iv r1, iv r2, iv r3, iv fl, iv 0, iv 3, iv th, iv rvv, iv 1, rv b3, iv (sv - (((0 : Int32) - r3) - r2)), iv 0, iv ((0 : Int32) - r3), iv (((0 : Int32) - r3) - r2), iv ((0 : Int32) - r3), iv (((0 : Int32) - r3) - r2), iv sv] [(.int 1), (.ref b3)]))
                  obtain ⟨cq77, kq77, q77a, q77b, q77c⟩ := isOf hZ e74 (((q8_0.keep Kq9).keep Kq10).keep Kq73)
                  obtain ⟨_, _, ⟨T77, L77, k77, n77⟩, -, X77, ⟨Lc77, hQ77, l77, y77, z77⟩, st77⟩ := X74.virtualBack hx (y := (⟨"com/example/stratal/stratal/logic/StratumGroups", "offset", "(I)I"⟩ : MethodName)) (z := (⟨"com/example/stratal/stratal/logic/StratumGroups", "offset", "(I)I"⟩ : MethodName)) hown (mvT hZ (hw _ (own_w 56 rfl))) (mvT hZ (hw _ (own_w 38 rfl))) (notFace_of_selects (args := #[]) (mvT hZ (hw _ (own_w 40 rfl)))) (mvT hZ (hw _ (own_w 40 rfl))) (mvT hZ (hw _ (own_w 39 rfl))) (by decide) (backOf (W := 0) (rmo1_2022 l Z a0 hw [] b3 rp_4 kp_4 ro_4 ko_4 ((((0 : Int32) + (((0 : Int32) + r2) - (0 : Int32))) + r3) - (0 : Int32)) (((0 : Int32) + r1) - (0 : Int32)) (0 : Int32) (((0 : Int32) + r2) - (0 : Int32)) h73 n0 Z73 (((q8_1.keep Kq9 (ninS (Ne.symm q4_11) (ninS (Ne.symm q4_12) (ninS (Ne.symm q4_13) (ninS (Ne.symm q4_14) nin0))))).keep Kq10 (ninS (Ne.symm q4_11) (ninS (Ne.symm q4_12) (ninS (Ne.symm q4_13) (ninS (Ne.symm q4_14) nin0))))).keep Kq73 (ninS (Ne.symm q4_11) (ninS (Ne.symm q4_12) (ninS (Ne.symm q4_13) (ninS (Ne.symm q4_14) nin0))))) q73_0 (((q8_2.keep Kq9 (ninS (Ne.symm q4_11) (ninS (Ne.symm q4_12) (ninS (Ne.symm q4_13) (ninS (Ne.symm q4_14) nin0))))).keep Kq10 (ninS (Ne.symm q4_11) (ninS (Ne.symm q4_12) (ninS (Ne.symm q4_13) (ninS (Ne.symm q4_14) nin0))))).keep Kq73 (ninS (Ne.symm q4_11) (ninS (Ne.symm q4_12) (ninS (Ne.symm q4_13) (ninS (Ne.symm q4_14) nin0))))) q73_1) hZ (hw _ (own_w 41 rfl)) (hw _ (own_w 2 rfl)) (by decide) (by decide)) q77a q77c (g := (mkF m 290 #[iv r1, iv r2, iv r3, iv fl, iv 0, iv 3, iv th, iv rvv, iv 1, rv b3, iv (sv - (((0 : Int32) - r3) - r2)), iv 0, iv ((0 : Int32) - r3), iv (((0 : Int32) - r3) - r2), iv ((0 : Int32) - r3), iv (((0 : Int32) - r3) - r2), iv sv] [(.int 1), (.ref b3)])) rfl (by rw [hml]; rfl) (Steps.refl _) (argsL := [(.int 1)]) (rest := []) (lenOf pd_4 rfl) rfl (Nat.le_of_eq rfl) (hb hby at_290) (fun _ _ => ⟨rfl, e74, (by decide : 6 + 0 ≤ _), (by decide : 121 + 0 ≤ _)⟩)
                  dsimp only [Pt.U, Pt.locs, Pt.cells, Pt.slots] at X77 l77 y77 z77 st77 hQ77
                  subst l77 y77 z77
                  obtain ⟨rfl, Nq77, e77⟩ := hQ77
                  have N77 := Fr.app N74 Nq77
                  refine OE.v (fun t k => st77.trans k) ?_
                  show OE _ _ _ _ (T77.setTop (mkF m 293 #[iv r1, iv r2, iv r3, iv fl, iv 0, iv 3, iv th, iv rvv, iv 1, rv b3, iv (sv - (((0 : Int32) - r3) - r2)), iv 0, iv ((0 : Int32) - r3), iv (((0 : Int32) - r3) - r2), iv ((0 : Int32) - r3), iv (((0 : Int32) - r3) - r2), iv sv] [(.int (((0 : Int32) + (((0 : Int32) + r1) - (0 : Int32))) + ((((0 : Int32) + (((0 : Int32) + r2) - (0 : Int32))) + r3) - (0 : Int32))))]))
                  refine OE.v (fun t k => XS.iload X77.here hx rfl (hb hby at_293) rfl k) ?_
                  show OE _ _ _ _ (T77.setTop (mkF m 295 #[iv r1, iv r2, iv r3, iv fl, iv 0, iv 3, iv th, iv rvv, iv 1, rv b3, iv (sv - (((0 : Int32) - r3) - r2)), iv 0, iv ((0 : Int32) - r3), iv (((0 : Int32) - r3) - r2), iv ((0 : Int32) - r3), iv (((0 : Int32) - r3) - r2), iv sv] [(.int (sv - (((0 : Int32) - r3) - r2))), (.int (((0 : Int32) + (((0 : Int32) + r1) - (0 : Int32))) + ((((0 : Int32) + (((0 : Int32) + r2) - (0 : Int32))) + r3) - (0 : Int32))))]))
                  refine OE.v (fun t k => XS.icmpNo X77.here hx rfl (hb hby at_295) rfl (teq (by rw [hj74_0, enn_75, if_neg (by decide), if_pos rfl]; grind)).2 k) ?_
                  show OE _ _ _ _ (T77.setTop (mkF m 298 #[iv r1, iv r2, iv r3, iv fl, iv 0, iv 3, iv th, iv rvv, iv 1, rv b3, iv (sv - (((0 : Int32) - r3) - r2)), iv 0, iv ((0 : Int32) - r3), iv (((0 : Int32) - r3) - r2), iv ((0 : Int32) - r3), iv (((0 : Int32) - r3) - r2), iv sv] []))
                  refine OE.v (fun t k => XS.iconst X77.here hx rfl (hb hby at_298) k) ?_
                  refine OE.v (fun t k => XS.goto X77.here hx rfl (pc0 := 299) (pc' := 303) rfl (hb hby at_299) (by decide) (by decide) k) ?_
                  show OE _ _ _ _ (T77.setTop (mkF m 303 #[iv r1, iv r2, iv r3, iv fl, iv 0, iv 3, iv th, iv rvv, iv 1, rv b3, iv (sv - (((0 : Int32) - r3) - r2)), iv 0, iv ((0 : Int32) - r3), iv (((0 : Int32) - r3) - r2), iv ((0 : Int32) - r3), iv (((0 : Int32) - r3) - r2), iv sv] [(.int 1)]))
                  obtain ⟨fs, hr, hrun, hended, hW, hsame⟩ := X77.leave (v := some (.int 1)) (fun h => by rw [Bd.returns] at h; cases h)
                  refine ⟨_, _, ?_, hrun, hended, _, _, rfl, ?_, ⟨_, rfl⟩, hW, hsame.mono (by decide) (by decide)⟩
                  · exact retN X77 hx (t := .boolean) Bd.returns (by simp) (hb hby at_303) hr
                  · show Q0 Z r1 r2 r3 fl h0 n0 _ T77.heap _
                    rw [e77]
                    exact ⟨rfl, N77⟩
                ·
                  rw [enn_75]
                  refine OE.v (fun t k => XS.aload X74.here hx rfl (hb hby at_286) rfl rfl k) ?_
                  refine OE.v (fun t k => XS.iload X74.here hx rfl (hb hby at_288) rfl k) ?_
                  show OE _ _ _ _ (T74.setTop (mkF m 290 #[iv r1, iv r2, iv r3, iv fl, iv 0, iv 3, iv th, iv rvv, iv 2, rv b3, iv (sv - (((0 : Int32) - r3) - r2)), iv 0, iv ((0 : Int32) - r3), iv (((0 : Int32) - r3) - r2), iv ((0 : Int32) - r3), iv (((0 : Int32) - r3) - r2), iv sv] [(.int 2), (.ref b3)]))
                  obtain ⟨cq78, kq78, q78a, q78b, q78c⟩ := isOf hZ e74 (((q8_0.keep Kq9).keep Kq10).keep Kq73)
                  obtain ⟨_, _, ⟨T78, L78, k78, n78⟩, -, X78, ⟨Lc78, hQ78, l78, y78, z78⟩, st78⟩ := X74.virtualBack hx (y := (⟨"com/example/stratal/stratal/logic/StratumGroups", "offset", "(I)I"⟩ : MethodName)) (z := (⟨"com/example/stratal/stratal/logic/StratumGroups", "offset", "(I)I"⟩ : MethodName)) hown (mvT hZ (hw _ (own_w 56 rfl))) (mvT hZ (hw _ (own_w 38 rfl))) (notFace_of_selects (args := #[]) (mvT hZ (hw _ (own_w 40 rfl)))) (mvT hZ (hw _ (own_w 40 rfl))) (mvT hZ (hw _ (own_w 39 rfl))) (by decide) (backOf (W := 0) (rmo2_2022 l Z a0 hw [] b3 rp_4 kp_4 ro_4 ko_4 ((((0 : Int32) + (((0 : Int32) + r2) - (0 : Int32))) + r3) - (0 : Int32)) (((0 : Int32) + r1) - (0 : Int32)) (0 : Int32) (((0 : Int32) + r2) - (0 : Int32)) h73 n0 Z73 (((q8_1.keep Kq9 (ninS (Ne.symm q4_11) (ninS (Ne.symm q4_12) (ninS (Ne.symm q4_13) (ninS (Ne.symm q4_14) nin0))))).keep Kq10 (ninS (Ne.symm q4_11) (ninS (Ne.symm q4_12) (ninS (Ne.symm q4_13) (ninS (Ne.symm q4_14) nin0))))).keep Kq73 (ninS (Ne.symm q4_11) (ninS (Ne.symm q4_12) (ninS (Ne.symm q4_13) (ninS (Ne.symm q4_14) nin0))))) q73_0 (((q8_2.keep Kq9 (ninS (Ne.symm q4_11) (ninS (Ne.symm q4_12) (ninS (Ne.symm q4_13) (ninS (Ne.symm q4_14) nin0))))).keep Kq10 (ninS (Ne.symm q4_11) (ninS (Ne.symm q4_12) (ninS (Ne.symm q4_13) (ninS (Ne.symm q4_14) nin0))))).keep Kq73 (ninS (Ne.symm q4_11) (ninS (Ne.symm q4_12) (ninS (Ne.symm q4_13) (ninS (Ne.symm q4_14) nin0))))) q73_1) hZ (hw _ (own_w 41 rfl)) (hw _ (own_w 2 rfl)) (by decide) (by decide)) q78a q78c (g := (mkF m 290 #[iv r1, iv r2, iv r3, iv fl, iv 0, iv 3, iv th, iv rvv, iv 2, rv b3, iv (sv - (((0 : Int32) - r3) - r2)), iv 0, iv ((0 : Int32) - r3), iv (((0 : Int32) - r3) - r2), iv ((0 : Int32) - r3), iv (((0 : Int32) - r3) - r2), iv sv] [(.int 2), (.ref b3)])) rfl (by rw [hml]; rfl) (Steps.refl _) (argsL := [(.int 2)]) (rest := []) (lenOf pd_4 rfl) rfl (Nat.le_of_eq rfl) (hb hby at_290) (fun _ _ => ⟨rfl, e74, (by decide : 6 + 0 ≤ _), (by decide : 121 + 0 ≤ _)⟩)
                  dsimp only [Pt.U, Pt.locs, Pt.cells, Pt.slots] at X78 l78 y78 z78 st78 hQ78
                  subst l78 y78 z78
                  obtain ⟨rfl, Nq78, e78⟩ := hQ78
                  have N78 := Fr.app N74 Nq78
                  refine OE.v (fun t k => st78.trans k) ?_
                  show OE _ _ _ _ (T78.setTop (mkF m 293 #[iv r1, iv r2, iv r3, iv fl, iv 0, iv 3, iv th, iv rvv, iv 2, rv b3, iv (sv - (((0 : Int32) - r3) - r2)), iv 0, iv ((0 : Int32) - r3), iv (((0 : Int32) - r3) - r2), iv ((0 : Int32) - r3), iv (((0 : Int32) - r3) - r2), iv sv] [(.int 0)]))
                  refine OE.v (fun t k => XS.iload X78.here hx rfl (hb hby at_293) rfl k) ?_
                  show OE _ _ _ _ (T78.setTop (mkF m 295 #[iv r1, iv r2, iv r3, iv fl, iv 0, iv 3, iv th, iv rvv, iv 2, rv b3, iv (sv - (((0 : Int32) - r3) - r2)), iv 0, iv ((0 : Int32) - r3), iv (((0 : Int32) - r3) - r2), iv ((0 : Int32) - r3), iv (((0 : Int32) - r3) - r2), iv sv] [(.int (sv - (((0 : Int32) - r3) - r2))), (.int 0)]))
                  refine OE.v (fun t k => XS.icmpNo X78.here hx rfl (hb hby at_295) rfl (teq (by rw [hj74_0, enn_75, if_neg (by decide), if_neg (by decide), if_pos rfl]; grind)).2 k) ?_
                  show OE _ _ _ _ (T78.setTop (mkF m 298 #[iv r1, iv r2, iv r3, iv fl, iv 0, iv 3, iv th, iv rvv, iv 2, rv b3, iv (sv - (((0 : Int32) - r3) - r2)), iv 0, iv ((0 : Int32) - r3), iv (((0 : Int32) - r3) - r2), iv ((0 : Int32) - r3), iv (((0 : Int32) - r3) - r2), iv sv] []))
                  refine OE.v (fun t k => XS.iconst X78.here hx rfl (hb hby at_298) k) ?_
                  refine OE.v (fun t k => XS.goto X78.here hx rfl (pc0 := 299) (pc' := 303) rfl (hb hby at_299) (by decide) (by decide) k) ?_
                  show OE _ _ _ _ (T78.setTop (mkF m 303 #[iv r1, iv r2, iv r3, iv fl, iv 0, iv 3, iv th, iv rvv, iv 2, rv b3, iv (sv - (((0 : Int32) - r3) - r2)), iv 0, iv ((0 : Int32) - r3), iv (((0 : Int32) - r3) - r2), iv ((0 : Int32) - r3), iv (((0 : Int32) - r3) - r2), iv sv] [(.int 1)]))
                  obtain ⟨fs, hr, hrun, hended, hW, hsame⟩ := X78.leave (v := some (.int 1)) (fun h => by rw [Bd.returns] at h; cases h)
                  refine ⟨_, _, ?_, hrun, hended, _, _, rfl, ?_, ⟨_, rfl⟩, hW, hsame.mono (by decide) (by decide)⟩
                  · exact retN X78 hx (t := .boolean) Bd.returns (by simp) (hb hby at_303) hr
                  · show Q0 Z r1 r2 r3 fl h0 n0 _ T78.heap _
                    rw [e78]
                    exact ⟨rfl, N78⟩
                ·
                  rw [enn_75]
                  refine OE.v (fun t k => XS.aload X74.here hx rfl (hb hby at_286) rfl rfl k) ?_
                  refine OE.v (fun t k => XS.iload X74.here hx rfl (hb hby at_288) rfl k) ?_
                  show OE _ _ _ _ (T74.setTop (mkF m 290 #[iv r1, iv r2, iv r3, iv fl, iv 0, iv 3, iv th, iv rvv, iv 3, rv b3, iv (sv - (((0 : Int32) - r3) - r2)), iv 0, iv ((0 : Int32) - r3), iv (((0 : Int32) - r3) - r2), iv ((0 : Int32) - r3), iv (((0 : Int32) - r3) - r2), iv sv] [(.int 3), (.ref b3)]))
                  obtain ⟨cq79, kq79, q79a, q79b, q79c⟩ := isOf hZ e74 (((q8_0.keep Kq9).keep Kq10).keep Kq73)
                  obtain ⟨_, _, ⟨T79, L79, k79, n79⟩, -, X79, ⟨Lc79, hQ79, l79, y79, z79⟩, st79⟩ := X74.virtualBack hx (y := (⟨"com/example/stratal/stratal/logic/StratumGroups", "offset", "(I)I"⟩ : MethodName)) (z := (⟨"com/example/stratal/stratal/logic/StratumGroups", "offset", "(I)I"⟩ : MethodName)) hown (mvT hZ (hw _ (own_w 56 rfl))) (mvT hZ (hw _ (own_w 38 rfl))) (notFace_of_selects (args := #[]) (mvT hZ (hw _ (own_w 40 rfl)))) (mvT hZ (hw _ (own_w 40 rfl))) (mvT hZ (hw _ (own_w 39 rfl))) (by decide) (backOf (W := 0) (rmo3_2022 l Z a0 hw [] b3 rp_4 kp_4 ro_4 ko_4 ((((0 : Int32) + (((0 : Int32) + r2) - (0 : Int32))) + r3) - (0 : Int32)) (((0 : Int32) + r1) - (0 : Int32)) (0 : Int32) (((0 : Int32) + r2) - (0 : Int32)) h73 n0 Z73 (((q8_1.keep Kq9 (ninS (Ne.symm q4_11) (ninS (Ne.symm q4_12) (ninS (Ne.symm q4_13) (ninS (Ne.symm q4_14) nin0))))).keep Kq10 (ninS (Ne.symm q4_11) (ninS (Ne.symm q4_12) (ninS (Ne.symm q4_13) (ninS (Ne.symm q4_14) nin0))))).keep Kq73 (ninS (Ne.symm q4_11) (ninS (Ne.symm q4_12) (ninS (Ne.symm q4_13) (ninS (Ne.symm q4_14) nin0))))) q73_0 (((q8_2.keep Kq9 (ninS (Ne.symm q4_11) (ninS (Ne.symm q4_12) (ninS (Ne.symm q4_13) (ninS (Ne.symm q4_14) nin0))))).keep Kq10 (ninS (Ne.symm q4_11) (ninS (Ne.symm q4_12) (ninS (Ne.symm q4_13) (ninS (Ne.symm q4_14) nin0))))).keep Kq73 (ninS (Ne.symm q4_11) (ninS (Ne.symm q4_12) (ninS (Ne.symm q4_13) (ninS (Ne.symm q4_14) nin0))))) q73_1) hZ (hw _ (own_w 41 rfl)) (hw _ (own_w 2 rfl)) (by decide) (by decide)) q79a q79c (g := (mkF m 290 #[iv r1, iv r2, iv r3, iv fl, iv 0, iv 3, iv th, iv rvv, iv 3, rv b3, iv (sv - (((0 : Int32) - r3) - r2)), iv 0, iv ((0 : Int32) - r3), iv (((0 : Int32) - r3) - r2), iv ((0 : Int32) - r3), iv (((0 : Int32) - r3) - r2), iv sv] [(.int 3), (.ref b3)])) rfl (by rw [hml]; rfl) (Steps.refl _) (argsL := [(.int 3)]) (rest := []) (lenOf pd_4 rfl) rfl (Nat.le_of_eq rfl) (hb hby at_290) (fun _ _ => ⟨rfl, e74, (by decide : 6 + 0 ≤ _), (by decide : 121 + 0 ≤ _)⟩)
                  dsimp only [Pt.U, Pt.locs, Pt.cells, Pt.slots] at X79 l79 y79 z79 st79 hQ79
                  subst l79 y79 z79
                  obtain ⟨rfl, Nq79, e79⟩ := hQ79
                  have N79 := Fr.app N74 Nq79
                  refine OE.v (fun t k => st79.trans k) ?_
                  show OE _ _ _ _ (T79.setTop (mkF m 293 #[iv r1, iv r2, iv r3, iv fl, iv 0, iv 3, iv th, iv rvv, iv 3, rv b3, iv (sv - (((0 : Int32) - r3) - r2)), iv 0, iv ((0 : Int32) - r3), iv (((0 : Int32) - r3) - r2), iv ((0 : Int32) - r3), iv (((0 : Int32) - r3) - r2), iv sv] [(.int ((0 : Int32) + (((0 : Int32) + r2) - (0 : Int32))))]))
                  refine OE.v (fun t k => XS.iload X79.here hx rfl (hb hby at_293) rfl k) ?_
                  show OE _ _ _ _ (T79.setTop (mkF m 295 #[iv r1, iv r2, iv r3, iv fl, iv 0, iv 3, iv th, iv rvv, iv 3, rv b3, iv (sv - (((0 : Int32) - r3) - r2)), iv 0, iv ((0 : Int32) - r3), iv (((0 : Int32) - r3) - r2), iv ((0 : Int32) - r3), iv (((0 : Int32) - r3) - r2), iv sv] [(.int (sv - (((0 : Int32) - r3) - r2))), (.int ((0 : Int32) + (((0 : Int32) + r2) - (0 : Int32))))]))
                  refine OE.v (fun t k => XS.icmpNo X79.here hx rfl (hb hby at_295) rfl (teq (by rw [hj74_0, enn_75, if_neg (by decide), if_neg (by decide), if_neg (by decide)]; grind)).2 k) ?_
                  show OE _ _ _ _ (T79.setTop (mkF m 298 #[iv r1, iv r2, iv r3, iv fl, iv 0, iv 3, iv th, iv rvv, iv 3, rv b3, iv (sv - (((0 : Int32) - r3) - r2)), iv 0, iv ((0 : Int32) - r3), iv (((0 : Int32) - r3) - r2), iv ((0 : Int32) - r3), iv (((0 : Int32) - r3) - r2), iv sv] []))
                  refine OE.v (fun t k => XS.iconst X79.here hx rfl (hb hby at_298) k) ?_
                  refine OE.v (fun t k => XS.goto X79.here hx rfl (pc0 := 299) (pc' := 303) rfl (hb hby at_299) (by decide) (by decide) k) ?_
                  show OE _ _ _ _ (T79.setTop (mkF m 303 #[iv r1, iv r2, iv r3, iv fl, iv 0, iv 3, iv th, iv rvv, iv 3, rv b3, iv (sv - (((0 : Int32) - r3) - r2)), iv 0, iv ((0 : Int32) - r3), iv (((0 : Int32) - r3) - r2), iv ((0 : Int32) - r3), iv (((0 : Int32) - r3) - r2), iv sv] [(.int 1)]))
                  obtain ⟨fs, hr, hrun, hended, hW, hsame⟩ := X79.leave (v := some (.int 1)) (fun h => by rw [Bd.returns] at h; cases h)
                  refine ⟨_, _, ?_, hrun, hended, _, _, rfl, ?_, ⟨_, rfl⟩, hW, hsame.mono (by decide) (by decide)⟩
                  · exact retN X79 hx (t := .boolean) Bd.returns (by simp) (hb hby at_303) hr
                  · show Q0 Z r1 r2 r3 fl h0 n0 _ T79.heap _
                    rw [e79]
                    exact ⟨rfl, N79⟩
              intro J74
              by_cases hc241_80 : nn = (0 : Int32)
              ·
                refine OE.v (fun t k => XS.ifNo X73.here hx rfl (hb hby at_241) rfl ((if0 _ _).trans (teq hc241_80).2) k) ?_
                show OE _ _ _ _ (T73.setTop (mkF m 244 #[iv r1, iv r2, iv r3, iv fl, iv 0, iv 3, iv th, iv rvv, iv nn, rv b3, .unset, iv 0, iv ((0 : Int32) - r3), iv (((0 : Int32) - r3) - r2), iv ((0 : Int32) - r3), iv (((0 : Int32) - r3) - r2), .unset] []))
                refine OE.v (fun t k => XS.iconst X73.here hx rfl (hb hby at_244) k) ?_
                refine OE.v (fun t k => XS.istore X73.here hx rfl (hb hby at_245) rfl (l' := #[iv r1, iv r2, iv r3, iv fl, iv 0, iv 3, iv th, iv rvv, iv nn, rv b3, .unset, iv 0, iv ((0 : Int32) - r3), iv (((0 : Int32) - r3) - r2), iv ((0 : Int32) - r3), iv (((0 : Int32) - r3) - r2), iv 0]) rfl k) ?_
                refine OE.v (fun t k => XS.goto X73.here hx rfl (pc0 := 247) (pc' := 279) rfl (hb hby at_247) (by decide) (by decide) k) ?_
                exact J74 _ _ X73 e73 N73 (0 : Int32) (by rw [if_pos hc241_80])
              ·
                refine OE.v (fun t k => XS.ifYes X73.here hx rfl (pc0 := 241) (pc' := 250) rfl (hb hby at_241) rfl ((if0 _ _).trans (feq hc241_80).2) (by decide) (by decide) k) ?_
                show OE _ _ _ _ (T73.setTop (mkF m 250 #[iv r1, iv r2, iv r3, iv fl, iv 0, iv 3, iv th, iv rvv, iv nn, rv b3, .unset, iv 0, iv ((0 : Int32) - r3), iv (((0 : Int32) - r3) - r2), iv ((0 : Int32) - r3), iv (((0 : Int32) - r3) - r2), .unset] []))
                refine OE.v (fun t k => XS.iload X73.here hx rfl (hb hby at_250) rfl k) ?_
                refine OE.v (fun t k => XS.iconst X73.here hx rfl (hb hby at_252) k) ?_
                show OE _ _ _ _ (T73.setTop (mkF m 253 #[iv r1, iv r2, iv r3, iv fl, iv 0, iv 3, iv th, iv rvv, iv nn, rv b3, .unset, iv 0, iv ((0 : Int32) - r3), iv (((0 : Int32) - r3) - r2), iv ((0 : Int32) - r3), iv (((0 : Int32) - r3) - r2), .unset] [(.int 1), (.int nn)]))
                by_cases hc253_81 : nn = (1 : Int32)
                ·
                  refine OE.v (fun t k => XS.icmpNo X73.here hx rfl (hb hby at_253) rfl (teq hc253_81).2 k) ?_
                  show OE _ _ _ _ (T73.setTop (mkF m 256 #[iv r1, iv r2, iv r3, iv fl, iv 0, iv 3, iv th, iv rvv, iv nn, rv b3, .unset, iv 0, iv ((0 : Int32) - r3), iv (((0 : Int32) - r3) - r2), iv ((0 : Int32) - r3), iv (((0 : Int32) - r3) - r2), .unset] []))
                  refine OE.v (fun t k => XS.iloadN X73.here hx rfl (hb hby at_256) rfl k) ?_
                  refine OE.v (fun t k => XS.istore X73.here hx rfl (hb hby at_257) rfl (l' := #[iv r1, iv r2, iv r3, iv fl, iv 0, iv 3, iv th, iv rvv, iv nn, rv b3, .unset, iv 0, iv ((0 : Int32) - r3), iv (((0 : Int32) - r3) - r2), iv ((0 : Int32) - r3), iv (((0 : Int32) - r3) - r2), iv r1]) rfl k) ?_
                  refine OE.v (fun t k => XS.goto X73.here hx rfl (pc0 := 259) (pc' := 279) rfl (hb hby at_259) (by decide) (by decide) k) ?_
                  exact J74 _ _ X73 e73 N73 r1 (by rw [if_neg hc241_80, if_pos hc253_81])
                ·
                  refine OE.v (fun t k => XS.icmpYes X73.here hx rfl (pc0 := 253) (pc' := 262) rfl (hb hby at_253) rfl (feq hc253_81).2 (by decide) (by decide) k) ?_
                  show OE _ _ _ _ (T73.setTop (mkF m 262 #[iv r1, iv r2, iv r3, iv fl, iv 0, iv 3, iv th, iv rvv, iv nn, rv b3, .unset, iv 0, iv ((0 : Int32) - r3), iv (((0 : Int32) - r3) - r2), iv ((0 : Int32) - r3), iv (((0 : Int32) - r3) - r2), .unset] []))
                  refine OE.v (fun t k => XS.iload X73.here hx rfl (hb hby at_262) rfl k) ?_
                  refine OE.v (fun t k => XS.iconst X73.here hx rfl (hb hby at_264) k) ?_
                  show OE _ _ _ _ (T73.setTop (mkF m 265 #[iv r1, iv r2, iv r3, iv fl, iv 0, iv 3, iv th, iv rvv, iv nn, rv b3, .unset, iv 0, iv ((0 : Int32) - r3), iv (((0 : Int32) - r3) - r2), iv ((0 : Int32) - r3), iv (((0 : Int32) - r3) - r2), .unset] [(.int 2), (.int nn)]))
                  by_cases hc265_82 : nn = (2 : Int32)
                  ·
                    refine OE.v (fun t k => XS.icmpNo X73.here hx rfl (hb hby at_265) rfl (teq hc265_82).2 k) ?_
                    show OE _ _ _ _ (T73.setTop (mkF m 268 #[iv r1, iv r2, iv r3, iv fl, iv 0, iv 3, iv th, iv rvv, iv nn, rv b3, .unset, iv 0, iv ((0 : Int32) - r3), iv (((0 : Int32) - r3) - r2), iv ((0 : Int32) - r3), iv (((0 : Int32) - r3) - r2), .unset] []))
                    refine OE.v (fun t k => XS.iload X73.here hx rfl (hb hby at_268) rfl k) ?_
                    refine OE.v (fun t k => XS.istore X73.here hx rfl (hb hby at_270) rfl (l' := #[iv r1, iv r2, iv r3, iv fl, iv 0, iv 3, iv th, iv rvv, iv nn, rv b3, .unset, iv 0, iv ((0 : Int32) - r3), iv (((0 : Int32) - r3) - r2), iv ((0 : Int32) - r3), iv (((0 : Int32) - r3) - r2), iv (((0 : Int32) - r3) - r2)]) rfl k) ?_
                    refine OE.v (fun t k => XS.goto X73.here hx rfl (pc0 := 272) (pc' := 279) rfl (hb hby at_272) (by decide) (by decide) k) ?_
                    exact J74 _ _ X73 e73 N73 (((0 : Int32) - r3) - r2) (by rw [if_neg hc241_80, if_neg hc253_81, if_pos hc265_82])
                  ·
                    refine OE.v (fun t k => XS.icmpYes X73.here hx rfl (pc0 := 265) (pc' := 275) rfl (hb hby at_265) rfl (feq hc265_82).2 (by decide) (by decide) k) ?_
                    show OE _ _ _ _ (T73.setTop (mkF m 275 #[iv r1, iv r2, iv r3, iv fl, iv 0, iv 3, iv th, iv rvv, iv nn, rv b3, .unset, iv 0, iv ((0 : Int32) - r3), iv (((0 : Int32) - r3) - r2), iv ((0 : Int32) - r3), iv (((0 : Int32) - r3) - r2), .unset] []))
                    refine OE.v (fun t k => XS.iload X73.here hx rfl (hb hby at_275) rfl k) ?_
                    refine OE.v (fun t k => XS.istore X73.here hx rfl (hb hby at_277) rfl (l' := #[iv r1, iv r2, iv r3, iv fl, iv 0, iv 3, iv th, iv rvv, iv nn, rv b3, .unset, iv 0, iv ((0 : Int32) - r3), iv (((0 : Int32) - r3) - r2), iv ((0 : Int32) - r3), iv (((0 : Int32) - r3) - r2), iv ((0 : Int32) - r3)]) rfl k) ?_
                    exact J74 _ _ X73 e73 N73 ((0 : Int32) - r3) (by rw [if_neg hc241_80, if_neg hc253_81, if_neg hc265_82])
          ·
            rw [ena_61]
            show OE _ _ _ _ (T10.setTop (mkF m 142 #[iv r1, iv r2, iv r3, iv fl, iv 1, iv nb, iv th, iv rvv, iv nn, rv b3, .unset, .unset, .unset, .unset, .unset, .unset, .unset] []))
            rcases c_nb with enb_83 | enb_83
            ·
              rw [enb_83]
              show OE _ _ _ _ (T10.setTop (mkF m 142 #[iv r1, iv r2, iv r3, iv fl, iv 1, iv 2, iv th, iv rvv, iv nn, rv b3, .unset, .unset, .unset, .unset, .unset, .unset, .unset] []))
              refine OE.v (fun t k => XS.aload X10.here hx rfl (hb hby at_142) rfl rfl k) ?_
              refine OE.v (fun t k => XS.iload X10.here hx rfl (hb hby at_144) rfl k) ?_
              refine OE.v (fun t k => XS.iload X10.here hx rfl (hb hby at_146) rfl k) ?_
              refine OE.v (fun t k => XS.iloadN X10.here hx rfl (hb hby at_148) rfl k) ?_
              show OE _ _ _ _ (T10.setTop (mkF m 149 #[iv r1, iv r2, iv r3, iv fl, iv 1, iv 2, iv th, iv rvv, iv nn, rv b3, .unset, .unset, .unset, .unset, .unset, .unset, .unset] [(.int r3), (.int 1), (.int 2), (.ref b3)]))
              obtain ⟨cq84, kq84, q84a, q84b, q84c⟩ := isOf hZ e10 ((q8_0.keep Kq9).keep Kq10)
              obtain ⟨_, _, ⟨T84, L84, k84, n84⟩, -, X84, ⟨Lc84, hQ84, l84, y84, z84⟩, st84⟩ := X10.virtualBack hx (y := (⟨"com/example/stratal/stratal/logic/StratumGroups", "join", "(III)I"⟩ : MethodName)) (z := (⟨"com/example/stratal/stratal/logic/StratumGroups", "join", "(III)I"⟩ : MethodName)) hown (mvT hZ (hw _ (own_w 27 rfl))) (mvT hZ (hw _ (own_w 28 rfl))) (notFace_of_selects (args := #[]) (mvT hZ (hw _ (own_w 30 rfl)))) (mvT hZ (hw _ (own_w 30 rfl))) (mvT hZ (hw _ (own_w 29 rfl))) (by decide) (backOf (W := 0) (rmJ21_0022 l Z a0 hw [] b3 rp_4 ro_4 rs_4 rf_4 kp_4 ko_4 ks_4 kf_4 (0 : Int32) (((0 : Int32) + r1) - (0 : Int32)) (0 : Int32) (((0 : Int32) + r2) - (0 : Int32)) (own_max (0 : Int32) ((0 : Int32) - (((0 : Int32) + r1) - (0 : Int32)))) (0 : Int32) (own_max (0 : Int32) ((0 : Int32) - (((0 : Int32) + r2) - (0 : Int32)))) (0 : Int32) r3 h10 n0 Z10 ((q8_0.keep Kq9).keep Kq10) ((q8_1.keep Kq9 (ninS (Ne.symm q4_11) (ninS (Ne.symm q4_12) (ninS (Ne.symm q4_13) (ninS (Ne.symm q4_14) nin0))))).keep Kq10 (ninS (Ne.symm q4_11) (ninS (Ne.symm q4_12) (ninS (Ne.symm q4_13) (ninS (Ne.symm q4_14) nin0))))) ((q8_2.keep Kq9 (ninS (Ne.symm q4_11) (ninS (Ne.symm q4_12) (ninS (Ne.symm q4_13) (ninS (Ne.symm q4_14) nin0))))).keep Kq10 (ninS (Ne.symm q4_11) (ninS (Ne.symm q4_12) (ninS (Ne.symm q4_13) (ninS (Ne.symm q4_14) nin0))))) ((q8_3.keep Kq9 (ninS (Ne.symm q4_11) (ninS (Ne.symm q4_12) (ninS (Ne.symm q4_13) (ninS (Ne.symm q4_14) nin0))))).keep Kq10 (ninS (Ne.symm q4_11) (ninS (Ne.symm q4_12) (ninS (Ne.symm q4_13) (ninS (Ne.symm q4_14) nin0))))) ((q8_4.keep Kq9 (ninS (Ne.symm q4_11) (ninS (Ne.symm q4_12) (ninS (Ne.symm q4_13) (ninS (Ne.symm q4_14) nin0))))).keep Kq10 (ninS (Ne.symm q4_11) (ninS (Ne.symm q4_12) (ninS (Ne.symm q4_13) (ninS (Ne.symm q4_14) nin0))))) ((q8_10.keep Kq9 (ninS (Ne.symm q4_11) (ninS (Ne.symm q4_12) (ninS (Ne.symm q4_13) (ninS (Ne.symm q4_14) nin0))))).keep Kq10 (ninS (Ne.symm q4_11) (ninS (Ne.symm q4_12) (ninS (Ne.symm q4_13) (ninS (Ne.symm q4_14) nin0))))) q10_0 q10_1 q10_2 q10_3 q4_11 q4_12 q4_13 q4_14 q4_15 q4_16 q4_17 q4_18 q4_19 q4_20 q4_21 q4_22 q4_23 q4_24) hZ (hw _ (own_w 31 rfl)) (hw _ (own_w 2 rfl)) (by decide) (by decide)) q84a q84c (g := (mkF m 149 #[iv r1, iv r2, iv r3, iv fl, iv 1, iv 2, iv th, iv rvv, iv nn, rv b3, .unset, .unset, .unset, .unset, .unset, .unset, .unset] [(.int r3), (.int 1), (.int 2), (.ref b3)])) rfl (by rw [hml]; rfl) (Steps.refl _) (argsL := [(.int 2), (.int 1), (.int r3)]) (rest := []) (lenOf pd_5 rfl) rfl (Nat.le_of_eq rfl) (hb hby at_149) (fun _ _ => ⟨rfl, e10, (by decide : 6 + 0 ≤ _), (by decide : 121 + 0 ≤ _)⟩)
              dsimp only [Pt.U, Pt.locs, Pt.cells, Pt.slots] at X84 l84 y84 z84 st84 hQ84
              subst l84 y84 z84
              obtain ⟨h84, e84⟩ : ∃ z, T84.heap = z := ⟨_, rfl⟩
              rw [e84] at hQ84
              obtain ⟨rfl, Nq84, Kq84, q84_0, q84_1, q84_2, q84_3⟩ := hQ84
              have Z84 : n0 ≤ h84.size := Nat.le_trans Z10 Kq84.1
              have N84 := Fr.app N10 Nq84
              refine OE.v (fun t k => st84.trans k) ?_
              show OE _ _ _ _ (T84.setTop (mkF m 152 #[iv r1, iv r2, iv r3, iv fl, iv 1, iv 2, iv th, iv rvv, iv nn, rv b3, .unset, .unset, .unset, .unset, .unset, .unset, .unset] [(.int 1)]))
              refine OE.v (fun t k => XS.pop X84.here hx rfl (hb hby at_152) rfl rfl k) ?_
              refine OE.v (fun t k => XS.goto X84.here hx rfl (pc0 := 153) (pc' := 167) rfl (hb hby at_153) (by decide) (by decide) k) ?_
              refine OE.v (fun t k => XS.iload X84.here hx rfl (hb hby at_167) rfl k) ?_
              show OE _ _ _ _ (T84.setTop (mkF m 169 #[iv r1, iv r2, iv r3, iv fl, iv 1, iv 2, iv th, iv rvv, iv nn, rv b3, .unset, .unset, .unset, .unset, .unset, .unset, .unset] [(.int 1)]))
              refine OE.v (fun t k => XS.ifYes X84.here hx rfl (pc0 := 169) (pc' := 176) rfl (hb hby at_169) rfl ((if0 _ _).trans (feq (by decide)).2) (by decide) (by decide) k) ?_
              show OE _ _ _ _ (T84.setTop (mkF m 176 #[iv r1, iv r2, iv r3, iv fl, iv 1, iv 2, iv th, iv rvv, iv nn, rv b3, .unset, .unset, .unset, .unset, .unset, .unset, .unset] []))
              refine OE.v (fun t k => XS.iloadN X84.here hx rfl (hb hby at_176) rfl k) ?_
              refine OE.v (fun t k => XS.istore X84.here hx rfl (hb hby at_177) rfl (l' := #[iv r1, iv r2, iv r3, iv fl, iv 1, iv 2, iv th, iv rvv, iv nn, rv b3, .unset, iv r1, .unset, .unset, .unset, .unset, .unset]) rfl k) ?_
              refine OE.v (fun t k => XS.iload X84.here hx rfl (hb hby at_179) rfl k) ?_
              show OE _ _ _ _ (T84.setTop (mkF m 181 #[iv r1, iv r2, iv r3, iv fl, iv 1, iv 2, iv th, iv rvv, iv nn, rv b3, .unset, iv r1, .unset, .unset, .unset, .unset, .unset] [(.int rvv)]))
              refine OE.v (fun t k => XS.ifNo X84.here hx rfl (hb hby at_181) rfl ((if0 _ _).trans (feq hc139_17).1) k) ?_
              show OE _ _ _ _ (T84.setTop (mkF m 184 #[iv r1, iv r2, iv r3, iv fl, iv 1, iv 2, iv th, iv rvv, iv nn, rv b3, .unset, iv r1, .unset, .unset, .unset, .unset, .unset] []))
              refine OE.v (fun t k => XS.iload X84.here hx rfl (hb hby at_184) rfl k) ?_
              refine OE.v (fun t k => XS.iloadN X84.here hx rfl (hb hby at_186) rfl k) ?_
              refine OE.v (fun t k => XS.isub X84.here hx rfl (hb hby at_187) rfl k) ?_
              refine OE.v (fun t k => XS.goto X84.here hx rfl (pc0 := 188) (pc' := 195) rfl (hb hby at_188) (by decide) (by decide) k) ?_
              refine OE.v (fun t k => XS.istore X84.here hx rfl (hb hby at_195) rfl (l' := #[iv r1, iv r2, iv r3, iv fl, iv 1, iv 2, iv th, iv rvv, iv nn, rv b3, .unset, iv r1, iv (r1 - r3), .unset, .unset, .unset, .unset]) rfl k) ?_
              refine OE.v (fun t k => XS.iload X84.here hx rfl (hb hby at_197) rfl k) ?_
              show OE _ _ _ _ (T84.setTop (mkF m 199 #[iv r1, iv r2, iv r3, iv fl, iv 1, iv 2, iv th, iv rvv, iv nn, rv b3, .unset, iv r1, iv (r1 - r3), .unset, .unset, .unset, .unset] [(.int 2)]))
              refine OE.v (fun t k => XS.iconst X84.here hx rfl (hb hby at_199) k) ?_
              show OE _ _ _ _ (T84.setTop (mkF m 200 #[iv r1, iv r2, iv r3, iv fl, iv 1, iv 2, iv th, iv rvv, iv nn, rv b3, .unset, iv r1, iv (r1 - r3), .unset, .unset, .unset, .unset] [(.int 2), (.int 2)]))
              refine OE.v (fun t k => XS.icmpNo X84.here hx rfl (hb hby at_200) rfl (teq (by decide)).2 k) ?_
              show OE _ _ _ _ (T84.setTop (mkF m 203 #[iv r1, iv r2, iv r3, iv fl, iv 1, iv 2, iv th, iv rvv, iv nn, rv b3, .unset, iv r1, iv (r1 - r3), .unset, .unset, .unset, .unset] []))
              refine OE.v (fun t k => XS.iload X84.here hx rfl (hb hby at_203) rfl k) ?_
              refine OE.v (fun t k => XS.istore X84.here hx rfl (hb hby at_205) rfl (l' := #[iv r1, iv r2, iv r3, iv fl, iv 1, iv 2, iv th, iv rvv, iv nn, rv b3, .unset, iv r1, iv (r1 - r3), iv (r1 - r3), .unset, .unset, .unset]) rfl k) ?_
              refine OE.v (fun t k => XS.iload X84.here hx rfl (hb hby at_207) rfl k) ?_
              refine OE.v (fun t k => XS.iloadN X84.here hx rfl (hb hby at_209) rfl k) ?_
              refine OE.v (fun t k => XS.iadd X84.here hx rfl (hb hby at_210) rfl k) ?_
              refine OE.v (fun t k => XS.istore X84.here hx rfl (hb hby at_211) rfl (l' := #[iv r1, iv r2, iv r3, iv fl, iv 1, iv 2, iv th, iv rvv, iv nn, rv b3, .unset, iv r1, iv (r1 - r3), iv (r1 - r3), iv ((r1 - r3) + r2), .unset, .unset]) rfl k) ?_
              show OE _ _ _ _ (T84.setTop (mkF m 213 #[iv r1, iv r2, iv r3, iv fl, iv 1, iv 2, iv th, iv rvv, iv nn, rv b3, .unset, iv r1, iv (r1 - r3), iv (r1 - r3), iv ((r1 - r3) + r2), .unset, .unset] []))
              refine OE.v (fun t k => XS.goto X84.here hx rfl (pc0 := 213) (pc' := 226) rfl (hb hby at_213) (by decide) (by decide) k) ?_
              refine OE.v (fun t k => XS.iload X84.here hx rfl (hb hby at_226) rfl k) ?_
              show OE _ _ _ _ (T84.setTop (mkF m 228 #[iv r1, iv r2, iv r3, iv fl, iv 1, iv 2, iv th, iv rvv, iv nn, rv b3, .unset, iv r1, iv (r1 - r3), iv (r1 - r3), iv ((r1 - r3) + r2), .unset, .unset] [(.int rvv)]))
              refine OE.v (fun t k => XS.ifNo X84.here hx rfl (hb hby at_228) rfl ((if0 _ _).trans (feq hc139_17).1) k) ?_
              show OE _ _ _ _ (T84.setTop (mkF m 231 #[iv r1, iv r2, iv r3, iv fl, iv 1, iv 2, iv th, iv rvv, iv nn, rv b3, .unset, iv r1, iv (r1 - r3), iv (r1 - r3), iv ((r1 - r3) + r2), .unset, .unset] []))
              refine OE.v (fun t k => XS.iload X84.here hx rfl (hb hby at_231) rfl k) ?_
              refine OE.v (fun t k => XS.goto X84.here hx rfl (pc0 := 233) (pc' := 237) rfl (hb hby at_233) (by decide) (by decide) k) ?_
              refine OE.v (fun t k => XS.istore X84.here hx rfl (hb hby at_237) rfl (l' := #[iv r1, iv r2, iv r3, iv fl, iv 1, iv 2, iv th, iv rvv, iv nn, rv b3, .unset, iv r1, iv (r1 - r3), iv (r1 - r3), iv ((r1 - r3) + r2), iv (r1 - r3), .unset]) rfl k) ?_
              refine OE.v (fun t k => XS.iload X84.here hx rfl (hb hby at_239) rfl k) ?_
              show OE _ _ _ _ (T84.setTop (mkF m 241 #[iv r1, iv r2, iv r3, iv fl, iv 1, iv 2, iv th, iv rvv, iv nn, rv b3, .unset, iv r1, iv (r1 - r3), iv (r1 - r3), iv ((r1 - r3) + r2), iv (r1 - r3), .unset] [(.int nn)]))
              refine OE.cut (fun G => ∀ (T85 : State) (lc85 : List Loc) (X85 : Stand p l e room_1 s m #[(.int r1), (.int r2), (.int r3), (.int fl)] below meth c T85 lc85 6 121) (e85 : T85.heap = h84) (N85 : Fr n0 lc85) (sv : Int32) (hj85_0 : sv = if nn = (0 : Int32) then (0 : Int32) else if nn = (1 : Int32) then r1 else if nn = (2 : Int32) then (r1 - r3) else ((r1 - r3) + r2)), G (T85.setTop (mkF m 279 #[iv r1, iv r2, iv r3, iv fl, iv 1, iv 2, iv th, iv rvv, iv nn, rv b3, .unset, iv r1, iv (r1 - r3), iv (r1 - r3), iv ((r1 - r3) + r2), iv (r1 - r3), iv sv] []))) ?_ ?_
              · intro T85 lc85 X85 e85 N85 sv hj85_0
                show OE _ _ _ _ (T85.setTop (mkF m 279 #[iv r1, iv r2, iv r3, iv fl, iv 1, iv 2, iv th, iv rvv, iv nn, rv b3, .unset, iv r1, iv (r1 - r3), iv (r1 - r3), iv ((r1 - r3) + r2), iv (r1 - r3), iv sv] []))
                refine OE.v (fun t k => XS.iload X85.here hx rfl (hb hby at_279) rfl k) ?_
                refine OE.v (fun t k => XS.iload X85.here hx rfl (hb hby at_281) rfl k) ?_
                refine OE.v (fun t k => XS.isub X85.here hx rfl (hb hby at_283) rfl k) ?_
                refine OE.v (fun t k => XS.istore X85.here hx rfl (hb hby at_284) rfl (l' := #[iv r1, iv r2, iv r3, iv fl, iv 1, iv 2, iv th, iv rvv, iv nn, rv b3, iv (sv - (r1 - r3)), iv r1, iv (r1 - r3), iv (r1 - r3), iv ((r1 - r3) + r2), iv (r1 - r3), iv sv]) rfl k) ?_
                show OE _ _ _ _ (T85.setTop (mkF m 286 #[iv r1, iv r2, iv r3, iv fl, iv 1, iv 2, iv th, iv rvv, iv nn, rv b3, iv (sv - (r1 - r3)), iv r1, iv (r1 - r3), iv (r1 - r3), iv ((r1 - r3) + r2), iv (r1 - r3), iv sv] []))
                rcases c_nn with enn_86 | enn_86 | enn_86 | enn_86
                ·
                  rw [enn_86]
                  refine OE.v (fun t k => XS.aload X85.here hx rfl (hb hby at_286) rfl rfl k) ?_
                  refine OE.v (fun t k => XS.iload X85.here hx rfl (hb hby at_288) rfl k) ?_
                  show OE _ _ _ _ (T85.setTop (mkF m 290 #[iv r1, iv r2, iv r3, iv fl, iv 1, iv 2, iv th, iv rvv, iv 0, rv b3, iv (sv - (r1 - r3)), iv r1, iv (r1 - r3), iv (r1 - r3), iv ((r1 - r3) + r2), iv (r1 - r3), iv sv] [(.int 0), (.ref b3)]))
                  obtain ⟨cq87, kq87, q87a, q87b, q87c⟩ := isOf hZ e85 (((q8_0.keep Kq9).keep Kq10).keep Kq84)
                  obtain ⟨_, _, ⟨T87, L87, k87, n87⟩, -, X87, ⟨Lc87, hQ87, l87, y87, z87⟩, st87⟩ := X85.virtualBack hx (y := (⟨"com/example/stratal/stratal/logic/StratumGroups", "offset", "(I)I"⟩ : MethodName)) (z := (⟨"com/example/stratal/stratal/logic/StratumGroups", "offset", "(I)I"⟩ : MethodName)) hown (mvT hZ (hw _ (own_w 56 rfl))) (mvT hZ (hw _ (own_w 38 rfl))) (notFace_of_selects (args := #[]) (mvT hZ (hw _ (own_w 40 rfl)))) (mvT hZ (hw _ (own_w 40 rfl))) (mvT hZ (hw _ (own_w 39 rfl))) (by decide) (backOf (W := 0) (rmo0_2022 l Z a0 hw [] b3 rp_4 kp_4 ro_4 ko_4 (((0 : Int32) + r3) - ((0 : Int32) + (((0 : Int32) + r1) - (0 : Int32)))) (((0 : Int32) + r1) - (0 : Int32)) (0 : Int32) (((0 : Int32) + r2) - (0 : Int32)) h84 n0 Z84 (((q8_1.keep Kq9 (ninS (Ne.symm q4_11) (ninS (Ne.symm q4_12) (ninS (Ne.symm q4_13) (ninS (Ne.symm q4_14) nin0))))).keep Kq10 (ninS (Ne.symm q4_11) (ninS (Ne.symm q4_12) (ninS (Ne.symm q4_13) (ninS (Ne.symm q4_14) nin0))))).keep Kq84 (ninS (Ne.symm q4_11) (ninS (Ne.symm q4_12) (ninS (Ne.symm q4_13) (ninS (Ne.symm q4_14) nin0))))) q84_0 (((q8_2.keep Kq9 (ninS (Ne.symm q4_11) (ninS (Ne.symm q4_12) (ninS (Ne.symm q4_13) (ninS (Ne.symm q4_14) nin0))))).keep Kq10 (ninS (Ne.symm q4_11) (ninS (Ne.symm q4_12) (ninS (Ne.symm q4_13) (ninS (Ne.symm q4_14) nin0))))).keep Kq84 (ninS (Ne.symm q4_11) (ninS (Ne.symm q4_12) (ninS (Ne.symm q4_13) (ninS (Ne.symm q4_14) nin0))))) q84_1) hZ (hw _ (own_w 41 rfl)) (hw _ (own_w 2 rfl)) (by decide) (by decide)) q87a q87c (g := (mkF m 290 #[iv r1, iv r2, iv r3, iv fl, iv 1, iv 2, iv th, iv rvv, iv 0, rv b3, iv (sv - (r1 - r3)), iv r1, iv (r1 - r3), iv (r1 - r3), iv ((r1 - r3) + r2), iv (r1 - r3), iv sv] [(.int 0), (.ref b3)])) rfl (by rw [hml]; rfl) (Steps.refl _) (argsL := [(.int 0)]) (rest := []) (lenOf pd_4 rfl) rfl (Nat.le_of_eq rfl) (hb hby at_290) (fun _ _ => ⟨rfl, e85, (by decide : 6 + 0 ≤ _), (by decide : 121 + 0 ≤ _)⟩)
                  dsimp only [Pt.U, Pt.locs, Pt.cells, Pt.slots] at X87 l87 y87 z87 st87 hQ87
                  subst l87 y87 z87
                  obtain ⟨rfl, Nq87, e87⟩ := hQ87
                  have N87 := Fr.app N85 Nq87
                  refine OE.v (fun t k => st87.trans k) ?_
                  show OE _ _ _ _ (T87.setTop (mkF m 293 #[iv r1, iv r2, iv r3, iv fl, iv 1, iv 2, iv th, iv rvv, iv 0, rv b3, iv (sv - (r1 - r3)), iv r1, iv (r1 - r3), iv (r1 - r3), iv ((r1 - r3) + r2), iv (r1 - r3), iv sv] [(.int ((0 : Int32) + (((0 : Int32) + r3) - ((0 : Int32) + (((0 : Int32) + r1) - (0 : Int32))))))]))
                  refine OE.v (fun t k => XS.iload X87.here hx rfl (hb hby at_293) rfl k) ?_
                  show OE _ _ _ _ (T87.setTop (mkF m 295 #[iv r1, iv r2, iv r3, iv fl, iv 1, iv 2, iv th, iv rvv, iv 0, rv b3, iv (sv - (r1 - r3)), iv r1, iv (r1 - r3), iv (r1 - r3), iv ((r1 - r3) + r2), iv (r1 - r3), iv sv] [(.int (sv - (r1 - r3))), (.int ((0 : Int32) + (((0 : Int32) + r3) - ((0 : Int32) + (((0 : Int32) + r1) - (0 : Int32))))))]))
                  refine OE.v (fun t k => XS.icmpNo X87.here hx rfl (hb hby at_295) rfl (teq (by rw [hj85_0, enn_86, if_pos rfl]; grind)).2 k) ?_
                  show OE _ _ _ _ (T87.setTop (mkF m 298 #[iv r1, iv r2, iv r3, iv fl, iv 1, iv 2, iv th, iv rvv, iv 0, rv b3, iv (sv - (r1 - r3)), iv r1, iv (r1 - r3), iv (r1 - r3), iv ((r1 - r3) + r2), iv (r1 - r3), iv sv] []))
                  refine OE.v (fun t k => XS.iconst X87.here hx rfl (hb hby at_298) k) ?_
                  refine OE.v (fun t k => XS.goto X87.here hx rfl (pc0 := 299) (pc' := 303) rfl (hb hby at_299) (by decide) (by decide) k) ?_
                  show OE _ _ _ _ (T87.setTop (mkF m 303 #[iv r1, iv r2, iv r3, iv fl, iv 1, iv 2, iv th, iv rvv, iv 0, rv b3, iv (sv - (r1 - r3)), iv r1, iv (r1 - r3), iv (r1 - r3), iv ((r1 - r3) + r2), iv (r1 - r3), iv sv] [(.int 1)]))
                  obtain ⟨fs, hr, hrun, hended, hW, hsame⟩ := X87.leave (v := some (.int 1)) (fun h => by rw [Bd.returns] at h; cases h)
                  refine ⟨_, _, ?_, hrun, hended, _, _, rfl, ?_, ⟨_, rfl⟩, hW, hsame.mono (by decide) (by decide)⟩
                  · exact retN X87 hx (t := .boolean) Bd.returns (by simp) (hb hby at_303) hr
                  · show Q0 Z r1 r2 r3 fl h0 n0 _ T87.heap _
                    rw [e87]
                    exact ⟨rfl, N87⟩
                ·
                  rw [enn_86]
                  refine OE.v (fun t k => XS.aload X85.here hx rfl (hb hby at_286) rfl rfl k) ?_
                  refine OE.v (fun t k => XS.iload X85.here hx rfl (hb hby at_288) rfl k) ?_
                  show OE _ _ _ _ (T85.setTop (mkF m 290 #[iv r1, iv r2, iv r3, iv fl, iv 1, iv 2, iv th, iv rvv, iv 1, rv b3, iv (sv - (r1 - r3)), iv r1, iv (r1 - r3), iv (r1 - r3), iv ((r1 - r3) + r2), iv (r1 - r3), iv sv] [(.int 1), (.ref b3)]))
                  obtain ⟨cq88, kq88, q88a, q88b, q88c⟩ := isOf hZ e85 (((q8_0.keep Kq9).keep Kq10).keep Kq84)
                  obtain ⟨_, _, ⟨T88, L88, k88, n88⟩, -, X88, ⟨Lc88, hQ88, l88, y88, z88⟩, st88⟩ := X85.virtualBack hx (y := (⟨"com/example/stratal/stratal/logic/StratumGroups", "offset", "(I)I"⟩ : MethodName)) (z := (⟨"com/example/stratal/stratal/logic/StratumGroups", "offset", "(I)I"⟩ : MethodName)) hown (mvT hZ (hw _ (own_w 56 rfl))) (mvT hZ (hw _ (own_w 38 rfl))) (notFace_of_selects (args := #[]) (mvT hZ (hw _ (own_w 40 rfl)))) (mvT hZ (hw _ (own_w 40 rfl))) (mvT hZ (hw _ (own_w 39 rfl))) (by decide) (backOf (W := 0) (rmo1_2022 l Z a0 hw [] b3 rp_4 kp_4 ro_4 ko_4 (((0 : Int32) + r3) - ((0 : Int32) + (((0 : Int32) + r1) - (0 : Int32)))) (((0 : Int32) + r1) - (0 : Int32)) (0 : Int32) (((0 : Int32) + r2) - (0 : Int32)) h84 n0 Z84 (((q8_1.keep Kq9 (ninS (Ne.symm q4_11) (ninS (Ne.symm q4_12) (ninS (Ne.symm q4_13) (ninS (Ne.symm q4_14) nin0))))).keep Kq10 (ninS (Ne.symm q4_11) (ninS (Ne.symm q4_12) (ninS (Ne.symm q4_13) (ninS (Ne.symm q4_14) nin0))))).keep Kq84 (ninS (Ne.symm q4_11) (ninS (Ne.symm q4_12) (ninS (Ne.symm q4_13) (ninS (Ne.symm q4_14) nin0))))) q84_0 (((q8_2.keep Kq9 (ninS (Ne.symm q4_11) (ninS (Ne.symm q4_12) (ninS (Ne.symm q4_13) (ninS (Ne.symm q4_14) nin0))))).keep Kq10 (ninS (Ne.symm q4_11) (ninS (Ne.symm q4_12) (ninS (Ne.symm q4_13) (ninS (Ne.symm q4_14) nin0))))).keep Kq84 (ninS (Ne.symm q4_11) (ninS (Ne.symm q4_12) (ninS (Ne.symm q4_13) (ninS (Ne.symm q4_14) nin0))))) q84_1) hZ (hw _ (own_w 41 rfl)) (hw _ (own_w 2 rfl)) (by decide) (by decide)) q88a q88c (g := (mkF m 290 #[iv r1, iv r2, iv r3, iv fl, iv 1, iv 2, iv th, iv rvv, iv 1, rv b3, iv (sv - (r1 - r3)), iv r1, iv (r1 - r3), iv (r1 - r3), iv ((r1 - r3) + r2), iv (r1 - r3), iv sv] [(.int 1), (.ref b3)])) rfl (by rw [hml]; rfl) (Steps.refl _) (argsL := [(.int 1)]) (rest := []) (lenOf pd_4 rfl) rfl (Nat.le_of_eq rfl) (hb hby at_290) (fun _ _ => ⟨rfl, e85, (by decide : 6 + 0 ≤ _), (by decide : 121 + 0 ≤ _)⟩)
                  dsimp only [Pt.U, Pt.locs, Pt.cells, Pt.slots] at X88 l88 y88 z88 st88 hQ88
                  subst l88 y88 z88
                  obtain ⟨rfl, Nq88, e88⟩ := hQ88
                  have N88 := Fr.app N85 Nq88
                  refine OE.v (fun t k => st88.trans k) ?_
                  show OE _ _ _ _ (T88.setTop (mkF m 293 #[iv r1, iv r2, iv r3, iv fl, iv 1, iv 2, iv th, iv rvv, iv 1, rv b3, iv (sv - (r1 - r3)), iv r1, iv (r1 - r3), iv (r1 - r3), iv ((r1 - r3) + r2), iv (r1 - r3), iv sv] [(.int (((0 : Int32) + (((0 : Int32) + r1) - (0 : Int32))) + (((0 : Int32) + r3) - ((0 : Int32) + (((0 : Int32) + r1) - (0 : Int32))))))]))
                  refine OE.v (fun t k => XS.iload X88.here hx rfl (hb hby at_293) rfl k) ?_
                  show OE _ _ _ _ (T88.setTop (mkF m 295 #[iv r1, iv r2, iv r3, iv fl, iv 1, iv 2, iv th, iv rvv, iv 1, rv b3, iv (sv - (r1 - r3)), iv r1, iv (r1 - r3), iv (r1 - r3), iv ((r1 - r3) + r2), iv (r1 - r3), iv sv] [(.int (sv - (r1 - r3))), (.int (((0 : Int32) + (((0 : Int32) + r1) - (0 : Int32))) + (((0 : Int32) + r3) - ((0 : Int32) + (((0 : Int32) + r1) - (0 : Int32))))))]))
                  refine OE.v (fun t k => XS.icmpNo X88.here hx rfl (hb hby at_295) rfl (teq (by rw [hj85_0, enn_86, if_neg (by decide), if_pos rfl]; grind)).2 k) ?_
                  show OE _ _ _ _ (T88.setTop (mkF m 298 #[iv r1, iv r2, iv r3, iv fl, iv 1, iv 2, iv th, iv rvv, iv 1, rv b3, iv (sv - (r1 - r3)), iv r1, iv (r1 - r3), iv (r1 - r3), iv ((r1 - r3) + r2), iv (r1 - r3), iv sv] []))
                  refine OE.v (fun t k => XS.iconst X88.here hx rfl (hb hby at_298) k) ?_
                  refine OE.v (fun t k => XS.goto X88.here hx rfl (pc0 := 299) (pc' := 303) rfl (hb hby at_299) (by decide) (by decide) k) ?_
                  show OE _ _ _ _ (T88.setTop (mkF m 303 #[iv r1, iv r2, iv r3, iv fl, iv 1, iv 2, iv th, iv rvv, iv 1, rv b3, iv (sv - (r1 - r3)), iv r1, iv (r1 - r3), iv (r1 - r3), iv ((r1 - r3) + r2), iv (r1 - r3), iv sv] [(.int 1)]))
                  obtain ⟨fs, hr, hrun, hended, hW, hsame⟩ := X88.leave (v := some (.int 1)) (fun h => by rw [Bd.returns] at h; cases h)
                  refine ⟨_, _, ?_, hrun, hended, _, _, rfl, ?_, ⟨_, rfl⟩, hW, hsame.mono (by decide) (by decide)⟩
                  · exact retN X88 hx (t := .boolean) Bd.returns (by simp) (hb hby at_303) hr
                  · show Q0 Z r1 r2 r3 fl h0 n0 _ T88.heap _
                    rw [e88]
                    exact ⟨rfl, N88⟩
                ·
                  rw [enn_86]
                  refine OE.v (fun t k => XS.aload X85.here hx rfl (hb hby at_286) rfl rfl k) ?_
                  refine OE.v (fun t k => XS.iload X85.here hx rfl (hb hby at_288) rfl k) ?_
                  show OE _ _ _ _ (T85.setTop (mkF m 290 #[iv r1, iv r2, iv r3, iv fl, iv 1, iv 2, iv th, iv rvv, iv 2, rv b3, iv (sv - (r1 - r3)), iv r1, iv (r1 - r3), iv (r1 - r3), iv ((r1 - r3) + r2), iv (r1 - r3), iv sv] [(.int 2), (.ref b3)]))
                  obtain ⟨cq89, kq89, q89a, q89b, q89c⟩ := isOf hZ e85 (((q8_0.keep Kq9).keep Kq10).keep Kq84)
                  obtain ⟨_, _, ⟨T89, L89, k89, n89⟩, -, X89, ⟨Lc89, hQ89, l89, y89, z89⟩, st89⟩ := X85.virtualBack hx (y := (⟨"com/example/stratal/stratal/logic/StratumGroups", "offset", "(I)I"⟩ : MethodName)) (z := (⟨"com/example/stratal/stratal/logic/StratumGroups", "offset", "(I)I"⟩ : MethodName)) hown (mvT hZ (hw _ (own_w 56 rfl))) (mvT hZ (hw _ (own_w 38 rfl))) (notFace_of_selects (args := #[]) (mvT hZ (hw _ (own_w 40 rfl)))) (mvT hZ (hw _ (own_w 40 rfl))) (mvT hZ (hw _ (own_w 39 rfl))) (by decide) (backOf (W := 0) (rmo2_2022 l Z a0 hw [] b3 rp_4 kp_4 ro_4 ko_4 (((0 : Int32) + r3) - ((0 : Int32) + (((0 : Int32) + r1) - (0 : Int32)))) (((0 : Int32) + r1) - (0 : Int32)) (0 : Int32) (((0 : Int32) + r2) - (0 : Int32)) h84 n0 Z84 (((q8_1.keep Kq9 (ninS (Ne.symm q4_11) (ninS (Ne.symm q4_12) (ninS (Ne.symm q4_13) (ninS (Ne.symm q4_14) nin0))))).keep Kq10 (ninS (Ne.symm q4_11) (ninS (Ne.symm q4_12) (ninS (Ne.symm q4_13) (ninS (Ne.symm q4_14) nin0))))).keep Kq84 (ninS (Ne.symm q4_11) (ninS (Ne.symm q4_12) (ninS (Ne.symm q4_13) (ninS (Ne.symm q4_14) nin0))))) q84_0 (((q8_2.keep Kq9 (ninS (Ne.symm q4_11) (ninS (Ne.symm q4_12) (ninS (Ne.symm q4_13) (ninS (Ne.symm q4_14) nin0))))).keep Kq10 (ninS (Ne.symm q4_11) (ninS (Ne.symm q4_12) (ninS (Ne.symm q4_13) (ninS (Ne.symm q4_14) nin0))))).keep Kq84 (ninS (Ne.symm q4_11) (ninS (Ne.symm q4_12) (ninS (Ne.symm q4_13) (ninS (Ne.symm q4_14) nin0))))) q84_1) hZ (hw _ (own_w 41 rfl)) (hw _ (own_w 2 rfl)) (by decide) (by decide)) q89a q89c (g := (mkF m 290 #[iv r1, iv r2, iv r3, iv fl, iv 1, iv 2, iv th, iv rvv, iv 2, rv b3, iv (sv - (r1 - r3)), iv r1, iv (r1 - r3), iv (r1 - r3), iv ((r1 - r3) + r2), iv (r1 - r3), iv sv] [(.int 2), (.ref b3)])) rfl (by rw [hml]; rfl) (Steps.refl _) (argsL := [(.int 2)]) (rest := []) (lenOf pd_4 rfl) rfl (Nat.le_of_eq rfl) (hb hby at_290) (fun _ _ => ⟨rfl, e85, (by decide : 6 + 0 ≤ _), (by decide : 121 + 0 ≤ _)⟩)
                  dsimp only [Pt.U, Pt.locs, Pt.cells, Pt.slots] at X89 l89 y89 z89 st89 hQ89
                  subst l89 y89 z89
                  obtain ⟨rfl, Nq89, e89⟩ := hQ89
                  have N89 := Fr.app N85 Nq89
                  refine OE.v (fun t k => st89.trans k) ?_
                  show OE _ _ _ _ (T89.setTop (mkF m 293 #[iv r1, iv r2, iv r3, iv fl, iv 1, iv 2, iv th, iv rvv, iv 2, rv b3, iv (sv - (r1 - r3)), iv r1, iv (r1 - r3), iv (r1 - r3), iv ((r1 - r3) + r2), iv (r1 - r3), iv sv] [(.int 0)]))
                  refine OE.v (fun t k => XS.iload X89.here hx rfl (hb hby at_293) rfl k) ?_
                  show OE _ _ _ _ (T89.setTop (mkF m 295 #[iv r1, iv r2, iv r3, iv fl, iv 1, iv 2, iv th, iv rvv, iv 2, rv b3, iv (sv - (r1 - r3)), iv r1, iv (r1 - r3), iv (r1 - r3), iv ((r1 - r3) + r2), iv (r1 - r3), iv sv] [(.int (sv - (r1 - r3))), (.int 0)]))
                  refine OE.v (fun t k => XS.icmpNo X89.here hx rfl (hb hby at_295) rfl (teq (by rw [hj85_0, enn_86, if_neg (by decide), if_neg (by decide), if_pos rfl]; grind)).2 k) ?_
                  show OE _ _ _ _ (T89.setTop (mkF m 298 #[iv r1, iv r2, iv r3, iv fl, iv 1, iv 2, iv th, iv rvv, iv 2, rv b3, iv (sv - (r1 - r3)), iv r1, iv (r1 - r3), iv (r1 - r3), iv ((r1 - r3) + r2), iv (r1 - r3), iv sv] []))
                  refine OE.v (fun t k => XS.iconst X89.here hx rfl (hb hby at_298) k) ?_
                  refine OE.v (fun t k => XS.goto X89.here hx rfl (pc0 := 299) (pc' := 303) rfl (hb hby at_299) (by decide) (by decide) k) ?_
                  show OE _ _ _ _ (T89.setTop (mkF m 303 #[iv r1, iv r2, iv r3, iv fl, iv 1, iv 2, iv th, iv rvv, iv 2, rv b3, iv (sv - (r1 - r3)), iv r1, iv (r1 - r3), iv (r1 - r3), iv ((r1 - r3) + r2), iv (r1 - r3), iv sv] [(.int 1)]))
                  obtain ⟨fs, hr, hrun, hended, hW, hsame⟩ := X89.leave (v := some (.int 1)) (fun h => by rw [Bd.returns] at h; cases h)
                  refine ⟨_, _, ?_, hrun, hended, _, _, rfl, ?_, ⟨_, rfl⟩, hW, hsame.mono (by decide) (by decide)⟩
                  · exact retN X89 hx (t := .boolean) Bd.returns (by simp) (hb hby at_303) hr
                  · show Q0 Z r1 r2 r3 fl h0 n0 _ T89.heap _
                    rw [e89]
                    exact ⟨rfl, N89⟩
                ·
                  rw [enn_86]
                  refine OE.v (fun t k => XS.aload X85.here hx rfl (hb hby at_286) rfl rfl k) ?_
                  refine OE.v (fun t k => XS.iload X85.here hx rfl (hb hby at_288) rfl k) ?_
                  show OE _ _ _ _ (T85.setTop (mkF m 290 #[iv r1, iv r2, iv r3, iv fl, iv 1, iv 2, iv th, iv rvv, iv 3, rv b3, iv (sv - (r1 - r3)), iv r1, iv (r1 - r3), iv (r1 - r3), iv ((r1 - r3) + r2), iv (r1 - r3), iv sv] [(.int 3), (.ref b3)]))
                  obtain ⟨cq90, kq90, q90a, q90b, q90c⟩ := isOf hZ e85 (((q8_0.keep Kq9).keep Kq10).keep Kq84)
                  obtain ⟨_, _, ⟨T90, L90, k90, n90⟩, -, X90, ⟨Lc90, hQ90, l90, y90, z90⟩, st90⟩ := X85.virtualBack hx (y := (⟨"com/example/stratal/stratal/logic/StratumGroups", "offset", "(I)I"⟩ : MethodName)) (z := (⟨"com/example/stratal/stratal/logic/StratumGroups", "offset", "(I)I"⟩ : MethodName)) hown (mvT hZ (hw _ (own_w 56 rfl))) (mvT hZ (hw _ (own_w 38 rfl))) (notFace_of_selects (args := #[]) (mvT hZ (hw _ (own_w 40 rfl)))) (mvT hZ (hw _ (own_w 40 rfl))) (mvT hZ (hw _ (own_w 39 rfl))) (by decide) (backOf (W := 0) (rmo3_2022 l Z a0 hw [] b3 rp_4 kp_4 ro_4 ko_4 (((0 : Int32) + r3) - ((0 : Int32) + (((0 : Int32) + r1) - (0 : Int32)))) (((0 : Int32) + r1) - (0 : Int32)) (0 : Int32) (((0 : Int32) + r2) - (0 : Int32)) h84 n0 Z84 (((q8_1.keep Kq9 (ninS (Ne.symm q4_11) (ninS (Ne.symm q4_12) (ninS (Ne.symm q4_13) (ninS (Ne.symm q4_14) nin0))))).keep Kq10 (ninS (Ne.symm q4_11) (ninS (Ne.symm q4_12) (ninS (Ne.symm q4_13) (ninS (Ne.symm q4_14) nin0))))).keep Kq84 (ninS (Ne.symm q4_11) (ninS (Ne.symm q4_12) (ninS (Ne.symm q4_13) (ninS (Ne.symm q4_14) nin0))))) q84_0 (((q8_2.keep Kq9 (ninS (Ne.symm q4_11) (ninS (Ne.symm q4_12) (ninS (Ne.symm q4_13) (ninS (Ne.symm q4_14) nin0))))).keep Kq10 (ninS (Ne.symm q4_11) (ninS (Ne.symm q4_12) (ninS (Ne.symm q4_13) (ninS (Ne.symm q4_14) nin0))))).keep Kq84 (ninS (Ne.symm q4_11) (ninS (Ne.symm q4_12) (ninS (Ne.symm q4_13) (ninS (Ne.symm q4_14) nin0))))) q84_1) hZ (hw _ (own_w 41 rfl)) (hw _ (own_w 2 rfl)) (by decide) (by decide)) q90a q90c (g := (mkF m 290 #[iv r1, iv r2, iv r3, iv fl, iv 1, iv 2, iv th, iv rvv, iv 3, rv b3, iv (sv - (r1 - r3)), iv r1, iv (r1 - r3), iv (r1 - r3), iv ((r1 - r3) + r2), iv (r1 - r3), iv sv] [(.int 3), (.ref b3)])) rfl (by rw [hml]; rfl) (Steps.refl _) (argsL := [(.int 3)]) (rest := []) (lenOf pd_4 rfl) rfl (Nat.le_of_eq rfl) (hb hby at_290) (fun _ _ => ⟨rfl, e85, (by decide : 6 + 0 ≤ _), (by decide : 121 + 0 ≤ _)⟩)
                  dsimp only [Pt.U, Pt.locs, Pt.cells, Pt.slots] at X90 l90 y90 z90 st90 hQ90
                  subst l90 y90 z90
                  obtain ⟨rfl, Nq90, e90⟩ := hQ90
                  have N90 := Fr.app N85 Nq90
                  refine OE.v (fun t k => st90.trans k) ?_
                  show OE _ _ _ _ (T90.setTop (mkF m 293 #[iv r1, iv r2, iv r3, iv fl, iv 1, iv 2, iv th, iv rvv, iv 3, rv b3, iv (sv - (r1 - r3)), iv r1, iv (r1 - r3), iv (r1 - r3), iv ((r1 - r3) + r2), iv (r1 - r3), iv sv] [(.int ((0 : Int32) + (((0 : Int32) + r2) - (0 : Int32))))]))
                  refine OE.v (fun t k => XS.iload X90.here hx rfl (hb hby at_293) rfl k) ?_
                  show OE _ _ _ _ (T90.setTop (mkF m 295 #[iv r1, iv r2, iv r3, iv fl, iv 1, iv 2, iv th, iv rvv, iv 3, rv b3, iv (sv - (r1 - r3)), iv r1, iv (r1 - r3), iv (r1 - r3), iv ((r1 - r3) + r2), iv (r1 - r3), iv sv] [(.int (sv - (r1 - r3))), (.int ((0 : Int32) + (((0 : Int32) + r2) - (0 : Int32))))]))
                  refine OE.v (fun t k => XS.icmpNo X90.here hx rfl (hb hby at_295) rfl (teq (by rw [hj85_0, enn_86, if_neg (by decide), if_neg (by decide), if_neg (by decide)]; grind)).2 k) ?_
                  show OE _ _ _ _ (T90.setTop (mkF m 298 #[iv r1, iv r2, iv r3, iv fl, iv 1, iv 2, iv th, iv rvv, iv 3, rv b3, iv (sv - (r1 - r3)), iv r1, iv (r1 - r3), iv (r1 - r3), iv ((r1 - r3) + r2), iv (r1 - r3), iv sv] []))
                  refine OE.v (fun t k => XS.iconst X90.here hx rfl (hb hby at_298) k) ?_
                  refine OE.v (fun t k => XS.goto X90.here hx rfl (pc0 := 299) (pc' := 303) rfl (hb hby at_299) (by decide) (by decide) k) ?_
                  show OE _ _ _ _ (T90.setTop (mkF m 303 #[iv r1, iv r2, iv r3, iv fl, iv 1, iv 2, iv th, iv rvv, iv 3, rv b3, iv (sv - (r1 - r3)), iv r1, iv (r1 - r3), iv (r1 - r3), iv ((r1 - r3) + r2), iv (r1 - r3), iv sv] [(.int 1)]))
                  obtain ⟨fs, hr, hrun, hended, hW, hsame⟩ := X90.leave (v := some (.int 1)) (fun h => by rw [Bd.returns] at h; cases h)
                  refine ⟨_, _, ?_, hrun, hended, _, _, rfl, ?_, ⟨_, rfl⟩, hW, hsame.mono (by decide) (by decide)⟩
                  · exact retN X90 hx (t := .boolean) Bd.returns (by simp) (hb hby at_303) hr
                  · show Q0 Z r1 r2 r3 fl h0 n0 _ T90.heap _
                    rw [e90]
                    exact ⟨rfl, N90⟩
              intro J85
              by_cases hc241_91 : nn = (0 : Int32)
              ·
                refine OE.v (fun t k => XS.ifNo X84.here hx rfl (hb hby at_241) rfl ((if0 _ _).trans (teq hc241_91).2) k) ?_
                show OE _ _ _ _ (T84.setTop (mkF m 244 #[iv r1, iv r2, iv r3, iv fl, iv 1, iv 2, iv th, iv rvv, iv nn, rv b3, .unset, iv r1, iv (r1 - r3), iv (r1 - r3), iv ((r1 - r3) + r2), iv (r1 - r3), .unset] []))
                refine OE.v (fun t k => XS.iconst X84.here hx rfl (hb hby at_244) k) ?_
                refine OE.v (fun t k => XS.istore X84.here hx rfl (hb hby at_245) rfl (l' := #[iv r1, iv r2, iv r3, iv fl, iv 1, iv 2, iv th, iv rvv, iv nn, rv b3, .unset, iv r1, iv (r1 - r3), iv (r1 - r3), iv ((r1 - r3) + r2), iv (r1 - r3), iv 0]) rfl k) ?_
                refine OE.v (fun t k => XS.goto X84.here hx rfl (pc0 := 247) (pc' := 279) rfl (hb hby at_247) (by decide) (by decide) k) ?_
                exact J85 _ _ X84 e84 N84 (0 : Int32) (by rw [if_pos hc241_91])
              ·
                refine OE.v (fun t k => XS.ifYes X84.here hx rfl (pc0 := 241) (pc' := 250) rfl (hb hby at_241) rfl ((if0 _ _).trans (feq hc241_91).2) (by decide) (by decide) k) ?_
                show OE _ _ _ _ (T84.setTop (mkF m 250 #[iv r1, iv r2, iv r3, iv fl, iv 1, iv 2, iv th, iv rvv, iv nn, rv b3, .unset, iv r1, iv (r1 - r3), iv (r1 - r3), iv ((r1 - r3) + r2), iv (r1 - r3), .unset] []))
                refine OE.v (fun t k => XS.iload X84.here hx rfl (hb hby at_250) rfl k) ?_
                refine OE.v (fun t k => XS.iconst X84.here hx rfl (hb hby at_252) k) ?_
                show OE _ _ _ _ (T84.setTop (mkF m 253 #[iv r1, iv r2, iv r3, iv fl, iv 1, iv 2, iv th, iv rvv, iv nn, rv b3, .unset, iv r1, iv (r1 - r3), iv (r1 - r3), iv ((r1 - r3) + r2), iv (r1 - r3), .unset] [(.int 1), (.int nn)]))
                by_cases hc253_92 : nn = (1 : Int32)
                ·
                  refine OE.v (fun t k => XS.icmpNo X84.here hx rfl (hb hby at_253) rfl (teq hc253_92).2 k) ?_
                  show OE _ _ _ _ (T84.setTop (mkF m 256 #[iv r1, iv r2, iv r3, iv fl, iv 1, iv 2, iv th, iv rvv, iv nn, rv b3, .unset, iv r1, iv (r1 - r3), iv (r1 - r3), iv ((r1 - r3) + r2), iv (r1 - r3), .unset] []))
                  refine OE.v (fun t k => XS.iloadN X84.here hx rfl (hb hby at_256) rfl k) ?_
                  refine OE.v (fun t k => XS.istore X84.here hx rfl (hb hby at_257) rfl (l' := #[iv r1, iv r2, iv r3, iv fl, iv 1, iv 2, iv th, iv rvv, iv nn, rv b3, .unset, iv r1, iv (r1 - r3), iv (r1 - r3), iv ((r1 - r3) + r2), iv (r1 - r3), iv r1]) rfl k) ?_
                  refine OE.v (fun t k => XS.goto X84.here hx rfl (pc0 := 259) (pc' := 279) rfl (hb hby at_259) (by decide) (by decide) k) ?_
                  exact J85 _ _ X84 e84 N84 r1 (by rw [if_neg hc241_91, if_pos hc253_92])
                ·
                  refine OE.v (fun t k => XS.icmpYes X84.here hx rfl (pc0 := 253) (pc' := 262) rfl (hb hby at_253) rfl (feq hc253_92).2 (by decide) (by decide) k) ?_
                  show OE _ _ _ _ (T84.setTop (mkF m 262 #[iv r1, iv r2, iv r3, iv fl, iv 1, iv 2, iv th, iv rvv, iv nn, rv b3, .unset, iv r1, iv (r1 - r3), iv (r1 - r3), iv ((r1 - r3) + r2), iv (r1 - r3), .unset] []))
                  refine OE.v (fun t k => XS.iload X84.here hx rfl (hb hby at_262) rfl k) ?_
                  refine OE.v (fun t k => XS.iconst X84.here hx rfl (hb hby at_264) k) ?_
                  show OE _ _ _ _ (T84.setTop (mkF m 265 #[iv r1, iv r2, iv r3, iv fl, iv 1, iv 2, iv th, iv rvv, iv nn, rv b3, .unset, iv r1, iv (r1 - r3), iv (r1 - r3), iv ((r1 - r3) + r2), iv (r1 - r3), .unset] [(.int 2), (.int nn)]))
                  by_cases hc265_93 : nn = (2 : Int32)
                  ·
                    refine OE.v (fun t k => XS.icmpNo X84.here hx rfl (hb hby at_265) rfl (teq hc265_93).2 k) ?_
                    show OE _ _ _ _ (T84.setTop (mkF m 268 #[iv r1, iv r2, iv r3, iv fl, iv 1, iv 2, iv th, iv rvv, iv nn, rv b3, .unset, iv r1, iv (r1 - r3), iv (r1 - r3), iv ((r1 - r3) + r2), iv (r1 - r3), .unset] []))
                    refine OE.v (fun t k => XS.iload X84.here hx rfl (hb hby at_268) rfl k) ?_
                    refine OE.v (fun t k => XS.istore X84.here hx rfl (hb hby at_270) rfl (l' := #[iv r1, iv r2, iv r3, iv fl, iv 1, iv 2, iv th, iv rvv, iv nn, rv b3, .unset, iv r1, iv (r1 - r3), iv (r1 - r3), iv ((r1 - r3) + r2), iv (r1 - r3), iv (r1 - r3)]) rfl k) ?_
                    refine OE.v (fun t k => XS.goto X84.here hx rfl (pc0 := 272) (pc' := 279) rfl (hb hby at_272) (by decide) (by decide) k) ?_
                    exact J85 _ _ X84 e84 N84 (r1 - r3) (by rw [if_neg hc241_91, if_neg hc253_92, if_pos hc265_93])
                  ·
                    refine OE.v (fun t k => XS.icmpYes X84.here hx rfl (pc0 := 265) (pc' := 275) rfl (hb hby at_265) rfl (feq hc265_93).2 (by decide) (by decide) k) ?_
                    show OE _ _ _ _ (T84.setTop (mkF m 275 #[iv r1, iv r2, iv r3, iv fl, iv 1, iv 2, iv th, iv rvv, iv nn, rv b3, .unset, iv r1, iv (r1 - r3), iv (r1 - r3), iv ((r1 - r3) + r2), iv (r1 - r3), .unset] []))
                    refine OE.v (fun t k => XS.iload X84.here hx rfl (hb hby at_275) rfl k) ?_
                    refine OE.v (fun t k => XS.istore X84.here hx rfl (hb hby at_277) rfl (l' := #[iv r1, iv r2, iv r3, iv fl, iv 1, iv 2, iv th, iv rvv, iv nn, rv b3, .unset, iv r1, iv (r1 - r3), iv (r1 - r3), iv ((r1 - r3) + r2), iv (r1 - r3), iv ((r1 - r3) + r2)]) rfl k) ?_
                    exact J85 _ _ X84 e84 N84 ((r1 - r3) + r2) (by rw [if_neg hc241_91, if_neg hc253_92, if_neg hc265_93])
            ·
              rw [enb_83]
              show OE _ _ _ _ (T10.setTop (mkF m 142 #[iv r1, iv r2, iv r3, iv fl, iv 1, iv 3, iv th, iv rvv, iv nn, rv b3, .unset, .unset, .unset, .unset, .unset, .unset, .unset] []))
              refine OE.v (fun t k => XS.aload X10.here hx rfl (hb hby at_142) rfl rfl k) ?_
              refine OE.v (fun t k => XS.iload X10.here hx rfl (hb hby at_144) rfl k) ?_
              refine OE.v (fun t k => XS.iload X10.here hx rfl (hb hby at_146) rfl k) ?_
              refine OE.v (fun t k => XS.iloadN X10.here hx rfl (hb hby at_148) rfl k) ?_
              show OE _ _ _ _ (T10.setTop (mkF m 149 #[iv r1, iv r2, iv r3, iv fl, iv 1, iv 3, iv th, iv rvv, iv nn, rv b3, .unset, .unset, .unset, .unset, .unset, .unset, .unset] [(.int r3), (.int 1), (.int 3), (.ref b3)]))
              obtain ⟨cq94, kq94, q94a, q94b, q94c⟩ := isOf hZ e10 ((q8_0.keep Kq9).keep Kq10)
              obtain ⟨_, _, ⟨T94, L94, k94, n94⟩, -, X94, ⟨Lc94, hQ94, l94, y94, z94⟩, st94⟩ := X10.virtualBack hx (y := (⟨"com/example/stratal/stratal/logic/StratumGroups", "join", "(III)I"⟩ : MethodName)) (z := (⟨"com/example/stratal/stratal/logic/StratumGroups", "join", "(III)I"⟩ : MethodName)) hown (mvT hZ (hw _ (own_w 27 rfl))) (mvT hZ (hw _ (own_w 28 rfl))) (notFace_of_selects (args := #[]) (mvT hZ (hw _ (own_w 30 rfl)))) (mvT hZ (hw _ (own_w 30 rfl))) (mvT hZ (hw _ (own_w 29 rfl))) (by decide) (backOf (W := 0) (rmJ31_0022 l Z a0 hw [] b3 rp_4 ro_4 rs_4 rf_4 kp_4 ko_4 ks_4 kf_4 (0 : Int32) (((0 : Int32) + r1) - (0 : Int32)) (0 : Int32) (((0 : Int32) + r2) - (0 : Int32)) (own_max (0 : Int32) ((0 : Int32) - (((0 : Int32) + r1) - (0 : Int32)))) (0 : Int32) (own_max (0 : Int32) ((0 : Int32) - (((0 : Int32) + r2) - (0 : Int32)))) (0 : Int32) r3 h10 n0 Z10 ((q8_0.keep Kq9).keep Kq10) ((q8_1.keep Kq9 (ninS (Ne.symm q4_11) (ninS (Ne.symm q4_12) (ninS (Ne.symm q4_13) (ninS (Ne.symm q4_14) nin0))))).keep Kq10 (ninS (Ne.symm q4_11) (ninS (Ne.symm q4_12) (ninS (Ne.symm q4_13) (ninS (Ne.symm q4_14) nin0))))) ((q8_2.keep Kq9 (ninS (Ne.symm q4_11) (ninS (Ne.symm q4_12) (ninS (Ne.symm q4_13) (ninS (Ne.symm q4_14) nin0))))).keep Kq10 (ninS (Ne.symm q4_11) (ninS (Ne.symm q4_12) (ninS (Ne.symm q4_13) (ninS (Ne.symm q4_14) nin0))))) ((q8_3.keep Kq9 (ninS (Ne.symm q4_11) (ninS (Ne.symm q4_12) (ninS (Ne.symm q4_13) (ninS (Ne.symm q4_14) nin0))))).keep Kq10 (ninS (Ne.symm q4_11) (ninS (Ne.symm q4_12) (ninS (Ne.symm q4_13) (ninS (Ne.symm q4_14) nin0))))) ((q8_4.keep Kq9 (ninS (Ne.symm q4_11) (ninS (Ne.symm q4_12) (ninS (Ne.symm q4_13) (ninS (Ne.symm q4_14) nin0))))).keep Kq10 (ninS (Ne.symm q4_11) (ninS (Ne.symm q4_12) (ninS (Ne.symm q4_13) (ninS (Ne.symm q4_14) nin0))))) ((q8_10.keep Kq9 (ninS (Ne.symm q4_11) (ninS (Ne.symm q4_12) (ninS (Ne.symm q4_13) (ninS (Ne.symm q4_14) nin0))))).keep Kq10 (ninS (Ne.symm q4_11) (ninS (Ne.symm q4_12) (ninS (Ne.symm q4_13) (ninS (Ne.symm q4_14) nin0))))) q10_0 q10_1 q10_2 q10_3 q4_11 q4_12 q4_13 q4_14 q4_15 q4_16 q4_17 q4_18 q4_19 q4_20 q4_21 q4_22 q4_23 q4_24) hZ (hw _ (own_w 31 rfl)) (hw _ (own_w 2 rfl)) (by decide) (by decide)) q94a q94c (g := (mkF m 149 #[iv r1, iv r2, iv r3, iv fl, iv 1, iv 3, iv th, iv rvv, iv nn, rv b3, .unset, .unset, .unset, .unset, .unset, .unset, .unset] [(.int r3), (.int 1), (.int 3), (.ref b3)])) rfl (by rw [hml]; rfl) (Steps.refl _) (argsL := [(.int 3), (.int 1), (.int r3)]) (rest := []) (lenOf pd_5 rfl) rfl (Nat.le_of_eq rfl) (hb hby at_149) (fun _ _ => ⟨rfl, e10, (by decide : 6 + 0 ≤ _), (by decide : 121 + 0 ≤ _)⟩)
              dsimp only [Pt.U, Pt.locs, Pt.cells, Pt.slots] at X94 l94 y94 z94 st94 hQ94
              subst l94 y94 z94
              obtain ⟨h94, e94⟩ : ∃ z, T94.heap = z := ⟨_, rfl⟩
              rw [e94] at hQ94
              obtain ⟨rfl, Nq94, Kq94, q94_0, q94_1, q94_2, q94_3⟩ := hQ94
              have Z94 : n0 ≤ h94.size := Nat.le_trans Z10 Kq94.1
              have N94 := Fr.app N10 Nq94
              refine OE.v (fun t k => st94.trans k) ?_
              show OE _ _ _ _ (T94.setTop (mkF m 152 #[iv r1, iv r2, iv r3, iv fl, iv 1, iv 3, iv th, iv rvv, iv nn, rv b3, .unset, .unset, .unset, .unset, .unset, .unset, .unset] [(.int 1)]))
              refine OE.v (fun t k => XS.pop X94.here hx rfl (hb hby at_152) rfl rfl k) ?_
              refine OE.v (fun t k => XS.goto X94.here hx rfl (pc0 := 153) (pc' := 167) rfl (hb hby at_153) (by decide) (by decide) k) ?_
              refine OE.v (fun t k => XS.iload X94.here hx rfl (hb hby at_167) rfl k) ?_
              show OE _ _ _ _ (T94.setTop (mkF m 169 #[iv r1, iv r2, iv r3, iv fl, iv 1, iv 3, iv th, iv rvv, iv nn, rv b3, .unset, .unset, .unset, .unset, .unset, .unset, .unset] [(.int 1)]))
              refine OE.v (fun t k => XS.ifYes X94.here hx rfl (pc0 := 169) (pc' := 176) rfl (hb hby at_169) rfl ((if0 _ _).trans (feq (by decide)).2) (by decide) (by decide) k) ?_
              show OE _ _ _ _ (T94.setTop (mkF m 176 #[iv r1, iv r2, iv r3, iv fl, iv 1, iv 3, iv th, iv rvv, iv nn, rv b3, .unset, .unset, .unset, .unset, .unset, .unset, .unset] []))
              refine OE.v (fun t k => XS.iloadN X94.here hx rfl (hb hby at_176) rfl k) ?_
              refine OE.v (fun t k => XS.istore X94.here hx rfl (hb hby at_177) rfl (l' := #[iv r1, iv r2, iv r3, iv fl, iv 1, iv 3, iv th, iv rvv, iv nn, rv b3, .unset, iv r1, .unset, .unset, .unset, .unset, .unset]) rfl k) ?_
              refine OE.v (fun t k => XS.iload X94.here hx rfl (hb hby at_179) rfl k) ?_
              show OE _ _ _ _ (T94.setTop (mkF m 181 #[iv r1, iv r2, iv r3, iv fl, iv 1, iv 3, iv th, iv rvv, iv nn, rv b3, .unset, iv r1, .unset, .unset, .unset, .unset, .unset] [(.int rvv)]))
              refine OE.v (fun t k => XS.ifNo X94.here hx rfl (hb hby at_181) rfl ((if0 _ _).trans (feq hc139_17).1) k) ?_
              show OE _ _ _ _ (T94.setTop (mkF m 184 #[iv r1, iv r2, iv r3, iv fl, iv 1, iv 3, iv th, iv rvv, iv nn, rv b3, .unset, iv r1, .unset, .unset, .unset, .unset, .unset] []))
              refine OE.v (fun t k => XS.iload X94.here hx rfl (hb hby at_184) rfl k) ?_
              refine OE.v (fun t k => XS.iloadN X94.here hx rfl (hb hby at_186) rfl k) ?_
              refine OE.v (fun t k => XS.isub X94.here hx rfl (hb hby at_187) rfl k) ?_
              refine OE.v (fun t k => XS.goto X94.here hx rfl (pc0 := 188) (pc' := 195) rfl (hb hby at_188) (by decide) (by decide) k) ?_
              refine OE.v (fun t k => XS.istore X94.here hx rfl (hb hby at_195) rfl (l' := #[iv r1, iv r2, iv r3, iv fl, iv 1, iv 3, iv th, iv rvv, iv nn, rv b3, .unset, iv r1, iv (r1 - r3), .unset, .unset, .unset, .unset]) rfl k) ?_
              refine OE.v (fun t k => XS.iload X94.here hx rfl (hb hby at_197) rfl k) ?_
              show OE _ _ _ _ (T94.setTop (mkF m 199 #[iv r1, iv r2, iv r3, iv fl, iv 1, iv 3, iv th, iv rvv, iv nn, rv b3, .unset, iv r1, iv (r1 - r3), .unset, .unset, .unset, .unset] [(.int 3)]))
              refine OE.v (fun t k => XS.iconst X94.here hx rfl (hb hby at_199) k) ?_
              show OE _ _ _ _ (T94.setTop (mkF m 200 #[iv r1, iv r2, iv r3, iv fl, iv 1, iv 3, iv th, iv rvv, iv nn, rv b3, .unset, iv r1, iv (r1 - r3), .unset, .unset, .unset, .unset] [(.int 2), (.int 3)]))
              refine OE.v (fun t k => XS.icmpYes X94.here hx rfl (pc0 := 200) (pc' := 216) rfl (hb hby at_200) rfl (feq (by decide)).2 (by decide) (by decide) k) ?_
              show OE _ _ _ _ (T94.setTop (mkF m 216 #[iv r1, iv r2, iv r3, iv fl, iv 1, iv 3, iv th, iv rvv, iv nn, rv b3, .unset, iv r1, iv (r1 - r3), .unset, .unset, .unset, .unset] []))
              refine OE.v (fun t k => XS.iload X94.here hx rfl (hb hby at_216) rfl k) ?_
              refine OE.v (fun t k => XS.istore X94.here hx rfl (hb hby at_218) rfl (l' := #[iv r1, iv r2, iv r3, iv fl, iv 1, iv 3, iv th, iv rvv, iv nn, rv b3, .unset, iv r1, iv (r1 - r3), .unset, iv (r1 - r3), .unset, .unset]) rfl k) ?_
              refine OE.v (fun t k => XS.iload X94.here hx rfl (hb hby at_220) rfl k) ?_
              refine OE.v (fun t k => XS.iloadN X94.here hx rfl (hb hby at_222) rfl k) ?_
              refine OE.v (fun t k => XS.isub X94.here hx rfl (hb hby at_223) rfl k) ?_
              refine OE.v (fun t k => XS.istore X94.here hx rfl (hb hby at_224) rfl (l' := #[iv r1, iv r2, iv r3, iv fl, iv 1, iv 3, iv th, iv rvv, iv nn, rv b3, .unset, iv r1, iv (r1 - r3), iv ((r1 - r3) - r2), iv (r1 - r3), .unset, .unset]) rfl k) ?_
              show OE _ _ _ _ (T94.setTop (mkF m 226 #[iv r1, iv r2, iv r3, iv fl, iv 1, iv 3, iv th, iv rvv, iv nn, rv b3, .unset, iv r1, iv (r1 - r3), iv ((r1 - r3) - r2), iv (r1 - r3), .unset, .unset] []))
              refine OE.v (fun t k => XS.iload X94.here hx rfl (hb hby at_226) rfl k) ?_
              show OE _ _ _ _ (T94.setTop (mkF m 228 #[iv r1, iv r2, iv r3, iv fl, iv 1, iv 3, iv th, iv rvv, iv nn, rv b3, .unset, iv r1, iv (r1 - r3), iv ((r1 - r3) - r2), iv (r1 - r3), .unset, .unset] [(.int rvv)]))
              refine OE.v (fun t k => XS.ifNo X94.here hx rfl (hb hby at_228) rfl ((if0 _ _).trans (feq hc139_17).1) k) ?_
              show OE _ _ _ _ (T94.setTop (mkF m 231 #[iv r1, iv r2, iv r3, iv fl, iv 1, iv 3, iv th, iv rvv, iv nn, rv b3, .unset, iv r1, iv (r1 - r3), iv ((r1 - r3) - r2), iv (r1 - r3), .unset, .unset] []))
              refine OE.v (fun t k => XS.iload X94.here hx rfl (hb hby at_231) rfl k) ?_
              refine OE.v (fun t k => XS.goto X94.here hx rfl (pc0 := 233) (pc' := 237) rfl (hb hby at_233) (by decide) (by decide) k) ?_
              refine OE.v (fun t k => XS.istore X94.here hx rfl (hb hby at_237) rfl (l' := #[iv r1, iv r2, iv r3, iv fl, iv 1, iv 3, iv th, iv rvv, iv nn, rv b3, .unset, iv r1, iv (r1 - r3), iv ((r1 - r3) - r2), iv (r1 - r3), iv ((r1 - r3) - r2), .unset]) rfl k) ?_
              refine OE.v (fun t k => XS.iload X94.here hx rfl (hb hby at_239) rfl k) ?_
              show OE _ _ _ _ (T94.setTop (mkF m 241 #[iv r1, iv r2, iv r3, iv fl, iv 1, iv 3, iv th, iv rvv, iv nn, rv b3, .unset, iv r1, iv (r1 - r3), iv ((r1 - r3) - r2), iv (r1 - r3), iv ((r1 - r3) - r2), .unset] [(.int nn)]))
              refine OE.cut (fun G => ∀ (T95 : State) (lc95 : List Loc) (X95 : Stand p l e room_1 s m #[(.int r1), (.int r2), (.int r3), (.int fl)] below meth c T95 lc95 6 121) (e95 : T95.heap = h94) (N95 : Fr n0 lc95) (sv : Int32) (hj95_0 : sv = if nn = (0 : Int32) then (0 : Int32) else if nn = (1 : Int32) then r1 else if nn = (2 : Int32) then ((r1 - r3) - r2) else (r1 - r3)), G (T95.setTop (mkF m 279 #[iv r1, iv r2, iv r3, iv fl, iv 1, iv 3, iv th, iv rvv, iv nn, rv b3, .unset, iv r1, iv (r1 - r3), iv ((r1 - r3) - r2), iv (r1 - r3), iv ((r1 - r3) - r2), iv sv] []))) ?_ ?_
              · intro T95 lc95 X95 e95 N95 sv hj95_0
                show OE _ _ _ _ (T95.setTop (mkF m 279 #[iv r1, iv r2, iv r3, iv fl, iv 1, iv 3, iv th, iv rvv, iv nn, rv b3, .unset, iv r1, iv (r1 - r3), iv ((r1 - r3) - r2), iv (r1 - r3), iv ((r1 - r3) - r2), iv sv] []))
                refine OE.v (fun t k => XS.iload X95.here hx rfl (hb hby at_279) rfl k) ?_
                refine OE.v (fun t k => XS.iload X95.here hx rfl (hb hby at_281) rfl k) ?_
                refine OE.v (fun t k => XS.isub X95.here hx rfl (hb hby at_283) rfl k) ?_
                refine OE.v (fun t k => XS.istore X95.here hx rfl (hb hby at_284) rfl (l' := #[iv r1, iv r2, iv r3, iv fl, iv 1, iv 3, iv th, iv rvv, iv nn, rv b3, iv (sv - ((r1 - r3) - r2)), iv r1, iv (r1 - r3), iv ((r1 - r3) - r2), iv (r1 - r3), iv ((r1 - r3) - r2), iv sv]) rfl k) ?_
                show OE _ _ _ _ (T95.setTop (mkF m 286 #[iv r1, iv r2, iv r3, iv fl, iv 1, iv 3, iv th, iv rvv, iv nn, rv b3, iv (sv - ((r1 - r3) - r2)), iv r1, iv (r1 - r3), iv ((r1 - r3) - r2), iv (r1 - r3), iv ((r1 - r3) - r2), iv sv] []))
                rcases c_nn with enn_96 | enn_96 | enn_96 | enn_96
                ·
                  rw [enn_96]
                  refine OE.v (fun t k => XS.aload X95.here hx rfl (hb hby at_286) rfl rfl k) ?_
                  refine OE.v (fun t k => XS.iload X95.here hx rfl (hb hby at_288) rfl k) ?_
                  show OE _ _ _ _ (T95.setTop (mkF m 290 #[iv r1, iv r2, iv r3, iv fl, iv 1, iv 3, iv th, iv rvv, iv 0, rv b3, iv (sv - ((r1 - r3) - r2)), iv r1, iv (r1 - r3), iv ((r1 - r3) - r2), iv (r1 - r3), iv ((r1 - r3) - r2), iv sv] [(.int 0), (.ref b3)]))
                  obtain ⟨cq97, kq97, q97a, q97b, q97c⟩ := isOf hZ e95 (((q8_0.keep Kq9).keep Kq10).keep Kq94)
                  obtain ⟨_, _, ⟨T97, L97, k97, n97⟩, -, X97, ⟨Lc97, hQ97, l97, y97, z97⟩, st97⟩ := X95.virtualBack hx (y := (⟨"com/example/stratal/stratal/logic/StratumGroups", "offset", "(I)I"⟩ : MethodName)) (z := (⟨"com/example/stratal/stratal/logic/StratumGroups", "offset", "(I)I"⟩ : MethodName)) hown (mvT hZ (hw _ (own_w 56 rfl))) (mvT hZ (hw _ (own_w 38 rfl))) (notFace_of_selects (args := #[]) (mvT hZ (hw _ (own_w 40 rfl)))) (mvT hZ (hw _ (own_w 40 rfl))) (mvT hZ (hw _ (own_w 39 rfl))) (by decide) (backOf (W := 0) (rmo0_2022 l Z a0 hw [] b3 rp_4 kp_4 ro_4 ko_4 ((((0 : Int32) + (((0 : Int32) + r2) - (0 : Int32))) + r3) - ((0 : Int32) + (((0 : Int32) + r1) - (0 : Int32)))) (((0 : Int32) + r1) - (0 : Int32)) (0 : Int32) (((0 : Int32) + r2) - (0 : Int32)) h94 n0 Z94 (((q8_1.keep Kq9 (ninS (Ne.symm q4_11) (ninS (Ne.symm q4_12) (ninS (Ne.symm q4_13) (ninS (Ne.symm q4_14) nin0))))).keep Kq10 (ninS (Ne.symm q4_11) (ninS (Ne.symm q4_12) (ninS (Ne.symm q4_13) (ninS (Ne.symm q4_14) nin0))))).keep Kq94 (ninS (Ne.symm q4_11) (ninS (Ne.symm q4_12) (ninS (Ne.symm q4_13) (ninS (Ne.symm q4_14) nin0))))) q94_0 (((q8_2.keep Kq9 (ninS (Ne.symm q4_11) (ninS (Ne.symm q4_12) (ninS (Ne.symm q4_13) (ninS (Ne.symm q4_14) nin0))))).keep Kq10 (ninS (Ne.symm q4_11) (ninS (Ne.symm q4_12) (ninS (Ne.symm q4_13) (ninS (Ne.symm q4_14) nin0))))).keep Kq94 (ninS (Ne.symm q4_11) (ninS (Ne.symm q4_12) (ninS (Ne.symm q4_13) (ninS (Ne.symm q4_14) nin0))))) q94_1) hZ (hw _ (own_w 41 rfl)) (hw _ (own_w 2 rfl)) (by decide) (by decide)) q97a q97c (g := (mkF m 290 #[iv r1, iv r2, iv r3, iv fl, iv 1, iv 3, iv th, iv rvv, iv 0, rv b3, iv (sv - ((r1 - r3) - r2)), iv r1, iv (r1 - r3), iv ((r1 - r3) - r2), iv (r1 - r3), iv ((r1 - r3) - r2), iv sv] [(.int 0), (.ref b3)])) rfl (by rw [hml]; rfl) (Steps.refl _) (argsL := [(.int 0)]) (rest := []) (lenOf pd_4 rfl) rfl (Nat.le_of_eq rfl) (hb hby at_290) (fun _ _ => ⟨rfl, e95, (by decide : 6 + 0 ≤ _), (by decide : 121 + 0 ≤ _)⟩)
                  dsimp only [Pt.U, Pt.locs, Pt.cells, Pt.slots] at X97 l97 y97 z97 st97 hQ97
                  subst l97 y97 z97
                  obtain ⟨rfl, Nq97, e97⟩ := hQ97
                  have N97 := Fr.app N95 Nq97
                  refine OE.v (fun t k => st97.trans k) ?_
                  show OE _ _ _ _ (T97.setTop (mkF m 293 #[iv r1, iv r2, iv r3, iv fl, iv 1, iv 3, iv th, iv rvv, iv 0, rv b3, iv (sv - ((r1 - r3) - r2)), iv r1, iv (r1 - r3), iv ((r1 - r3) - r2), iv (r1 - r3), iv ((r1 - r3) - r2), iv sv] [(.int ((0 : Int32) + ((((0 : Int32) + (((0 : Int32) + r2) - (0 : Int32))) + r3) - ((0 : Int32) + (((0 : Int32) + r1) - (0 : Int32))))))]))
                  refine OE.v (fun t k => XS.iload X97.here hx rfl (hb hby at_293) rfl k) ?_
                  show OE _ _ _ _ (T97.setTop (mkF m 295 #[iv r1, iv r2, iv r3, iv fl, iv 1, iv 3, iv th, iv rvv, iv 0, rv b3, iv (sv - ((r1 - r3) - r2)), iv r1, iv (r1 - r3), iv ((r1 - r3) - r2), iv (r1 - r3), iv ((r1 - r3) - r2), iv sv] [(.int (sv - ((r1 - r3) - r2))), (.int ((0 : Int32) + ((((0 : Int32) + (((0 : Int32) + r2) - (0 : Int32))) + r3) - ((0 : Int32) + (((0 : Int32) + r1) - (0 : Int32))))))]))
                  refine OE.v (fun t k => XS.icmpNo X97.here hx rfl (hb hby at_295) rfl (teq (by rw [hj95_0, enn_96, if_pos rfl]; grind)).2 k) ?_
                  show OE _ _ _ _ (T97.setTop (mkF m 298 #[iv r1, iv r2, iv r3, iv fl, iv 1, iv 3, iv th, iv rvv, iv 0, rv b3, iv (sv - ((r1 - r3) - r2)), iv r1, iv (r1 - r3), iv ((r1 - r3) - r2), iv (r1 - r3), iv ((r1 - r3) - r2), iv sv] []))
                  refine OE.v (fun t k => XS.iconst X97.here hx rfl (hb hby at_298) k) ?_
                  refine OE.v (fun t k => XS.goto X97.here hx rfl (pc0 := 299) (pc' := 303) rfl (hb hby at_299) (by decide) (by decide) k) ?_
                  show OE _ _ _ _ (T97.setTop (mkF m 303 #[iv r1, iv r2, iv r3, iv fl, iv 1, iv 3, iv th, iv rvv, iv 0, rv b3, iv (sv - ((r1 - r3) - r2)), iv r1, iv (r1 - r3), iv ((r1 - r3) - r2), iv (r1 - r3), iv ((r1 - r3) - r2), iv sv] [(.int 1)]))
                  obtain ⟨fs, hr, hrun, hended, hW, hsame⟩ := X97.leave (v := some (.int 1)) (fun h => by rw [Bd.returns] at h; cases h)
                  refine ⟨_, _, ?_, hrun, hended, _, _, rfl, ?_, ⟨_, rfl⟩, hW, hsame.mono (by decide) (by decide)⟩
                  · exact retN X97 hx (t := .boolean) Bd.returns (by simp) (hb hby at_303) hr
                  · show Q0 Z r1 r2 r3 fl h0 n0 _ T97.heap _
                    rw [e97]
                    exact ⟨rfl, N97⟩
                ·
                  rw [enn_96]
                  refine OE.v (fun t k => XS.aload X95.here hx rfl (hb hby at_286) rfl rfl k) ?_
                  refine OE.v (fun t k => XS.iload X95.here hx rfl (hb hby at_288) rfl k) ?_
                  show OE _ _ _ _ (T95.setTop (mkF m 290 #[iv r1, iv r2, iv r3, iv fl, iv 1, iv 3, iv th, iv rvv, iv 1, rv b3, iv (sv - ((r1 - r3) - r2)), iv r1, iv (r1 - r3), iv ((r1 - r3) - r2), iv (r1 - r3), iv ((r1 - r3) - r2), iv sv] [(.int 1), (.ref b3)]))
                  obtain ⟨cq98, kq98, q98a, q98b, q98c⟩ := isOf hZ e95 (((q8_0.keep Kq9).keep Kq10).keep Kq94)
                  obtain ⟨_, _, ⟨T98, L98, k98, n98⟩, -, X98, ⟨Lc98, hQ98, l98, y98, z98⟩, st98⟩ := X95.virtualBack hx (y := (⟨"com/example/stratal/stratal/logic/StratumGroups", "offset", "(I)I"⟩ : MethodName)) (z := (⟨"com/example/stratal/stratal/logic/StratumGroups", "offset", "(I)I"⟩ : MethodName)) hown (mvT hZ (hw _ (own_w 56 rfl))) (mvT hZ (hw _ (own_w 38 rfl))) (notFace_of_selects (args := #[]) (mvT hZ (hw _ (own_w 40 rfl)))) (mvT hZ (hw _ (own_w 40 rfl))) (mvT hZ (hw _ (own_w 39 rfl))) (by decide) (backOf (W := 0) (rmo1_2022 l Z a0 hw [] b3 rp_4 kp_4 ro_4 ko_4 ((((0 : Int32) + (((0 : Int32) + r2) - (0 : Int32))) + r3) - ((0 : Int32) + (((0 : Int32) + r1) - (0 : Int32)))) (((0 : Int32) + r1) - (0 : Int32)) (0 : Int32) (((0 : Int32) + r2) - (0 : Int32)) h94 n0 Z94 (((q8_1.keep Kq9 (ninS (Ne.symm q4_11) (ninS (Ne.symm q4_12) (ninS (Ne.symm q4_13) (ninS (Ne.symm q4_14) nin0))))).keep Kq10 (ninS (Ne.symm q4_11) (ninS (Ne.symm q4_12) (ninS (Ne.symm q4_13) (ninS (Ne.symm q4_14) nin0))))).keep Kq94 (ninS (Ne.symm q4_11) (ninS (Ne.symm q4_12) (ninS (Ne.symm q4_13) (ninS (Ne.symm q4_14) nin0))))) q94_0 (((q8_2.keep Kq9 (ninS (Ne.symm q4_11) (ninS (Ne.symm q4_12) (ninS (Ne.symm q4_13) (ninS (Ne.symm q4_14) nin0))))).keep Kq10 (ninS (Ne.symm q4_11) (ninS (Ne.symm q4_12) (ninS (Ne.symm q4_13) (ninS (Ne.symm q4_14) nin0))))).keep Kq94 (ninS (Ne.symm q4_11) (ninS (Ne.symm q4_12) (ninS (Ne.symm q4_13) (ninS (Ne.symm q4_14) nin0))))) q94_1) hZ (hw _ (own_w 41 rfl)) (hw _ (own_w 2 rfl)) (by decide) (by decide)) q98a q98c (g := (mkF m 290 #[iv r1, iv r2, iv r3, iv fl, iv 1, iv 3, iv th, iv rvv, iv 1, rv b3, iv (sv - ((r1 - r3) - r2)), iv r1, iv (r1 - r3), iv ((r1 - r3) - r2), iv (r1 - r3), iv ((r1 - r3) - r2), iv sv] [(.int 1), (.ref b3)])) rfl (by rw [hml]; rfl) (Steps.refl _) (argsL := [(.int 1)]) (rest := []) (lenOf pd_4 rfl) rfl (Nat.le_of_eq rfl) (hb hby at_290) (fun _ _ => ⟨rfl, e95, (by decide : 6 + 0 ≤ _), (by decide : 121 + 0 ≤ _)⟩)
                  dsimp only [Pt.U, Pt.locs, Pt.cells, Pt.slots] at X98 l98 y98 z98 st98 hQ98
                  subst l98 y98 z98
                  obtain ⟨rfl, Nq98, e98⟩ := hQ98
                  have N98 := Fr.app N95 Nq98
                  refine OE.v (fun t k => st98.trans k) ?_
                  show OE _ _ _ _ (T98.setTop (mkF m 293 #[iv r1, iv r2, iv r3, iv fl, iv 1, iv 3, iv th, iv rvv, iv 1, rv b3, iv (sv - ((r1 - r3) - r2)), iv r1, iv (r1 - r3), iv ((r1 - r3) - r2), iv (r1 - r3), iv ((r1 - r3) - r2), iv sv] [(.int (((0 : Int32) + (((0 : Int32) + r1) - (0 : Int32))) + ((((0 : Int32) + (((0 : Int32) + r2) - (0 : Int32))) + r3) - ((0 : Int32) + (((0 : Int32) + r1) - (0 : Int32))))))]))
                  refine OE.v (fun t k => XS.iload X98.here hx rfl (hb hby at_293) rfl k) ?_
                  show OE _ _ _ _ (T98.setTop (mkF m 295 #[iv r1, iv r2, iv r3, iv fl, iv 1, iv 3, iv th, iv rvv, iv 1, rv b3, iv (sv - ((r1 - r3) - r2)), iv r1, iv (r1 - r3), iv ((r1 - r3) - r2), iv (r1 - r3), iv ((r1 - r3) - r2), iv sv] [(.int (sv - ((r1 - r3) - r2))), (.int (((0 : Int32) + (((0 : Int32) + r1) - (0 : Int32))) + ((((0 : Int32) + (((0 : Int32) + r2) - (0 : Int32))) + r3) - ((0 : Int32) + (((0 : Int32) + r1) - (0 : Int32))))))]))
                  refine OE.v (fun t k => XS.icmpNo X98.here hx rfl (hb hby at_295) rfl (teq (by rw [hj95_0, enn_96, if_neg (by decide), if_pos rfl]; grind)).2 k) ?_
                  show OE _ _ _ _ (T98.setTop (mkF m 298 #[iv r1, iv r2, iv r3, iv fl, iv 1, iv 3, iv th, iv rvv, iv 1, rv b3, iv (sv - ((r1 - r3) - r2)), iv r1, iv (r1 - r3), iv ((r1 - r3) - r2), iv (r1 - r3), iv ((r1 - r3) - r2), iv sv] []))
                  refine OE.v (fun t k => XS.iconst X98.here hx rfl (hb hby at_298) k) ?_
                  refine OE.v (fun t k => XS.goto X98.here hx rfl (pc0 := 299) (pc' := 303) rfl (hb hby at_299) (by decide) (by decide) k) ?_
                  show OE _ _ _ _ (T98.setTop (mkF m 303 #[iv r1, iv r2, iv r3, iv fl, iv 1, iv 3, iv th, iv rvv, iv 1, rv b3, iv (sv - ((r1 - r3) - r2)), iv r1, iv (r1 - r3), iv ((r1 - r3) - r2), iv (r1 - r3), iv ((r1 - r3) - r2), iv sv] [(.int 1)]))
                  obtain ⟨fs, hr, hrun, hended, hW, hsame⟩ := X98.leave (v := some (.int 1)) (fun h => by rw [Bd.returns] at h; cases h)
                  refine ⟨_, _, ?_, hrun, hended, _, _, rfl, ?_, ⟨_, rfl⟩, hW, hsame.mono (by decide) (by decide)⟩
                  · exact retN X98 hx (t := .boolean) Bd.returns (by simp) (hb hby at_303) hr
                  · show Q0 Z r1 r2 r3 fl h0 n0 _ T98.heap _
                    rw [e98]
                    exact ⟨rfl, N98⟩
                ·
                  rw [enn_96]
                  refine OE.v (fun t k => XS.aload X95.here hx rfl (hb hby at_286) rfl rfl k) ?_
                  refine OE.v (fun t k => XS.iload X95.here hx rfl (hb hby at_288) rfl k) ?_
                  show OE _ _ _ _ (T95.setTop (mkF m 290 #[iv r1, iv r2, iv r3, iv fl, iv 1, iv 3, iv th, iv rvv, iv 2, rv b3, iv (sv - ((r1 - r3) - r2)), iv r1, iv (r1 - r3), iv ((r1 - r3) - r2), iv (r1 - r3), iv ((r1 - r3) - r2), iv sv] [(.int 2), (.ref b3)]))
                  obtain ⟨cq99, kq99, q99a, q99b, q99c⟩ := isOf hZ e95 (((q8_0.keep Kq9).keep Kq10).keep Kq94)
                  obtain ⟨_, _, ⟨T99, L99, k99, n99⟩, -, X99, ⟨Lc99, hQ99, l99, y99, z99⟩, st99⟩ := X95.virtualBack hx (y := (⟨"com/example/stratal/stratal/logic/StratumGroups", "offset", "(I)I"⟩ : MethodName)) (z := (⟨"com/example/stratal/stratal/logic/StratumGroups", "offset", "(I)I"⟩ : MethodName)) hown (mvT hZ (hw _ (own_w 56 rfl))) (mvT hZ (hw _ (own_w 38 rfl))) (notFace_of_selects (args := #[]) (mvT hZ (hw _ (own_w 40 rfl)))) (mvT hZ (hw _ (own_w 40 rfl))) (mvT hZ (hw _ (own_w 39 rfl))) (by decide) (backOf (W := 0) (rmo2_2022 l Z a0 hw [] b3 rp_4 kp_4 ro_4 ko_4 ((((0 : Int32) + (((0 : Int32) + r2) - (0 : Int32))) + r3) - ((0 : Int32) + (((0 : Int32) + r1) - (0 : Int32)))) (((0 : Int32) + r1) - (0 : Int32)) (0 : Int32) (((0 : Int32) + r2) - (0 : Int32)) h94 n0 Z94 (((q8_1.keep Kq9 (ninS (Ne.symm q4_11) (ninS (Ne.symm q4_12) (ninS (Ne.symm q4_13) (ninS (Ne.symm q4_14) nin0))))).keep Kq10 (ninS (Ne.symm q4_11) (ninS (Ne.symm q4_12) (ninS (Ne.symm q4_13) (ninS (Ne.symm q4_14) nin0))))).keep Kq94 (ninS (Ne.symm q4_11) (ninS (Ne.symm q4_12) (ninS (Ne.symm q4_13) (ninS (Ne.symm q4_14) nin0))))) q94_0 (((q8_2.keep Kq9 (ninS (Ne.symm q4_11) (ninS (Ne.symm q4_12) (ninS (Ne.symm q4_13) (ninS (Ne.symm q4_14) nin0))))).keep Kq10 (ninS (Ne.symm q4_11) (ninS (Ne.symm q4_12) (ninS (Ne.symm q4_13) (ninS (Ne.symm q4_14) nin0))))).keep Kq94 (ninS (Ne.symm q4_11) (ninS (Ne.symm q4_12) (ninS (Ne.symm q4_13) (ninS (Ne.symm q4_14) nin0))))) q94_1) hZ (hw _ (own_w 41 rfl)) (hw _ (own_w 2 rfl)) (by decide) (by decide)) q99a q99c (g := (mkF m 290 #[iv r1, iv r2, iv r3, iv fl, iv 1, iv 3, iv th, iv rvv, iv 2, rv b3, iv (sv - ((r1 - r3) - r2)), iv r1, iv (r1 - r3), iv ((r1 - r3) - r2), iv (r1 - r3), iv ((r1 - r3) - r2), iv sv] [(.int 2), (.ref b3)])) rfl (by rw [hml]; rfl) (Steps.refl _) (argsL := [(.int 2)]) (rest := []) (lenOf pd_4 rfl) rfl (Nat.le_of_eq rfl) (hb hby at_290) (fun _ _ => ⟨rfl, e95, (by decide : 6 + 0 ≤ _), (by decide : 121 + 0 ≤ _)⟩)
                  dsimp only [Pt.U, Pt.locs, Pt.cells, Pt.slots] at X99 l99 y99 z99 st99 hQ99
                  subst l99 y99 z99
                  obtain ⟨rfl, Nq99, e99⟩ := hQ99
                  have N99 := Fr.app N95 Nq99
                  refine OE.v (fun t k => st99.trans k) ?_
                  show OE _ _ _ _ (T99.setTop (mkF m 293 #[iv r1, iv r2, iv r3, iv fl, iv 1, iv 3, iv th, iv rvv, iv 2, rv b3, iv (sv - ((r1 - r3) - r2)), iv r1, iv (r1 - r3), iv ((r1 - r3) - r2), iv (r1 - r3), iv ((r1 - r3) - r2), iv sv] [(.int 0)]))
                  refine OE.v (fun t k => XS.iload X99.here hx rfl (hb hby at_293) rfl k) ?_
                  show OE _ _ _ _ (T99.setTop (mkF m 295 #[iv r1, iv r2, iv r3, iv fl, iv 1, iv 3, iv th, iv rvv, iv 2, rv b3, iv (sv - ((r1 - r3) - r2)), iv r1, iv (r1 - r3), iv ((r1 - r3) - r2), iv (r1 - r3), iv ((r1 - r3) - r2), iv sv] [(.int (sv - ((r1 - r3) - r2))), (.int 0)]))
                  refine OE.v (fun t k => XS.icmpNo X99.here hx rfl (hb hby at_295) rfl (teq (by rw [hj95_0, enn_96, if_neg (by decide), if_neg (by decide), if_pos rfl]; grind)).2 k) ?_
                  show OE _ _ _ _ (T99.setTop (mkF m 298 #[iv r1, iv r2, iv r3, iv fl, iv 1, iv 3, iv th, iv rvv, iv 2, rv b3, iv (sv - ((r1 - r3) - r2)), iv r1, iv (r1 - r3), iv ((r1 - r3) - r2), iv (r1 - r3), iv ((r1 - r3) - r2), iv sv] []))
                  refine OE.v (fun t k => XS.iconst X99.here hx rfl (hb hby at_298) k) ?_
                  refine OE.v (fun t k => XS.goto X99.here hx rfl (pc0 := 299) (pc' := 303) rfl (hb hby at_299) (by decide) (by decide) k) ?_
                  show OE _ _ _ _ (T99.setTop (mkF m 303 #[iv r1, iv r2, iv r3, iv fl, iv 1, iv 3, iv th, iv rvv, iv 2, rv b3, iv (sv - ((r1 - r3) - r2)), iv r1, iv (r1 - r3), iv ((r1 - r3) - r2), iv (r1 - r3), iv ((r1 - r3) - r2), iv sv] [(.int 1)]))
                  obtain ⟨fs, hr, hrun, hended, hW, hsame⟩ := X99.leave (v := some (.int 1)) (fun h => by rw [Bd.returns] at h; cases h)
                  refine ⟨_, _, ?_, hrun, hended, _, _, rfl, ?_, ⟨_, rfl⟩, hW, hsame.mono (by decide) (by decide)⟩
                  · exact retN X99 hx (t := .boolean) Bd.returns (by simp) (hb hby at_303) hr
                  · show Q0 Z r1 r2 r3 fl h0 n0 _ T99.heap _
                    rw [e99]
                    exact ⟨rfl, N99⟩
                ·
                  rw [enn_96]
                  refine OE.v (fun t k => XS.aload X95.here hx rfl (hb hby at_286) rfl rfl k) ?_
                  refine OE.v (fun t k => XS.iload X95.here hx rfl (hb hby at_288) rfl k) ?_
                  show OE _ _ _ _ (T95.setTop (mkF m 290 #[iv r1, iv r2, iv r3, iv fl, iv 1, iv 3, iv th, iv rvv, iv 3, rv b3, iv (sv - ((r1 - r3) - r2)), iv r1, iv (r1 - r3), iv ((r1 - r3) - r2), iv (r1 - r3), iv ((r1 - r3) - r2), iv sv] [(.int 3), (.ref b3)]))
                  obtain ⟨cq100, kq100, q100a, q100b, q100c⟩ := isOf hZ e95 (((q8_0.keep Kq9).keep Kq10).keep Kq94)
                  obtain ⟨_, _, ⟨T100, L100, k100, n100⟩, -, X100, ⟨Lc100, hQ100, l100, y100, z100⟩, st100⟩ := X95.virtualBack hx (y := (⟨"com/example/stratal/stratal/logic/StratumGroups", "offset", "(I)I"⟩ : MethodName)) (z := (⟨"com/example/stratal/stratal/logic/StratumGroups", "offset", "(I)I"⟩ : MethodName)) hown (mvT hZ (hw _ (own_w 56 rfl))) (mvT hZ (hw _ (own_w 38 rfl))) (notFace_of_selects (args := #[]) (mvT hZ (hw _ (own_w 40 rfl)))) (mvT hZ (hw _ (own_w 40 rfl))) (mvT hZ (hw _ (own_w 39 rfl))) (by decide) (backOf (W := 0) (rmo3_2022 l Z a0 hw [] b3 rp_4 kp_4 ro_4 ko_4 ((((0 : Int32) + (((0 : Int32) + r2) - (0 : Int32))) + r3) - ((0 : Int32) + (((0 : Int32) + r1) - (0 : Int32)))) (((0 : Int32) + r1) - (0 : Int32)) (0 : Int32) (((0 : Int32) + r2) - (0 : Int32)) h94 n0 Z94 (((q8_1.keep Kq9 (ninS (Ne.symm q4_11) (ninS (Ne.symm q4_12) (ninS (Ne.symm q4_13) (ninS (Ne.symm q4_14) nin0))))).keep Kq10 (ninS (Ne.symm q4_11) (ninS (Ne.symm q4_12) (ninS (Ne.symm q4_13) (ninS (Ne.symm q4_14) nin0))))).keep Kq94 (ninS (Ne.symm q4_11) (ninS (Ne.symm q4_12) (ninS (Ne.symm q4_13) (ninS (Ne.symm q4_14) nin0))))) q94_0 (((q8_2.keep Kq9 (ninS (Ne.symm q4_11) (ninS (Ne.symm q4_12) (ninS (Ne.symm q4_13) (ninS (Ne.symm q4_14) nin0))))).keep Kq10 (ninS (Ne.symm q4_11) (ninS (Ne.symm q4_12) (ninS (Ne.symm q4_13) (ninS (Ne.symm q4_14) nin0))))).keep Kq94 (ninS (Ne.symm q4_11) (ninS (Ne.symm q4_12) (ninS (Ne.symm q4_13) (ninS (Ne.symm q4_14) nin0))))) q94_1) hZ (hw _ (own_w 41 rfl)) (hw _ (own_w 2 rfl)) (by decide) (by decide)) q100a q100c (g := (mkF m 290 #[iv r1, iv r2, iv r3, iv fl, iv 1, iv 3, iv th, iv rvv, iv 3, rv b3, iv (sv - ((r1 - r3) - r2)), iv r1, iv (r1 - r3), iv ((r1 - r3) - r2), iv (r1 - r3), iv ((r1 - r3) - r2), iv sv] [(.int 3), (.ref b3)])) rfl (by rw [hml]; rfl) (Steps.refl _) (argsL := [(.int 3)]) (rest := []) (lenOf pd_4 rfl) rfl (Nat.le_of_eq rfl) (hb hby at_290) (fun _ _ => ⟨rfl, e95, (by decide : 6 + 0 ≤ _), (by decide : 121 + 0 ≤ _)⟩)
                  dsimp only [Pt.U, Pt.locs, Pt.cells, Pt.slots] at X100 l100 y100 z100 st100 hQ100
                  subst l100 y100 z100
                  obtain ⟨rfl, Nq100, e100⟩ := hQ100
                  have N100 := Fr.app N95 Nq100
                  refine OE.v (fun t k => st100.trans k) ?_
                  show OE _ _ _ _ (T100.setTop (mkF m 293 #[iv r1, iv r2, iv r3, iv fl, iv 1, iv 3, iv th, iv rvv, iv 3, rv b3, iv (sv - ((r1 - r3) - r2)), iv r1, iv (r1 - r3), iv ((r1 - r3) - r2), iv (r1 - r3), iv ((r1 - r3) - r2), iv sv] [(.int ((0 : Int32) + (((0 : Int32) + r2) - (0 : Int32))))]))
                  refine OE.v (fun t k => XS.iload X100.here hx rfl (hb hby at_293) rfl k) ?_
                  show OE _ _ _ _ (T100.setTop (mkF m 295 #[iv r1, iv r2, iv r3, iv fl, iv 1, iv 3, iv th, iv rvv, iv 3, rv b3, iv (sv - ((r1 - r3) - r2)), iv r1, iv (r1 - r3), iv ((r1 - r3) - r2), iv (r1 - r3), iv ((r1 - r3) - r2), iv sv] [(.int (sv - ((r1 - r3) - r2))), (.int ((0 : Int32) + (((0 : Int32) + r2) - (0 : Int32))))]))
                  refine OE.v (fun t k => XS.icmpNo X100.here hx rfl (hb hby at_295) rfl (teq (by rw [hj95_0, enn_96, if_neg (by decide), if_neg (by decide), if_neg (by decide)]; grind)).2 k) ?_
                  show OE _ _ _ _ (T100.setTop (mkF m 298 #[iv r1, iv r2, iv r3, iv fl, iv 1, iv 3, iv th, iv rvv, iv 3, rv b3, iv (sv - ((r1 - r3) - r2)), iv r1, iv (r1 - r3), iv ((r1 - r3) - r2), iv (r1 - r3), iv ((r1 - r3) - r2), iv sv] []))
                  refine OE.v (fun t k => XS.iconst X100.here hx rfl (hb hby at_298) k) ?_
                  refine OE.v (fun t k => XS.goto X100.here hx rfl (pc0 := 299) (pc' := 303) rfl (hb hby at_299) (by decide) (by decide) k) ?_
                  show OE _ _ _ _ (T100.setTop (mkF m 303 #[iv r1, iv r2, iv r3, iv fl, iv 1, iv 3, iv th, iv rvv, iv 3, rv b3, iv (sv - ((r1 - r3) - r2)), iv r1, iv (r1 - r3), iv ((r1 - r3) - r2), iv (r1 - r3), iv ((r1 - r3) - r2), iv sv] [(.int 1)]))
                  obtain ⟨fs, hr, hrun, hended, hW, hsame⟩ := X100.leave (v := some (.int 1)) (fun h => by rw [Bd.returns] at h; cases h)
                  refine ⟨_, _, ?_, hrun, hended, _, _, rfl, ?_, ⟨_, rfl⟩, hW, hsame.mono (by decide) (by decide)⟩
                  · exact retN X100 hx (t := .boolean) Bd.returns (by simp) (hb hby at_303) hr
                  · show Q0 Z r1 r2 r3 fl h0 n0 _ T100.heap _
                    rw [e100]
                    exact ⟨rfl, N100⟩
              intro J95
              by_cases hc241_101 : nn = (0 : Int32)
              ·
                refine OE.v (fun t k => XS.ifNo X94.here hx rfl (hb hby at_241) rfl ((if0 _ _).trans (teq hc241_101).2) k) ?_
                show OE _ _ _ _ (T94.setTop (mkF m 244 #[iv r1, iv r2, iv r3, iv fl, iv 1, iv 3, iv th, iv rvv, iv nn, rv b3, .unset, iv r1, iv (r1 - r3), iv ((r1 - r3) - r2), iv (r1 - r3), iv ((r1 - r3) - r2), .unset] []))
                refine OE.v (fun t k => XS.iconst X94.here hx rfl (hb hby at_244) k) ?_
                refine OE.v (fun t k => XS.istore X94.here hx rfl (hb hby at_245) rfl (l' := #[iv r1, iv r2, iv r3, iv fl, iv 1, iv 3, iv th, iv rvv, iv nn, rv b3, .unset, iv r1, iv (r1 - r3), iv ((r1 - r3) - r2), iv (r1 - r3), iv ((r1 - r3) - r2), iv 0]) rfl k) ?_
                refine OE.v (fun t k => XS.goto X94.here hx rfl (pc0 := 247) (pc' := 279) rfl (hb hby at_247) (by decide) (by decide) k) ?_
                exact J95 _ _ X94 e94 N94 (0 : Int32) (by rw [if_pos hc241_101])
              ·
                refine OE.v (fun t k => XS.ifYes X94.here hx rfl (pc0 := 241) (pc' := 250) rfl (hb hby at_241) rfl ((if0 _ _).trans (feq hc241_101).2) (by decide) (by decide) k) ?_
                show OE _ _ _ _ (T94.setTop (mkF m 250 #[iv r1, iv r2, iv r3, iv fl, iv 1, iv 3, iv th, iv rvv, iv nn, rv b3, .unset, iv r1, iv (r1 - r3), iv ((r1 - r3) - r2), iv (r1 - r3), iv ((r1 - r3) - r2), .unset] []))
                refine OE.v (fun t k => XS.iload X94.here hx rfl (hb hby at_250) rfl k) ?_
                refine OE.v (fun t k => XS.iconst X94.here hx rfl (hb hby at_252) k) ?_
                show OE _ _ _ _ (T94.setTop (mkF m 253 #[iv r1, iv r2, iv r3, iv fl, iv 1, iv 3, iv th, iv rvv, iv nn, rv b3, .unset, iv r1, iv (r1 - r3), iv ((r1 - r3) - r2), iv (r1 - r3), iv ((r1 - r3) - r2), .unset] [(.int 1), (.int nn)]))
                by_cases hc253_102 : nn = (1 : Int32)
                ·
                  refine OE.v (fun t k => XS.icmpNo X94.here hx rfl (hb hby at_253) rfl (teq hc253_102).2 k) ?_
                  show OE _ _ _ _ (T94.setTop (mkF m 256 #[iv r1, iv r2, iv r3, iv fl, iv 1, iv 3, iv th, iv rvv, iv nn, rv b3, .unset, iv r1, iv (r1 - r3), iv ((r1 - r3) - r2), iv (r1 - r3), iv ((r1 - r3) - r2), .unset] []))
                  refine OE.v (fun t k => XS.iloadN X94.here hx rfl (hb hby at_256) rfl k) ?_
                  refine OE.v (fun t k => XS.istore X94.here hx rfl (hb hby at_257) rfl (l' := #[iv r1, iv r2, iv r3, iv fl, iv 1, iv 3, iv th, iv rvv, iv nn, rv b3, .unset, iv r1, iv (r1 - r3), iv ((r1 - r3) - r2), iv (r1 - r3), iv ((r1 - r3) - r2), iv r1]) rfl k) ?_
                  refine OE.v (fun t k => XS.goto X94.here hx rfl (pc0 := 259) (pc' := 279) rfl (hb hby at_259) (by decide) (by decide) k) ?_
                  exact J95 _ _ X94 e94 N94 r1 (by rw [if_neg hc241_101, if_pos hc253_102])
                ·
                  refine OE.v (fun t k => XS.icmpYes X94.here hx rfl (pc0 := 253) (pc' := 262) rfl (hb hby at_253) rfl (feq hc253_102).2 (by decide) (by decide) k) ?_
                  show OE _ _ _ _ (T94.setTop (mkF m 262 #[iv r1, iv r2, iv r3, iv fl, iv 1, iv 3, iv th, iv rvv, iv nn, rv b3, .unset, iv r1, iv (r1 - r3), iv ((r1 - r3) - r2), iv (r1 - r3), iv ((r1 - r3) - r2), .unset] []))
                  refine OE.v (fun t k => XS.iload X94.here hx rfl (hb hby at_262) rfl k) ?_
                  refine OE.v (fun t k => XS.iconst X94.here hx rfl (hb hby at_264) k) ?_
                  show OE _ _ _ _ (T94.setTop (mkF m 265 #[iv r1, iv r2, iv r3, iv fl, iv 1, iv 3, iv th, iv rvv, iv nn, rv b3, .unset, iv r1, iv (r1 - r3), iv ((r1 - r3) - r2), iv (r1 - r3), iv ((r1 - r3) - r2), .unset] [(.int 2), (.int nn)]))
                  by_cases hc265_103 : nn = (2 : Int32)
                  ·
                    refine OE.v (fun t k => XS.icmpNo X94.here hx rfl (hb hby at_265) rfl (teq hc265_103).2 k) ?_
                    show OE _ _ _ _ (T94.setTop (mkF m 268 #[iv r1, iv r2, iv r3, iv fl, iv 1, iv 3, iv th, iv rvv, iv nn, rv b3, .unset, iv r1, iv (r1 - r3), iv ((r1 - r3) - r2), iv (r1 - r3), iv ((r1 - r3) - r2), .unset] []))
                    refine OE.v (fun t k => XS.iload X94.here hx rfl (hb hby at_268) rfl k) ?_
                    refine OE.v (fun t k => XS.istore X94.here hx rfl (hb hby at_270) rfl (l' := #[iv r1, iv r2, iv r3, iv fl, iv 1, iv 3, iv th, iv rvv, iv nn, rv b3, .unset, iv r1, iv (r1 - r3), iv ((r1 - r3) - r2), iv (r1 - r3), iv ((r1 - r3) - r2), iv ((r1 - r3) - r2)]) rfl k) ?_
                    refine OE.v (fun t k => XS.goto X94.here hx rfl (pc0 := 272) (pc' := 279) rfl (hb hby at_272) (by decide) (by decide) k) ?_
                    exact J95 _ _ X94 e94 N94 ((r1 - r3) - r2) (by rw [if_neg hc241_101, if_neg hc253_102, if_pos hc265_103])
                  ·
                    refine OE.v (fun t k => XS.icmpYes X94.here hx rfl (pc0 := 265) (pc' := 275) rfl (hb hby at_265) rfl (feq hc265_103).2 (by decide) (by decide) k) ?_
                    show OE _ _ _ _ (T94.setTop (mkF m 275 #[iv r1, iv r2, iv r3, iv fl, iv 1, iv 3, iv th, iv rvv, iv nn, rv b3, .unset, iv r1, iv (r1 - r3), iv ((r1 - r3) - r2), iv (r1 - r3), iv ((r1 - r3) - r2), .unset] []))
                    refine OE.v (fun t k => XS.iload X94.here hx rfl (hb hby at_275) rfl k) ?_
                    refine OE.v (fun t k => XS.istore X94.here hx rfl (hb hby at_277) rfl (l' := #[iv r1, iv r2, iv r3, iv fl, iv 1, iv 3, iv th, iv rvv, iv nn, rv b3, .unset, iv r1, iv (r1 - r3), iv ((r1 - r3) - r2), iv (r1 - r3), iv ((r1 - r3) - r2), iv (r1 - r3)]) rfl k) ?_
                    exact J95 _ _ X94 e94 N94 (r1 - r3) (by rw [if_neg hc241_101, if_neg hc253_102, if_neg hc265_103])
    intro J2
    by_cases hc34_104 : (((fl.toUInt32 >>> ((3 : Int32) &&& 31).toUInt32).toInt32) &&& (1 : Int32)) = (0 : Int32)
    ·
      refine OE.v (fun t k => XS.ifYes X1.here hx rfl (pc0 := 34) (pc' := 41) rfl (hb hby at_34) rfl ((if0 _ _).trans (teq hc34_104).1) (by decide) (by decide) k) ?_
      show OE _ _ _ _ (T1.setTop (mkF m 41 #[iv r1, iv r2, iv r3, iv fl, iv (fl &&& (1 : Int32)), iv ((2 : Int32) + (((fl.toUInt32 >>> ((1 : Int32) &&& 31).toUInt32).toInt32) &&& (1 : Int32))), iv th, .unset, .unset, .unset, .unset, .unset, .unset, .unset, .unset, .unset, .unset] []))
      refine OE.v (fun t k => XS.iconst X1.here hx rfl (hb hby at_41) k) ?_
      exact J2 _ _ X1 e1 N1 (0 : Int32)
    ·
      refine OE.v (fun t k => XS.ifNo X1.here hx rfl (hb hby at_34) rfl ((if0 _ _).trans (feq hc34_104).1) k) ?_
      show OE _ _ _ _ (T1.setTop (mkF m 37 #[iv r1, iv r2, iv r3, iv fl, iv (fl &&& (1 : Int32)), iv ((2 : Int32) + (((fl.toUInt32 >>> ((1 : Int32) &&& 31).toUInt32).toInt32) &&& (1 : Int32))), iv th, .unset, .unset, .unset, .unset, .unset, .unset, .unset, .unset, .unset, .unset] []))
      refine OE.v (fun t k => XS.iconst X1.here hx rfl (hb hby at_37) k) ?_
      refine OE.v (fun t k => XS.goto X1.here hx rfl (pc0 := 38) (pc' := 42) rfl (hb hby at_38) (by decide) (by decide) k) ?_
      exact J2 _ _ X1 e1 N1 (1 : Int32)
  intro J1
  by_cases hc19_105 : (((fl.toUInt32 >>> ((2 : Int32) &&& 31).toUInt32).toInt32) &&& (1 : Int32)) = (0 : Int32)
  ·
    refine OE.v (fun t k => XS.ifYes X0.here hx rfl (pc0 := 19) (pc' := 26) rfl (hb hby at_19) rfl ((if0 _ _).trans (teq hc19_105).1) (by decide) (by decide) k) ?_
    show OE _ _ _ _ (s₁.setTop (mkF m 26 #[iv r1, iv r2, iv r3, iv fl, iv (fl &&& (1 : Int32)), iv ((2 : Int32) + (((fl.toUInt32 >>> ((1 : Int32) &&& 31).toUInt32).toInt32) &&& (1 : Int32))), .unset, .unset, .unset, .unset, .unset, .unset, .unset, .unset, .unset, .unset, .unset] []))
    refine OE.v (fun t k => XS.iconst X0.here hx rfl (hb hby at_26) k) ?_
    exact J1 _ _ X0 e0 N0 (0 : Int32)
  ·
    refine OE.v (fun t k => XS.ifNo X0.here hx rfl (hb hby at_19) rfl ((if0 _ _).trans (feq hc19_105).1) k) ?_
    show OE _ _ _ _ (s₁.setTop (mkF m 22 #[iv r1, iv r2, iv r3, iv fl, iv (fl &&& (1 : Int32)), iv ((2 : Int32) + (((fl.toUInt32 >>> ((1 : Int32) &&& 31).toUInt32).toInt32) &&& (1 : Int32))), .unset, .unset, .unset, .unset, .unset, .unset, .unset, .unset, .unset, .unset, .unset] []))
    refine OE.v (fun t k => XS.iconst X0.here hx rfl (hb hby at_22) k) ?_
    refine OE.v (fun t k => XS.goto X0.here hx rfl (pc0 := 23) (pc' := 27) rfl (hb hby at_23) (by decide) (by decide) k) ?_
    exact J1 _ _ X0 e0 N0 (1 : Int32)

set_option maxRecDepth 65536 in
set_option maxHeartbeats 40000000 in
theorem comes_1 {Post : Tables → Env → Array Value → State → Outcome → State → Prop} (hpost : ∀ tb e args s v u, (limb_1_1.after args s (.returned v) u = true ∧ limb_1_2.after args s (.returned v) u = true ∧ True) → FrameEnd s (.returned v) u (Jvm.fieldLocs frame_1_writes args s ++ Jvm.arrayLocs frame_1_arrays args s ++ Jvm.staticLocs frame_1_statics s) 24 320 → Post tb e args s (.returned v) u) :
    ArmFor flags0 classFile x code maxLocals ret World_1 tables_1 room_1 Calls_1 rest_1 Pre_1 Post := by
  intro l hfl _ _ p e ha hc hk s m args below hf hA hF happ hP
  obtain ⟨hcalls, hrest, hpre⟩ := hP
  obtain ⟨-, -, -, hnamed, -, -, -, hat⟩ := (Spec.applies_iff hf).mp happ
  obtain ⟨hg, hn⟩ := and_e (Cond.before_iff.mp (show (Jvm.Cond.and given_1 narrow_1).before args s = true from hpre))
  obtain ⟨hg0, hh0⟩ := and_e hg
  obtain ⟨hg1, hh1⟩ := and_e hh0
  obtain ⟨hg2, hh2⟩ := and_e hh1
  obtain ⟨hg3, hh3⟩ := and_e hh2
  obtain ⟨w0, w1, w2, w3, rfl⟩ : ∃ w0 w1 w2 w3 : Value, args = #[w0, w1, w2, w3] := by
    have hs : args.size = 4 := by simpa [Cond.value, given_1] using hg0
    obtain ⟨L⟩ := args
    match L, hs with
    | [w0, w1, w2, w3], _ => exact ⟨w0, w1, w2, w3, rfl⟩
  have hw := fun d (hd : d ∈ tables_1) => atoms_spec (ws := Jvm.Cond.code x code maxLocals ret :: tables_1) hat d (List.mem_cons_of_mem _ hd)
  have hfit : Fit s := fun {y c} hc i hi => by
    obtain ⟨ha, rfl⟩ := Array.getElem?_eq_some_iff.mp hc
    have q := List.all_eq_true.mp ((Array.all_eq_true_iff_forall_mem.mp hF) _ (Array.getElem_mem ha)) i (List.mem_range.mpr hi)
    simpa [Array.getElem?_eq_getElem hi] using q
  obtain ⟨i0, ei0⟩ := is_v hg1
  obtain rfl : w0 = (.int i0) := Option.some.inj ei0
  obtain ⟨i1, ei1⟩ := is_v hg2
  obtain rfl : w1 = (.int i1) := Option.some.inj ei1
  obtain ⟨i2, ei2⟩ := is_v hg3
  obtain rfl : w2 = (.int i2) := Option.some.inj ei2
  obtain ⟨i3, ei3⟩ := is_v hh3
  obtain rfl : w3 = (.int i3) := Option.some.inj ei3
  obtain ⟨n, o, h1, h2, h3, _, L, rfl, ⟨rfl, N⟩, hq⟩ := rm0 l s _ hw tables_1 i0 i1 i2 i3 s.heap s.heap.size (Nat.le_refl _) p e ha hc hk s m _ below hf ((Spec.applies_iff_loose hf).mp happ).1 ⟨rfl, State.Warmed39.refl s, rfl⟩ trivial
  refine ⟨n, _, h1, h2, h3, hpost _ _ _ _ _ _ ⟨Cond.after_iff.mpr rfl, Cond.after_iff.mpr (eq_i res_at (Term.int_eval (1)) rfl), trivial⟩ ⟨hq.1, hq.2.1, (hq.2.2.sift fun y hy => Or.inr (N y hy)).mono (by decide) (by decide)⟩⟩
theorem main_1_1 : Claimed_1_1 := comes_1 fun _ _ _ _ _ _ h hF => ⟨h.1, hF⟩
theorem main_1_2 : Claimed_1_2 := comes_1 fun _ _ _ _ _ _ h hF => ⟨h.2.1, hF⟩
end Jvm.Pilot.@@N@@
namespace Jvm.Pilot.@@N@@
open Jvm Jvm.ClassFile Sem Op Lib Jvm.Free Jvm.Stand Jvm.Pilot.@@N@@.Jvm.D
/-! MADE BY PROGRAM (witnessworld.py) out of the Statement's table words and the real class files: 10 classes; the members and pool entries that the words name. The judged class is class 1, her method 1. -/
namespace start1
open Jvm.ClassFile
def u (s : String) : CpInfo := .utf8 (stringToUtf16 s)
/-- a pool by its gaps: so many unusable entries, then the entry; so many at the end -/
def gap : Nat → List CpInfo → List CpInfo
  | 0, r => r
  | n + 1, r => .unusable :: gap n r
def poolList (es : List (Nat × CpInfo)) (last : Nat) : List CpInfo := es.foldr (fun e r => gap e.1 (e.2 :: r)) (gap last [])
def pool (es : List (Nat × CpInfo)) (last : Nat) : Array CpInfo := ⟨poolList es last⟩
def fileOf (pool : Array CpInfo) (this : Nat) (attrs : Array Attribute := #[]) (ms : Array MethodInfo := #[]) (fl : Nat := 33) (sup : Nat := 0) (ifs : Array Nat := #[]) (fds : Array FieldInfo := #[]) : ClassFile where
  minorVersion := 0
  majorVersion := 65
  constantPool := pool
  accessFlags := fl
  thisClass := this
  superClass := sup
  interfaces := ifs
  fields := fds
  methods := ms
  attributes := attrs
def plain (name : String) (sup : Option ClassId) : Class where
  name := name
  kind := .ordinary
  loader := none
  accessFlags := 33
  super := sup
  interfaces := #[]
  cf := none
  fields := #[]
  methods := #[]
  instanceTypes := #[]
  staticTypes := #[]
  resolved := #[]
  callSites := []
  init := .initialized
  statics := none
  mirror := none

def pool0 : Array CpInfo := pool [(5, u "<init>"), (0, u "()V"), (1, .class_ 10), (1, u "java/lang/Object")] 113

def k0c0 : Code := { maxStack := 0, maxLocals := 1, code := object_method_1_code, exceptionTable := #[], attributes := #[] }
def k0m0 : Method := { name := "<init>", desc := "()V", sig := { parameters := [], returnType := none }, accessFlags := 1, code := some k0c0 }
/-- java/lang/Object -/
def k0 : Class := { plain "java/lang/Object" none with
  accessFlags := 33
  interfaces := #[]
  cf := some (fileOf pool0 8 #[] #[{ accessFlags := 1, nameIndex := 5, descriptorIndex := 6, attributes := #[] }] 33 0 #[] #[])
  fields := #[]
  methods := #[k0m0]
  instanceTypes := #[]
  staticTypes := #[]
  resolved := Array.replicate 124 none
  statics := none }

def pool1 : Array CpInfo := pool [(2, .class_ 4), (0, .nameAndType 5 6), (0, u "java/lang/Object"), (0, u "<init>"), (0, u "()V"), (0, .class_ 8), (0, u "com/example/stratal/stratal/logic/StratumGroups"), (0, .methodref 7 3), (0, .methodref 7 11), (0, .nameAndType 12 13), (0, u "add"), (0, u "()I"), (0, .methodref 7 15), (0, .nameAndType 16 17), (0, u "join"), (0, u "(III)I"), (0, .methodref 7 19), (0, .nameAndType 20 21), (0, u "offset"), (0, u "(I)I"), (0, .class_ 23), (0, u "com/example/stratal/stratal/logic/StratumGroupsOffsetPinLaw"), (2, u "law"), (0, u "(IIII)Z")] 3

def k1m0 : Method := { name := "<init>", desc := "()V", sig := { parameters := [], returnType := none }, accessFlags := 1, code := none }
def k1c1 : Code := { maxStack := 4, maxLocals := 17, code := code, exceptionTable := #[], attributes := #[] }
def k1m1 : Method := { name := "law", desc := "(IIII)Z", sig := { parameters := [.int, .int, .int, .int], returnType := some .boolean }, accessFlags := 9, code := some k1c1 }
/-- com/example/stratal/stratal/logic/StratumGroupsOffsetPinLaw -/
def k1 : Class := { plain "com/example/stratal/stratal/logic/StratumGroupsOffsetPinLaw" (some 0) with
  accessFlags := 49
  interfaces := #[]
  cf := some (fileOf pool1 22 #[] #[{ accessFlags := 1, nameIndex := 5, descriptorIndex := 6, attributes := #[] }, { accessFlags := 9, nameIndex := 26, descriptorIndex := 27, attributes := #[] }] 49 2 #[] #[])
  fields := #[]
  methods := #[k1m0, k1m1]
  instanceTypes := #[]
  staticTypes := #[]
  resolved := Array.replicate 31 none
  statics := none }

def pool2 : Array CpInfo := pool [(1, .methodref 2 3), (0, .class_ 4), (0, .nameAndType 5 6), (0, u "java/lang/Object"), (0, u "<init>"), (0, u "()V"), (0, .fieldref 8 9), (0, .class_ 10), (0, .nameAndType 11 12), (0, u "com/example/stratal/stratal/logic/StratumGroups"), (0, u "mParent"), (0, u "[I"), (0, .fieldref 8 14), (0, .nameAndType 15 12), (0, u "mOffset"), (0, .fieldref 8 17), (0, .nameAndType 18 12), (0, u "mSize"), (0, .fieldref 8 20), (0, .nameAndType 21 12), (0, u "mFloor"), (0, .fieldref 8 23), (0, .nameAndType 24 12), (0, u "mRecords"), (0, .fieldref 8 26), (0, .nameAndType 27 28), (0, u "mCount"), (0, u "I"), (6, .methodref 8 36), (0, .nameAndType 37 38), (0, u "find"), (0, u "(I)I"), (0, .methodref 8 40), (0, .nameAndType 41 38), (0, u "offset"), (0, .fieldref 8 43), (0, .nameAndType 44 28), (0, u "mBroken"), (0, .methodref 8 46), (0, .nameAndType 47 48), (0, u "record"), (0, u "(III)V"), (0, .methodref 8 50), (0, .nameAndType 51 48), (0, u "hang"), (0, .fieldref 8 53), (0, .nameAndType 54 55), (0, u "mRecording"), (0, u "Z"), (0, .fieldref 8 57), (0, .nameAndType 58 28), (0, u "mRecordCount"), (13, .methodref 73 74), (0, .class_ 75), (0, .nameAndType 76 77), (0, u "java/lang/Math"), (0, u "max"), (0, u "(II)I"), (0, u "LITERALS"), (2, u "HELD"), (1, u "BROKEN"), (1, u "HUNG"), (0, u "FLOORED"), (1, u "BROKE"), (3, u "add"), (0, u "()I"), (1, u "join"), (0, u "(III)I")] 24

def k2c0 : Code := { maxStack := 2, maxLocals := 1, code := prog_53_method_1_code, exceptionTable := #[], attributes := #[] }
def k2m0 : Method := { name := "<init>", desc := "()V", sig := { parameters := [], returnType := none }, accessFlags := 0, code := some k2c0 }
def k2c1 : Code := { maxStack := 4, maxLocals := 2, code := prog_53_method_2_code, exceptionTable := #[], attributes := #[] }
def k2m1 : Method := { name := "add", desc := "()I", sig := { parameters := [], returnType := some .int }, accessFlags := 0, code := some k2c1 }
def k2c2 : Code := { maxStack := 2, maxLocals := 3, code := prog_53_method_3_code, exceptionTable := #[], attributes := #[] }
def k2m2 : Method := { name := "find", desc := "(I)I", sig := { parameters := [.int], returnType := some .int }, accessFlags := 0, code := some k2c2 }
def k2c3 : Code := { maxStack := 3, maxLocals := 4, code := prog_53_method_4_code, exceptionTable := #[], attributes := #[] }
def k2m3 : Method := { name := "offset", desc := "(I)I", sig := { parameters := [.int], returnType := some .int }, accessFlags := 0, code := some k2c3 }
def k2c4 : Code := { maxStack := 5, maxLocals := 8, code := prog_53_method_5_code, exceptionTable := #[], attributes := #[] }
def k2m4 : Method := { name := "join", desc := "(III)I", sig := { parameters := [.int, .int, .int], returnType := some .int }, accessFlags := 0, code := some k2c4 }
def k2c5 : Code := { maxStack := 5, maxLocals := 4, code := prog_53_method_11_code, exceptionTable := #[], attributes := #[] }
def k2m5 : Method := { name := "hang", desc := "(III)V", sig := { parameters := [.int, .int, .int], returnType := none }, accessFlags := 2, code := some k2c5 }
def k2c6 : Code := { maxStack := 4, maxLocals := 4, code := prog_53_method_13_code, exceptionTable := #[], attributes := #[] }
def k2m6 : Method := { name := "record", desc := "(III)V", sig := { parameters := [.int, .int, .int], returnType := none }, accessFlags := 2, code := some k2c6 }
/-- com/example/stratal/stratal/logic/StratumGroups -/
def k2 : Class := { plain "com/example/stratal/stratal/logic/StratumGroups" (some 0) with
  accessFlags := 32
  interfaces := #[]
  cf := some (fileOf pool2 8 #[] #[{ accessFlags := 0, nameIndex := 5, descriptorIndex := 6, attributes := #[] }, { accessFlags := 0, nameIndex := 92, descriptorIndex := 93, attributes := #[] }, { accessFlags := 0, nameIndex := 37, descriptorIndex := 38, attributes := #[] }, { accessFlags := 0, nameIndex := 41, descriptorIndex := 38, attributes := #[] }, { accessFlags := 0, nameIndex := 95, descriptorIndex := 96, attributes := #[] }, { accessFlags := 2, nameIndex := 51, descriptorIndex := 48, attributes := #[] }, { accessFlags := 2, nameIndex := 47, descriptorIndex := 48, attributes := #[] }] 32 2 #[] #[{ accessFlags := 24, nameIndex := 78, descriptorIndex := 28, attributes := #[] }, { accessFlags := 24, nameIndex := 81, descriptorIndex := 28, attributes := #[] }, { accessFlags := 24, nameIndex := 83, descriptorIndex := 28, attributes := #[] }, { accessFlags := 26, nameIndex := 85, descriptorIndex := 28, attributes := #[] }, { accessFlags := 26, nameIndex := 86, descriptorIndex := 28, attributes := #[] }, { accessFlags := 26, nameIndex := 88, descriptorIndex := 28, attributes := #[] }, { accessFlags := 2, nameIndex := 27, descriptorIndex := 28, attributes := #[] }, { accessFlags := 2, nameIndex := 11, descriptorIndex := 12, attributes := #[] }, { accessFlags := 2, nameIndex := 15, descriptorIndex := 12, attributes := #[] }, { accessFlags := 2, nameIndex := 18, descriptorIndex := 12, attributes := #[] }, { accessFlags := 2, nameIndex := 21, descriptorIndex := 12, attributes := #[] }, { accessFlags := 2, nameIndex := 44, descriptorIndex := 28, attributes := #[] }, { accessFlags := 2, nameIndex := 54, descriptorIndex := 55, attributes := #[] }, { accessFlags := 2, nameIndex := 24, descriptorIndex := 12, attributes := #[] }, { accessFlags := 2, nameIndex := 58, descriptorIndex := 28, attributes := #[] }])
  fields := #[{ name := "LITERALS", type := .int, accessFlags := 24, slot := 0, constantValue := 0 }, { name := "HELD", type := .int, accessFlags := 24, slot := 1, constantValue := 0 }, { name := "BROKEN", type := .int, accessFlags := 24, slot := 2, constantValue := 0 }, { name := "HUNG", type := .int, accessFlags := 26, slot := 3, constantValue := 0 }, { name := "FLOORED", type := .int, accessFlags := 26, slot := 4, constantValue := 0 }, { name := "BROKE", type := .int, accessFlags := 26, slot := 5, constantValue := 0 }, { name := "mCount", type := .int, accessFlags := 2, slot := 0, constantValue := 0 }, { name := "mParent", type := (.array .int), accessFlags := 2, slot := 1, constantValue := 0 }, { name := "mOffset", type := (.array .int), accessFlags := 2, slot := 2, constantValue := 0 }, { name := "mSize", type := (.array .int), accessFlags := 2, slot := 3, constantValue := 0 }, { name := "mFloor", type := (.array .int), accessFlags := 2, slot := 4, constantValue := 0 }, { name := "mBroken", type := .int, accessFlags := 2, slot := 5, constantValue := 0 }, { name := "mRecording", type := .boolean, accessFlags := 2, slot := 6, constantValue := 0 }, { name := "mRecords", type := (.array .int), accessFlags := 2, slot := 7, constantValue := 0 }, { name := "mRecordCount", type := .int, accessFlags := 2, slot := 8, constantValue := 0 }]
  methods := #[k2m0, k2m1, k2m2, k2m3, k2m4, k2m5, k2m6]
  instanceTypes := #[.int, (.array .int), (.array .int), (.array .int), (.array .int), .int, .boolean, (.array .int), .int]
  staticTypes := #[.int, .int, .int, .int, .int, .int]
  resolved := Array.replicate 121 none
  statics := none }

def pool3 : Array CpInfo := pool [(1, .class_ 2), (0, u "java/lang/Math"), (1, .class_ 6), (1, u "java/lang/Object"), (0, u "<init>"), (0, u "()V"), (89, .class_ 100), (1, u "java/lang/Math$RandomNumberGeneratorHolder"), (71, u "negativeZeroFloatBits"), (0, u "J"), (2, u "negativeZeroDoubleBits"), (21, u "max"), (46, u "$assertionsDisabled"), (0, u "Z"), (88, u "(II)I"), (2, u "twoToTheDoubleScaleDown"), (0, u "D"), (4, u "twoToTheDoubleScaleUp"), (9, u "E"), (3, u "PI"), (2, u "TAU"), (2, u "DEGREES_TO_RADIANS"), (0, u "RADIANS_TO_DEGREES")] 94

def k3m0 : Method := { name := "<init>", desc := "()V", sig := { parameters := [], returnType := none }, accessFlags := 2, code := none }
def k3c1 : Code := { maxStack := 2, maxLocals := 2, code := jdk_29_method_65_code, exceptionTable := #[], attributes := #[] }
def k3m1 : Method := { name := "max", desc := "(II)I", sig := { parameters := [.int, .int], returnType := some .int }, accessFlags := 9, code := some k3c1 }
/-- java/lang/Math -/
def k3 : Class := { plain "java/lang/Math" (some 0) with
  accessFlags := 49
  interfaces := #[]
  cf := some (fileOf pool3 1 #[.nestMembers #[98]] #[{ accessFlags := 2, nameIndex := 7, descriptorIndex := 8, attributes := #[] }, { accessFlags := 9, nameIndex := 198, descriptorIndex := 335, attributes := #[] }] 49 4 #[] #[{ accessFlags := 25, nameIndex := 354, descriptorIndex := 339, attributes := #[] }, { accessFlags := 25, nameIndex := 358, descriptorIndex := 339, attributes := #[] }, { accessFlags := 25, nameIndex := 361, descriptorIndex := 339, attributes := #[] }, { accessFlags := 26, nameIndex := 364, descriptorIndex := 339, attributes := #[] }, { accessFlags := 26, nameIndex := 365, descriptorIndex := 339, attributes := #[] }, { accessFlags := 26, nameIndex := 172, descriptorIndex := 173, attributes := #[] }, { accessFlags := 26, nameIndex := 176, descriptorIndex := 173, attributes := #[] }, { accessFlags := 8, nameIndex := 344, descriptorIndex := 339, attributes := #[] }, { accessFlags := 8, nameIndex := 338, descriptorIndex := 339, attributes := #[] }, { accessFlags := 4120, nameIndex := 245, descriptorIndex := 246, attributes := #[] }])
  fields := #[{ name := "E", type := .double, accessFlags := 25, slot := 0, constantValue := 0 }, { name := "PI", type := .double, accessFlags := 25, slot := 1, constantValue := 0 }, { name := "TAU", type := .double, accessFlags := 25, slot := 2, constantValue := 0 }, { name := "DEGREES_TO_RADIANS", type := .double, accessFlags := 26, slot := 3, constantValue := 0 }, { name := "RADIANS_TO_DEGREES", type := .double, accessFlags := 26, slot := 4, constantValue := 0 }, { name := "negativeZeroFloatBits", type := .long, accessFlags := 26, slot := 5, constantValue := 0 }, { name := "negativeZeroDoubleBits", type := .long, accessFlags := 26, slot := 6, constantValue := 0 }, { name := "twoToTheDoubleScaleUp", type := .double, accessFlags := 8, slot := 7, constantValue := 0 }, { name := "twoToTheDoubleScaleDown", type := .double, accessFlags := 8, slot := 8, constantValue := 0 }, { name := "$assertionsDisabled", type := .boolean, accessFlags := 4120, slot := 9, constantValue := 0 }]
  methods := #[k3m0, k3m1]
  instanceTypes := #[]
  staticTypes := #[.double, .double, .double, .double, .double, .long, .long, .double, .double, .boolean]
  resolved := Array.replicate 460 none
  statics := none }

def pool4 : Array CpInfo := pool [(1, u "java/lang/Cloneable"), (0, .class_ 1), (0, u "java/lang/Object"), (0, .class_ 3)] 3

/-- java/lang/Cloneable -/
def k4 : Class := { plain "java/lang/Cloneable" (some 0) with
  accessFlags := 1537
  interfaces := #[]
  cf := some (fileOf pool4 2 #[] #[] 1537 4 #[] #[])
  fields := #[]
  methods := #[]
  instanceTypes := #[]
  staticTypes := #[]
  resolved := Array.replicate 8 none
  statics := none }

def pool5 : Array CpInfo := pool [(1, u "java/io/Serializable"), (0, .class_ 1), (0, u "java/lang/Object"), (0, .class_ 3)] 3

/-- java/io/Serializable -/
def k5 : Class := { plain "java/io/Serializable" (some 0) with
  accessFlags := 1537
  interfaces := #[]
  cf := some (fileOf pool5 2 #[] #[] 1537 4 #[] #[])
  fields := #[]
  methods := #[]
  instanceTypes := #[]
  staticTypes := #[]
  resolved := Array.replicate 8 none
  statics := none }

/-- the primitive byte -/
def k6 : Class := { plain "byte" none with kind := .primitive 'B', accessFlags := 0x411 }
/-- [B -/
def k7 : Class := { plain "[B" (some 0) with kind := .array 6 .byte, interfaces := #[4, 5], accessFlags := 1041 }

/-- the primitive int -/
def k8 : Class := { plain "int" none with kind := .primitive 'I', accessFlags := 0x411 }
/-- [I -/
def k9 : Class := { plain "[I" (some 0) with kind := .array 8 .int, interfaces := #[4, 5], accessFlags := 1041 }

def heap : Heap := #[]
def classes : Array Class := #[k0, k1, k2, k3, k4, k5, k6, k7, k8, k9]
def interned : List (Array UInt16 × Addr) := []
def slotsUsed : Nat := 0
def theMethod : MethodId := ⟨1, 1⟩
def args0 : Array Value := #[.int 3, .int 7, .int 5, .int 45]
def aboutOver (below : List Frame) : State where
  vm := { classes := classes, interned := interned.toArray }
  heap := heap
  slotsUsed := slotsUsed
  threads := #[{ frames := .invoking theMethod args0 :: below }]
def below0 : List Frame := [.native { method := ⟨0, 0⟩, args := #[] }]
def about1 : State := aboutOver below0
def p0 : Program := .bare "" "" ""
def e0 : Env := launch0.env 0 0 0
theorem w_frames : about1.frames = Frame.invoking theMethod args0 :: below0 := rfl
set_option maxRecDepth 65536 in
theorem w_args : argsFit about1.vm theMethod args0 = true := by decide +kernel
set_option maxRecDepth 65536 in
theorem w_heap : heapFits about1 = true := by decide +kernel
set_option maxRecDepth 65536 in
theorem w_runnable : about1.curStatus? = some .runnable := by decide +kernel
set_option maxRecDepth 65536 in
theorem w_alone : about1.alone = true := by decide +kernel
set_option maxRecDepth 65536 in
theorem w_named : about1.methodNamed? x = some theMethod := by decide +kernel
set_option maxRecDepth 65536 in
theorem w_hears : about1.hears theMethod below0 = true := by decide +kernel
set_option maxRecDepth 65536 in
theorem w_ripe : about1.ripe theMethod args0 below0 = true := by decide +kernel
theorem w_running : about1.status = .running := rfl
set_option maxRecDepth 65536 in
theorem w_room : about1.hasRoom e0.platform room_1 = true :=
  launch0.hasRoom_least _ room_1 (by decide +kernel) (by decide +kernel) (by decide +kernel) (by decide +kernel) (by decide +kernel) (by decide +kernel)
theorem allAtoms_all (ts : List Jvm.Cond) (a : Array Jvm.Value) (st : Jvm.State) : (allAtoms ts).before a st = ts.all (fun c => c.before a st) := by
  induction ts with
  | nil => rfl
  | cons c t ih =>
    show (Jvm.Cond.and c (allAtoms t)).before a st = _
    rw [Jvm.Cond.before_and, ih, List.all_cons]
def words1 : List Jvm.Cond := Jvm.Cond.code x code maxLocals ret :: tables_1
/-- a 'code' word, met by the world's own term for the bytes: nothing is compared byte by byte -/
theorem code_word {y : MethodName} {bytes : ByteArray} {mx : Nat} {rt : Option FieldType} {a : Array Value} {s : State} {m : MethodId} {meth : Method} {c : Code} (h1 : s.methodNamed? y = some m) (h2 : s.vm.method? m = some meth) (h3 : meth.code = some c) (h4 : c.code = bytes)
    (h5 : (c.maxLocals == mx && c.exceptionTable.isEmpty && decide (c.maxStack ≤ mostOperands) && decide (meth.sig.returnType = rt) && !meth.locks && decide (parseMethodDescriptor y.desc = some meth.sig)) = true) : (Jvm.Cond.code y bytes mx rt).before a s = true := by
  simp only [Bool.and_eq_true, beq_iff_eq, Bool.not_eq_true', decide_eq_true_eq] at h5
  obtain ⟨⟨⟨⟨⟨g1, g2⟩, g3⟩, g4⟩, g5⟩, g6⟩ := h5
  simp [Cond.before, Cond.holds, Cond.value, h1, h2, h3, h4, g1, g2, g3, g4, g5, g6]
def isCode : Jvm.Cond → Bool
  | .code _ _ _ _ => true
  | _ => false
theorem all_split {L : List Jvm.Cond} {P : Jvm.Cond → Bool} (h1 : L.all (fun c => isCode c || P c) = true) (h2 : ∀ c ∈ L.filter isCode, P c = true) : L.all P = true := by
  refine List.all_eq_true.mpr fun c hc => ?_
  have h := List.all_eq_true.mp h1 c hc
  rcases Bool.eq_false_or_eq_true (isCode c) with hi | hi
  · exact h2 c (List.mem_filter.mpr ⟨hc, hi⟩)
  · simpa [hi] using h
set_option maxRecDepth 65536 in
theorem w_c0 : (Jvm.Cond.code x code maxLocals ret).before args0 about1 = true := code_word (m := ⟨1, 1⟩) (meth := k1m1) (c := k1c1) (by decide +kernel) rfl rfl rfl (by decide +kernel)
set_option maxRecDepth 65536 in
theorem w_c1 : (Jvm.Cond.code ({ cls := "com/example/stratal/stratal/logic/StratumGroups", name := "<init>", desc := "()V" } : Jvm.MethodName) prog_53_method_1_code (1 : Nat) (Option.none : Option Jvm.ClassFile.FieldType)).before args0 about1 = true := code_word (m := ⟨2, 0⟩) (meth := k2m0) (c := k2c0) (by decide +kernel) rfl rfl rfl (by decide +kernel)
set_option maxRecDepth 65536 in
theorem w_c2 : (Jvm.Cond.code ({ cls := "java/lang/Object", name := "<init>", desc := "()V" } : Jvm.MethodName) object_method_1_code (1 : Nat) (Option.none : Option Jvm.ClassFile.FieldType)).before args0 about1 = true := code_word (m := ⟨0, 0⟩) (meth := k0m0) (c := k0c0) (by decide +kernel) rfl rfl rfl (by decide +kernel)
set_option maxRecDepth 65536 in
theorem w_c3 : (Jvm.Cond.code ({ cls := "com/example/stratal/stratal/logic/StratumGroups", name := "add", desc := "()I" } : Jvm.MethodName) prog_53_method_2_code (2 : Nat) (Option.some Jvm.ClassFile.FieldType.int)).before args0 about1 = true := code_word (m := ⟨2, 1⟩) (meth := k2m1) (c := k2c1) (by decide +kernel) rfl rfl rfl (by decide +kernel)
set_option maxRecDepth 65536 in
theorem w_c4 : (Jvm.Cond.code ({ cls := "com/example/stratal/stratal/logic/StratumGroups", name := "join", desc := "(III)I" } : Jvm.MethodName) prog_53_method_5_code (8 : Nat) (Option.some Jvm.ClassFile.FieldType.int)).before args0 about1 = true := code_word (m := ⟨2, 4⟩) (meth := k2m4) (c := k2c4) (by decide +kernel) rfl rfl rfl (by decide +kernel)
set_option maxRecDepth 65536 in
theorem w_c5 : (Jvm.Cond.code ({ cls := "com/example/stratal/stratal/logic/StratumGroups", name := "find", desc := "(I)I" } : Jvm.MethodName) prog_53_method_3_code (3 : Nat) (Option.some Jvm.ClassFile.FieldType.int)).before args0 about1 = true := code_word (m := ⟨2, 2⟩) (meth := k2m2) (c := k2c2) (by decide +kernel) rfl rfl rfl (by decide +kernel)
set_option maxRecDepth 65536 in
theorem w_c6 : (Jvm.Cond.code ({ cls := "com/example/stratal/stratal/logic/StratumGroups", name := "offset", desc := "(I)I" } : Jvm.MethodName) prog_53_method_4_code (4 : Nat) (Option.some Jvm.ClassFile.FieldType.int)).before args0 about1 = true := code_word (m := ⟨2, 3⟩) (meth := k2m3) (c := k2c3) (by decide +kernel) rfl rfl rfl (by decide +kernel)
set_option maxRecDepth 65536 in
theorem w_c7 : (Jvm.Cond.code ({ cls := "com/example/stratal/stratal/logic/StratumGroups", name := "hang", desc := "(III)V" } : Jvm.MethodName) prog_53_method_11_code (4 : Nat) (Option.none : Option Jvm.ClassFile.FieldType)).before args0 about1 = true := code_word (m := ⟨2, 5⟩) (meth := k2m5) (c := k2c5) (by decide +kernel) rfl rfl rfl (by decide +kernel)
set_option maxRecDepth 65536 in
theorem w_c8 : (Jvm.Cond.code ({ cls := "com/example/stratal/stratal/logic/StratumGroups", name := "record", desc := "(III)V" } : Jvm.MethodName) prog_53_method_13_code (4 : Nat) (Option.none : Option Jvm.ClassFile.FieldType)).before args0 about1 = true := code_word (m := ⟨2, 6⟩) (meth := k2m6) (c := k2c6) (by decide +kernel) rfl rfl rfl (by decide +kernel)
set_option maxRecDepth 65536 in
theorem w_c9 : (Jvm.Cond.code ({ cls := "java/lang/Math", name := "max", desc := "(II)I" } : Jvm.MethodName) jdk_29_method_65_code (2 : Nat) (Option.some Jvm.ClassFile.FieldType.int)).before args0 about1 = true := code_word (m := ⟨3, 1⟩) (meth := k3m1) (c := k3c1) (by decide +kernel) rfl rfl rfl (by decide +kernel)
def codes1 : List Jvm.Cond := [Jvm.Cond.code x code maxLocals ret, Jvm.Cond.code ({ cls := "com/example/stratal/stratal/logic/StratumGroups", name := "<init>", desc := "()V" } : Jvm.MethodName) prog_53_method_1_code (1 : Nat) (Option.none : Option Jvm.ClassFile.FieldType), Jvm.Cond.code ({ cls := "java/lang/Object", name := "<init>", desc := "()V" } : Jvm.MethodName) object_method_1_code (1 : Nat) (Option.none : Option Jvm.ClassFile.FieldType), Jvm.Cond.code ({ cls := "com/example/stratal/stratal/logic/StratumGroups", name := "add", desc := "()I" } : Jvm.MethodName) prog_53_method_2_code (2 : Nat) (Option.some Jvm.ClassFile.FieldType.int), Jvm.Cond.code ({ cls := "com/example/stratal/stratal/logic/StratumGroups", name := "join", desc := "(III)I" } : Jvm.MethodName) prog_53_method_5_code (8 : Nat) (Option.some Jvm.ClassFile.FieldType.int), Jvm.Cond.code ({ cls := "com/example/stratal/stratal/logic/StratumGroups", name := "find", desc := "(I)I" } : Jvm.MethodName) prog_53_method_3_code (3 : Nat) (Option.some Jvm.ClassFile.FieldType.int), Jvm.Cond.code ({ cls := "com/example/stratal/stratal/logic/StratumGroups", name := "offset", desc := "(I)I" } : Jvm.MethodName) prog_53_method_4_code (4 : Nat) (Option.some Jvm.ClassFile.FieldType.int), Jvm.Cond.code ({ cls := "com/example/stratal/stratal/logic/StratumGroups", name := "hang", desc := "(III)V" } : Jvm.MethodName) prog_53_method_11_code (4 : Nat) (Option.none : Option Jvm.ClassFile.FieldType), Jvm.Cond.code ({ cls := "com/example/stratal/stratal/logic/StratumGroups", name := "record", desc := "(III)V" } : Jvm.MethodName) prog_53_method_13_code (4 : Nat) (Option.none : Option Jvm.ClassFile.FieldType), Jvm.Cond.code ({ cls := "java/lang/Math", name := "max", desc := "(II)I" } : Jvm.MethodName) jdk_29_method_65_code (2 : Nat) (Option.some Jvm.ClassFile.FieldType.int)]
set_option maxRecDepth 65536 in
theorem codes_eq : words1.filter isCode = codes1 := rfl
theorem w_codes : ∀ c ∈ words1.filter isCode, c.before args0 about1 = true := by
  rw [codes_eq]
  intro c hc
  simp only [codes1, List.mem_cons, List.not_mem_nil, or_false] at hc
  rcases hc with rfl | rfl | rfl | rfl | rfl | rfl | rfl | rfl | rfl | rfl
  · exact w_c0
  · exact w_c1
  · exact w_c2
  · exact w_c3
  · exact w_c4
  · exact w_c5
  · exact w_c6
  · exact w_c7
  · exact w_c8
  · exact w_c9
set_option maxRecDepth 65536 in
theorem w_t1 : (words1.take 24).all (fun c => isCode c || c.before args0 about1) = true := by decide +kernel
set_option maxRecDepth 65536 in
theorem w_t2 : ((words1.drop 24).take 24).all (fun c => isCode c || c.before args0 about1) = true := by decide +kernel
set_option maxRecDepth 65536 in
theorem w_t3 : ((words1.drop 24).drop 24).all (fun c => isCode c || c.before args0 about1) = true := by decide +kernel
theorem w_tables : (allAtoms (Jvm.Cond.code x code maxLocals ret :: tables_1)).before args0 about1 = true := by
  rw [allAtoms_all]
  show words1.all (fun c => c.before args0 about1) = true
  refine all_split ?_ w_codes
  rw [← List.take_append_drop 24 words1, List.all_append, w_t1, ← List.take_append_drop 24 (words1.drop 24), List.all_append, w_t2, w_t3]
  rfl
set_option maxRecDepth 65536 in
theorem w_case : (Jvm.Cond.and given_1 narrow_1).before args0 about1 = true := by decide +kernel
theorem w_applies : (headSpec (Jvm.Cond.code x code maxLocals ret :: tables_1) room_1).applies x e0.platform about1 = true :=
  (Spec.applies_iff w_frames).mpr ⟨w_running, w_runnable, w_alone, w_named, w_hears, w_ripe, w_room, w_tables⟩
theorem atStart : AtStart classFile x code maxLocals ret World_1 tables_1 room_1 Calls_1 rest_1 Pre_1 launch0 p0 e0 about1 theMethod args0 below0 :=
  ⟨lists_1, trivial, launch0.admits_env _ _ _, launch0.least_env, fairChoices_fair.cas, fairChoices_fair.clock, w_frames, w_args, w_heap, w_applies, trivial, trivial, w_case⟩
end start1
theorem witness_1 : WitnessClaimed_1 := ⟨start1.p0, start1.e0, start1.about1, start1.theMethod, start1.args0, start1.below0, start1.atStart⟩
end Jvm.Pilot.@@N@@
