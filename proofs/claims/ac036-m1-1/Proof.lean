import JvmDerived
import JvmDerived.Pilot.@@N@@Statement
import JvmDerived.Pilot.@@N@@Code
set_option linter.unusedVariables false
set_option linter.unusedSimpArgs false
namespace Jvm.RoadKit
open Sem ClassFile Op Lib Jvm.Stand Jvm.Free Jvm.LawKit
section New
variable {p : Program} {l : Launch} {e : Env} {R : Room} {s : State} {m : MethodId} {args : Array Value} {below : List Frame} {meth : Method} {c : Code} {T : State} {locs : List Loc} {cells slots : Nat}
theorem retI (X : Stand p l e R s m args below meth c T locs cells slots) (hx : p.tables.exec = Jvm.exec) {pc : Nat} {Ls : Array Slot} {z : Int32} {rest : List Value} (hret : meth.sig.returnType = some .int) (hd : decode c.code pc = .ok (.ireturn, 1)) {fs : List Frame}
    (hl : ∀ (f : JFrame) (acts : List Action), f.method = m → f.locked = none → f.entered = [] → (doReturn e (T.setTop f) acts (some (.int z))).1 = T.setFrames fs) : Steps p.tables e below (T.setTop (mkF m pc Ls (.int z :: rest))) (T.setFrames fs) := by
  have hm' : T.vm.method? m = some meth := X.method'
  have hn : narrow .int (.int z) = .int z := rfl
  show Steps p.tables e below (T.setTop { method := m, pc := pc, locals := Ls, stack := _ :: rest, locked := none }) _
  jvm_step X.here [X.here.top, hx, hd, hm', hret, hn]
  first | (intro acts; rw [hl _ acts rfl rfl rfl]) | rw [hl _ _ rfl rfl rfl]
  exact Steps.refl _
end New
/-- from W the run comes to a state and an outcome of which K holds -/
def OwnEnds (tb : Tables) (e : Env) (below : List Frame) (K : State → Outcome → Prop) (W : State) : Prop := ∃ t o, Steps tb e below W t ∧ K t o
theorem OwnEnds.via {tb : Tables} {e : Env} {below : List Frame} {K : State → Outcome → Prop} {W W' : State} (f : ∀ t, Steps tb e below W' t → Steps tb e below W t) (h : OwnEnds tb e below K W') : OwnEnds tb e below K W := by
  obtain ⟨t, o, h1, h2⟩ := h
  exact ⟨t, o, f t h1, h2⟩
theorem OwnEnds.cut {tb : Tables} {e : Env} {below : List Frame} {K : State → Outcome → Prop} {W : State} (A : (State → Prop) → Prop) (h1 : A (OwnEnds tb e below K)) (h2 : A (OwnEnds tb e below K) → OwnEnds tb e below K W) : OwnEnds tb e below K W := h2 h1
end Jvm.RoadKit
namespace Jvm.Pilot.@@N@@
open Jvm Jvm.ClassFile Sem Op Lib Jvm.Free Jvm.Stand Jvm.LawKit Jvm.RoadKit Bundle Jvm.Pilot.@@N@@.Jvm.D
def own_enc (n : Int64) : Int64 := if lcmpW n (0 : Int64) = (0 : Int32) then (0 : Int64) else ((((n + (2 : Int64)) / (3 : Int64)) * (4 : Int64)) + ((2 : Int64) * ((((((((n + (2 : Int64)) / (3 : Int64)) * (4 : Int64)) + (76 : Int64)) - (1 : Int64)) / (76 : Int64)) - (1 : Int64)))))
def own_ref (n : Int64) : Int64 := if lcmpW n (0 : Int64) = (0 : Int32) then (0 : Int64) else (((78 : Int64) * ((n - (1 : Int64)) / (57 : Int64))) + ((((n - ((57 : Int64) * ((n - (1 : Int64)) / (57 : Int64)))) + (2 : Int64)) / (3 : Int64)) * (4 : Int64)))
theorem own_eq (n : Int64) (h0 : 0 ≤ n.toInt) (h1 : n.toInt < 4611686018427387904) : own_enc n = own_ref n := by
  unfold own_enc own_ref
  by_cases h : lcmpW n (0 : Int64) = (0 : Int32)
  · rw [if_pos h, if_pos h]
  · rw [if_neg h, if_neg h]
    rw [lw_eq, ← Int64.toInt_inj] at h
    have z0 : (0 : Int64).toInt = 0 := by decide
    have z1 : (1 : Int64).toInt = 1 := by decide
    have z2 : (2 : Int64).toInt = 2 := by decide
    have z4 : (4 : Int64).toInt = 4 := by decide
    have z57 : (57 : Int64).toInt = 57 := by decide
    have z76 : (76 : Int64).toInt = 76 := by decide
    have z78 : (78 : Int64).toInt = 78 := by decide
    obtain ⟨a1, e1⟩ : ∃ z, z = n + (2 : Int64) := ⟨_, rfl⟩
    rw [← e1]
    have t1 := c_ladd n 2
    have r1 := rng64 (n + 2)
    rw [← e1] at t1 r1
    have q1 : a1.toInt = n.toInt + 2 := by omega
    obtain ⟨a2, e2⟩ : ∃ z, z = a1 / (3 : Int64) := ⟨_, rfl⟩
    rw [← e2]
    have t2 := (c_ldiv a1 3 3 (by decide) (by decide)).1 (by omega)
    rw [← e2] at t2
    obtain ⟨a3, e3⟩ : ∃ z, z = a2 * (4 : Int64) := ⟨_, rfl⟩
    rw [← e3]
    have t3 := c_lmul a2 4
    have r3 := rng64 (a2 * 4)
    rw [← e3, z4] at t3
    rw [← e3] at r3
    have q3 : a3.toInt = a2.toInt * 4 := by omega
    obtain ⟨a4, e4⟩ : ∃ z, z = a3 + (76 : Int64) := ⟨_, rfl⟩
    rw [← e4]
    have t4 := c_ladd a3 76
    have r4 := rng64 (a3 + 76)
    rw [← e4] at t4 r4
    have q4 : a4.toInt = a3.toInt + 76 := by omega
    obtain ⟨a5, e5⟩ : ∃ z, z = a4 - (1 : Int64) := ⟨_, rfl⟩
    rw [← e5]
    have t5 := c_lsub a4 1
    have r5 := rng64 (a4 - 1)
    rw [← e5] at t5 r5
    have q5 : a5.toInt = a4.toInt - 1 := by omega
    obtain ⟨a6, e6⟩ : ∃ z, z = a5 / (76 : Int64) := ⟨_, rfl⟩
    rw [← e6]
    have t6 := (c_ldiv a5 76 76 (by decide) (by decide)).1 (by omega)
    rw [← e6] at t6
    obtain ⟨a7, e7⟩ : ∃ z, z = a6 - (1 : Int64) := ⟨_, rfl⟩
    rw [← e7]
    have t7 := c_lsub a6 1
    have r7 := rng64 (a6 - 1)
    rw [← e7] at t7 r7
    have q7 : a7.toInt = a6.toInt - 1 := by omega
    obtain ⟨a8, e8⟩ : ∃ z, z = (2 : Int64) * a7 := ⟨_, rfl⟩
    rw [← e8]
    have t8 := c_lmul 2 a7
    have r8 := rng64 (2 * a7)
    rw [← e8, z2] at t8
    rw [← e8] at r8
    have q8 : a8.toInt = 2 * a7.toInt := by omega
    have t9 := c_ladd a3 a8
    have r9 := rng64 (a3 + a8)
    have q9 : (a3 + a8).toInt = a3.toInt + a8.toInt := by omega
    obtain ⟨b1, f1⟩ : ∃ z, z = n - (1 : Int64) := ⟨_, rfl⟩
    rw [← f1]
    have u1 := c_lsub n 1
    have s1 := rng64 (n - 1)
    rw [← f1] at u1 s1
    have p1 : b1.toInt = n.toInt - 1 := by omega
    obtain ⟨b2, f2⟩ : ∃ z, z = b1 / (57 : Int64) := ⟨_, rfl⟩
    rw [← f2]
    have u2 := (c_ldiv b1 57 57 (by decide) (by decide)).1 (by omega)
    rw [← f2] at u2
    obtain ⟨b3, f3⟩ : ∃ z, z = (57 : Int64) * b2 := ⟨_, rfl⟩
    rw [← f3]
    have u3 := c_lmul 57 b2
    have s3 := rng64 (57 * b2)
    rw [← f3, z57] at u3
    rw [← f3] at s3
    have p3 : b3.toInt = 57 * b2.toInt := by omega
    obtain ⟨b4, f4⟩ : ∃ z, z = n - b3 := ⟨_, rfl⟩
    rw [← f4]
    have u4 := c_lsub n b3
    have s4 := rng64 (n - b3)
    rw [← f4] at u4 s4
    have p4 : b4.toInt = n.toInt - b3.toInt := by omega
    obtain ⟨b5, f5⟩ : ∃ z, z = b4 + (2 : Int64) := ⟨_, rfl⟩
    rw [← f5]
    have u5 := c_ladd b4 2
    have s5 := rng64 (b4 + 2)
    rw [← f5] at u5 s5
    have p5 : b5.toInt = b4.toInt + 2 := by omega
    obtain ⟨b6, f6⟩ : ∃ z, z = b5 / (3 : Int64) := ⟨_, rfl⟩
    rw [← f6]
    have u6 := (c_ldiv b5 3 3 (by decide) (by decide)).1 (by omega)
    rw [← f6] at u6
    obtain ⟨b7, f7⟩ : ∃ z, z = b6 * (4 : Int64) := ⟨_, rfl⟩
    rw [← f7]
    have u7 := c_lmul b6 4
    have s7 := rng64 (b6 * 4)
    rw [← f7, z4] at u7
    rw [← f7] at s7
    have p7 : b7.toInt = b6.toInt * 4 := by omega
    obtain ⟨b8, f8⟩ : ∃ z, z = (78 : Int64) * b2 := ⟨_, rfl⟩
    rw [← f8]
    have u8 := c_lmul 78 b2
    have s8 := rng64 (78 * b2)
    rw [← f8, z78] at u8
    rw [← f8] at s8
    have p8 : b8.toInt = 78 * b2.toInt := by omega
    have u9 := c_ladd b8 b7
    have s9 := rng64 (b8 + b7)
    have p9 : (b8 + b7).toInt = b8.toInt + b7.toInt := by omega
    apply Int64.toInt_inj.mp
    rw [q9, p9, q8, q7, t6, q5, q4, q3, t2, q1, p8, p7, u6, p5, p4, p3, u2, p1]
    omega
theorem own_lo (x m : Int64) (k : Nat) (hk : k ≤ 62) (hm : m.toBitVec.toNat = 2 ^ k - 1) : 0 ≤ (x &&& m).toInt ∧ (x &&& m).toInt < 4611686018427387904 := by
  rw [c_maskL x m k (by omega) hm]
  have h1 : (2 : Nat) ^ k ≤ 2 ^ 62 := Nat.pow_le_pow_right (by decide) hk
  have h2 : 0 < (2 : Nat) ^ k := Nat.pos_of_ne_zero (by simp)
  have h3 := Int.emod_nonneg x.toInt (b := ((2 ^ k : Nat) : Int)) (by omega)
  have h4 := Int.emod_lt_of_pos x.toInt (b := ((2 ^ k : Nat) : Int)) (by omega)
  constructor <;> omega

theorem d1_0 : decode prog_18_method_2_code 0 = .ok (.lload_n 0, 1) := by decide +kernel
theorem d1_1 : decode prog_18_method_2_code 1 = .ok (.lconst 0, 1) := by decide +kernel
theorem d1_2 : decode prog_18_method_2_code 2 = .ok (.lcmp, 1) := by decide +kernel
theorem d1_3 : decode prog_18_method_2_code 3 = .ok (.ifCond .ne 5, 3) := by decide +kernel
theorem d1_6 : decode prog_18_method_2_code 6 = .ok (.lconst 0, 1) := by decide +kernel
theorem d1_7 : decode prog_18_method_2_code 7 = .ok (.lreturn, 1) := by decide +kernel
theorem d1_8 : decode prog_18_method_2_code 8 = .ok (.lload_n 0, 1) := by decide +kernel
theorem d1_9 : decode prog_18_method_2_code 9 = .ok (.ldc2_w 25, 3) := by decide +kernel
theorem d1_12 : decode prog_18_method_2_code 12 = .ok (.ladd, 1) := by decide +kernel
theorem d1_13 : decode prog_18_method_2_code 13 = .ok (.ldc2_w 27, 3) := by decide +kernel
theorem d1_16 : decode prog_18_method_2_code 16 = .ok (.ldiv, 1) := by decide +kernel
theorem d1_17 : decode prog_18_method_2_code 17 = .ok (.ldc2_w 29, 3) := by decide +kernel
theorem d1_20 : decode prog_18_method_2_code 20 = .ok (.lmul, 1) := by decide +kernel
theorem d1_21 : decode prog_18_method_2_code 21 = .ok (.lstore_n 2, 1) := by decide +kernel
theorem d1_22 : decode prog_18_method_2_code 22 = .ok (.lload_n 2, 1) := by decide +kernel
theorem d1_23 : decode prog_18_method_2_code 23 = .ok (.ldc2_w 31, 3) := by decide +kernel
theorem d1_26 : decode prog_18_method_2_code 26 = .ok (.ladd, 1) := by decide +kernel
theorem d1_27 : decode prog_18_method_2_code 27 = .ok (.lconst 1, 1) := by decide +kernel
theorem d1_28 : decode prog_18_method_2_code 28 = .ok (.lsub, 1) := by decide +kernel
theorem d1_29 : decode prog_18_method_2_code 29 = .ok (.ldc2_w 31, 3) := by decide +kernel
theorem d1_32 : decode prog_18_method_2_code 32 = .ok (.ldiv, 1) := by decide +kernel
theorem d1_33 : decode prog_18_method_2_code 33 = .ok (.lstore 4, 2) := by decide +kernel
theorem d1_35 : decode prog_18_method_2_code 35 = .ok (.lload_n 2, 1) := by decide +kernel
theorem d1_36 : decode prog_18_method_2_code 36 = .ok (.ldc2_w 25, 3) := by decide +kernel
theorem d1_39 : decode prog_18_method_2_code 39 = .ok (.lload 4, 2) := by decide +kernel
theorem d1_41 : decode prog_18_method_2_code 41 = .ok (.lconst 1, 1) := by decide +kernel
theorem d1_42 : decode prog_18_method_2_code 42 = .ok (.lsub, 1) := by decide +kernel
theorem d1_43 : decode prog_18_method_2_code 43 = .ok (.lmul, 1) := by decide +kernel
theorem d1_44 : decode prog_18_method_2_code 44 = .ok (.ladd, 1) := by decide +kernel
theorem d1_45 : decode prog_18_method_2_code 45 = .ok (.lreturn, 1) := by decide +kernel
theorem pn_rm1 : plainName "com/example/plumbago/plumbago/archive/Base64Encoder" = true := by first | (simp [plainName, overriddenIn]; done) | decide +kernel
theorem ef_rm1 (m : MethodId) (n : Int64) : entryFrame m #[(.long n)] 6 = mkF m 0 #[.val (.long n), .second, .unset, .unset, .unset, .unset] [] := by first | (simp [entryFrame, mkF, argsToLocals, Value.category]; done) | rfl
def Q1 (Z : State) (n : Int64) (h0 : Heap) (n0 : Nat) (v : Option Value) (h : Heap) (L : List Loc) : Prop := v = some (.long (own_enc n)) ∧ Fr n0 L ∧ h = h0
set_option maxRecDepth 65536 in
set_option maxHeartbeats 40000000 in
theorem rm1 (l : Launch) (Z : State) (a0 : Array Value) (hw : ∀ d ∈ tables_1, d.before a0 Z = true) (ws : List Jvm.Cond) (n : Int64) (h0 : Heap) (n0 : Nat) (Z0 : n0 ≤ h0.size)  :
    MetFree l (⟨"com/example/plumbago/plumbago/archive/Base64Encoder", "encodedLength", "(J)J"⟩ : MethodName) (head1 (Jvm.Cond.code (⟨"com/example/plumbago/plumbago/archive/Base64Encoder", "encodedLength", "(J)J"⟩ : MethodName) prog_18_method_2_code 6 (some .long) :: ws) ({ frames := 0, cells := 0, slots := 0, locals := 0 } : Room)) (fun aa U => aa = #[(.long n)] ∧ Z.Warmed39 U.vm ∧ U.heap = h0) (fun _ _ _ _ _ => True) (fun _ U o U' => ∃ v L, o = .returned v ∧ Q1 Z n h0 n0 v U'.heap L ∧ FrameEnd U o U' L ({ frames := 0, cells := 0, slots := 0, locals := 0 } : Room).cells ({ frames := 0, cells := 0, slots := 0, locals := 0 } : Room).slots) := by
  refine MetFree.of_bodySF (plainFor_of_name pn_rm1) hisR ?_
  intro p e s m args below meth c s₁ Bd hml0 hP hK
  obtain ⟨rfl, hZ, hh⟩ := hP
  have hx := Bd.exec
  have hby := Bd.bytes
  have hml : c.maxLocals = 6 := hml0
  have hown : s.vm.findClass "com/example/plumbago/plumbago/archive/Base64Encoder" = some m.cls := findClass_of_methodNamed Bd.named
  have hnm := (name_of_methodNamed Bd.named Bd.method).1
  have X0 : Stand p l e ({ frames := 0, cells := 0, slots := 0, locals := 0 } : Room) s m #[(.long n)] below meth c s₁ [] 0 0 := Stand.of_body Bd
  have e0 : s₁.heap = h0 := by rw [← hh, Bd.state]; rfl
  have N0 := Fr.nil n0
  change OwnEnds p.tables e below _ _
  refine OwnEnds.via (fun t k => castTop (ef_rm1 m n) k) ?_
  show OwnEnds _ _ _ _ (s₁.setTop (mkF m 0 #[.val (.long n), .second, .unset, .unset, .unset, .unset] []))
  refine OwnEnds.via (fun t k => XS.lloadN X0.here hx rfl (hb hby d1_0) rfl k) ?_
  show OwnEnds _ _ _ _ (s₁.setTop (mkF m 1 #[.val (.long n), .second, .unset, .unset, .unset, .unset] [(.long n)]))
  refine OwnEnds.via (fun t k => XS.lconst X0.here hx rfl (hb hby d1_1) k) ?_
  show OwnEnds _ _ _ _ (s₁.setTop (mkF m 2 #[.val (.long n), .second, .unset, .unset, .unset, .unset] [(.long (0 : Int64)), (.long n)]))
  refine OwnEnds.via (fun t k => XS.lcmp X0.here hx rfl (hb hby d1_2) rfl k) ?_
  show OwnEnds _ _ _ _ (s₁.setTop (mkF m 3 #[.val (.long n), .second, .unset, .unset, .unset, .unset] [(.int (lcmpW n (0 : Int64)))]))
  by_cases hc3_1 : (lcmpW n (0 : Int64)) = (0 : Int32)
  ·
    refine OwnEnds.via (fun t k => XS.ifNo X0.here hx rfl (hb hby d1_3) rfl ((if0 _ _).trans (teq hc3_1).2) k) ?_
    show OwnEnds _ _ _ _ (s₁.setTop (mkF m 6 #[.val (.long n), .second, .unset, .unset, .unset, .unset] []))
    refine OwnEnds.via (fun t k => XS.lconst X0.here hx rfl (hb hby d1_6) k) ?_
    show OwnEnds _ _ _ _ (s₁.setTop (mkF m 7 #[.val (.long n), .second, .unset, .unset, .unset, .unset] [(.long (0 : Int64))]))
    obtain ⟨fs, hr, hrun, hended, hW, hsame⟩ := X0.leave (v := some (.long (0 : Int64))) (fun h => by rw [Bd.returns] at h; cases h)
    refine ⟨_, _, ?_, hrun, hended, _, _, rfl, ?_, ⟨_, rfl⟩, hW, hsame.mono (by decide) (by decide)⟩
    · jvm_step X0.here [X0.here.top, hx, (hb hby d1_7), X0.method', Bd.returns, narrow]
      first | (intro acts; rw [hr _ acts rfl rfl rfl]) | rw [hr _ _ rfl rfl rfl]
      exact Steps.refl _
    · show Q1 Z n h0 n0 _ s₁.heap _
      rw [e0]
      exact ⟨(by rw [own_enc, if_pos hc3_1]), N0, rfl⟩
  ·
    refine OwnEnds.via (fun t k => XS.ifYes X0.here hx rfl (pc0 := 3) (pc' := 8) rfl (hb hby d1_3) rfl ((if0 _ _).trans (feq hc3_1).2) (by decide) (by decide) k) ?_
    show OwnEnds _ _ _ _ (s₁.setTop (mkF m 8 #[.val (.long n), .second, .unset, .unset, .unset, .unset] []))
    refine OwnEnds.via (fun t k => XS.lloadN X0.here hx rfl (hb hby d1_8) rfl k) ?_
    show OwnEnds _ _ _ _ (s₁.setTop (mkF m 9 #[.val (.long n), .second, .unset, .unset, .unset, .unset] [(.long n)]))
    refine OwnEnds.via (X0.ldc2Long hx hown (mvT hZ (hw _ (List.mem_of_getElem? (i := 5) rfl))) (g := (mkF m 9 #[.val (.long n), .second, .unset, .unset, .unset, .unset] [(.long n)])) rfl (hb hby d1_9)) ?_
    show OwnEnds _ _ _ _ (s₁.setTop (mkF m 12 #[.val (.long n), .second, .unset, .unset, .unset, .unset] [(.long (2 : Int64)), (.long n)]))
    refine OwnEnds.via (fun t k => XS.ladd X0.here hx rfl (hb hby d1_12) rfl k) ?_
    show OwnEnds _ _ _ _ (s₁.setTop (mkF m 13 #[.val (.long n), .second, .unset, .unset, .unset, .unset] [(.long (n + (2 : Int64)))]))
    refine OwnEnds.via (X0.ldc2Long hx hown (mvT hZ (hw _ (List.mem_of_getElem? (i := 6) rfl))) (g := (mkF m 13 #[.val (.long n), .second, .unset, .unset, .unset, .unset] [(.long (n + (2 : Int64)))])) rfl (hb hby d1_13)) ?_
    show OwnEnds _ _ _ _ (s₁.setTop (mkF m 16 #[.val (.long n), .second, .unset, .unset, .unset, .unset] [(.long (3 : Int64)), (.long (n + (2 : Int64)))]))
    refine OwnEnds.via (fun t k => XS.ldiv X0.here hx rfl (hb hby d1_16) rfl (by decide) k) ?_
    show OwnEnds _ _ _ _ (s₁.setTop (mkF m 17 #[.val (.long n), .second, .unset, .unset, .unset, .unset] [(.long ((n + (2 : Int64)) / (3 : Int64)))]))
    refine OwnEnds.via (X0.ldc2Long hx hown (mvT hZ (hw _ (List.mem_of_getElem? (i := 7) rfl))) (g := (mkF m 17 #[.val (.long n), .second, .unset, .unset, .unset, .unset] [(.long ((n + (2 : Int64)) / (3 : Int64)))])) rfl (hb hby d1_17)) ?_
    show OwnEnds _ _ _ _ (s₁.setTop (mkF m 20 #[.val (.long n), .second, .unset, .unset, .unset, .unset] [(.long (4 : Int64)), (.long ((n + (2 : Int64)) / (3 : Int64)))]))
    refine OwnEnds.via (fun t k => XS.lmul X0.here hx rfl (hb hby d1_20) rfl k) ?_
    show OwnEnds _ _ _ _ (s₁.setTop (mkF m 21 #[.val (.long n), .second, .unset, .unset, .unset, .unset] [(.long (((n + (2 : Int64)) / (3 : Int64)) * (4 : Int64)))]))
    refine OwnEnds.via (fun t k => XS.lstoreN X0.here hx rfl (hb hby d1_21) rfl (l' := #[.val (.long n), .second, .val (.long (((n + (2 : Int64)) / (3 : Int64)) * (4 : Int64))), .second, .unset, .unset]) rfl k) ?_
    show OwnEnds _ _ _ _ (s₁.setTop (mkF m 22 #[.val (.long n), .second, .val (.long (((n + (2 : Int64)) / (3 : Int64)) * (4 : Int64))), .second, .unset, .unset] []))
    refine OwnEnds.via (fun t k => XS.lloadN X0.here hx rfl (hb hby d1_22) rfl k) ?_
    show OwnEnds _ _ _ _ (s₁.setTop (mkF m 23 #[.val (.long n), .second, .val (.long (((n + (2 : Int64)) / (3 : Int64)) * (4 : Int64))), .second, .unset, .unset] [(.long (((n + (2 : Int64)) / (3 : Int64)) * (4 : Int64)))]))
    refine OwnEnds.via (X0.ldc2Long hx hown (mvT hZ (hw _ (List.mem_of_getElem? (i := 8) rfl))) (g := (mkF m 23 #[.val (.long n), .second, .val (.long (((n + (2 : Int64)) / (3 : Int64)) * (4 : Int64))), .second, .unset, .unset] [(.long (((n + (2 : Int64)) / (3 : Int64)) * (4 : Int64)))])) rfl (hb hby d1_23)) ?_
    show OwnEnds _ _ _ _ (s₁.setTop (mkF m 26 #[.val (.long n), .second, .val (.long (((n + (2 : Int64)) / (3 : Int64)) * (4 : Int64))), .second, .unset, .unset] [(.long (76 : Int64)), (.long (((n + (2 : Int64)) / (3 : Int64)) * (4 : Int64)))]))
    refine OwnEnds.via (fun t k => XS.ladd X0.here hx rfl (hb hby d1_26) rfl k) ?_
    show OwnEnds _ _ _ _ (s₁.setTop (mkF m 27 #[.val (.long n), .second, .val (.long (((n + (2 : Int64)) / (3 : Int64)) * (4 : Int64))), .second, .unset, .unset] [(.long ((((n + (2 : Int64)) / (3 : Int64)) * (4 : Int64)) + (76 : Int64)))]))
    refine OwnEnds.via (fun t k => XS.lconst X0.here hx rfl (hb hby d1_27) k) ?_
    show OwnEnds _ _ _ _ (s₁.setTop (mkF m 28 #[.val (.long n), .second, .val (.long (((n + (2 : Int64)) / (3 : Int64)) * (4 : Int64))), .second, .unset, .unset] [(.long (1 : Int64)), (.long ((((n + (2 : Int64)) / (3 : Int64)) * (4 : Int64)) + (76 : Int64)))]))
    refine OwnEnds.via (fun t k => XS.lsub X0.here hx rfl (hb hby d1_28) rfl k) ?_
    show OwnEnds _ _ _ _ (s₁.setTop (mkF m 29 #[.val (.long n), .second, .val (.long (((n + (2 : Int64)) / (3 : Int64)) * (4 : Int64))), .second, .unset, .unset] [(.long (((((n + (2 : Int64)) / (3 : Int64)) * (4 : Int64)) + (76 : Int64)) - (1 : Int64)))]))
    refine OwnEnds.via (X0.ldc2Long hx hown (mvT hZ (hw _ (List.mem_of_getElem? (i := 8) rfl))) (g := (mkF m 29 #[.val (.long n), .second, .val (.long (((n + (2 : Int64)) / (3 : Int64)) * (4 : Int64))), .second, .unset, .unset] [(.long (((((n + (2 : Int64)) / (3 : Int64)) * (4 : Int64)) + (76 : Int64)) - (1 : Int64)))])) rfl (hb hby d1_29)) ?_
    show OwnEnds _ _ _ _ (s₁.setTop (mkF m 32 #[.val (.long n), .second, .val (.long (((n + (2 : Int64)) / (3 : Int64)) * (4 : Int64))), .second, .unset, .unset] [(.long (76 : Int64)), (.long (((((n + (2 : Int64)) / (3 : Int64)) * (4 : Int64)) + (76 : Int64)) - (1 : Int64)))]))
    refine OwnEnds.via (fun t k => XS.ldiv X0.here hx rfl (hb hby d1_32) rfl (by decide) k) ?_
    show OwnEnds _ _ _ _ (s₁.setTop (mkF m 33 #[.val (.long n), .second, .val (.long (((n + (2 : Int64)) / (3 : Int64)) * (4 : Int64))), .second, .unset, .unset] [(.long ((((((n + (2 : Int64)) / (3 : Int64)) * (4 : Int64)) + (76 : Int64)) - (1 : Int64)) / (76 : Int64)))]))
    refine OwnEnds.via (fun t k => XS.lstore X0.here hx rfl (hb hby d1_33) rfl (l' := #[.val (.long n), .second, .val (.long (((n + (2 : Int64)) / (3 : Int64)) * (4 : Int64))), .second, .val (.long ((((((n + (2 : Int64)) / (3 : Int64)) * (4 : Int64)) + (76 : Int64)) - (1 : Int64)) / (76 : Int64))), .second]) rfl k) ?_
    show OwnEnds _ _ _ _ (s₁.setTop (mkF m 35 #[.val (.long n), .second, .val (.long (((n + (2 : Int64)) / (3 : Int64)) * (4 : Int64))), .second, .val (.long ((((((n + (2 : Int64)) / (3 : Int64)) * (4 : Int64)) + (76 : Int64)) - (1 : Int64)) / (76 : Int64))), .second] []))
    refine OwnEnds.via (fun t k => XS.lloadN X0.here hx rfl (hb hby d1_35) rfl k) ?_
    show OwnEnds _ _ _ _ (s₁.setTop (mkF m 36 #[.val (.long n), .second, .val (.long (((n + (2 : Int64)) / (3 : Int64)) * (4 : Int64))), .second, .val (.long ((((((n + (2 : Int64)) / (3 : Int64)) * (4 : Int64)) + (76 : Int64)) - (1 : Int64)) / (76 : Int64))), .second] [(.long (((n + (2 : Int64)) / (3 : Int64)) * (4 : Int64)))]))
    refine OwnEnds.via (X0.ldc2Long hx hown (mvT hZ (hw _ (List.mem_of_getElem? (i := 5) rfl))) (g := (mkF m 36 #[.val (.long n), .second, .val (.long (((n + (2 : Int64)) / (3 : Int64)) * (4 : Int64))), .second, .val (.long ((((((n + (2 : Int64)) / (3 : Int64)) * (4 : Int64)) + (76 : Int64)) - (1 : Int64)) / (76 : Int64))), .second] [(.long (((n + (2 : Int64)) / (3 : Int64)) * (4 : Int64)))])) rfl (hb hby d1_36)) ?_
    show OwnEnds _ _ _ _ (s₁.setTop (mkF m 39 #[.val (.long n), .second, .val (.long (((n + (2 : Int64)) / (3 : Int64)) * (4 : Int64))), .second, .val (.long ((((((n + (2 : Int64)) / (3 : Int64)) * (4 : Int64)) + (76 : Int64)) - (1 : Int64)) / (76 : Int64))), .second] [(.long (2 : Int64)), (.long (((n + (2 : Int64)) / (3 : Int64)) * (4 : Int64)))]))
    refine OwnEnds.via (fun t k => XS.lload X0.here hx rfl (hb hby d1_39) rfl k) ?_
    show OwnEnds _ _ _ _ (s₁.setTop (mkF m 41 #[.val (.long n), .second, .val (.long (((n + (2 : Int64)) / (3 : Int64)) * (4 : Int64))), .second, .val (.long ((((((n + (2 : Int64)) / (3 : Int64)) * (4 : Int64)) + (76 : Int64)) - (1 : Int64)) / (76 : Int64))), .second] [(.long ((((((n + (2 : Int64)) / (3 : Int64)) * (4 : Int64)) + (76 : Int64)) - (1 : Int64)) / (76 : Int64))), (.long (2 : Int64)), (.long (((n + (2 : Int64)) / (3 : Int64)) * (4 : Int64)))]))
    refine OwnEnds.via (fun t k => XS.lconst X0.here hx rfl (hb hby d1_41) k) ?_
    show OwnEnds _ _ _ _ (s₁.setTop (mkF m 42 #[.val (.long n), .second, .val (.long (((n + (2 : Int64)) / (3 : Int64)) * (4 : Int64))), .second, .val (.long ((((((n + (2 : Int64)) / (3 : Int64)) * (4 : Int64)) + (76 : Int64)) - (1 : Int64)) / (76 : Int64))), .second] [(.long (1 : Int64)), (.long ((((((n + (2 : Int64)) / (3 : Int64)) * (4 : Int64)) + (76 : Int64)) - (1 : Int64)) / (76 : Int64))), (.long (2 : Int64)), (.long (((n + (2 : Int64)) / (3 : Int64)) * (4 : Int64)))]))
    refine OwnEnds.via (fun t k => XS.lsub X0.here hx rfl (hb hby d1_42) rfl k) ?_
    show OwnEnds _ _ _ _ (s₁.setTop (mkF m 43 #[.val (.long n), .second, .val (.long (((n + (2 : Int64)) / (3 : Int64)) * (4 : Int64))), .second, .val (.long ((((((n + (2 : Int64)) / (3 : Int64)) * (4 : Int64)) + (76 : Int64)) - (1 : Int64)) / (76 : Int64))), .second] [(.long (((((((n + (2 : Int64)) / (3 : Int64)) * (4 : Int64)) + (76 : Int64)) - (1 : Int64)) / (76 : Int64)) - (1 : Int64))), (.long (2 : Int64)), (.long (((n + (2 : Int64)) / (3 : Int64)) * (4 : Int64)))]))
    refine OwnEnds.via (fun t k => XS.lmul X0.here hx rfl (hb hby d1_43) rfl k) ?_
    show OwnEnds _ _ _ _ (s₁.setTop (mkF m 44 #[.val (.long n), .second, .val (.long (((n + (2 : Int64)) / (3 : Int64)) * (4 : Int64))), .second, .val (.long ((((((n + (2 : Int64)) / (3 : Int64)) * (4 : Int64)) + (76 : Int64)) - (1 : Int64)) / (76 : Int64))), .second] [(.long ((2 : Int64) * (((((((n + (2 : Int64)) / (3 : Int64)) * (4 : Int64)) + (76 : Int64)) - (1 : Int64)) / (76 : Int64)) - (1 : Int64)))), (.long (((n + (2 : Int64)) / (3 : Int64)) * (4 : Int64)))]))
    refine OwnEnds.via (fun t k => XS.ladd X0.here hx rfl (hb hby d1_44) rfl k) ?_
    show OwnEnds _ _ _ _ (s₁.setTop (mkF m 45 #[.val (.long n), .second, .val (.long (((n + (2 : Int64)) / (3 : Int64)) * (4 : Int64))), .second, .val (.long ((((((n + (2 : Int64)) / (3 : Int64)) * (4 : Int64)) + (76 : Int64)) - (1 : Int64)) / (76 : Int64))), .second] [(.long ((((n + (2 : Int64)) / (3 : Int64)) * (4 : Int64)) + ((2 : Int64) * (((((((n + (2 : Int64)) / (3 : Int64)) * (4 : Int64)) + (76 : Int64)) - (1 : Int64)) / (76 : Int64)) - (1 : Int64)))))]))
    obtain ⟨fs, hr, hrun, hended, hW, hsame⟩ := X0.leave (v := some (.long ((((n + (2 : Int64)) / (3 : Int64)) * (4 : Int64)) + ((2 : Int64) * (((((((n + (2 : Int64)) / (3 : Int64)) * (4 : Int64)) + (76 : Int64)) - (1 : Int64)) / (76 : Int64)) - (1 : Int64)))))) (fun h => by rw [Bd.returns] at h; cases h)
    refine ⟨_, _, ?_, hrun, hended, _, _, rfl, ?_, ⟨_, rfl⟩, hW, hsame.mono (by decide) (by decide)⟩
    · jvm_step X0.here [X0.here.top, hx, (hb hby d1_45), X0.method', Bd.returns, narrow]
      first | (intro acts; rw [hr _ acts rfl rfl rfl]) | rw [hr _ _ rfl rfl rfl]
      exact Steps.refl _
    · show Q1 Z n h0 n0 _ s₁.heap _
      rw [e0]
      exact ⟨(by rw [own_enc, if_neg hc3_1]), N0, rfl⟩

theorem d2_0 : decode method_3_code 0 = .ok (.lload_n 0, 1) := by decide +kernel
theorem d2_1 : decode method_3_code 1 = .ok (.lconst 0, 1) := by decide +kernel
theorem d2_2 : decode method_3_code 2 = .ok (.lcmp, 1) := by decide +kernel
theorem d2_3 : decode method_3_code 3 = .ok (.ifCond .ne 5, 3) := by decide +kernel
theorem d2_6 : decode method_3_code 6 = .ok (.lconst 0, 1) := by decide +kernel
theorem d2_7 : decode method_3_code 7 = .ok (.lreturn, 1) := by decide +kernel
theorem d2_8 : decode method_3_code 8 = .ok (.lload_n 0, 1) := by decide +kernel
theorem d2_9 : decode method_3_code 9 = .ok (.lconst 1, 1) := by decide +kernel
theorem d2_10 : decode method_3_code 10 = .ok (.lsub, 1) := by decide +kernel
theorem d2_11 : decode method_3_code 11 = .ok (.ldc2_w 22, 3) := by decide +kernel
theorem d2_14 : decode method_3_code 14 = .ok (.ldiv, 1) := by decide +kernel
theorem d2_15 : decode method_3_code 15 = .ok (.lstore_n 2, 1) := by decide +kernel
theorem d2_16 : decode method_3_code 16 = .ok (.lload_n 0, 1) := by decide +kernel
theorem d2_17 : decode method_3_code 17 = .ok (.ldc2_w 22, 3) := by decide +kernel
theorem d2_20 : decode method_3_code 20 = .ok (.lload_n 2, 1) := by decide +kernel
theorem d2_21 : decode method_3_code 21 = .ok (.lmul, 1) := by decide +kernel
theorem d2_22 : decode method_3_code 22 = .ok (.lsub, 1) := by decide +kernel
theorem d2_23 : decode method_3_code 23 = .ok (.lstore 4, 2) := by decide +kernel
theorem d2_25 : decode method_3_code 25 = .ok (.ldc2_w 24, 3) := by decide +kernel
theorem d2_28 : decode method_3_code 28 = .ok (.lload_n 2, 1) := by decide +kernel
theorem d2_29 : decode method_3_code 29 = .ok (.lmul, 1) := by decide +kernel
theorem d2_30 : decode method_3_code 30 = .ok (.lload 4, 2) := by decide +kernel
theorem d2_32 : decode method_3_code 32 = .ok (.ldc2_w 26, 3) := by decide +kernel
theorem d2_35 : decode method_3_code 35 = .ok (.ladd, 1) := by decide +kernel
theorem d2_36 : decode method_3_code 36 = .ok (.ldc2_w 28, 3) := by decide +kernel
theorem d2_39 : decode method_3_code 39 = .ok (.ldiv, 1) := by decide +kernel
theorem d2_40 : decode method_3_code 40 = .ok (.ldc2_w 30, 3) := by decide +kernel
theorem d2_43 : decode method_3_code 43 = .ok (.lmul, 1) := by decide +kernel
theorem d2_44 : decode method_3_code 44 = .ok (.ladd, 1) := by decide +kernel
theorem d2_45 : decode method_3_code 45 = .ok (.lreturn, 1) := by decide +kernel
theorem pn_rm2 : plainName "com/example/plumbago/plumbago/archive/Base64EncoderEncodedLengthPinLaw" = true := by first | (simp [plainName, overriddenIn]; done) | decide +kernel
theorem ef_rm2 (m : MethodId) (n : Int64) : entryFrame m #[(.long n)] 6 = mkF m 0 #[.val (.long n), .second, .unset, .unset, .unset, .unset] [] := by first | (simp [entryFrame, mkF, argsToLocals, Value.category]; done) | rfl
def Q2 (Z : State) (n : Int64) (h0 : Heap) (n0 : Nat) (v : Option Value) (h : Heap) (L : List Loc) : Prop := v = some (.long (own_ref n)) ∧ Fr n0 L ∧ h = h0
set_option maxRecDepth 65536 in
set_option maxHeartbeats 40000000 in
theorem rm2 (l : Launch) (Z : State) (a0 : Array Value) (hw : ∀ d ∈ tables_1, d.before a0 Z = true) (ws : List Jvm.Cond) (n : Int64) (h0 : Heap) (n0 : Nat) (Z0 : n0 ≤ h0.size)  :
    MetFree l (⟨"com/example/plumbago/plumbago/archive/Base64EncoderEncodedLengthPinLaw", "reference", "(J)J"⟩ : MethodName) (head1 (Jvm.Cond.code (⟨"com/example/plumbago/plumbago/archive/Base64EncoderEncodedLengthPinLaw", "reference", "(J)J"⟩ : MethodName) method_3_code 6 (some .long) :: ws) ({ frames := 0, cells := 0, slots := 0, locals := 0 } : Room)) (fun aa U => aa = #[(.long n)] ∧ Z.Warmed39 U.vm ∧ U.heap = h0) (fun _ _ _ _ _ => True) (fun _ U o U' => ∃ v L, o = .returned v ∧ Q2 Z n h0 n0 v U'.heap L ∧ FrameEnd U o U' L ({ frames := 0, cells := 0, slots := 0, locals := 0 } : Room).cells ({ frames := 0, cells := 0, slots := 0, locals := 0 } : Room).slots) := by
  refine MetFree.of_bodySF (plainFor_of_name pn_rm2) hisR ?_
  intro p e s m args below meth c s₁ Bd hml0 hP hK
  obtain ⟨rfl, hZ, hh⟩ := hP
  have hx := Bd.exec
  have hby := Bd.bytes
  have hml : c.maxLocals = 6 := hml0
  have hown : s.vm.findClass "com/example/plumbago/plumbago/archive/Base64EncoderEncodedLengthPinLaw" = some m.cls := findClass_of_methodNamed Bd.named
  have hnm := (name_of_methodNamed Bd.named Bd.method).1
  have X0 : Stand p l e ({ frames := 0, cells := 0, slots := 0, locals := 0 } : Room) s m #[(.long n)] below meth c s₁ [] 0 0 := Stand.of_body Bd
  have e0 : s₁.heap = h0 := by rw [← hh, Bd.state]; rfl
  have N0 := Fr.nil n0
  change OwnEnds p.tables e below _ _
  refine OwnEnds.via (fun t k => castTop (ef_rm2 m n) k) ?_
  show OwnEnds _ _ _ _ (s₁.setTop (mkF m 0 #[.val (.long n), .second, .unset, .unset, .unset, .unset] []))
  refine OwnEnds.via (fun t k => XS.lloadN X0.here hx rfl (hb hby d2_0) rfl k) ?_
  show OwnEnds _ _ _ _ (s₁.setTop (mkF m 1 #[.val (.long n), .second, .unset, .unset, .unset, .unset] [(.long n)]))
  refine OwnEnds.via (fun t k => XS.lconst X0.here hx rfl (hb hby d2_1) k) ?_
  show OwnEnds _ _ _ _ (s₁.setTop (mkF m 2 #[.val (.long n), .second, .unset, .unset, .unset, .unset] [(.long (0 : Int64)), (.long n)]))
  refine OwnEnds.via (fun t k => XS.lcmp X0.here hx rfl (hb hby d2_2) rfl k) ?_
  show OwnEnds _ _ _ _ (s₁.setTop (mkF m 3 #[.val (.long n), .second, .unset, .unset, .unset, .unset] [(.int (lcmpW n (0 : Int64)))]))
  by_cases hc3_1 : (lcmpW n (0 : Int64)) = (0 : Int32)
  ·
    refine OwnEnds.via (fun t k => XS.ifNo X0.here hx rfl (hb hby d2_3) rfl ((if0 _ _).trans (teq hc3_1).2) k) ?_
    show OwnEnds _ _ _ _ (s₁.setTop (mkF m 6 #[.val (.long n), .second, .unset, .unset, .unset, .unset] []))
    refine OwnEnds.via (fun t k => XS.lconst X0.here hx rfl (hb hby d2_6) k) ?_
    show OwnEnds _ _ _ _ (s₁.setTop (mkF m 7 #[.val (.long n), .second, .unset, .unset, .unset, .unset] [(.long (0 : Int64))]))
    obtain ⟨fs, hr, hrun, hended, hW, hsame⟩ := X0.leave (v := some (.long (0 : Int64))) (fun h => by rw [Bd.returns] at h; cases h)
    refine ⟨_, _, ?_, hrun, hended, _, _, rfl, ?_, ⟨_, rfl⟩, hW, hsame.mono (by decide) (by decide)⟩
    · jvm_step X0.here [X0.here.top, hx, (hb hby d2_7), X0.method', Bd.returns, narrow]
      first | (intro acts; rw [hr _ acts rfl rfl rfl]) | rw [hr _ _ rfl rfl rfl]
      exact Steps.refl _
    · show Q2 Z n h0 n0 _ s₁.heap _
      rw [e0]
      exact ⟨(by rw [own_ref, if_pos hc3_1]), N0, rfl⟩
  ·
    refine OwnEnds.via (fun t k => XS.ifYes X0.here hx rfl (pc0 := 3) (pc' := 8) rfl (hb hby d2_3) rfl ((if0 _ _).trans (feq hc3_1).2) (by decide) (by decide) k) ?_
    show OwnEnds _ _ _ _ (s₁.setTop (mkF m 8 #[.val (.long n), .second, .unset, .unset, .unset, .unset] []))
    refine OwnEnds.via (fun t k => XS.lloadN X0.here hx rfl (hb hby d2_8) rfl k) ?_
    show OwnEnds _ _ _ _ (s₁.setTop (mkF m 9 #[.val (.long n), .second, .unset, .unset, .unset, .unset] [(.long n)]))
    refine OwnEnds.via (fun t k => XS.lconst X0.here hx rfl (hb hby d2_9) k) ?_
    show OwnEnds _ _ _ _ (s₁.setTop (mkF m 10 #[.val (.long n), .second, .unset, .unset, .unset, .unset] [(.long (1 : Int64)), (.long n)]))
    refine OwnEnds.via (fun t k => XS.lsub X0.here hx rfl (hb hby d2_10) rfl k) ?_
    show OwnEnds _ _ _ _ (s₁.setTop (mkF m 11 #[.val (.long n), .second, .unset, .unset, .unset, .unset] [(.long (n - (1 : Int64)))]))
    refine OwnEnds.via (X0.ldc2Long hx hown (mvT hZ (hw _ (List.mem_of_getElem? (i := 13) rfl))) (g := (mkF m 11 #[.val (.long n), .second, .unset, .unset, .unset, .unset] [(.long (n - (1 : Int64)))])) rfl (hb hby d2_11)) ?_
    show OwnEnds _ _ _ _ (s₁.setTop (mkF m 14 #[.val (.long n), .second, .unset, .unset, .unset, .unset] [(.long (57 : Int64)), (.long (n - (1 : Int64)))]))
    refine OwnEnds.via (fun t k => XS.ldiv X0.here hx rfl (hb hby d2_14) rfl (by decide) k) ?_
    show OwnEnds _ _ _ _ (s₁.setTop (mkF m 15 #[.val (.long n), .second, .unset, .unset, .unset, .unset] [(.long ((n - (1 : Int64)) / (57 : Int64)))]))
    refine OwnEnds.via (fun t k => XS.lstoreN X0.here hx rfl (hb hby d2_15) rfl (l' := #[.val (.long n), .second, .val (.long ((n - (1 : Int64)) / (57 : Int64))), .second, .unset, .unset]) rfl k) ?_
    show OwnEnds _ _ _ _ (s₁.setTop (mkF m 16 #[.val (.long n), .second, .val (.long ((n - (1 : Int64)) / (57 : Int64))), .second, .unset, .unset] []))
    refine OwnEnds.via (fun t k => XS.lloadN X0.here hx rfl (hb hby d2_16) rfl k) ?_
    show OwnEnds _ _ _ _ (s₁.setTop (mkF m 17 #[.val (.long n), .second, .val (.long ((n - (1 : Int64)) / (57 : Int64))), .second, .unset, .unset] [(.long n)]))
    refine OwnEnds.via (X0.ldc2Long hx hown (mvT hZ (hw _ (List.mem_of_getElem? (i := 13) rfl))) (g := (mkF m 17 #[.val (.long n), .second, .val (.long ((n - (1 : Int64)) / (57 : Int64))), .second, .unset, .unset] [(.long n)])) rfl (hb hby d2_17)) ?_
    show OwnEnds _ _ _ _ (s₁.setTop (mkF m 20 #[.val (.long n), .second, .val (.long ((n - (1 : Int64)) / (57 : Int64))), .second, .unset, .unset] [(.long (57 : Int64)), (.long n)]))
    refine OwnEnds.via (fun t k => XS.lloadN X0.here hx rfl (hb hby d2_20) rfl k) ?_
    show OwnEnds _ _ _ _ (s₁.setTop (mkF m 21 #[.val (.long n), .second, .val (.long ((n - (1 : Int64)) / (57 : Int64))), .second, .unset, .unset] [(.long ((n - (1 : Int64)) / (57 : Int64))), (.long (57 : Int64)), (.long n)]))
    refine OwnEnds.via (fun t k => XS.lmul X0.here hx rfl (hb hby d2_21) rfl k) ?_
    show OwnEnds _ _ _ _ (s₁.setTop (mkF m 22 #[.val (.long n), .second, .val (.long ((n - (1 : Int64)) / (57 : Int64))), .second, .unset, .unset] [(.long ((57 : Int64) * ((n - (1 : Int64)) / (57 : Int64)))), (.long n)]))
    refine OwnEnds.via (fun t k => XS.lsub X0.here hx rfl (hb hby d2_22) rfl k) ?_
    show OwnEnds _ _ _ _ (s₁.setTop (mkF m 23 #[.val (.long n), .second, .val (.long ((n - (1 : Int64)) / (57 : Int64))), .second, .unset, .unset] [(.long (n - ((57 : Int64) * ((n - (1 : Int64)) / (57 : Int64)))))]))
    refine OwnEnds.via (fun t k => XS.lstore X0.here hx rfl (hb hby d2_23) rfl (l' := #[.val (.long n), .second, .val (.long ((n - (1 : Int64)) / (57 : Int64))), .second, .val (.long (n - ((57 : Int64) * ((n - (1 : Int64)) / (57 : Int64))))), .second]) rfl k) ?_
    show OwnEnds _ _ _ _ (s₁.setTop (mkF m 25 #[.val (.long n), .second, .val (.long ((n - (1 : Int64)) / (57 : Int64))), .second, .val (.long (n - ((57 : Int64) * ((n - (1 : Int64)) / (57 : Int64))))), .second] []))
    refine OwnEnds.via (X0.ldc2Long hx hown (mvT hZ (hw _ (List.mem_of_getElem? (i := 14) rfl))) (g := (mkF m 25 #[.val (.long n), .second, .val (.long ((n - (1 : Int64)) / (57 : Int64))), .second, .val (.long (n - ((57 : Int64) * ((n - (1 : Int64)) / (57 : Int64))))), .second] [])) rfl (hb hby d2_25)) ?_
    show OwnEnds _ _ _ _ (s₁.setTop (mkF m 28 #[.val (.long n), .second, .val (.long ((n - (1 : Int64)) / (57 : Int64))), .second, .val (.long (n - ((57 : Int64) * ((n - (1 : Int64)) / (57 : Int64))))), .second] [(.long (78 : Int64))]))
    refine OwnEnds.via (fun t k => XS.lloadN X0.here hx rfl (hb hby d2_28) rfl k) ?_
    show OwnEnds _ _ _ _ (s₁.setTop (mkF m 29 #[.val (.long n), .second, .val (.long ((n - (1 : Int64)) / (57 : Int64))), .second, .val (.long (n - ((57 : Int64) * ((n - (1 : Int64)) / (57 : Int64))))), .second] [(.long ((n - (1 : Int64)) / (57 : Int64))), (.long (78 : Int64))]))
    refine OwnEnds.via (fun t k => XS.lmul X0.here hx rfl (hb hby d2_29) rfl k) ?_
    show OwnEnds _ _ _ _ (s₁.setTop (mkF m 30 #[.val (.long n), .second, .val (.long ((n - (1 : Int64)) / (57 : Int64))), .second, .val (.long (n - ((57 : Int64) * ((n - (1 : Int64)) / (57 : Int64))))), .second] [(.long ((78 : Int64) * ((n - (1 : Int64)) / (57 : Int64))))]))
    refine OwnEnds.via (fun t k => XS.lload X0.here hx rfl (hb hby d2_30) rfl k) ?_
    show OwnEnds _ _ _ _ (s₁.setTop (mkF m 32 #[.val (.long n), .second, .val (.long ((n - (1 : Int64)) / (57 : Int64))), .second, .val (.long (n - ((57 : Int64) * ((n - (1 : Int64)) / (57 : Int64))))), .second] [(.long (n - ((57 : Int64) * ((n - (1 : Int64)) / (57 : Int64))))), (.long ((78 : Int64) * ((n - (1 : Int64)) / (57 : Int64))))]))
    refine OwnEnds.via (X0.ldc2Long hx hown (mvT hZ (hw _ (List.mem_of_getElem? (i := 15) rfl))) (g := (mkF m 32 #[.val (.long n), .second, .val (.long ((n - (1 : Int64)) / (57 : Int64))), .second, .val (.long (n - ((57 : Int64) * ((n - (1 : Int64)) / (57 : Int64))))), .second] [(.long (n - ((57 : Int64) * ((n - (1 : Int64)) / (57 : Int64))))), (.long ((78 : Int64) * ((n - (1 : Int64)) / (57 : Int64))))])) rfl (hb hby d2_32)) ?_
    show OwnEnds _ _ _ _ (s₁.setTop (mkF m 35 #[.val (.long n), .second, .val (.long ((n - (1 : Int64)) / (57 : Int64))), .second, .val (.long (n - ((57 : Int64) * ((n - (1 : Int64)) / (57 : Int64))))), .second] [(.long (2 : Int64)), (.long (n - ((57 : Int64) * ((n - (1 : Int64)) / (57 : Int64))))), (.long ((78 : Int64) * ((n - (1 : Int64)) / (57 : Int64))))]))
    refine OwnEnds.via (fun t k => XS.ladd X0.here hx rfl (hb hby d2_35) rfl k) ?_
    show OwnEnds _ _ _ _ (s₁.setTop (mkF m 36 #[.val (.long n), .second, .val (.long ((n - (1 : Int64)) / (57 : Int64))), .second, .val (.long (n - ((57 : Int64) * ((n - (1 : Int64)) / (57 : Int64))))), .second] [(.long ((n - ((57 : Int64) * ((n - (1 : Int64)) / (57 : Int64)))) + (2 : Int64))), (.long ((78 : Int64) * ((n - (1 : Int64)) / (57 : Int64))))]))
    refine OwnEnds.via (X0.ldc2Long hx hown (mvT hZ (hw _ (List.mem_of_getElem? (i := 16) rfl))) (g := (mkF m 36 #[.val (.long n), .second, .val (.long ((n - (1 : Int64)) / (57 : Int64))), .second, .val (.long (n - ((57 : Int64) * ((n - (1 : Int64)) / (57 : Int64))))), .second] [(.long ((n - ((57 : Int64) * ((n - (1 : Int64)) / (57 : Int64)))) + (2 : Int64))), (.long ((78 : Int64) * ((n - (1 : Int64)) / (57 : Int64))))])) rfl (hb hby d2_36)) ?_
    show OwnEnds _ _ _ _ (s₁.setTop (mkF m 39 #[.val (.long n), .second, .val (.long ((n - (1 : Int64)) / (57 : Int64))), .second, .val (.long (n - ((57 : Int64) * ((n - (1 : Int64)) / (57 : Int64))))), .second] [(.long (3 : Int64)), (.long ((n - ((57 : Int64) * ((n - (1 : Int64)) / (57 : Int64)))) + (2 : Int64))), (.long ((78 : Int64) * ((n - (1 : Int64)) / (57 : Int64))))]))
    refine OwnEnds.via (fun t k => XS.ldiv X0.here hx rfl (hb hby d2_39) rfl (by decide) k) ?_
    show OwnEnds _ _ _ _ (s₁.setTop (mkF m 40 #[.val (.long n), .second, .val (.long ((n - (1 : Int64)) / (57 : Int64))), .second, .val (.long (n - ((57 : Int64) * ((n - (1 : Int64)) / (57 : Int64))))), .second] [(.long (((n - ((57 : Int64) * ((n - (1 : Int64)) / (57 : Int64)))) + (2 : Int64)) / (3 : Int64))), (.long ((78 : Int64) * ((n - (1 : Int64)) / (57 : Int64))))]))
    refine OwnEnds.via (X0.ldc2Long hx hown (mvT hZ (hw _ (List.mem_of_getElem? (i := 17) rfl))) (g := (mkF m 40 #[.val (.long n), .second, .val (.long ((n - (1 : Int64)) / (57 : Int64))), .second, .val (.long (n - ((57 : Int64) * ((n - (1 : Int64)) / (57 : Int64))))), .second] [(.long (((n - ((57 : Int64) * ((n - (1 : Int64)) / (57 : Int64)))) + (2 : Int64)) / (3 : Int64))), (.long ((78 : Int64) * ((n - (1 : Int64)) / (57 : Int64))))])) rfl (hb hby d2_40)) ?_
    show OwnEnds _ _ _ _ (s₁.setTop (mkF m 43 #[.val (.long n), .second, .val (.long ((n - (1 : Int64)) / (57 : Int64))), .second, .val (.long (n - ((57 : Int64) * ((n - (1 : Int64)) / (57 : Int64))))), .second] [(.long (4 : Int64)), (.long (((n - ((57 : Int64) * ((n - (1 : Int64)) / (57 : Int64)))) + (2 : Int64)) / (3 : Int64))), (.long ((78 : Int64) * ((n - (1 : Int64)) / (57 : Int64))))]))
    refine OwnEnds.via (fun t k => XS.lmul X0.here hx rfl (hb hby d2_43) rfl k) ?_
    show OwnEnds _ _ _ _ (s₁.setTop (mkF m 44 #[.val (.long n), .second, .val (.long ((n - (1 : Int64)) / (57 : Int64))), .second, .val (.long (n - ((57 : Int64) * ((n - (1 : Int64)) / (57 : Int64))))), .second] [(.long ((((n - ((57 : Int64) * ((n - (1 : Int64)) / (57 : Int64)))) + (2 : Int64)) / (3 : Int64)) * (4 : Int64))), (.long ((78 : Int64) * ((n - (1 : Int64)) / (57 : Int64))))]))
    refine OwnEnds.via (fun t k => XS.ladd X0.here hx rfl (hb hby d2_44) rfl k) ?_
    show OwnEnds _ _ _ _ (s₁.setTop (mkF m 45 #[.val (.long n), .second, .val (.long ((n - (1 : Int64)) / (57 : Int64))), .second, .val (.long (n - ((57 : Int64) * ((n - (1 : Int64)) / (57 : Int64))))), .second] [(.long (((78 : Int64) * ((n - (1 : Int64)) / (57 : Int64))) + ((((n - ((57 : Int64) * ((n - (1 : Int64)) / (57 : Int64)))) + (2 : Int64)) / (3 : Int64)) * (4 : Int64))))]))
    obtain ⟨fs, hr, hrun, hended, hW, hsame⟩ := X0.leave (v := some (.long (((78 : Int64) * ((n - (1 : Int64)) / (57 : Int64))) + ((((n - ((57 : Int64) * ((n - (1 : Int64)) / (57 : Int64)))) + (2 : Int64)) / (3 : Int64)) * (4 : Int64))))) (fun h => by rw [Bd.returns] at h; cases h)
    refine ⟨_, _, ?_, hrun, hended, _, _, rfl, ?_, ⟨_, rfl⟩, hW, hsame.mono (by decide) (by decide)⟩
    · jvm_step X0.here [X0.here.top, hx, (hb hby d2_45), X0.method', Bd.returns, narrow]
      first | (intro acts; rw [hr _ acts rfl rfl rfl]) | rw [hr _ _ rfl rfl rfl]
      exact Steps.refl _
    · show Q2 Z n h0 n0 _ s₁.heap _
      rw [e0]
      exact ⟨(by rw [own_ref, if_neg hc3_1]), N0, rfl⟩

theorem pn_rm0 : plainName "com/example/plumbago/plumbago/archive/Base64EncoderEncodedLengthPinLaw" = true := by first | (simp [plainName, overriddenIn]; done) | decide +kernel
theorem pd_0 : parseMethodDescriptor "(J)J" = some ⟨[.long], some .long⟩ := by decide +kernel
theorem ef_rm0 (m : MethodId) (x0 : Int64) (s0 : Int32) : entryFrame m #[(.long x0), (.int s0)] maxLocals = mkF m 0 #[.val (.long x0), .second, .val (.int s0), .unset, .unset, .unset, .unset] [] := by first | (simp [entryFrame, mkF, argsToLocals, Value.category, maxLocals]; done) | rfl
def Q0 (Z : State) (x0 : Int64) (s0 : Int32) (h0 : Heap) (n0 : Nat) (v : Option Value) (h : Heap) (L : List Loc) : Prop := v = some (.int (1 : Int32)) ∧ Fr n0 L
set_option maxRecDepth 65536 in
set_option maxHeartbeats 40000000 in
theorem rm0 (l : Launch) (Z : State) (a0 : Array Value) (hw : ∀ d ∈ tables_1, d.before a0 Z = true) (ws : List Jvm.Cond) (x0 : Int64) (s0 : Int32) (h0 : Heap) (n0 : Nat) (Z0 : n0 ≤ h0.size)  :
    MetFree l x (head1 (Jvm.Cond.code x code maxLocals ret :: ws) room_1) (fun aa U => aa = #[(.long x0), (.int s0)] ∧ Z.Warmed39 U.vm ∧ U.heap = h0) (fun _ _ _ _ _ => True) (fun _ U o U' => ∃ v L, o = .returned v ∧ Q0 Z x0 s0 h0 n0 v U'.heap L ∧ FrameEnd U o U' L room_1.cells room_1.slots) := by
  refine MetFree.of_bodySF (plainFor_of_name pn_rm0) hisR ?_
  intro p e s m args below meth c s₁ Bd hml0 hP hK
  obtain ⟨rfl, hZ, hh⟩ := hP
  have hx := Bd.exec
  have hby := Bd.bytes
  have hml : c.maxLocals = 7 := hml0
  have hown : s.vm.findClass "com/example/plumbago/plumbago/archive/Base64EncoderEncodedLengthPinLaw" = some m.cls := findClass_of_methodNamed Bd.named
  have hnm := (name_of_methodNamed Bd.named Bd.method).1
  have X0 : Stand p l e room_1 s m #[(.long x0), (.int s0)] below meth c s₁ [] 0 0 := Stand.of_body Bd
  have e0 : s₁.heap = h0 := by rw [← hh, Bd.state]; rfl
  have N0 := Fr.nil n0
  change OwnEnds p.tables e below _ _
  refine OwnEnds.via (fun t k => castTop (ef_rm0 m x0 s0) k) ?_
  show OwnEnds _ _ _ _ (s₁.setTop (mkF m 0 #[.val (.long x0), .second, .val (.int s0), .unset, .unset, .unset, .unset] []))
  refine OwnEnds.via (fun t k => XS.iloadN X0.here hx rfl (hb hby at_0) rfl k) ?_
  show OwnEnds _ _ _ _ (s₁.setTop (mkF m 1 #[.val (.long x0), .second, .val (.int s0), .unset, .unset, .unset, .unset] [(.int s0)]))
  refine OwnEnds.via (fun t k => XS.iconst X0.here hx rfl (hb hby at_1) k) ?_
  show OwnEnds _ _ _ _ (s₁.setTop (mkF m 2 #[.val (.long x0), .second, .val (.int s0), .unset, .unset, .unset, .unset] [(.int (1 : Int32)), (.int s0)]))
  refine OwnEnds.via (fun t k => XS.iand X0.here hx rfl (hb hby at_2) rfl k) ?_
  show OwnEnds _ _ _ _ (s₁.setTop (mkF m 3 #[.val (.long x0), .second, .val (.int s0), .unset, .unset, .unset, .unset] [(.int (s0 &&& (1 : Int32)))]))
  refine OwnEnds.cut (fun G => ∀ (T1 : State) (lc1 : List Loc) (X1 : Stand p l e room_1 s m #[(.long x0), (.int s0)] below meth c T1 lc1 0 0) (e1 : T1.heap = h0) (N1 : Fr n0 lc1) (n : Int64) (hj1_0 : 0 ≤ n.toInt) (hj1_1 : n.toInt < 4611686018427387904), G (T1.setTop (mkF m 19 #[.val (.long x0), .second, .val (.int s0), .unset, .unset, .unset, .unset] [(.long n)]))) ?_ ?_
  · intro T1 lc1 X1 e1 N1 n hj1_0 hj1_1
    show OwnEnds _ _ _ _ (T1.setTop (mkF m 19 #[.val (.long x0), .second, .val (.int s0), .unset, .unset, .unset, .unset] [(.long n)]))
    refine OwnEnds.via (fun t k => XS.lstoreN X1.here hx rfl (hb hby at_19) rfl (l' := #[.val (.long x0), .second, .val (.int s0), .val (.long n), .second, .unset, .unset]) rfl k) ?_
    show OwnEnds _ _ _ _ (T1.setTop (mkF m 20 #[.val (.long x0), .second, .val (.int s0), .val (.long n), .second, .unset, .unset] []))
    refine OwnEnds.via (fun t k => XS.lloadN X1.here hx rfl (hb hby at_20) rfl k) ?_
    show OwnEnds _ _ _ _ (T1.setTop (mkF m 21 #[.val (.long x0), .second, .val (.int s0), .val (.long n), .second, .unset, .unset] [(.long n)]))
    obtain ⟨_, _, ⟨T2, L2, k2, n2⟩, -, X2, ⟨Lc2, hQ2, l2, y2, z2⟩, st2⟩ := Jvm.LawKit.callS X1 hx (y := (⟨"com/example/plumbago/plumbago/archive/Base64Encoder", "encodedLength", "(J)J"⟩ : MethodName)) hown (mvT hZ (hw _ (List.mem_of_getElem? (i := 1) rfl))) (mvT hZ (hw _ (List.mem_of_getElem? (i := 2) rfl))) (mvT hZ (hw _ (List.mem_of_getElem? (i := 3) rfl))) (mvT hZ (hw _ (List.mem_of_getElem? (i := 4) rfl))) (by decide) (backOf (W := 0) (rm1 l Z a0 hw [] n h0 n0 Z0 ) hZ (hw _ (List.mem_of_getElem? (i := 4) rfl)) (hw _ (List.mem_of_getElem? (i := 3) rfl)) (by decide) (by decide)) (g := (mkF m 21 #[.val (.long x0), .second, .val (.int s0), .val (.long n), .second, .unset, .unset] [(.long n)])) rfl (by rw [hml]; rfl) (argsL := [(.long n)]) (rest := []) (lenOf pd_0 rfl) rfl (by show 2 * 0 + _ ≤ _; exact Nat.le_of_eq rfl) (hb hby at_21) (fun _ _ => ⟨rfl, e1, (by decide : 0 + 0 ≤ _), (by decide : 0 + 0 ≤ _)⟩)
    dsimp only [Pt.U, Pt.locs, Pt.cells, Pt.slots] at X2 l2 y2 z2 st2 hQ2
    subst l2 y2 z2
    obtain ⟨rfl, Nq2, e2⟩ := hQ2
    have N2 := Fr.app N1 Nq2
    refine OwnEnds.via st2 ?_
    show OwnEnds _ _ _ _ (T2.setTop (mkF m 24 #[.val (.long x0), .second, .val (.int s0), .val (.long n), .second, .unset, .unset] [(.long (own_enc n))]))
    refine OwnEnds.via (fun t k => XS.lstore X2.here hx rfl (hb hby at_24) rfl (l' := #[.val (.long x0), .second, .val (.int s0), .val (.long n), .second, .val (.long (own_enc n)), .second]) rfl k) ?_
    show OwnEnds _ _ _ _ (T2.setTop (mkF m 26 #[.val (.long x0), .second, .val (.int s0), .val (.long n), .second, .val (.long (own_enc n)), .second] []))
    refine OwnEnds.via (fun t k => XS.lload X2.here hx rfl (hb hby at_26) rfl k) ?_
    show OwnEnds _ _ _ _ (T2.setTop (mkF m 28 #[.val (.long x0), .second, .val (.int s0), .val (.long n), .second, .val (.long (own_enc n)), .second] [(.long (own_enc n))]))
    refine OwnEnds.via (fun t k => XS.lloadN X2.here hx rfl (hb hby at_28) rfl k) ?_
    show OwnEnds _ _ _ _ (T2.setTop (mkF m 29 #[.val (.long x0), .second, .val (.int s0), .val (.long n), .second, .val (.long (own_enc n)), .second] [(.long n), (.long (own_enc n))]))
    obtain ⟨_, _, ⟨T3, L3, k3, n3⟩, -, X3, ⟨Lc3, hQ3, l3, y3, z3⟩, st3⟩ := Jvm.LawKit.callS X2 hx (y := (⟨"com/example/plumbago/plumbago/archive/Base64EncoderEncodedLengthPinLaw", "reference", "(J)J"⟩ : MethodName)) hown (mvT hZ (hw _ (List.mem_of_getElem? (i := 9) rfl))) (mvT hZ (hw _ (List.mem_of_getElem? (i := 10) rfl))) (mvT hZ (hw _ (List.mem_of_getElem? (i := 11) rfl))) (mvT hZ (hw _ (List.mem_of_getElem? (i := 12) rfl))) (by decide) (backOf (W := 2) (rm2 l Z a0 hw [] n h0 n0 Z0 ) hZ (hw _ (List.mem_of_getElem? (i := 12) rfl)) (hw _ (List.mem_of_getElem? (i := 11) rfl)) (by decide) (by decide)) (g := (mkF m 29 #[.val (.long x0), .second, .val (.int s0), .val (.long n), .second, .val (.long (own_enc n)), .second] [(.long n), (.long (own_enc n))])) rfl (by rw [hml]; rfl) (argsL := [(.long n)]) (rest := [(.long (own_enc n))]) (lenOf pd_0 rfl) rfl (by show 2 * 0 + _ ≤ _; exact Nat.le_of_eq rfl) (hb hby at_29) (fun _ _ => ⟨rfl, e2, (by decide : 0 + 0 ≤ _), (by decide : 0 + 0 ≤ _)⟩)
    dsimp only [Pt.U, Pt.locs, Pt.cells, Pt.slots] at X3 l3 y3 z3 st3 hQ3
    subst l3 y3 z3
    obtain ⟨rfl, Nq3, e3⟩ := hQ3
    have N3 := Fr.app N2 Nq3
    refine OwnEnds.via st3 ?_
    show OwnEnds _ _ _ _ (T3.setTop (mkF m 32 #[.val (.long x0), .second, .val (.int s0), .val (.long n), .second, .val (.long (own_enc n)), .second] [(.long (own_ref n)), (.long (own_enc n))]))
    refine OwnEnds.via (fun t k => XS.lcmp X3.here hx rfl (hb hby at_32) rfl k) ?_
    show OwnEnds _ _ _ _ (T3.setTop (mkF m 33 #[.val (.long x0), .second, .val (.int s0), .val (.long n), .second, .val (.long (own_enc n)), .second] [(.int (lcmpW (own_enc n) (own_ref n)))]))
    refine OwnEnds.via (fun t k => XS.ifNo X3.here hx rfl (hb hby at_33) rfl ((if0 _ _).trans (teq ((lw_eq _ _).mpr (own_eq n hj1_0 hj1_1))).2) k) ?_
    show OwnEnds _ _ _ _ (T3.setTop (mkF m 36 #[.val (.long x0), .second, .val (.int s0), .val (.long n), .second, .val (.long (own_enc n)), .second] []))
    refine OwnEnds.via (fun t k => XS.iconst X3.here hx rfl (hb hby at_36) k) ?_
    show OwnEnds _ _ _ _ (T3.setTop (mkF m 37 #[.val (.long x0), .second, .val (.int s0), .val (.long n), .second, .val (.long (own_enc n)), .second] [(.int (1 : Int32))]))
    refine OwnEnds.via (fun t k => XS.goto X3.here hx rfl (pc0 := 37) (pc' := 41) rfl (hb hby at_37) (by decide) (by decide) k) ?_
    show OwnEnds _ _ _ _ (T3.setTop (mkF m 41 #[.val (.long x0), .second, .val (.int s0), .val (.long n), .second, .val (.long (own_enc n)), .second] [(.int (1 : Int32))]))
    obtain ⟨fs, hr, hrun, hended, hW, hsame⟩ := X3.leave (v := some (.int (1 : Int32))) (fun h => by rw [Bd.returns] at h; cases h)
    refine ⟨_, _, ?_, hrun, hended, _, _, rfl, ?_, ⟨_, rfl⟩, hW, hsame.mono (by decide) (by decide)⟩
    · exact retN X3 hx (t := .boolean) Bd.returns (by simp) (hb hby at_41) hr
    · show Q0 Z x0 s0 h0 n0 _ T3.heap _
      rw [e3]
      exact ⟨rfl, N3⟩
  intro J1
  by_cases hc3_4 : (s0 &&& (1 : Int32)) = (0 : Int32)
  ·
    refine OwnEnds.via (fun t k => XS.ifYes X0.here hx rfl (pc0 := 3) (pc' := 14) rfl (hb hby at_3) rfl ((if0 _ _).trans (teq hc3_4).1) (by decide) (by decide) k) ?_
    show OwnEnds _ _ _ _ (s₁.setTop (mkF m 14 #[.val (.long x0), .second, .val (.int s0), .unset, .unset, .unset, .unset] []))
    refine OwnEnds.via (fun t k => XS.lloadN X0.here hx rfl (hb hby at_14) rfl k) ?_
    show OwnEnds _ _ _ _ (s₁.setTop (mkF m 15 #[.val (.long x0), .second, .val (.int s0), .unset, .unset, .unset, .unset] [(.long x0)]))
    refine OwnEnds.via (X0.ldc2Long hx hown (mvT hZ (hw _ (List.mem_of_getElem? (i := 0) rfl))) (g := (mkF m 15 #[.val (.long x0), .second, .val (.int s0), .unset, .unset, .unset, .unset] [(.long x0)])) rfl (hb hby at_15)) ?_
    show OwnEnds _ _ _ _ (s₁.setTop (mkF m 18 #[.val (.long x0), .second, .val (.int s0), .unset, .unset, .unset, .unset] [(.long (4611686018427387903 : Int64)), (.long x0)]))
    refine OwnEnds.via (fun t k => XS.land X0.here hx rfl (hb hby at_18) rfl k) ?_
    exact J1 _ _ X0 e0 N0 (x0 &&& (4611686018427387903 : Int64)) (own_lo x0 _ 62 (by decide) (by decide)).1 (own_lo x0 _ 62 (by decide) (by decide)).2
  ·
    refine OwnEnds.via (fun t k => XS.ifNo X0.here hx rfl (hb hby at_3) rfl ((if0 _ _).trans (feq hc3_4).1) k) ?_
    show OwnEnds _ _ _ _ (s₁.setTop (mkF m 6 #[.val (.long x0), .second, .val (.int s0), .unset, .unset, .unset, .unset] []))
    refine OwnEnds.via (fun t k => XS.lloadN X0.here hx rfl (hb hby at_6) rfl k) ?_
    show OwnEnds _ _ _ _ (s₁.setTop (mkF m 7 #[.val (.long x0), .second, .val (.int s0), .unset, .unset, .unset, .unset] [(.long x0)]))
    refine OwnEnds.via (X0.ldc2Long hx hown (mvT hZ (hw _ (List.mem_of_getElem? (i := 18) rfl))) (g := (mkF m 7 #[.val (.long x0), .second, .val (.int s0), .unset, .unset, .unset, .unset] [(.long x0)])) rfl (hb hby at_7)) ?_
    show OwnEnds _ _ _ _ (s₁.setTop (mkF m 10 #[.val (.long x0), .second, .val (.int s0), .unset, .unset, .unset, .unset] [(.long (255 : Int64)), (.long x0)]))
    refine OwnEnds.via (fun t k => XS.land X0.here hx rfl (hb hby at_10) rfl k) ?_
    show OwnEnds _ _ _ _ (s₁.setTop (mkF m 11 #[.val (.long x0), .second, .val (.int s0), .unset, .unset, .unset, .unset] [(.long (x0 &&& (255 : Int64)))]))
    refine OwnEnds.via (fun t k => XS.goto X0.here hx rfl (pc0 := 11) (pc' := 19) rfl (hb hby at_11) (by decide) (by decide) k) ?_
    exact J1 _ _ X0 e0 N0 (x0 &&& (255 : Int64)) (own_lo x0 _ 8 (by decide) (by decide)).1 (own_lo x0 _ 8 (by decide) (by decide)).2

set_option maxRecDepth 65536 in
set_option maxHeartbeats 40000000 in
theorem comes_1 {Post : Tables → Env → Array Value → State → Outcome → State → Prop} (hpost : ∀ tb e args s v u, (limb_1_1.after args s (.returned v) u = true ∧ limb_1_2.after args s (.returned v) u = true ∧ True) → FrameEnd s (.returned v) u (Jvm.fieldLocs frame_1_writes args s ++ Jvm.arrayLocs frame_1_arrays args s ++ Jvm.staticLocs frame_1_statics s) 0 0 → Post tb e args s (.returned v) u) :
    ArmFor flags0 classFile x code maxLocals ret World_1 tables_1 room_1 Calls_1 rest_1 Pre_1 Post := by
  intro l hfl _ _ p e ha hc hk s m args below hf hA hF happ hP
  obtain ⟨hcalls, hrest, hpre⟩ := hP
  obtain ⟨-, -, -, hnamed, -, -, -, hat⟩ := (Spec.applies_iff hf).mp happ
  obtain ⟨hg, hn⟩ := and_e (Cond.before_iff.mp (show (Jvm.Cond.and given_1 narrow_1).before args s = true from hpre))
  obtain ⟨hg0, hh0⟩ := and_e hg
  obtain ⟨hg1, hh1⟩ := and_e hh0
  obtain ⟨w0, w1, rfl⟩ : ∃ w0 w1 : Value, args = #[w0, w1] := by
    have hs : args.size = 2 := by simpa [Cond.value, given_1] using hg0
    obtain ⟨L⟩ := args
    match L, hs with
    | [w0, w1], _ => exact ⟨w0, w1, rfl⟩
  have hw := fun d (hd : d ∈ tables_1) => atoms_spec (ws := Jvm.Cond.code x code maxLocals ret :: tables_1) hat d (List.mem_cons_of_mem _ hd)
  have hfit : Fit s := fun {y c} hc i hi => by
    obtain ⟨ha, rfl⟩ := Array.getElem?_eq_some_iff.mp hc
    have q := List.all_eq_true.mp ((Array.all_eq_true_iff_forall_mem.mp hF) _ (Array.getElem_mem ha)) i (List.mem_range.mpr hi)
    simpa [Array.getElem?_eq_getElem hi] using q
  obtain ⟨i0, ei0⟩ := isL_v hg1
  obtain rfl : w0 = (.long i0) := Option.some.inj ei0
  obtain ⟨i1, ei1⟩ := is_v hh1
  obtain rfl : w1 = (.int i1) := Option.some.inj ei1
  obtain ⟨n, o, h1, h2, h3, _, L, rfl, ⟨rfl, N⟩, hq⟩ := rm0 l s _ hw tables_1 i0 i1 s.heap s.heap.size (Nat.le_refl _) p e ha hc hk s m _ below hf ((Spec.applies_iff_loose hf).mp happ).1 ⟨rfl, State.Warmed39.refl s, rfl⟩ trivial
  refine ⟨n, _, h1, h2, h3, hpost _ _ _ _ _ _ ⟨Cond.after_iff.mpr rfl, Cond.after_iff.mpr (eq_i res_at (Term.int_eval (1)) rfl), trivial⟩ ⟨hq.1, hq.2.1, (hq.2.2.sift fun y hy => Or.inr (N y hy)).mono (by decide) (by decide)⟩⟩
theorem main_1_1 : Claimed_1_1 := comes_1 fun _ _ _ _ _ _ h hF => ⟨h.1, hF⟩
theorem main_1_2 : Claimed_1_2 := comes_1 fun _ _ _ _ _ _ h hF => ⟨h.2.1, hF⟩
end Jvm.Pilot.@@N@@
namespace Jvm.Pilot.@@N@@
open Jvm Jvm.ClassFile Sem Op Lib Jvm.Free Jvm.Stand Jvm.Pilot.@@N@@.Jvm.D
/-! MADE BY PROGRAM (witnessworld.py) out of the Statement's table words and the real class files: 14 classes; the members and pool entries that the words name. The judged class is class 1, her method 1. -/
namespace start1
open Jvm.ClassFile
def u (s : String) : CpInfo := .utf8 (stringToUtf16 s)
/-- a pool by its gaps: so many unusable entries, then the entry; so many at the end -/
def gap : Nat → List CpInfo → List CpInfo
  | 0, r => r
  | n + 1, r => .unusable :: gap n r
def poolList (es : List (Nat × CpInfo)) (last : Nat) : List CpInfo := es.foldr (fun e r => gap e.1 (e.2 :: r)) (gap last [])
def pool (es : List (Nat × CpInfo)) (last : Nat) : Array CpInfo := ⟨poolList es last⟩
def fileOf (pool : Array CpInfo) (this : Nat) (attrs : Array Attribute := #[]) (ms : Array MethodInfo := #[]) (fl : Nat := 33) (sup : Nat := 0) (ifs : Array Nat := #[]) (fds : Array FieldInfo := #[]) : ClassFile where
  minorVersion := 0
  majorVersion := 65
  constantPool := pool
  accessFlags := fl
  thisClass := this
  superClass := sup
  interfaces := ifs
  fields := fds
  methods := ms
  attributes := attrs
def plain (name : String) (sup : Option ClassId) : Class where
  name := name
  kind := .ordinary
  loader := none
  accessFlags := 33
  super := sup
  interfaces := #[]
  cf := none
  fields := #[]
  methods := #[]
  instanceTypes := #[]
  staticTypes := #[]
  resolved := #[]
  callSites := []
  init := .initialized
  statics := none
  mirror := none

def pool0 : Array CpInfo := pool [(5, u "<init>"), (0, u "()V"), (1, .class_ 10), (1, u "java/lang/Object")] 113

def k0m0 : Method := { name := "<init>", desc := "()V", sig := { parameters := [], returnType := none }, accessFlags := 1, code := none }
/-- java/lang/Object -/
def k0 : Class := { plain "java/lang/Object" none with
  accessFlags := 33
  interfaces := #[]
  cf := some (fileOf pool0 8 #[] #[{ accessFlags := 1, nameIndex := 5, descriptorIndex := 6, attributes := #[] }] 33 0 #[] #[])
  fields := #[]
  methods := #[k0m0]
  instanceTypes := #[]
  staticTypes := #[]
  resolved := Array.replicate 124 none
  statics := none }

def pool1 : Array CpInfo := pool [(2, .class_ 4), (1, u "java/lang/Object"), (0, u "<init>"), (0, u "()V"), (0, .long 255), (1, .long 4611686018427387903), (1, .methodref 12 13), (0, .class_ 14), (0, .nameAndType 15 16), (0, u "com/example/plumbago/plumbago/archive/Base64Encoder"), (0, u "encodedLength"), (0, u "(J)J"), (0, .methodref 18 19), (0, .class_ 20), (0, .nameAndType 21 16), (0, u "com/example/plumbago/plumbago/archive/Base64EncoderEncodedLengthPinLaw"), (0, u "reference"), (0, .long 57), (1, .long 78), (1, .long 2), (1, .long 3), (1, .long 4), (3, u "law"), (0, u "(JI)Z")] 3

def k1m0 : Method := { name := "<init>", desc := "()V", sig := { parameters := [], returnType := none }, accessFlags := 1, code := none }
def k1c1 : Code := { maxStack := 4, maxLocals := 7, code := code, exceptionTable := #[], attributes := #[] }
def k1m1 : Method := { name := "law", desc := "(JI)Z", sig := { parameters := [.long, .int], returnType := some .boolean }, accessFlags := 9, code := some k1c1 }
def k1c2 : Code := { maxStack := 6, maxLocals := 6, code := method_3_code, exceptionTable := #[], attributes := #[] }
def k1m2 : Method := { name := "reference", desc := "(J)J", sig := { parameters := [.long], returnType := some .long }, accessFlags := 10, code := some k1c2 }
/-- com/example/plumbago/plumbago/archive/Base64EncoderEncodedLengthPinLaw -/
def k1 : Class := { plain "com/example/plumbago/plumbago/archive/Base64EncoderEncodedLengthPinLaw" (some 0) with
  accessFlags := 49
  interfaces := #[]
  cf := some (fileOf pool1 18 #[] #[{ accessFlags := 1, nameIndex := 5, descriptorIndex := 6, attributes := #[] }, { accessFlags := 9, nameIndex := 34, descriptorIndex := 35, attributes := #[] }, { accessFlags := 10, nameIndex := 21, descriptorIndex := 16, attributes := #[] }] 49 2 #[] #[])
  fields := #[]
  methods := #[k1m0, k1m1, k1m2]
  instanceTypes := #[]
  staticTypes := #[]
  resolved := Array.replicate 39 none
  statics := none }

def pool2 : Array CpInfo := pool [(1, .class_ 2), (0, u "java/lang/AutoCloseable"), (0, .class_ 4), (0, u "java/lang/Object")] 7

/-- java/lang/AutoCloseable -/
def k2 : Class := { plain "java/lang/AutoCloseable" (some 0) with
  accessFlags := 1537
  interfaces := #[]
  cf := some (fileOf pool2 1 #[] #[] 1537 3 #[] #[])
  fields := #[]
  methods := #[]
  instanceTypes := #[]
  staticTypes := #[]
  resolved := Array.replicate 12 none
  statics := none }

def pool3 : Array CpInfo := pool [(1, .class_ 2), (0, u "java/io/Closeable"), (0, .class_ 4), (0, u "java/lang/Object"), (0, .class_ 6), (0, u "java/lang/AutoCloseable")] 7

/-- java/io/Closeable -/
def k3 : Class := { plain "java/io/Closeable" (some 0) with
  accessFlags := 1537
  interfaces := #[2]
  cf := some (fileOf pool3 1 #[] #[] 1537 3 #[5] #[])
  fields := #[]
  methods := #[]
  instanceTypes := #[]
  staticTypes := #[]
  resolved := Array.replicate 14 none
  statics := none }

def pool4 : Array CpInfo := pool [(1, .class_ 2), (0, u "java/io/Flushable"), (0, .class_ 4), (0, u "java/lang/Object")] 7

/-- java/io/Flushable -/
def k4 : Class := { plain "java/io/Flushable" (some 0) with
  accessFlags := 1537
  interfaces := #[]
  cf := some (fileOf pool4 1 #[] #[] 1537 3 #[] #[])
  fields := #[]
  methods := #[]
  instanceTypes := #[]
  staticTypes := #[]
  resolved := Array.replicate 12 none
  statics := none }

def pool5 : Array CpInfo := pool [(2, .class_ 4), (1, u "java/lang/Object"), (0, u "<init>"), (0, u "()V"), (0, .class_ 8), (0, u "java/io/OutputStream$1"), (2, .class_ 13), (1, u "java/io/OutputStream"), (11, .class_ 26), (0, u "java/io/Closeable"), (0, .class_ 28), (0, u "java/io/Flushable")] 24

def k5m0 : Method := { name := "<init>", desc := "()V", sig := { parameters := [], returnType := none }, accessFlags := 1, code := none }
/-- java/io/OutputStream -/
def k5 : Class := { plain "java/io/OutputStream" (some 0) with
  accessFlags := 1057
  interfaces := #[3, 4]
  cf := some (fileOf pool5 11 #[.nestMembers #[7]] #[{ accessFlags := 1, nameIndex := 5, descriptorIndex := 6, attributes := #[] }] 1057 2 #[25, 27] #[])
  fields := #[]
  methods := #[k5m0]
  instanceTypes := #[]
  staticTypes := #[]
  resolved := Array.replicate 53 none
  statics := none }

def pool6 : Array CpInfo := pool [(2, .class_ 4), (1, u "java/io/OutputStream"), (3, .class_ 10), (1, u "com/example/plumbago/plumbago/archive/LineEncoder"), (0, u "lines"), (0, u "Lcom/example/plumbago/plumbago/archive/ArchiveLineWriter;"), (2, u "pending"), (0, u "[B"), (6, u "closed"), (0, u "Z"), (9, u "count"), (0, u "I")] 28

/-- com/example/plumbago/plumbago/archive/LineEncoder -/
def k6 : Class := { plain "com/example/plumbago/plumbago/archive/LineEncoder" (some 5) with
  accessFlags := 1056
  interfaces := #[]
  cf := some (fileOf pool6 8 #[] #[] 1056 2 #[] #[{ accessFlags := 16, nameIndex := 11, descriptorIndex := 12, attributes := #[] }, { accessFlags := 16, nameIndex := 15, descriptorIndex := 16, attributes := #[] }, { accessFlags := 0, nameIndex := 34, descriptorIndex := 35, attributes := #[] }, { accessFlags := 2, nameIndex := 23, descriptorIndex := 24, attributes := #[] }])
  fields := #[{ name := "lines", type := (.object "com/example/plumbago/plumbago/archive/ArchiveLineWriter"), accessFlags := 16, slot := 0, constantValue := 0 }, { name := "pending", type := (.array .byte), accessFlags := 16, slot := 1, constantValue := 0 }, { name := "count", type := .int, accessFlags := 0, slot := 2, constantValue := 0 }, { name := "closed", type := .boolean, accessFlags := 2, slot := 3, constantValue := 0 }]
  methods := #[]
  instanceTypes := #[(.object "com/example/plumbago/plumbago/archive/ArchiveLineWriter"), (.array .byte), .int, .boolean]
  staticTypes := #[]
  resolved := Array.replicate 64 none
  statics := none }

def pool7 : Array CpInfo := pool [(3, .class_ 4), (0, u "com/example/plumbago/plumbago/archive/Base64Encoder"), (1, .class_ 8), (1, u "com/example/plumbago/plumbago/archive/LineEncoder"), (10, u "encoder"), (0, u "Ljava/util/Base64$Encoder;"), (2, u "encoded"), (0, u "[B"), (0, .long 2), (1, .long 3), (1, .long 4), (1, .long 76), (17, u "I"), (23, u "LINE_CHARACTERS"), (2, u "LINE_OCTETS"), (1, u "BLOCK_LINES"), (4, u "encodedLength"), (0, u "(J)J")] 12

def k7c0 : Code := { maxStack := 8, maxLocals := 6, code := prog_18_method_2_code, exceptionTable := #[], attributes := #[] }
def k7m0 : Method := { name := "encodedLength", desc := "(J)J", sig := { parameters := [.long], returnType := some .long }, accessFlags := 8, code := some k7c0 }
/-- com/example/plumbago/plumbago/archive/Base64Encoder -/
def k7 : Class := { plain "com/example/plumbago/plumbago/archive/Base64Encoder" (some 6) with
  accessFlags := 48
  interfaces := #[]
  cf := some (fileOf pool7 3 #[] #[{ accessFlags := 8, nameIndex := 83, descriptorIndex := 84, attributes := #[] }] 48 6 #[] #[{ accessFlags := 26, nameIndex := 73, descriptorIndex := 49, attributes := #[] }, { accessFlags := 26, nameIndex := 76, descriptorIndex := 49, attributes := #[] }, { accessFlags := 26, nameIndex := 78, descriptorIndex := 49, attributes := #[] }, { accessFlags := 18, nameIndex := 19, descriptorIndex := 20, attributes := #[] }, { accessFlags := 18, nameIndex := 23, descriptorIndex := 24, attributes := #[] }])
  fields := #[{ name := "LINE_CHARACTERS", type := .int, accessFlags := 26, slot := 0, constantValue := 0 }, { name := "LINE_OCTETS", type := .int, accessFlags := 26, slot := 1, constantValue := 0 }, { name := "BLOCK_LINES", type := .int, accessFlags := 26, slot := 2, constantValue := 0 }, { name := "encoder", type := (.object "java/util/Base64$Encoder"), accessFlags := 18, slot := 4, constantValue := 0 }, { name := "encoded", type := (.array .byte), accessFlags := 18, slot := 5, constantValue := 0 }]
  methods := #[k7m0]
  instanceTypes := #[(.object "com/example/plumbago/plumbago/archive/ArchiveLineWriter"), (.array .byte), .int, .boolean, (.object "java/util/Base64$Encoder"), (.array .byte)]
  staticTypes := #[.int, .int, .int]
  resolved := Array.replicate 97 none
  statics := none }

def pool8 : Array CpInfo := pool [(1, u "java/lang/Cloneable"), (0, .class_ 1), (0, u "java/lang/Object"), (0, .class_ 3)] 3

/-- java/lang/Cloneable -/
def k8 : Class := { plain "java/lang/Cloneable" (some 0) with
  accessFlags := 1537
  interfaces := #[]
  cf := some (fileOf pool8 2 #[] #[] 1537 4 #[] #[])
  fields := #[]
  methods := #[]
  instanceTypes := #[]
  staticTypes := #[]
  resolved := Array.replicate 8 none
  statics := none }

def pool9 : Array CpInfo := pool [(1, u "java/io/Serializable"), (0, .class_ 1), (0, u "java/lang/Object"), (0, .class_ 3)] 3

/-- java/io/Serializable -/
def k9 : Class := { plain "java/io/Serializable" (some 0) with
  accessFlags := 1537
  interfaces := #[]
  cf := some (fileOf pool9 2 #[] #[] 1537 4 #[] #[])
  fields := #[]
  methods := #[]
  instanceTypes := #[]
  staticTypes := #[]
  resolved := Array.replicate 8 none
  statics := none }

/-- the primitive byte -/
def k10 : Class := { plain "byte" none with kind := .primitive 'B', accessFlags := 0x411 }
/-- [B -/
def k11 : Class := { plain "[B" (some 0) with kind := .array 10 .byte, interfaces := #[8, 9], accessFlags := 1041 }

/-- the primitive int -/
def k12 : Class := { plain "int" none with kind := .primitive 'I', accessFlags := 0x411 }
/-- [I -/
def k13 : Class := { plain "[I" (some 0) with kind := .array 12 .int, interfaces := #[8, 9], accessFlags := 1041 }

def heap : Heap := #[]
def classes : Array Class := #[k0, k1, k2, k3, k4, k5, k6, k7, k8, k9, k10, k11, k12, k13]
def interned : List (Array UInt16 × Addr) := []
def slotsUsed : Nat := 0
def theMethod : MethodId := ⟨1, 1⟩
def args0 : Array Value := #[.long 100, .int 1]
def aboutOver (below : List Frame) : State where
  vm := { classes := classes, interned := interned.toArray }
  heap := heap
  slotsUsed := slotsUsed
  threads := #[{ frames := .invoking theMethod args0 :: below }]
def below0 : List Frame := [.native { method := ⟨0, 0⟩, args := #[] }]
def about1 : State := aboutOver below0
def p0 : Program := .bare "" "" ""
def e0 : Env := launch0.env 0 0 0
theorem w_frames : about1.frames = Frame.invoking theMethod args0 :: below0 := rfl
set_option maxRecDepth 65536 in
theorem w_args : argsFit about1.vm theMethod args0 = true := by decide +kernel
set_option maxRecDepth 65536 in
theorem w_heap : heapFits about1 = true := by decide +kernel
set_option maxRecDepth 65536 in
theorem w_runnable : about1.curStatus? = some .runnable := by decide +kernel
set_option maxRecDepth 65536 in
theorem w_alone : about1.alone = true := by decide +kernel
set_option maxRecDepth 65536 in
theorem w_named : about1.methodNamed? x = some theMethod := by decide +kernel
set_option maxRecDepth 65536 in
theorem w_hears : about1.hears theMethod below0 = true := by decide +kernel
set_option maxRecDepth 65536 in
theorem w_ripe : about1.ripe theMethod args0 below0 = true := by decide +kernel
theorem w_running : about1.status = .running := rfl
set_option maxRecDepth 65536 in
theorem w_room : about1.hasRoom e0.platform room_1 = true :=
  launch0.hasRoom_least _ room_1 (by decide +kernel) (by decide +kernel) (by decide +kernel) (by decide +kernel) (by decide +kernel) (by decide +kernel)
theorem allAtoms_all (ts : List Jvm.Cond) (a : Array Jvm.Value) (st : Jvm.State) : (allAtoms ts).before a st = ts.all (fun c => c.before a st) := by
  induction ts with
  | nil => rfl
  | cons c t ih =>
    show (Jvm.Cond.and c (allAtoms t)).before a st = _
    rw [Jvm.Cond.before_and, ih, List.all_cons]
def words1 : List Jvm.Cond := Jvm.Cond.code x code maxLocals ret :: tables_1
/-- a 'code' word, met by the world's own term for the bytes: nothing is compared byte by byte -/
theorem code_word {y : MethodName} {bytes : ByteArray} {mx : Nat} {rt : Option FieldType} {a : Array Value} {s : State} {m : MethodId} {meth : Method} {c : Code} (h1 : s.methodNamed? y = some m) (h2 : s.vm.method? m = some meth) (h3 : meth.code = some c) (h4 : c.code = bytes)
    (h5 : (c.maxLocals == mx && c.exceptionTable.isEmpty && decide (c.maxStack ≤ mostOperands) && decide (meth.sig.returnType = rt) && !meth.locks && decide (parseMethodDescriptor y.desc = some meth.sig)) = true) : (Jvm.Cond.code y bytes mx rt).before a s = true := by
  simp only [Bool.and_eq_true, beq_iff_eq, Bool.not_eq_true', decide_eq_true_eq] at h5
  obtain ⟨⟨⟨⟨⟨g1, g2⟩, g3⟩, g4⟩, g5⟩, g6⟩ := h5
  simp [Cond.before, Cond.holds, Cond.value, h1, h2, h3, h4, g1, g2, g3, g4, g5, g6]
def isCode : Jvm.Cond → Bool
  | .code _ _ _ _ => true
  | _ => false
theorem all_split {L : List Jvm.Cond} {P : Jvm.Cond → Bool} (h1 : L.all (fun c => isCode c || P c) = true) (h2 : ∀ c ∈ L.filter isCode, P c = true) : L.all P = true := by
  refine List.all_eq_true.mpr fun c hc => ?_
  have h := List.all_eq_true.mp h1 c hc
  rcases Bool.eq_false_or_eq_true (isCode c) with hi | hi
  · exact h2 c (List.mem_filter.mpr ⟨hc, hi⟩)
  · simpa [hi] using h
set_option maxRecDepth 65536 in
theorem w_c0 : (Jvm.Cond.code x code maxLocals ret).before args0 about1 = true := code_word (m := ⟨1, 1⟩) (meth := k1m1) (c := k1c1) (by decide +kernel) rfl rfl rfl (by decide +kernel)
set_option maxRecDepth 65536 in
theorem w_c1 : (Jvm.Cond.code ({ cls := "com/example/plumbago/plumbago/archive/Base64Encoder", name := "encodedLength", desc := "(J)J" } : Jvm.MethodName) prog_18_method_2_code (6 : Nat) (Option.some Jvm.ClassFile.FieldType.long)).before args0 about1 = true := code_word (m := ⟨7, 0⟩) (meth := k7m0) (c := k7c0) (by decide +kernel) rfl rfl rfl (by decide +kernel)
set_option maxRecDepth 65536 in
theorem w_c2 : (Jvm.Cond.code ({ cls := "com/example/plumbago/plumbago/archive/Base64EncoderEncodedLengthPinLaw", name := "reference", desc := "(J)J" } : Jvm.MethodName) method_3_code (6 : Nat) (Option.some Jvm.ClassFile.FieldType.long)).before args0 about1 = true := code_word (m := ⟨1, 2⟩) (meth := k1m2) (c := k1c2) (by decide +kernel) rfl rfl rfl (by decide +kernel)
def codes1 : List Jvm.Cond := [Jvm.Cond.code x code maxLocals ret, Jvm.Cond.code ({ cls := "com/example/plumbago/plumbago/archive/Base64Encoder", name := "encodedLength", desc := "(J)J" } : Jvm.MethodName) prog_18_method_2_code (6 : Nat) (Option.some Jvm.ClassFile.FieldType.long), Jvm.Cond.code ({ cls := "com/example/plumbago/plumbago/archive/Base64EncoderEncodedLengthPinLaw", name := "reference", desc := "(J)J" } : Jvm.MethodName) method_3_code (6 : Nat) (Option.some Jvm.ClassFile.FieldType.long)]
set_option maxRecDepth 65536 in
theorem codes_eq : words1.filter isCode = codes1 := rfl
theorem w_codes : ∀ c ∈ words1.filter isCode, c.before args0 about1 = true := by
  rw [codes_eq]
  intro c hc
  simp only [codes1, List.mem_cons, List.not_mem_nil, or_false] at hc
  rcases hc with rfl | rfl | rfl
  · exact w_c0
  · exact w_c1
  · exact w_c2
set_option maxRecDepth 65536 in
theorem w_t1 : words1.all (fun c => isCode c || c.before args0 about1) = true := by decide +kernel
theorem w_tables : (allAtoms (Jvm.Cond.code x code maxLocals ret :: tables_1)).before args0 about1 = true := by
  rw [allAtoms_all]
  show words1.all (fun c => c.before args0 about1) = true
  refine all_split ?_ w_codes
  rw [w_t1]
set_option maxRecDepth 65536 in
theorem w_case : (Jvm.Cond.and given_1 narrow_1).before args0 about1 = true := by decide +kernel
theorem w_applies : (headSpec (Jvm.Cond.code x code maxLocals ret :: tables_1) room_1).applies x e0.platform about1 = true :=
  (Spec.applies_iff w_frames).mpr ⟨w_running, w_runnable, w_alone, w_named, w_hears, w_ripe, w_room, w_tables⟩
theorem atStart : AtStart classFile x code maxLocals ret World_1 tables_1 room_1 Calls_1 rest_1 Pre_1 launch0 p0 e0 about1 theMethod args0 below0 :=
  ⟨lists_1, trivial, launch0.admits_env _ _ _, launch0.least_env, fairChoices_fair.cas, fairChoices_fair.clock, w_frames, w_args, w_heap, w_applies, trivial, trivial, w_case⟩
end start1
theorem witness_1 : WitnessClaimed_1 := ⟨start1.p0, start1.e0, start1.about1, start1.theMethod, start1.args0, start1.below0, start1.atStart⟩
end Jvm.Pilot.@@N@@
