import JvmDerived
import JvmDerived.Pilot.@@N@@Statement
import JvmDerived.Pilot.@@N@@Code
set_option linter.unusedVariables false
set_option linter.unusedSimpArgs false
namespace Jvm.RoadKit
open Sem ClassFile Op Lib Jvm.Stand Jvm.Free Jvm.LawKit
section New
variable {p : Program} {l : Launch} {e : Env} {R : Room} {s : State} {m : MethodId} {args : Array Value} {below : List Frame} {meth : Method} {c : Code} {T : State} {locs : List Loc} {cells slots : Nat}
theorem retI (X : Stand p l e R s m args below meth c T locs cells slots) (hx : p.tables.exec = Jvm.exec) {pc : Nat} {Ls : Array Slot} {z : Int32} {rest : List Value} (hret : meth.sig.returnType = some .int) (hd : decode c.code pc = .ok (.ireturn, 1)) {fs : List Frame}
    (hl : ∀ (f : JFrame) (acts : List Action), f.method = m → f.locked = none → f.entered = [] → (doReturn e (T.setTop f) acts (some (.int z))).1 = T.setFrames fs) : Steps p.tables e below (T.setTop (mkF m pc Ls (.int z :: rest))) (T.setFrames fs) := by
  have hm' : T.vm.method? m = some meth := X.method'
  have hn : narrow .int (.int z) = .int z := rfl
  show Steps p.tables e below (T.setTop { method := m, pc := pc, locals := Ls, stack := _ :: rest, locked := none }) _
  jvm_step X.here [X.here.top, hx, hd, hm', hret, hn]
  first | (intro acts; rw [hl _ acts rfl rfl rfl]) | rw [hl _ _ rfl rfl rfl]
  exact Steps.refl _
end New
/-- from W the run comes to a state and an outcome of which K holds -/
def OwnEnds (tb : Tables) (e : Env) (below : List Frame) (K : State → Outcome → Prop) (W : State) : Prop := ∃ t o, Steps tb e below W t ∧ K t o
theorem OwnEnds.via {tb : Tables} {e : Env} {below : List Frame} {K : State → Outcome → Prop} {W W' : State} (f : ∀ t, Steps tb e below W' t → Steps tb e below W t) (h : OwnEnds tb e below K W') : OwnEnds tb e below K W := by
  obtain ⟨t, o, h1, h2⟩ := h
  exact ⟨t, o, f t h1, h2⟩
theorem OwnEnds.cut {tb : Tables} {e : Env} {below : List Frame} {K : State → Outcome → Prop} {W : State} (A : (State → Prop) → Prop) (h1 : A (OwnEnds tb e below K)) (h2 : A (OwnEnds tb e below K) → OwnEnds tb e below K W) : OwnEnds tb e below K W := h2 h1
end Jvm.RoadKit
namespace Jvm.Pilot.@@N@@
open Jvm Jvm.ClassFile Sem Op Lib Jvm.Free Jvm.Stand Jvm.LawKit Jvm.RoadKit Bundle Jvm.Pilot.@@N@@.Jvm.D
def own_sz (b : Int32) : Int32 := (((b &&& (255 : Int32)).toUInt32 >>> ((2 : Int32) &&& 31).toUInt32).toInt32)
def own_got (at_ en b : Int32) : Int32 := if at_ < en ∧ b &&& (3 : Int32) = (0 : Int32) ∧ own_sz b < en - at_ then own_sz b else (-1 : Int32)
theorem own_rem (p : Int32) : 0 ≤ ((p &&& (2147483647 : Int32)) % (81 : Int32)).toInt ∧ ((p &&& (2147483647 : Int32)) % (81 : Int32)).toInt ≤ 80 := by
  have hm := c_mask p (2147483647 : Int32) 31 (by decide) (by decide)
  have h0 : 0 ≤ (p &&& (2147483647 : Int32)).toInt := by rw [hm]; exact Int.emod_nonneg _ (by decide)
  have h := (c_irem (p &&& (2147483647 : Int32)) 81 81 (by decide)).1 h0
  rw [h]
  omega
theorem own_m8 (x : Int32) : 0 ≤ (x &&& (255 : Int32)).toInt ∧ (x &&& (255 : Int32)).toInt ≤ 255 := by
  have hm := c_mask x (255 : Int32) 8 (by decide) (by decide)
  rw [hm]
  omega
theorem own_in {j : Int32} (h0 : 0 ≤ j.toInt) (h1 : j.toInt < 80) : ¬ j < 0 ∧ j < (80 : Int32) := by
  rw [Int32.lt_iff_toInt_lt, Int32.lt_iff_toInt_lt]
  have z : (0 : Int32).toInt = 0 := by decide
  have z2 : (80 : Int32).toInt = 80 := by decide
  omega
theorem own_nat {j : Int32} (h : ¬ j < 0 ∧ j < (80 : Int32)) : j.toNatClampNeg < 80 := by
  have e := nat_of h.1
  have h2 := h.2
  rw [Int32.lt_iff_toInt_lt] at h2
  have z2 : (80 : Int32).toInt = 80 := by decide
  omega
theorem own_m1 {a : Int32} (h : 0 ≤ a.toInt ∧ a.toInt ≤ 80) (hc : (0 : Int32) < a) : ¬ (a - (1 : Int32)) < 0 ∧ (a - (1 : Int32)) < (80 : Int32) := by
  rw [Int32.lt_iff_toInt_lt] at hc
  have z : (0 : Int32).toInt = 0 := by decide
  have z1 : (1 : Int32).toInt = 1 := by decide
  have s := c_isub a 1
  have r := rng32 (a - 1)
  exact own_in (by omega) (by omega)
theorem own_p1 {a : Int32} (h : 0 ≤ a.toInt ∧ a.toInt ≤ 80) (hc : (a + (1 : Int32)) < (80 : Int32)) : ¬ (a + (1 : Int32)) < 0 ∧ (a + (1 : Int32)) < (80 : Int32) := by
  refine ⟨?_, hc⟩
  rw [Int32.lt_iff_toInt_lt]
  have z : (0 : Int32).toInt = 0 := by decide
  have z1 : (1 : Int32).toInt = 1 := by decide
  have s := c_iadd a 1
  have r := rng32 (a + 1)
  omega
theorem own_p0 {a : Int32} (h : 0 ≤ a.toInt ∧ a.toInt ≤ 80) (hc : a < (80 : Int32)) : ¬ a < 0 ∧ a < (80 : Int32) := by
  refine ⟨?_, hc⟩
  rw [Int32.lt_iff_toInt_lt]
  have z : (0 : Int32).toInt = 0 := by decide
  omega
theorem own_lt80 {a en : Int32} (h : 0 ≤ en.toInt ∧ en.toInt ≤ 80) (hc : a < en) : a < (80 : Int32) := by
  rw [Int32.lt_iff_toInt_lt] at *
  have z2 : (80 : Int32).toInt = 80 := by decide
  omega
theorem own_set {l : List Value} {i : Nat} {v d : Value} (h : i < l.length) : (l.set i v).getD i d = v := by simp [List.getD, h]
theorem own_b (v : Int32) (h : 0 ≤ v.toInt ∧ v.toInt ≤ 255) : ((nar .byte v.toInt8.toInt32) &&& (3 : Int32)).toInt = v.toInt % 4 ∧ (own_sz (nar .byte v.toInt8.toInt32)).toInt = v.toInt / 4 := by
  obtain ⟨c1, c2, c3⟩ := c_i2b v
  obtain ⟨d1, d2, d3⟩ := c_i2b v.toInt8.toInt32
  have e : (nar .byte v.toInt8.toInt32) = v.toInt8.toInt32.toInt8.toInt32 := rfl
  rw [e]
  unfold own_sz
  have m1 := c_mask v.toInt8.toInt32.toInt8.toInt32 (3 : Int32) 2 (by decide) (by decide)
  have m2 := c_mask v.toInt8.toInt32.toInt8.toInt32 (255 : Int32) 8 (by decide) (by decide)
  have s := c_iushr (v.toInt8.toInt32.toInt8.toInt32 &&& (255 : Int32)) 2 2 (by decide) (by decide)
  rw [s, m1, m2]
  omega
theorem own_fin {at_ en v : Int32} (ha : 0 ≤ at_.toInt ∧ at_.toInt ≤ 80) (he : 0 ≤ en.toInt ∧ en.toInt ≤ 80) (hv : 0 ≤ v.toInt ∧ v.toInt ≤ 255) :
    (¬ at_ < en → own_got at_ en (nar .byte v.toInt8.toInt32) = (-1 : Int32)) ∧ (at_ < en → ¬ v % (4 : Int32) = (0 : Int32) → own_got at_ en (nar .byte v.toInt8.toInt32) = (-1 : Int32)) ∧ (at_ < en → v % (4 : Int32) = (0 : Int32) → en < ((at_ + (1 : Int32)) + (v / (4 : Int32))) → own_got at_ en (nar .byte v.toInt8.toInt32) = (-1 : Int32)) ∧ (at_ < en → v % (4 : Int32) = (0 : Int32) → ¬ en < ((at_ + (1 : Int32)) + (v / (4 : Int32))) → own_got at_ en (nar .byte v.toInt8.toInt32) = (v / (4 : Int32))) := by
  obtain ⟨b1, b2⟩ := own_b v hv
  have r1 := (c_irem v 4 4 (by decide)).1 hv.1
  have r2 := (c_idiv v 4 4 (by decide) (by decide)).1 hv.1
  have z : (0 : Int32).toInt = 0 := by decide
  have z1 : (1 : Int32).toInt = 1 := by decide
  have s1 := c_iadd at_ 1
  have s2 := rng32 (at_ + 1)
  have s3 := c_iadd (at_ + 1) (v / 4)
  have s4 := rng32 (at_ + 1 + v / 4)
  have s5 := c_isub en at_
  have s6 := rng32 (en - at_)
  unfold own_got
  refine ⟨fun h => if_neg fun q => h q.1, fun h h2 => if_neg fun q => h2 ?_, fun h h2 h3 => if_neg fun q => ?_, fun h h2 h3 => ?_⟩
  · have q2 := q.2.1
    rw [← Int32.toInt_inj] at q2 ⊢
    omega
  · have q3 := q.2.2
    rw [Int32.lt_iff_toInt_lt] at q3 h3
    omega
  · rw [if_pos, ← Int32.toInt_inj]
    · omega
    · rw [← Int32.toInt_inj] at h2
      rw [Int32.lt_iff_toInt_lt] at h3
      refine ⟨h, ?_, ?_⟩
      · rw [← Int32.toInt_inj]
        omega
      · rw [Int32.lt_iff_toInt_lt]
        omega

theorem d1_0 : decode prog_2_method_11_code 0 = .ok (.iload_n 1, 1) := by decide +kernel
theorem d1_1 : decode prog_2_method_11_code 1 = .ok (.iload_n 2, 1) := by decide +kernel
theorem d1_2 : decode prog_2_method_11_code 2 = .ok (.if_icmp .ge 9, 3) := by decide +kernel
theorem d1_5 : decode prog_2_method_11_code 5 = .ok (.aload_n 0, 1) := by decide +kernel
theorem d1_6 : decode prog_2_method_11_code 6 = .ok (.iload_n 1, 1) := by decide +kernel
theorem d1_7 : decode prog_2_method_11_code 7 = .ok (.baload, 1) := by decide +kernel
theorem d1_8 : decode prog_2_method_11_code 8 = .ok (.goto 4, 3) := by decide +kernel
theorem d1_11 : decode prog_2_method_11_code 11 = .ok (.iconst (-1), 1) := by decide +kernel
theorem d1_12 : decode prog_2_method_11_code 12 = .ok (.istore_n 3, 1) := by decide +kernel
theorem d1_13 : decode prog_2_method_11_code 13 = .ok (.iload_n 3, 1) := by decide +kernel
theorem d1_14 : decode prog_2_method_11_code 14 = .ok (.sipush 255, 3) := by decide +kernel
theorem d1_17 : decode prog_2_method_11_code 17 = .ok (.iand, 1) := by decide +kernel
theorem d1_18 : decode prog_2_method_11_code 18 = .ok (.iconst 2, 1) := by decide +kernel
theorem d1_19 : decode prog_2_method_11_code 19 = .ok (.iushr, 1) := by decide +kernel
theorem d1_20 : decode prog_2_method_11_code 20 = .ok (.istore 4, 2) := by decide +kernel
theorem d1_22 : decode prog_2_method_11_code 22 = .ok (.iload_n 3, 1) := by decide +kernel
theorem d1_23 : decode prog_2_method_11_code 23 = .ok (.iconst 3, 1) := by decide +kernel
theorem d1_24 : decode prog_2_method_11_code 24 = .ok (.iand, 1) := by decide +kernel
theorem d1_25 : decode prog_2_method_11_code 25 = .ok (.ifCond .ne 16, 3) := by decide +kernel
theorem d1_28 : decode prog_2_method_11_code 28 = .ok (.iload 4, 2) := by decide +kernel
theorem d1_30 : decode prog_2_method_11_code 30 = .ok (.iload_n 2, 1) := by decide +kernel
theorem d1_31 : decode prog_2_method_11_code 31 = .ok (.iload_n 1, 1) := by decide +kernel
theorem d1_32 : decode prog_2_method_11_code 32 = .ok (.isub, 1) := by decide +kernel
theorem d1_33 : decode prog_2_method_11_code 33 = .ok (.if_icmp .ge 8, 3) := by decide +kernel
theorem d1_36 : decode prog_2_method_11_code 36 = .ok (.iload 4, 2) := by decide +kernel
theorem d1_38 : decode prog_2_method_11_code 38 = .ok (.goto 4, 3) := by decide +kernel
theorem d1_41 : decode prog_2_method_11_code 41 = .ok (.iconst (-1), 1) := by decide +kernel
theorem d1_42 : decode prog_2_method_11_code 42 = .ok (.ireturn, 1) := by decide +kernel
theorem pn_rm1 : plainName "com/example/tagwire/tagwire/BeveInput" = true := by first | (simp [plainName, overriddenIn]; done) | decide +kernel
theorem ef_rm1 (m : MethodId) (a : Addr) (av : Int32) (en : Int32) : entryFrame m #[(.ref a), (.int av), (.int en)] 5 = mkF m 0 #[.val (.ref a), .val (.int av), .val (.int en), .unset, .unset] [] := by first | (simp [entryFrame, mkF, argsToLocals, Value.category]; done) | rfl
def Q1 (Z : State) (a : Addr) (av : Int32) (en : Int32) (kc : ClassId) (vs : List Value) (by_ : Int32) (h0 : Heap) (n0 : Nat) (v : Option Value) (h : Heap) (L : List Loc) : Prop := v = some (.int (own_got av en by_)) ∧ Fr n0 L ∧ h = h0
set_option maxRecDepth 65536 in
set_option maxHeartbeats 40000000 in
theorem rm1 (l : Launch) (Z : State) (a0 : Array Value) (hw : ∀ d ∈ tables_1, d.before a0 Z = true) (ws : List Jvm.Cond) (a : Addr) (av : Int32) (en : Int32) (kc : ClassId) (vs : List Value) (by_ : Int32) (h0 : Heap) (n0 : Nat) (Z0 : n0 ≤ h0.size) (P0 : Arv Z h0 a kc .byte (80 : Int32) vs (.int (0 : Int32))) (P1 : 0 ≤ av.toInt ∧ av.toInt ≤ 80) (P2 : 0 ≤ en.toInt ∧ en.toInt ≤ 80) (P3 : av < (80 : Int32) → vs.getD av.toNatClampNeg (.int (0 : Int32)) = (.int by_)) :
    MetFree l (⟨"com/example/tagwire/tagwire/BeveInput", "heldShortSize", "([BII)I"⟩ : MethodName) (head1 (Jvm.Cond.code (⟨"com/example/tagwire/tagwire/BeveInput", "heldShortSize", "([BII)I"⟩ : MethodName) prog_2_method_11_code 5 (some .int) :: ws) ({ frames := 0, cells := 0, slots := 0, locals := 0 } : Room)) (fun aa U => aa = #[(.ref a), (.int av), (.int en)] ∧ Z.Warmed39 U.vm ∧ U.heap = h0) (fun _ _ _ _ _ => True) (fun _ U o U' => ∃ v L, o = .returned v ∧ Q1 Z a av en kc vs by_ h0 n0 v U'.heap L ∧ FrameEnd U o U' L ({ frames := 0, cells := 0, slots := 0, locals := 0 } : Room).cells ({ frames := 0, cells := 0, slots := 0, locals := 0 } : Room).slots) := by
  refine MetFree.of_bodySF (plainFor_of_name pn_rm1) hisR ?_
  intro p e s m args below meth c s₁ Bd hml0 hP hK
  obtain ⟨rfl, hZ, hh⟩ := hP
  have hx := Bd.exec
  have hby := Bd.bytes
  have hml : c.maxLocals = 5 := hml0
  have hown : s.vm.findClass "com/example/tagwire/tagwire/BeveInput" = some m.cls := findClass_of_methodNamed Bd.named
  have hnm := (name_of_methodNamed Bd.named Bd.method).1
  have X0 : Stand p l e ({ frames := 0, cells := 0, slots := 0, locals := 0 } : Room) s m #[(.ref a), (.int av), (.int en)] below meth c s₁ [] 0 0 := Stand.of_body Bd
  have e0 : s₁.heap = h0 := by rw [← hh, Bd.state]; rfl
  have N0 := Fr.nil n0
  change OwnEnds p.tables e below _ _
  refine OwnEnds.via (fun t k => castTop (ef_rm1 m a av en) k) ?_
  show OwnEnds _ _ _ _ (s₁.setTop (mkF m 0 #[.val (.ref a), .val (.int av), .val (.int en), .unset, .unset] []))
  refine OwnEnds.via (fun t k => XS.iloadN X0.here hx rfl (hb hby d1_0) rfl k) ?_
  show OwnEnds _ _ _ _ (s₁.setTop (mkF m 1 #[.val (.ref a), .val (.int av), .val (.int en), .unset, .unset] [(.int av)]))
  refine OwnEnds.via (fun t k => XS.iloadN X0.here hx rfl (hb hby d1_1) rfl k) ?_
  show OwnEnds _ _ _ _ (s₁.setTop (mkF m 2 #[.val (.ref a), .val (.int av), .val (.int en), .unset, .unset] [(.int en), (.int av)]))
  by_cases hc2_1 : av < en
  ·
    refine OwnEnds.via (fun t k => XS.icmpNo X0.here hx rfl (hb hby d1_2) rfl (tlt hc2_1).2.1 k) ?_
    show OwnEnds _ _ _ _ (s₁.setTop (mkF m 5 #[.val (.ref a), .val (.int av), .val (.int en), .unset, .unset] []))
    refine OwnEnds.via (fun t k => XS.aloadN X0.here hx rfl (hb hby d1_5) rfl rfl k) ?_
    show OwnEnds _ _ _ _ (s₁.setTop (mkF m 6 #[.val (.ref a), .val (.int av), .val (.int en), .unset, .unset] [(.ref a)]))
    refine OwnEnds.via (fun t k => XS.iloadN X0.here hx rfl (hb hby d1_6) rfl k) ?_
    show OwnEnds _ _ _ _ (s₁.setTop (mkF m 7 #[.val (.ref a), .val (.int av), .val (.int en), .unset, .unset] [(.int av), (.ref a)]))
    obtain ⟨cl2, Ar2, q2, S2, M2, H2, G2⟩ := id P0
    have hin2 : ¬ (av < 0 ∨ cl2.slots.size ≤ (av).toNatClampNeg) := inb_of S2 (own_p0 P1 (own_lt80 P2 hc2_1))
    have hat2 : cl2.slots[(av).toNatClampNeg]? = some (.int by_) := H2.at hin2 (P3 (own_lt80 P2 hc2_1))
    refine OwnEnds.via (X0.baloadBytes hx (j := av) (v := (.int by_)) (by rw [e0]; exact Ar2.1) (State.isArrayOf_alike hZ.alike Ar2.2.1) Ar2.2.2 hin2 hat2 (g := (mkF m 7 #[.val (.ref a), .val (.int av), .val (.int en), .unset, .unset] [(.int av), (.ref a)])) rfl rfl (hb hby d1_7)) ?_
    show OwnEnds _ _ _ _ (s₁.setTop (mkF m 8 #[.val (.ref a), .val (.int av), .val (.int en), .unset, .unset] [(.int by_)]))
    refine OwnEnds.via (fun t k => XS.goto X0.here hx rfl (pc0 := 8) (pc' := 12) rfl (hb hby d1_8) (by decide) (by decide) k) ?_
    show OwnEnds _ _ _ _ (s₁.setTop (mkF m 12 #[.val (.ref a), .val (.int av), .val (.int en), .unset, .unset] [(.int by_)]))
    refine OwnEnds.via (fun t k => XS.istoreN X0.here hx rfl (hb hby d1_12) rfl (l' := #[.val (.ref a), .val (.int av), .val (.int en), .val (.int by_), .unset]) rfl k) ?_
    show OwnEnds _ _ _ _ (s₁.setTop (mkF m 13 #[.val (.ref a), .val (.int av), .val (.int en), .val (.int by_), .unset] []))
    refine OwnEnds.via (fun t k => XS.iloadN X0.here hx rfl (hb hby d1_13) rfl k) ?_
    show OwnEnds _ _ _ _ (s₁.setTop (mkF m 14 #[.val (.ref a), .val (.int av), .val (.int en), .val (.int by_), .unset] [(.int by_)]))
    refine OwnEnds.via (fun t k => XS.sipush X0.here hx rfl (hb hby d1_14) k) ?_
    show OwnEnds _ _ _ _ (s₁.setTop (mkF m 17 #[.val (.ref a), .val (.int av), .val (.int en), .val (.int by_), .unset] [(.int (255 : Int32)), (.int by_)]))
    refine OwnEnds.via (fun t k => XS.iand X0.here hx rfl (hb hby d1_17) rfl k) ?_
    show OwnEnds _ _ _ _ (s₁.setTop (mkF m 18 #[.val (.ref a), .val (.int av), .val (.int en), .val (.int by_), .unset] [(.int (by_ &&& (255 : Int32)))]))
    refine OwnEnds.via (fun t k => XS.iconst X0.here hx rfl (hb hby d1_18) k) ?_
    show OwnEnds _ _ _ _ (s₁.setTop (mkF m 19 #[.val (.ref a), .val (.int av), .val (.int en), .val (.int by_), .unset] [(.int (2 : Int32)), (.int (by_ &&& (255 : Int32)))]))
    refine OwnEnds.via (fun t k => XS.iushr X0.here hx rfl (hb hby d1_19) rfl k) ?_
    show OwnEnds _ _ _ _ (s₁.setTop (mkF m 20 #[.val (.ref a), .val (.int av), .val (.int en), .val (.int by_), .unset] [(.int (((by_ &&& (255 : Int32)).toUInt32 >>> ((2 : Int32) &&& 31).toUInt32).toInt32))]))
    refine OwnEnds.via (fun t k => XS.istore X0.here hx rfl (hb hby d1_20) rfl (l' := #[.val (.ref a), .val (.int av), .val (.int en), .val (.int by_), .val (.int (((by_ &&& (255 : Int32)).toUInt32 >>> ((2 : Int32) &&& 31).toUInt32).toInt32))]) rfl k) ?_
    show OwnEnds _ _ _ _ (s₁.setTop (mkF m 22 #[.val (.ref a), .val (.int av), .val (.int en), .val (.int by_), .val (.int (((by_ &&& (255 : Int32)).toUInt32 >>> ((2 : Int32) &&& 31).toUInt32).toInt32))] []))
    refine OwnEnds.via (fun t k => XS.iloadN X0.here hx rfl (hb hby d1_22) rfl k) ?_
    show OwnEnds _ _ _ _ (s₁.setTop (mkF m 23 #[.val (.ref a), .val (.int av), .val (.int en), .val (.int by_), .val (.int (((by_ &&& (255 : Int32)).toUInt32 >>> ((2 : Int32) &&& 31).toUInt32).toInt32))] [(.int by_)]))
    refine OwnEnds.via (fun t k => XS.iconst X0.here hx rfl (hb hby d1_23) k) ?_
    show OwnEnds _ _ _ _ (s₁.setTop (mkF m 24 #[.val (.ref a), .val (.int av), .val (.int en), .val (.int by_), .val (.int (((by_ &&& (255 : Int32)).toUInt32 >>> ((2 : Int32) &&& 31).toUInt32).toInt32))] [(.int (3 : Int32)), (.int by_)]))
    refine OwnEnds.via (fun t k => XS.iand X0.here hx rfl (hb hby d1_24) rfl k) ?_
    show OwnEnds _ _ _ _ (s₁.setTop (mkF m 25 #[.val (.ref a), .val (.int av), .val (.int en), .val (.int by_), .val (.int (((by_ &&& (255 : Int32)).toUInt32 >>> ((2 : Int32) &&& 31).toUInt32).toInt32))] [(.int (by_ &&& (3 : Int32)))]))
    by_cases hc25_3 : (by_ &&& (3 : Int32)) = (0 : Int32)
    ·
      refine OwnEnds.via (fun t k => XS.ifNo X0.here hx rfl (hb hby d1_25) rfl ((if0 _ _).trans (teq hc25_3).2) k) ?_
      show OwnEnds _ _ _ _ (s₁.setTop (mkF m 28 #[.val (.ref a), .val (.int av), .val (.int en), .val (.int by_), .val (.int (((by_ &&& (255 : Int32)).toUInt32 >>> ((2 : Int32) &&& 31).toUInt32).toInt32))] []))
      refine OwnEnds.via (fun t k => XS.iload X0.here hx rfl (hb hby d1_28) rfl k) ?_
      show OwnEnds _ _ _ _ (s₁.setTop (mkF m 30 #[.val (.ref a), .val (.int av), .val (.int en), .val (.int by_), .val (.int (((by_ &&& (255 : Int32)).toUInt32 >>> ((2 : Int32) &&& 31).toUInt32).toInt32))] [(.int (((by_ &&& (255 : Int32)).toUInt32 >>> ((2 : Int32) &&& 31).toUInt32).toInt32))]))
      refine OwnEnds.via (fun t k => XS.iloadN X0.here hx rfl (hb hby d1_30) rfl k) ?_
      show OwnEnds _ _ _ _ (s₁.setTop (mkF m 31 #[.val (.ref a), .val (.int av), .val (.int en), .val (.int by_), .val (.int (((by_ &&& (255 : Int32)).toUInt32 >>> ((2 : Int32) &&& 31).toUInt32).toInt32))] [(.int en), (.int (((by_ &&& (255 : Int32)).toUInt32 >>> ((2 : Int32) &&& 31).toUInt32).toInt32))]))
      refine OwnEnds.via (fun t k => XS.iloadN X0.here hx rfl (hb hby d1_31) rfl k) ?_
      show OwnEnds _ _ _ _ (s₁.setTop (mkF m 32 #[.val (.ref a), .val (.int av), .val (.int en), .val (.int by_), .val (.int (((by_ &&& (255 : Int32)).toUInt32 >>> ((2 : Int32) &&& 31).toUInt32).toInt32))] [(.int av), (.int en), (.int (((by_ &&& (255 : Int32)).toUInt32 >>> ((2 : Int32) &&& 31).toUInt32).toInt32))]))
      refine OwnEnds.via (fun t k => XS.isub X0.here hx rfl (hb hby d1_32) rfl k) ?_
      show OwnEnds _ _ _ _ (s₁.setTop (mkF m 33 #[.val (.ref a), .val (.int av), .val (.int en), .val (.int by_), .val (.int (((by_ &&& (255 : Int32)).toUInt32 >>> ((2 : Int32) &&& 31).toUInt32).toInt32))] [(.int (en - av)), (.int (((by_ &&& (255 : Int32)).toUInt32 >>> ((2 : Int32) &&& 31).toUInt32).toInt32))]))
      by_cases hc33_4 : (((by_ &&& (255 : Int32)).toUInt32 >>> ((2 : Int32) &&& 31).toUInt32).toInt32) < (en - av)
      ·
        refine OwnEnds.via (fun t k => XS.icmpNo X0.here hx rfl (hb hby d1_33) rfl (tlt hc33_4).2.1 k) ?_
        show OwnEnds _ _ _ _ (s₁.setTop (mkF m 36 #[.val (.ref a), .val (.int av), .val (.int en), .val (.int by_), .val (.int (((by_ &&& (255 : Int32)).toUInt32 >>> ((2 : Int32) &&& 31).toUInt32).toInt32))] []))
        refine OwnEnds.via (fun t k => XS.iload X0.here hx rfl (hb hby d1_36) rfl k) ?_
        show OwnEnds _ _ _ _ (s₁.setTop (mkF m 38 #[.val (.ref a), .val (.int av), .val (.int en), .val (.int by_), .val (.int (((by_ &&& (255 : Int32)).toUInt32 >>> ((2 : Int32) &&& 31).toUInt32).toInt32))] [(.int (((by_ &&& (255 : Int32)).toUInt32 >>> ((2 : Int32) &&& 31).toUInt32).toInt32))]))
        refine OwnEnds.via (fun t k => XS.goto X0.here hx rfl (pc0 := 38) (pc' := 42) rfl (hb hby d1_38) (by decide) (by decide) k) ?_
        show OwnEnds _ _ _ _ (s₁.setTop (mkF m 42 #[.val (.ref a), .val (.int av), .val (.int en), .val (.int by_), .val (.int (((by_ &&& (255 : Int32)).toUInt32 >>> ((2 : Int32) &&& 31).toUInt32).toInt32))] [(.int (((by_ &&& (255 : Int32)).toUInt32 >>> ((2 : Int32) &&& 31).toUInt32).toInt32))]))
        obtain ⟨fs, hr, hrun, hended, hW, hsame⟩ := X0.leave (v := some (.int (((by_ &&& (255 : Int32)).toUInt32 >>> ((2 : Int32) &&& 31).toUInt32).toInt32))) (fun h => by rw [Bd.returns] at h; cases h)
        refine ⟨_, _, ?_, hrun, hended, _, _, rfl, ?_, ⟨_, rfl⟩, hW, hsame.mono (by decide) (by decide)⟩
        · exact retI X0 hx Bd.returns (hb hby d1_42) hr
        · show Q1 Z a av en kc vs by_ h0 n0 _ s₁.heap _
          rw [e0]
          exact ⟨(by rw [own_got, if_pos ⟨hc2_1, hc25_3, hc33_4⟩]; rfl), N0, rfl⟩
      ·
        refine OwnEnds.via (fun t k => XS.icmpYes X0.here hx rfl (pc0 := 33) (pc' := 41) rfl (hb hby d1_33) rfl (flt hc33_4).2.1 (by decide) (by decide) k) ?_
        show OwnEnds _ _ _ _ (s₁.setTop (mkF m 41 #[.val (.ref a), .val (.int av), .val (.int en), .val (.int by_), .val (.int (((by_ &&& (255 : Int32)).toUInt32 >>> ((2 : Int32) &&& 31).toUInt32).toInt32))] []))
        refine OwnEnds.via (fun t k => XS.iconst X0.here hx rfl (hb hby d1_41) k) ?_
        show OwnEnds _ _ _ _ (s₁.setTop (mkF m 42 #[.val (.ref a), .val (.int av), .val (.int en), .val (.int by_), .val (.int (((by_ &&& (255 : Int32)).toUInt32 >>> ((2 : Int32) &&& 31).toUInt32).toInt32))] [(.int (-1 : Int32))]))
        obtain ⟨fs, hr, hrun, hended, hW, hsame⟩ := X0.leave (v := some (.int (-1 : Int32))) (fun h => by rw [Bd.returns] at h; cases h)
        refine ⟨_, _, ?_, hrun, hended, _, _, rfl, ?_, ⟨_, rfl⟩, hW, hsame.mono (by decide) (by decide)⟩
        · exact retI X0 hx Bd.returns (hb hby d1_42) hr
        · show Q1 Z a av en kc vs by_ h0 n0 _ s₁.heap _
          rw [e0]
          exact ⟨(by rw [own_got, if_neg fun z => hc33_4 z.2.2]), N0, rfl⟩
    ·
      refine OwnEnds.via (fun t k => XS.ifYes X0.here hx rfl (pc0 := 25) (pc' := 41) rfl (hb hby d1_25) rfl ((if0 _ _).trans (feq hc25_3).2) (by decide) (by decide) k) ?_
      show OwnEnds _ _ _ _ (s₁.setTop (mkF m 41 #[.val (.ref a), .val (.int av), .val (.int en), .val (.int by_), .val (.int (((by_ &&& (255 : Int32)).toUInt32 >>> ((2 : Int32) &&& 31).toUInt32).toInt32))] []))
      refine OwnEnds.via (fun t k => XS.iconst X0.here hx rfl (hb hby d1_41) k) ?_
      show OwnEnds _ _ _ _ (s₁.setTop (mkF m 42 #[.val (.ref a), .val (.int av), .val (.int en), .val (.int by_), .val (.int (((by_ &&& (255 : Int32)).toUInt32 >>> ((2 : Int32) &&& 31).toUInt32).toInt32))] [(.int (-1 : Int32))]))
      obtain ⟨fs, hr, hrun, hended, hW, hsame⟩ := X0.leave (v := some (.int (-1 : Int32))) (fun h => by rw [Bd.returns] at h; cases h)
      refine ⟨_, _, ?_, hrun, hended, _, _, rfl, ?_, ⟨_, rfl⟩, hW, hsame.mono (by decide) (by decide)⟩
      · exact retI X0 hx Bd.returns (hb hby d1_42) hr
      · show Q1 Z a av en kc vs by_ h0 n0 _ s₁.heap _
        rw [e0]
        exact ⟨(by rw [own_got, if_neg fun z => hc25_3 z.2.1]), N0, rfl⟩
  ·
    refine OwnEnds.via (fun t k => XS.icmpYes X0.here hx rfl (pc0 := 2) (pc' := 11) rfl (hb hby d1_2) rfl (flt hc2_1).2.1 (by decide) (by decide) k) ?_
    show OwnEnds _ _ _ _ (s₁.setTop (mkF m 11 #[.val (.ref a), .val (.int av), .val (.int en), .unset, .unset] []))
    refine OwnEnds.via (fun t k => XS.iconst X0.here hx rfl (hb hby d1_11) k) ?_
    show OwnEnds _ _ _ _ (s₁.setTop (mkF m 12 #[.val (.ref a), .val (.int av), .val (.int en), .unset, .unset] [(.int (-1 : Int32))]))
    refine OwnEnds.via (fun t k => XS.istoreN X0.here hx rfl (hb hby d1_12) rfl (l' := #[.val (.ref a), .val (.int av), .val (.int en), .val (.int (-1 : Int32)), .unset]) rfl k) ?_
    show OwnEnds _ _ _ _ (s₁.setTop (mkF m 13 #[.val (.ref a), .val (.int av), .val (.int en), .val (.int (-1 : Int32)), .unset] []))
    refine OwnEnds.via (fun t k => XS.iloadN X0.here hx rfl (hb hby d1_13) rfl k) ?_
    show OwnEnds _ _ _ _ (s₁.setTop (mkF m 14 #[.val (.ref a), .val (.int av), .val (.int en), .val (.int (-1 : Int32)), .unset] [(.int (-1 : Int32))]))
    refine OwnEnds.via (fun t k => XS.sipush X0.here hx rfl (hb hby d1_14) k) ?_
    show OwnEnds _ _ _ _ (s₁.setTop (mkF m 17 #[.val (.ref a), .val (.int av), .val (.int en), .val (.int (-1 : Int32)), .unset] [(.int (255 : Int32)), (.int (-1 : Int32))]))
    refine OwnEnds.via (fun t k => XS.iand X0.here hx rfl (hb hby d1_17) rfl k) ?_
    show OwnEnds _ _ _ _ (s₁.setTop (mkF m 18 #[.val (.ref a), .val (.int av), .val (.int en), .val (.int (-1 : Int32)), .unset] [(.int (255 : Int32))]))
    refine OwnEnds.via (fun t k => XS.iconst X0.here hx rfl (hb hby d1_18) k) ?_
    show OwnEnds _ _ _ _ (s₁.setTop (mkF m 19 #[.val (.ref a), .val (.int av), .val (.int en), .val (.int (-1 : Int32)), .unset] [(.int (2 : Int32)), (.int (255 : Int32))]))
    refine OwnEnds.via (fun t k => XS.iushr X0.here hx rfl (hb hby d1_19) rfl k) ?_
    show OwnEnds _ _ _ _ (s₁.setTop (mkF m 20 #[.val (.ref a), .val (.int av), .val (.int en), .val (.int (-1 : Int32)), .unset] [(.int (((255 : Int32).toUInt32 >>> ((2 : Int32) &&& 31).toUInt32).toInt32))]))
    refine OwnEnds.via (fun t k => XS.istore X0.here hx rfl (hb hby d1_20) rfl (l' := #[.val (.ref a), .val (.int av), .val (.int en), .val (.int (-1 : Int32)), .val (.int (((255 : Int32).toUInt32 >>> ((2 : Int32) &&& 31).toUInt32).toInt32))]) rfl k) ?_
    show OwnEnds _ _ _ _ (s₁.setTop (mkF m 22 #[.val (.ref a), .val (.int av), .val (.int en), .val (.int (-1 : Int32)), .val (.int (((255 : Int32).toUInt32 >>> ((2 : Int32) &&& 31).toUInt32).toInt32))] []))
    refine OwnEnds.via (fun t k => XS.iloadN X0.here hx rfl (hb hby d1_22) rfl k) ?_
    show OwnEnds _ _ _ _ (s₁.setTop (mkF m 23 #[.val (.ref a), .val (.int av), .val (.int en), .val (.int (-1 : Int32)), .val (.int (((255 : Int32).toUInt32 >>> ((2 : Int32) &&& 31).toUInt32).toInt32))] [(.int (-1 : Int32))]))
    refine OwnEnds.via (fun t k => XS.iconst X0.here hx rfl (hb hby d1_23) k) ?_
    show OwnEnds _ _ _ _ (s₁.setTop (mkF m 24 #[.val (.ref a), .val (.int av), .val (.int en), .val (.int (-1 : Int32)), .val (.int (((255 : Int32).toUInt32 >>> ((2 : Int32) &&& 31).toUInt32).toInt32))] [(.int (3 : Int32)), (.int (-1 : Int32))]))
    refine OwnEnds.via (fun t k => XS.iand X0.here hx rfl (hb hby d1_24) rfl k) ?_
    show OwnEnds _ _ _ _ (s₁.setTop (mkF m 25 #[.val (.ref a), .val (.int av), .val (.int en), .val (.int (-1 : Int32)), .val (.int (((255 : Int32).toUInt32 >>> ((2 : Int32) &&& 31).toUInt32).toInt32))] [(.int (3 : Int32))]))
    refine OwnEnds.via (fun t k => XS.ifYes X0.here hx rfl (pc0 := 25) (pc' := 41) rfl (hb hby d1_25) rfl ((if0 _ _).trans (feq (by decide)).2) (by decide) (by decide) k) ?_
    show OwnEnds _ _ _ _ (s₁.setTop (mkF m 41 #[.val (.ref a), .val (.int av), .val (.int en), .val (.int (-1 : Int32)), .val (.int (((255 : Int32).toUInt32 >>> ((2 : Int32) &&& 31).toUInt32).toInt32))] []))
    refine OwnEnds.via (fun t k => XS.iconst X0.here hx rfl (hb hby d1_41) k) ?_
    show OwnEnds _ _ _ _ (s₁.setTop (mkF m 42 #[.val (.ref a), .val (.int av), .val (.int en), .val (.int (-1 : Int32)), .val (.int (((255 : Int32).toUInt32 >>> ((2 : Int32) &&& 31).toUInt32).toInt32))] [(.int (-1 : Int32))]))
    obtain ⟨fs, hr, hrun, hended, hW, hsame⟩ := X0.leave (v := some (.int (-1 : Int32))) (fun h => by rw [Bd.returns] at h; cases h)
    refine ⟨_, _, ?_, hrun, hended, _, _, rfl, ?_, ⟨_, rfl⟩, hW, hsame.mono (by decide) (by decide)⟩
    · exact retI X0 hx Bd.returns (hb hby d1_42) hr
    · show Q1 Z a av en kc vs by_ h0 n0 _ s₁.heap _
      rw [e0]
      exact ⟨(by rw [own_got, if_neg fun z => hc2_1 z.1]), N0, rfl⟩

theorem pn_rm0 : plainName "com/example/tagwire/tagwire/BeveInputHeldShortSizePinLaw" = true := by first | (simp [plainName, overriddenIn]; done) | decide +kernel
theorem pd_0 : parseMethodDescriptor "([BII)I" = some ⟨[(.array .byte), .int, .int], some .int⟩ := by decide +kernel
theorem ef_rm0 (m : MethodId) (pp : Int32) (qq : Int32) (xx : Int32) (yy : Int32) : entryFrame m #[(.int pp), (.int qq), (.int xx), (.int yy)] maxLocals = mkF m 0 #[.val (.int pp), .val (.int qq), .val (.int xx), .val (.int yy), .unset, .unset, .unset, .unset, .unset, .unset, .unset] [] := by first | (simp [entryFrame, mkF, argsToLocals, Value.category, maxLocals]; done) | rfl
def Q0 (Z : State) (pp : Int32) (qq : Int32) (xx : Int32) (yy : Int32) (h0 : Heap) (n0 : Nat) (v : Option Value) (h : Heap) (L : List Loc) : Prop := v = some (.int (1 : Int32)) ∧ Fr n0 L
set_option maxRecDepth 65536 in
set_option maxHeartbeats 40000000 in
theorem rm0 (l : Launch) (Z : State) (a0 : Array Value) (hw : ∀ d ∈ tables_1, d.before a0 Z = true) (ws : List Jvm.Cond) (pp : Int32) (qq : Int32) (xx : Int32) (yy : Int32) (h0 : Heap) (n0 : Nat) (Z0 : n0 ≤ h0.size)  :
    MetFree l x (head1 (Jvm.Cond.code x code maxLocals ret :: ws) room_1) (fun aa U => aa = #[(.int pp), (.int qq), (.int xx), (.int yy)] ∧ Z.Warmed39 U.vm ∧ U.heap = h0) (fun _ _ _ _ _ => True) (fun _ U o U' => ∃ v L, o = .returned v ∧ Q0 Z pp qq xx yy h0 n0 v U'.heap L ∧ FrameEnd U o U' L room_1.cells room_1.slots) := by
  refine MetFree.of_bodySF (plainFor_of_name pn_rm0) hisR ?_
  intro p e s m args below meth c s₁ Bd hml0 hP hK
  obtain ⟨rfl, hZ, hh⟩ := hP
  have hx := Bd.exec
  have hby := Bd.bytes
  have hml : c.maxLocals = 11 := hml0
  have hown : s.vm.findClass "com/example/tagwire/tagwire/BeveInputHeldShortSizePinLaw" = some m.cls := findClass_of_methodNamed Bd.named
  have hnm := (name_of_methodNamed Bd.named Bd.method).1
  have X0 : Stand p l e room_1 s m #[(.int pp), (.int qq), (.int xx), (.int yy)] below meth c s₁ [] 0 0 := Stand.of_body Bd
  have e0 : s₁.heap = h0 := by rw [← hh, Bd.state]; rfl
  have N0 := Fr.nil n0
  change OwnEnds p.tables e below _ _
  refine OwnEnds.via (fun t k => castTop (ef_rm0 m pp qq xx yy) k) ?_
  show OwnEnds _ _ _ _ (s₁.setTop (mkF m 0 #[.val (.int pp), .val (.int qq), .val (.int xx), .val (.int yy), .unset, .unset, .unset, .unset, .unset, .unset, .unset] []))
  refine OwnEnds.via (fun t k => XS.bipush X0.here hx rfl (hb hby at_0) k) ?_
  show OwnEnds _ _ _ _ (s₁.setTop (mkF m 2 #[.val (.int pp), .val (.int qq), .val (.int xx), .val (.int yy), .unset, .unset, .unset, .unset, .unset, .unset, .unset] [(.int (80 : Int32))]))
  obtain ⟨T1, h1, k1, X1, e1, E1, A1, st1⟩ := newP X0 hx hZ (hw _ (List.mem_of_getElem? (i := 0) rfl)) e0 (g := (mkF m 2 #[.val (.int pp), .val (.int qq), .val (.int xx), .val (.int yy), .unset, .unset, .unset, .unset, .unset, .unset, .unset] [(.int (80 : Int32))])) rfl (hb hby at_2) rfl (by decide) (cap := 80) (by decide) (by decide) (by decide) (by decide)
  obtain ⟨b1, g1⟩ : ∃ z, z = h0.size := ⟨_, rfl⟩
  have ge_b1 : n0 ≤ b1 := Nat.le_trans Z0 (Nat.le_of_eq g1.symm)
  have Z1 : n0 ≤ h1.size := Nat.le_trans Z0 E1.1
  rw [← g1] at A1 st1
  have V1 : Arv Z h1 b1 k1 .byte (80 : Int32) (List.replicate 80 (.int (0 : Int32))) (.int (0 : Int32)) := (Arv.new A1 (by decide)).pad (pad_rep [] (.int (0 : Int32)) 80)
  refine OwnEnds.via st1 ?_
  show OwnEnds _ _ _ _ (T1.setTop (mkF m 4 #[.val (.int pp), .val (.int qq), .val (.int xx), .val (.int yy), .unset, .unset, .unset, .unset, .unset, .unset, .unset] [(.ref b1)]))
  refine OwnEnds.via (fun t k => XS.astore X1.here hx rfl (hb hby at_4) rfl rfl (l' := #[.val (.int pp), .val (.int qq), .val (.int xx), .val (.int yy), .val (.ref b1), .unset, .unset, .unset, .unset, .unset, .unset]) rfl k) ?_
  show OwnEnds _ _ _ _ (T1.setTop (mkF m 6 #[.val (.int pp), .val (.int qq), .val (.int xx), .val (.int yy), .val (.ref b1), .unset, .unset, .unset, .unset, .unset, .unset] []))
  refine OwnEnds.via (fun t k => XS.iloadN X1.here hx rfl (hb hby at_6) rfl k) ?_
  show OwnEnds _ _ _ _ (T1.setTop (mkF m 7 #[.val (.int pp), .val (.int qq), .val (.int xx), .val (.int yy), .val (.ref b1), .unset, .unset, .unset, .unset, .unset, .unset] [(.int pp)]))
  refine OwnEnds.via (X1.ldcInt hx hown (mvT hZ (hw _ (List.mem_of_getElem? (i := 1) rfl))) (g := (mkF m 7 #[.val (.int pp), .val (.int qq), .val (.int xx), .val (.int yy), .val (.ref b1), .unset, .unset, .unset, .unset, .unset, .unset] [(.int pp)])) rfl (hb hby at_7)) ?_
  show OwnEnds _ _ _ _ (T1.setTop (mkF m 9 #[.val (.int pp), .val (.int qq), .val (.int xx), .val (.int yy), .val (.ref b1), .unset, .unset, .unset, .unset, .unset, .unset] [(.int (2147483647 : Int32)), (.int pp)]))
  refine OwnEnds.via (fun t k => XS.iand X1.here hx rfl (hb hby at_9) rfl k) ?_
  show OwnEnds _ _ _ _ (T1.setTop (mkF m 10 #[.val (.int pp), .val (.int qq), .val (.int xx), .val (.int yy), .val (.ref b1), .unset, .unset, .unset, .unset, .unset, .unset] [(.int (pp &&& (2147483647 : Int32)))]))
  refine OwnEnds.via (fun t k => XS.bipush X1.here hx rfl (hb hby at_10) k) ?_
  show OwnEnds _ _ _ _ (T1.setTop (mkF m 12 #[.val (.int pp), .val (.int qq), .val (.int xx), .val (.int yy), .val (.ref b1), .unset, .unset, .unset, .unset, .unset, .unset] [(.int (81 : Int32)), (.int (pp &&& (2147483647 : Int32)))]))
  refine OwnEnds.via (fun t k => XS.irem X1.here hx rfl (hb hby at_12) rfl (by decide) k) ?_
  rw [Jvm.irem_eq_mod]
  show OwnEnds _ _ _ _ (T1.setTop (mkF m 13 #[.val (.int pp), .val (.int qq), .val (.int xx), .val (.int yy), .val (.ref b1), .unset, .unset, .unset, .unset, .unset, .unset] [(.int ((pp &&& (2147483647 : Int32)) % (81 : Int32)))]))
  refine OwnEnds.via (fun t k => XS.istore X1.here hx rfl (hb hby at_13) rfl (l' := #[.val (.int pp), .val (.int qq), .val (.int xx), .val (.int yy), .val (.ref b1), .val (.int ((pp &&& (2147483647 : Int32)) % (81 : Int32))), .unset, .unset, .unset, .unset, .unset]) rfl k) ?_
  show OwnEnds _ _ _ _ (T1.setTop (mkF m 15 #[.val (.int pp), .val (.int qq), .val (.int xx), .val (.int yy), .val (.ref b1), .val (.int ((pp &&& (2147483647 : Int32)) % (81 : Int32))), .unset, .unset, .unset, .unset, .unset] []))
  refine OwnEnds.via (fun t k => XS.iloadN X1.here hx rfl (hb hby at_15) rfl k) ?_
  show OwnEnds _ _ _ _ (T1.setTop (mkF m 16 #[.val (.int pp), .val (.int qq), .val (.int xx), .val (.int yy), .val (.ref b1), .val (.int ((pp &&& (2147483647 : Int32)) % (81 : Int32))), .unset, .unset, .unset, .unset, .unset] [(.int qq)]))
  refine OwnEnds.via (X1.ldcInt hx hown (mvT hZ (hw _ (List.mem_of_getElem? (i := 1) rfl))) (g := (mkF m 16 #[.val (.int pp), .val (.int qq), .val (.int xx), .val (.int yy), .val (.ref b1), .val (.int ((pp &&& (2147483647 : Int32)) % (81 : Int32))), .unset, .unset, .unset, .unset, .unset] [(.int qq)])) rfl (hb hby at_16)) ?_
  show OwnEnds _ _ _ _ (T1.setTop (mkF m 18 #[.val (.int pp), .val (.int qq), .val (.int xx), .val (.int yy), .val (.ref b1), .val (.int ((pp &&& (2147483647 : Int32)) % (81 : Int32))), .unset, .unset, .unset, .unset, .unset] [(.int (2147483647 : Int32)), (.int qq)]))
  refine OwnEnds.via (fun t k => XS.iand X1.here hx rfl (hb hby at_18) rfl k) ?_
  show OwnEnds _ _ _ _ (T1.setTop (mkF m 19 #[.val (.int pp), .val (.int qq), .val (.int xx), .val (.int yy), .val (.ref b1), .val (.int ((pp &&& (2147483647 : Int32)) % (81 : Int32))), .unset, .unset, .unset, .unset, .unset] [(.int (qq &&& (2147483647 : Int32)))]))
  refine OwnEnds.via (fun t k => XS.bipush X1.here hx rfl (hb hby at_19) k) ?_
  show OwnEnds _ _ _ _ (T1.setTop (mkF m 21 #[.val (.int pp), .val (.int qq), .val (.int xx), .val (.int yy), .val (.ref b1), .val (.int ((pp &&& (2147483647 : Int32)) % (81 : Int32))), .unset, .unset, .unset, .unset, .unset] [(.int (81 : Int32)), (.int (qq &&& (2147483647 : Int32)))]))
  refine OwnEnds.via (fun t k => XS.irem X1.here hx rfl (hb hby at_21) rfl (by decide) k) ?_
  rw [Jvm.irem_eq_mod]
  show OwnEnds _ _ _ _ (T1.setTop (mkF m 22 #[.val (.int pp), .val (.int qq), .val (.int xx), .val (.int yy), .val (.ref b1), .val (.int ((pp &&& (2147483647 : Int32)) % (81 : Int32))), .unset, .unset, .unset, .unset, .unset] [(.int ((qq &&& (2147483647 : Int32)) % (81 : Int32)))]))
  refine OwnEnds.via (fun t k => XS.istore X1.here hx rfl (hb hby at_22) rfl (l' := #[.val (.int pp), .val (.int qq), .val (.int xx), .val (.int yy), .val (.ref b1), .val (.int ((pp &&& (2147483647 : Int32)) % (81 : Int32))), .val (.int ((qq &&& (2147483647 : Int32)) % (81 : Int32))), .unset, .unset, .unset, .unset]) rfl k) ?_
  show OwnEnds _ _ _ _ (T1.setTop (mkF m 24 #[.val (.int pp), .val (.int qq), .val (.int xx), .val (.int yy), .val (.ref b1), .val (.int ((pp &&& (2147483647 : Int32)) % (81 : Int32))), .val (.int ((qq &&& (2147483647 : Int32)) % (81 : Int32))), .unset, .unset, .unset, .unset] []))
  refine OwnEnds.via (fun t k => XS.iloadN X1.here hx rfl (hb hby at_24) rfl k) ?_
  show OwnEnds _ _ _ _ (T1.setTop (mkF m 25 #[.val (.int pp), .val (.int qq), .val (.int xx), .val (.int yy), .val (.ref b1), .val (.int ((pp &&& (2147483647 : Int32)) % (81 : Int32))), .val (.int ((qq &&& (2147483647 : Int32)) % (81 : Int32))), .unset, .unset, .unset, .unset] [(.int xx)]))
  refine OwnEnds.via (fun t k => XS.sipush X1.here hx rfl (hb hby at_25) k) ?_
  show OwnEnds _ _ _ _ (T1.setTop (mkF m 28 #[.val (.int pp), .val (.int qq), .val (.int xx), .val (.int yy), .val (.ref b1), .val (.int ((pp &&& (2147483647 : Int32)) % (81 : Int32))), .val (.int ((qq &&& (2147483647 : Int32)) % (81 : Int32))), .unset, .unset, .unset, .unset] [(.int (255 : Int32)), (.int xx)]))
  refine OwnEnds.via (fun t k => XS.iand X1.here hx rfl (hb hby at_28) rfl k) ?_
  show OwnEnds _ _ _ _ (T1.setTop (mkF m 29 #[.val (.int pp), .val (.int qq), .val (.int xx), .val (.int yy), .val (.ref b1), .val (.int ((pp &&& (2147483647 : Int32)) % (81 : Int32))), .val (.int ((qq &&& (2147483647 : Int32)) % (81 : Int32))), .unset, .unset, .unset, .unset] [(.int (xx &&& (255 : Int32)))]))
  refine OwnEnds.via (fun t k => XS.istore X1.here hx rfl (hb hby at_29) rfl (l' := #[.val (.int pp), .val (.int qq), .val (.int xx), .val (.int yy), .val (.ref b1), .val (.int ((pp &&& (2147483647 : Int32)) % (81 : Int32))), .val (.int ((qq &&& (2147483647 : Int32)) % (81 : Int32))), .val (.int (xx &&& (255 : Int32))), .unset, .unset, .unset]) rfl k) ?_
  show OwnEnds _ _ _ _ (T1.setTop (mkF m 31 #[.val (.int pp), .val (.int qq), .val (.int xx), .val (.int yy), .val (.ref b1), .val (.int ((pp &&& (2147483647 : Int32)) % (81 : Int32))), .val (.int ((qq &&& (2147483647 : Int32)) % (81 : Int32))), .val (.int (xx &&& (255 : Int32))), .unset, .unset, .unset] []))
  refine OwnEnds.via (fun t k => XS.iloadN X1.here hx rfl (hb hby at_31) rfl k) ?_
  show OwnEnds _ _ _ _ (T1.setTop (mkF m 32 #[.val (.int pp), .val (.int qq), .val (.int xx), .val (.int yy), .val (.ref b1), .val (.int ((pp &&& (2147483647 : Int32)) % (81 : Int32))), .val (.int ((qq &&& (2147483647 : Int32)) % (81 : Int32))), .val (.int (xx &&& (255 : Int32))), .unset, .unset, .unset] [(.int yy)]))
  refine OwnEnds.via (fun t k => XS.sipush X1.here hx rfl (hb hby at_32) k) ?_
  show OwnEnds _ _ _ _ (T1.setTop (mkF m 35 #[.val (.int pp), .val (.int qq), .val (.int xx), .val (.int yy), .val (.ref b1), .val (.int ((pp &&& (2147483647 : Int32)) % (81 : Int32))), .val (.int ((qq &&& (2147483647 : Int32)) % (81 : Int32))), .val (.int (xx &&& (255 : Int32))), .unset, .unset, .unset] [(.int (255 : Int32)), (.int yy)]))
  refine OwnEnds.via (fun t k => XS.iand X1.here hx rfl (hb hby at_35) rfl k) ?_
  show OwnEnds _ _ _ _ (T1.setTop (mkF m 36 #[.val (.int pp), .val (.int qq), .val (.int xx), .val (.int yy), .val (.ref b1), .val (.int ((pp &&& (2147483647 : Int32)) % (81 : Int32))), .val (.int ((qq &&& (2147483647 : Int32)) % (81 : Int32))), .val (.int (xx &&& (255 : Int32))), .unset, .unset, .unset] [(.int (yy &&& (255 : Int32)))]))
  refine OwnEnds.via (fun t k => XS.istore X1.here hx rfl (hb hby at_36) rfl (l' := #[.val (.int pp), .val (.int qq), .val (.int xx), .val (.int yy), .val (.ref b1), .val (.int ((pp &&& (2147483647 : Int32)) % (81 : Int32))), .val (.int ((qq &&& (2147483647 : Int32)) % (81 : Int32))), .val (.int (xx &&& (255 : Int32))), .val (.int (yy &&& (255 : Int32))), .unset, .unset]) rfl k) ?_
  show OwnEnds _ _ _ _ (T1.setTop (mkF m 38 #[.val (.int pp), .val (.int qq), .val (.int xx), .val (.int yy), .val (.ref b1), .val (.int ((pp &&& (2147483647 : Int32)) % (81 : Int32))), .val (.int ((qq &&& (2147483647 : Int32)) % (81 : Int32))), .val (.int (xx &&& (255 : Int32))), .val (.int (yy &&& (255 : Int32))), .unset, .unset] []))
  obtain ⟨av, h_av⟩ : ∃ z : Int32, z = ((pp &&& (2147483647 : Int32)) % (81 : Int32)) := ⟨_, rfl⟩
  rw [← h_av]
  have r_av : 0 ≤ av.toInt ∧ av.toInt ≤ 80 := by rw [h_av]; exact own_rem pp
  show OwnEnds _ _ _ _ (T1.setTop (mkF m 38 #[.val (.int pp), .val (.int qq), .val (.int xx), .val (.int yy), .val (.ref b1), .val (.int av), .val (.int ((qq &&& (2147483647 : Int32)) % (81 : Int32))), .val (.int (xx &&& (255 : Int32))), .val (.int (yy &&& (255 : Int32))), .unset, .unset] []))
  obtain ⟨en, h_en⟩ : ∃ z : Int32, z = ((qq &&& (2147483647 : Int32)) % (81 : Int32)) := ⟨_, rfl⟩
  rw [← h_en]
  have r_en : 0 ≤ en.toInt ∧ en.toInt ≤ 80 := by rw [h_en]; exact own_rem qq
  show OwnEnds _ _ _ _ (T1.setTop (mkF m 38 #[.val (.int pp), .val (.int qq), .val (.int xx), .val (.int yy), .val (.ref b1), .val (.int av), .val (.int en), .val (.int (xx &&& (255 : Int32))), .val (.int (yy &&& (255 : Int32))), .unset, .unset] []))
  obtain ⟨vv, h_vv⟩ : ∃ z : Int32, z = (xx &&& (255 : Int32)) := ⟨_, rfl⟩
  rw [← h_vv]
  have r_vv : 0 ≤ vv.toInt ∧ vv.toInt ≤ 255 := by rw [h_vv]; exact own_m8 xx
  show OwnEnds _ _ _ _ (T1.setTop (mkF m 38 #[.val (.int pp), .val (.int qq), .val (.int xx), .val (.int yy), .val (.ref b1), .val (.int av), .val (.int en), .val (.int vv), .val (.int (yy &&& (255 : Int32))), .unset, .unset] []))
  obtain ⟨ww, h_ww⟩ : ∃ z : Int32, z = (yy &&& (255 : Int32)) := ⟨_, rfl⟩
  rw [← h_ww]
  have r_ww : 0 ≤ ww.toInt ∧ ww.toInt ≤ 255 := by rw [h_ww]; exact own_m8 yy
  show OwnEnds _ _ _ _ (T1.setTop (mkF m 38 #[.val (.int pp), .val (.int qq), .val (.int xx), .val (.int yy), .val (.ref b1), .val (.int av), .val (.int en), .val (.int vv), .val (.int ww), .unset, .unset] []))
  refine OwnEnds.via (fun t k => XS.iload X1.here hx rfl (hb hby at_38) rfl k) ?_
  show OwnEnds _ _ _ _ (T1.setTop (mkF m 40 #[.val (.int pp), .val (.int qq), .val (.int xx), .val (.int yy), .val (.ref b1), .val (.int av), .val (.int en), .val (.int vv), .val (.int ww), .unset, .unset] [(.int av)]))
  refine OwnEnds.cut (fun G => ∀ (T2 : State) (lc2 : List Loc) (h2 : Heap) (X2 : Stand p l e room_1 s m #[(.int pp), (.int qq), (.int xx), (.int yy)] below meth c T2 lc2 1 80) (e2 : T2.heap = h2) (N2 : Fr n0 lc2) (Z2 : n0 ≤ h2.size) (vs : List Value) (fj2_0 : Arv Z h2 b1 k1 .byte (80 : Int32) vs (.int (0 : Int32))) (hj2_0 : av < (80 : Int32) → vs.getD av.toNatClampNeg (.int (0 : Int32)) = (.int (nar .byte vv.toInt8.toInt32))), G (T2.setTop (mkF m 87 #[.val (.int pp), .val (.int qq), .val (.int xx), .val (.int yy), .val (.ref b1), .val (.int av), .val (.int en), .val (.int vv), .val (.int ww), .unset, .unset] []))) ?_ ?_
  · intro T2 lc2 h2 X2 e2 N2 Z2 vs fj2_0 hj2_0
    show OwnEnds _ _ _ _ (T2.setTop (mkF m 87 #[.val (.int pp), .val (.int qq), .val (.int xx), .val (.int yy), .val (.ref b1), .val (.int av), .val (.int en), .val (.int vv), .val (.int ww), .unset, .unset] []))
    refine OwnEnds.via (fun t k => XS.aload X2.here hx rfl (hb hby at_87) rfl rfl k) ?_
    show OwnEnds _ _ _ _ (T2.setTop (mkF m 89 #[.val (.int pp), .val (.int qq), .val (.int xx), .val (.int yy), .val (.ref b1), .val (.int av), .val (.int en), .val (.int vv), .val (.int ww), .unset, .unset] [(.ref b1)]))
    refine OwnEnds.via (fun t k => XS.iload X2.here hx rfl (hb hby at_89) rfl k) ?_
    show OwnEnds _ _ _ _ (T2.setTop (mkF m 91 #[.val (.int pp), .val (.int qq), .val (.int xx), .val (.int yy), .val (.ref b1), .val (.int av), .val (.int en), .val (.int vv), .val (.int ww), .unset, .unset] [(.int av), (.ref b1)]))
    refine OwnEnds.via (fun t k => XS.iload X2.here hx rfl (hb hby at_91) rfl k) ?_
    show OwnEnds _ _ _ _ (T2.setTop (mkF m 93 #[.val (.int pp), .val (.int qq), .val (.int xx), .val (.int yy), .val (.ref b1), .val (.int av), .val (.int en), .val (.int vv), .val (.int ww), .unset, .unset] [(.int en), (.int av), (.ref b1)]))
    obtain ⟨_, _, ⟨T3, L3, k3, n3⟩, -, X3, ⟨Lc3, hQ3, l3, y3, z3⟩, st3⟩ := Jvm.LawKit.callS X2 hx (y := (⟨"com/example/tagwire/tagwire/BeveInput", "heldShortSize", "([BII)I"⟩ : MethodName)) hown (mvT hZ (hw _ (List.mem_of_getElem? (i := 2) rfl))) (mvT hZ (hw _ (List.mem_of_getElem? (i := 3) rfl))) (mvT hZ (hw _ (List.mem_of_getElem? (i := 4) rfl))) (mvT hZ (hw _ (List.mem_of_getElem? (i := 5) rfl))) (by decide) (backOf (W := 0) (rm1 l Z a0 hw [] b1 av en k1 vs (nar .byte vv.toInt8.toInt32) h2 n0 Z2 fj2_0 r_av r_en hj2_0) hZ (hw _ (List.mem_of_getElem? (i := 5) rfl)) (hw _ (List.mem_of_getElem? (i := 4) rfl)) (by decide) (by decide)) (g := (mkF m 93 #[.val (.int pp), .val (.int qq), .val (.int xx), .val (.int yy), .val (.ref b1), .val (.int av), .val (.int en), .val (.int vv), .val (.int ww), .unset, .unset] [(.int en), (.int av), (.ref b1)])) rfl (by rw [hml]; rfl) (argsL := [(.ref b1), (.int av), (.int en)]) (rest := []) (lenOf pd_0 rfl) rfl (by show 2 * 0 + _ ≤ _; exact Nat.le_of_eq rfl) (hb hby at_93) (fun _ _ => ⟨rfl, e2, (by decide : 1 + 0 ≤ _), (by decide : 80 + 0 ≤ _)⟩)
    dsimp only [Pt.U, Pt.locs, Pt.cells, Pt.slots] at X3 l3 y3 z3 st3 hQ3
    subst l3 y3 z3
    obtain ⟨rfl, Nq3, e3⟩ := hQ3
    have N3 := Fr.app N2 Nq3
    refine OwnEnds.via st3 ?_
    show OwnEnds _ _ _ _ (T3.setTop (mkF m 96 #[.val (.int pp), .val (.int qq), .val (.int xx), .val (.int yy), .val (.ref b1), .val (.int av), .val (.int en), .val (.int vv), .val (.int ww), .unset, .unset] [(.int (own_got av en (nar .byte vv.toInt8.toInt32)))]))
    refine OwnEnds.via (fun t k => XS.istore X3.here hx rfl (hb hby at_96) rfl (l' := #[.val (.int pp), .val (.int qq), .val (.int xx), .val (.int yy), .val (.ref b1), .val (.int av), .val (.int en), .val (.int vv), .val (.int ww), .val (.int (own_got av en (nar .byte vv.toInt8.toInt32))), .unset]) rfl k) ?_
    show OwnEnds _ _ _ _ (T3.setTop (mkF m 98 #[.val (.int pp), .val (.int qq), .val (.int xx), .val (.int yy), .val (.ref b1), .val (.int av), .val (.int en), .val (.int vv), .val (.int ww), .val (.int (own_got av en (nar .byte vv.toInt8.toInt32))), .unset] []))
    refine OwnEnds.via (fun t k => XS.iload X3.here hx rfl (hb hby at_98) rfl k) ?_
    show OwnEnds _ _ _ _ (T3.setTop (mkF m 100 #[.val (.int pp), .val (.int qq), .val (.int xx), .val (.int yy), .val (.ref b1), .val (.int av), .val (.int en), .val (.int vv), .val (.int ww), .val (.int (own_got av en (nar .byte vv.toInt8.toInt32))), .unset] [(.int av)]))
    refine OwnEnds.via (fun t k => XS.iload X3.here hx rfl (hb hby at_100) rfl k) ?_
    show OwnEnds _ _ _ _ (T3.setTop (mkF m 102 #[.val (.int pp), .val (.int qq), .val (.int xx), .val (.int yy), .val (.ref b1), .val (.int av), .val (.int en), .val (.int vv), .val (.int ww), .val (.int (own_got av en (nar .byte vv.toInt8.toInt32))), .unset] [(.int en), (.int av)]))
    by_cases hc102_4 : av < en
    ·
      refine OwnEnds.via (fun t k => XS.icmpYes X3.here hx rfl (pc0 := 102) (pc' := 111) rfl (hb hby at_102) rfl (tlt hc102_4).1 (by decide) (by decide) k) ?_
      show OwnEnds _ _ _ _ (T3.setTop (mkF m 111 #[.val (.int pp), .val (.int qq), .val (.int xx), .val (.int yy), .val (.ref b1), .val (.int av), .val (.int en), .val (.int vv), .val (.int ww), .val (.int (own_got av en (nar .byte vv.toInt8.toInt32))), .unset] []))
      refine OwnEnds.via (fun t k => XS.iload X3.here hx rfl (hb hby at_111) rfl k) ?_
      show OwnEnds _ _ _ _ (T3.setTop (mkF m 113 #[.val (.int pp), .val (.int qq), .val (.int xx), .val (.int yy), .val (.ref b1), .val (.int av), .val (.int en), .val (.int vv), .val (.int ww), .val (.int (own_got av en (nar .byte vv.toInt8.toInt32))), .unset] [(.int vv)]))
      refine OwnEnds.via (fun t k => XS.iconst X3.here hx rfl (hb hby at_113) k) ?_
      show OwnEnds _ _ _ _ (T3.setTop (mkF m 114 #[.val (.int pp), .val (.int qq), .val (.int xx), .val (.int yy), .val (.ref b1), .val (.int av), .val (.int en), .val (.int vv), .val (.int ww), .val (.int (own_got av en (nar .byte vv.toInt8.toInt32))), .unset] [(.int (4 : Int32)), (.int vv)]))
      refine OwnEnds.via (fun t k => XS.irem X3.here hx rfl (hb hby at_114) rfl (by decide) k) ?_
      rw [Jvm.irem_eq_mod]
      show OwnEnds _ _ _ _ (T3.setTop (mkF m 115 #[.val (.int pp), .val (.int qq), .val (.int xx), .val (.int yy), .val (.ref b1), .val (.int av), .val (.int en), .val (.int vv), .val (.int ww), .val (.int (own_got av en (nar .byte vv.toInt8.toInt32))), .unset] [(.int (vv % (4 : Int32)))]))
      by_cases hc115_5 : (vv % (4 : Int32)) = (0 : Int32)
      ·
        refine OwnEnds.via (fun t k => XS.ifYes X3.here hx rfl (pc0 := 115) (pc' := 124) rfl (hb hby at_115) rfl ((if0 _ _).trans (teq hc115_5).1) (by decide) (by decide) k) ?_
        show OwnEnds _ _ _ _ (T3.setTop (mkF m 124 #[.val (.int pp), .val (.int qq), .val (.int xx), .val (.int yy), .val (.ref b1), .val (.int av), .val (.int en), .val (.int vv), .val (.int ww), .val (.int (own_got av en (nar .byte vv.toInt8.toInt32))), .unset] []))
        refine OwnEnds.via (fun t k => XS.iload X3.here hx rfl (hb hby at_124) rfl k) ?_
        show OwnEnds _ _ _ _ (T3.setTop (mkF m 126 #[.val (.int pp), .val (.int qq), .val (.int xx), .val (.int yy), .val (.ref b1), .val (.int av), .val (.int en), .val (.int vv), .val (.int ww), .val (.int (own_got av en (nar .byte vv.toInt8.toInt32))), .unset] [(.int av)]))
        refine OwnEnds.via (fun t k => XS.iconst X3.here hx rfl (hb hby at_126) k) ?_
        show OwnEnds _ _ _ _ (T3.setTop (mkF m 127 #[.val (.int pp), .val (.int qq), .val (.int xx), .val (.int yy), .val (.ref b1), .val (.int av), .val (.int en), .val (.int vv), .val (.int ww), .val (.int (own_got av en (nar .byte vv.toInt8.toInt32))), .unset] [(.int (1 : Int32)), (.int av)]))
        refine OwnEnds.via (fun t k => XS.iadd X3.here hx rfl (hb hby at_127) rfl k) ?_
        show OwnEnds _ _ _ _ (T3.setTop (mkF m 128 #[.val (.int pp), .val (.int qq), .val (.int xx), .val (.int yy), .val (.ref b1), .val (.int av), .val (.int en), .val (.int vv), .val (.int ww), .val (.int (own_got av en (nar .byte vv.toInt8.toInt32))), .unset] [(.int (av + (1 : Int32)))]))
        refine OwnEnds.via (fun t k => XS.iload X3.here hx rfl (hb hby at_128) rfl k) ?_
        show OwnEnds _ _ _ _ (T3.setTop (mkF m 130 #[.val (.int pp), .val (.int qq), .val (.int xx), .val (.int yy), .val (.ref b1), .val (.int av), .val (.int en), .val (.int vv), .val (.int ww), .val (.int (own_got av en (nar .byte vv.toInt8.toInt32))), .unset] [(.int vv), (.int (av + (1 : Int32)))]))
        refine OwnEnds.via (fun t k => XS.iconst X3.here hx rfl (hb hby at_130) k) ?_
        show OwnEnds _ _ _ _ (T3.setTop (mkF m 131 #[.val (.int pp), .val (.int qq), .val (.int xx), .val (.int yy), .val (.ref b1), .val (.int av), .val (.int en), .val (.int vv), .val (.int ww), .val (.int (own_got av en (nar .byte vv.toInt8.toInt32))), .unset] [(.int (4 : Int32)), (.int vv), (.int (av + (1 : Int32)))]))
        refine OwnEnds.via (fun t k => XS.idiv X3.here hx rfl (hb hby at_131) rfl (by decide) k) ?_
        show OwnEnds _ _ _ _ (T3.setTop (mkF m 132 #[.val (.int pp), .val (.int qq), .val (.int xx), .val (.int yy), .val (.ref b1), .val (.int av), .val (.int en), .val (.int vv), .val (.int ww), .val (.int (own_got av en (nar .byte vv.toInt8.toInt32))), .unset] [(.int (vv / (4 : Int32))), (.int (av + (1 : Int32)))]))
        refine OwnEnds.via (fun t k => XS.iadd X3.here hx rfl (hb hby at_132) rfl k) ?_
        show OwnEnds _ _ _ _ (T3.setTop (mkF m 133 #[.val (.int pp), .val (.int qq), .val (.int xx), .val (.int yy), .val (.ref b1), .val (.int av), .val (.int en), .val (.int vv), .val (.int ww), .val (.int (own_got av en (nar .byte vv.toInt8.toInt32))), .unset] [(.int ((av + (1 : Int32)) + (vv / (4 : Int32))))]))
        refine OwnEnds.via (fun t k => XS.iload X3.here hx rfl (hb hby at_133) rfl k) ?_
        show OwnEnds _ _ _ _ (T3.setTop (mkF m 135 #[.val (.int pp), .val (.int qq), .val (.int xx), .val (.int yy), .val (.ref b1), .val (.int av), .val (.int en), .val (.int vv), .val (.int ww), .val (.int (own_got av en (nar .byte vv.toInt8.toInt32))), .unset] [(.int en), (.int ((av + (1 : Int32)) + (vv / (4 : Int32))))]))
        by_cases hc135_6 : en < ((av + (1 : Int32)) + (vv / (4 : Int32)))
        ·
          refine OwnEnds.via (fun t k => XS.icmpYes X3.here hx rfl (pc0 := 135) (pc' := 147) rfl (hb hby at_135) rfl (tlt hc135_6).2.2.1 (by decide) (by decide) k) ?_
          show OwnEnds _ _ _ _ (T3.setTop (mkF m 147 #[.val (.int pp), .val (.int qq), .val (.int xx), .val (.int yy), .val (.ref b1), .val (.int av), .val (.int en), .val (.int vv), .val (.int ww), .val (.int (own_got av en (nar .byte vv.toInt8.toInt32))), .unset] []))
          refine OwnEnds.via (fun t k => XS.iconst X3.here hx rfl (hb hby at_147) k) ?_
          show OwnEnds _ _ _ _ (T3.setTop (mkF m 148 #[.val (.int pp), .val (.int qq), .val (.int xx), .val (.int yy), .val (.ref b1), .val (.int av), .val (.int en), .val (.int vv), .val (.int ww), .val (.int (own_got av en (nar .byte vv.toInt8.toInt32))), .unset] [(.int (-1 : Int32))]))
          refine OwnEnds.via (fun t k => XS.istore X3.here hx rfl (hb hby at_148) rfl (l' := #[.val (.int pp), .val (.int qq), .val (.int xx), .val (.int yy), .val (.ref b1), .val (.int av), .val (.int en), .val (.int vv), .val (.int ww), .val (.int (own_got av en (nar .byte vv.toInt8.toInt32))), .val (.int (-1 : Int32))]) rfl k) ?_
          show OwnEnds _ _ _ _ (T3.setTop (mkF m 150 #[.val (.int pp), .val (.int qq), .val (.int xx), .val (.int yy), .val (.ref b1), .val (.int av), .val (.int en), .val (.int vv), .val (.int ww), .val (.int (own_got av en (nar .byte vv.toInt8.toInt32))), .val (.int (-1 : Int32))] []))
          refine OwnEnds.via (fun t k => XS.iload X3.here hx rfl (hb hby at_150) rfl k) ?_
          show OwnEnds _ _ _ _ (T3.setTop (mkF m 152 #[.val (.int pp), .val (.int qq), .val (.int xx), .val (.int yy), .val (.ref b1), .val (.int av), .val (.int en), .val (.int vv), .val (.int ww), .val (.int (own_got av en (nar .byte vv.toInt8.toInt32))), .val (.int (-1 : Int32))] [(.int (own_got av en (nar .byte vv.toInt8.toInt32)))]))
          refine OwnEnds.via (fun t k => XS.iload X3.here hx rfl (hb hby at_152) rfl k) ?_
          show OwnEnds _ _ _ _ (T3.setTop (mkF m 154 #[.val (.int pp), .val (.int qq), .val (.int xx), .val (.int yy), .val (.ref b1), .val (.int av), .val (.int en), .val (.int vv), .val (.int ww), .val (.int (own_got av en (nar .byte vv.toInt8.toInt32))), .val (.int (-1 : Int32))] [(.int (-1 : Int32)), (.int (own_got av en (nar .byte vv.toInt8.toInt32)))]))
          refine OwnEnds.via (fun t k => XS.icmpNo X3.here hx rfl (hb hby at_154) rfl (teq ((own_fin r_av r_en r_vv).2.2.1 hc102_4 hc115_5 hc135_6)).2 k) ?_
          show OwnEnds _ _ _ _ (T3.setTop (mkF m 157 #[.val (.int pp), .val (.int qq), .val (.int xx), .val (.int yy), .val (.ref b1), .val (.int av), .val (.int en), .val (.int vv), .val (.int ww), .val (.int (own_got av en (nar .byte vv.toInt8.toInt32))), .val (.int (-1 : Int32))] []))
          refine OwnEnds.via (fun t k => XS.iconst X3.here hx rfl (hb hby at_157) k) ?_
          show OwnEnds _ _ _ _ (T3.setTop (mkF m 158 #[.val (.int pp), .val (.int qq), .val (.int xx), .val (.int yy), .val (.ref b1), .val (.int av), .val (.int en), .val (.int vv), .val (.int ww), .val (.int (own_got av en (nar .byte vv.toInt8.toInt32))), .val (.int (-1 : Int32))] [(.int (1 : Int32))]))
          refine OwnEnds.via (fun t k => XS.goto X3.here hx rfl (pc0 := 158) (pc' := 162) rfl (hb hby at_158) (by decide) (by decide) k) ?_
          show OwnEnds _ _ _ _ (T3.setTop (mkF m 162 #[.val (.int pp), .val (.int qq), .val (.int xx), .val (.int yy), .val (.ref b1), .val (.int av), .val (.int en), .val (.int vv), .val (.int ww), .val (.int (own_got av en (nar .byte vv.toInt8.toInt32))), .val (.int (-1 : Int32))] [(.int (1 : Int32))]))
          obtain ⟨fs, hr, hrun, hended, hW, hsame⟩ := X3.leave (v := some (.int (1 : Int32))) (fun h => by rw [Bd.returns] at h; cases h)
          refine ⟨_, _, ?_, hrun, hended, _, _, rfl, ?_, ⟨_, rfl⟩, hW, hsame.mono (by decide) (by decide)⟩
          · exact retN X3 hx (t := .boolean) Bd.returns (by simp) (hb hby at_162) hr
          · show Q0 Z pp qq xx yy h0 n0 _ T3.heap _
            rw [e3]
            exact ⟨rfl, N3⟩
        ·
          refine OwnEnds.via (fun t k => XS.icmpNo X3.here hx rfl (hb hby at_135) rfl (flt hc135_6).2.2.1 k) ?_
          show OwnEnds _ _ _ _ (T3.setTop (mkF m 138 #[.val (.int pp), .val (.int qq), .val (.int xx), .val (.int yy), .val (.ref b1), .val (.int av), .val (.int en), .val (.int vv), .val (.int ww), .val (.int (own_got av en (nar .byte vv.toInt8.toInt32))), .unset] []))
          refine OwnEnds.via (fun t k => XS.iload X3.here hx rfl (hb hby at_138) rfl k) ?_
          show OwnEnds _ _ _ _ (T3.setTop (mkF m 140 #[.val (.int pp), .val (.int qq), .val (.int xx), .val (.int yy), .val (.ref b1), .val (.int av), .val (.int en), .val (.int vv), .val (.int ww), .val (.int (own_got av en (nar .byte vv.toInt8.toInt32))), .unset] [(.int vv)]))
          refine OwnEnds.via (fun t k => XS.iconst X3.here hx rfl (hb hby at_140) k) ?_
          show OwnEnds _ _ _ _ (T3.setTop (mkF m 141 #[.val (.int pp), .val (.int qq), .val (.int xx), .val (.int yy), .val (.ref b1), .val (.int av), .val (.int en), .val (.int vv), .val (.int ww), .val (.int (own_got av en (nar .byte vv.toInt8.toInt32))), .unset] [(.int (4 : Int32)), (.int vv)]))
          refine OwnEnds.via (fun t k => XS.idiv X3.here hx rfl (hb hby at_141) rfl (by decide) k) ?_
          show OwnEnds _ _ _ _ (T3.setTop (mkF m 142 #[.val (.int pp), .val (.int qq), .val (.int xx), .val (.int yy), .val (.ref b1), .val (.int av), .val (.int en), .val (.int vv), .val (.int ww), .val (.int (own_got av en (nar .byte vv.toInt8.toInt32))), .unset] [(.int (vv / (4 : Int32)))]))
          refine OwnEnds.via (fun t k => XS.istore X3.here hx rfl (hb hby at_142) rfl (l' := #[.val (.int pp), .val (.int qq), .val (.int xx), .val (.int yy), .val (.ref b1), .val (.int av), .val (.int en), .val (.int vv), .val (.int ww), .val (.int (own_got av en (nar .byte vv.toInt8.toInt32))), .val (.int (vv / (4 : Int32)))]) rfl k) ?_
          show OwnEnds _ _ _ _ (T3.setTop (mkF m 144 #[.val (.int pp), .val (.int qq), .val (.int xx), .val (.int yy), .val (.ref b1), .val (.int av), .val (.int en), .val (.int vv), .val (.int ww), .val (.int (own_got av en (nar .byte vv.toInt8.toInt32))), .val (.int (vv / (4 : Int32)))] []))
          refine OwnEnds.via (fun t k => XS.goto X3.here hx rfl (pc0 := 144) (pc' := 150) rfl (hb hby at_144) (by decide) (by decide) k) ?_
          show OwnEnds _ _ _ _ (T3.setTop (mkF m 150 #[.val (.int pp), .val (.int qq), .val (.int xx), .val (.int yy), .val (.ref b1), .val (.int av), .val (.int en), .val (.int vv), .val (.int ww), .val (.int (own_got av en (nar .byte vv.toInt8.toInt32))), .val (.int (vv / (4 : Int32)))] []))
          refine OwnEnds.via (fun t k => XS.iload X3.here hx rfl (hb hby at_150) rfl k) ?_
          show OwnEnds _ _ _ _ (T3.setTop (mkF m 152 #[.val (.int pp), .val (.int qq), .val (.int xx), .val (.int yy), .val (.ref b1), .val (.int av), .val (.int en), .val (.int vv), .val (.int ww), .val (.int (own_got av en (nar .byte vv.toInt8.toInt32))), .val (.int (vv / (4 : Int32)))] [(.int (own_got av en (nar .byte vv.toInt8.toInt32)))]))
          refine OwnEnds.via (fun t k => XS.iload X3.here hx rfl (hb hby at_152) rfl k) ?_
          show OwnEnds _ _ _ _ (T3.setTop (mkF m 154 #[.val (.int pp), .val (.int qq), .val (.int xx), .val (.int yy), .val (.ref b1), .val (.int av), .val (.int en), .val (.int vv), .val (.int ww), .val (.int (own_got av en (nar .byte vv.toInt8.toInt32))), .val (.int (vv / (4 : Int32)))] [(.int (vv / (4 : Int32))), (.int (own_got av en (nar .byte vv.toInt8.toInt32)))]))
          refine OwnEnds.via (fun t k => XS.icmpNo X3.here hx rfl (hb hby at_154) rfl (teq ((own_fin r_av r_en r_vv).2.2.2 hc102_4 hc115_5 hc135_6)).2 k) ?_
          show OwnEnds _ _ _ _ (T3.setTop (mkF m 157 #[.val (.int pp), .val (.int qq), .val (.int xx), .val (.int yy), .val (.ref b1), .val (.int av), .val (.int en), .val (.int vv), .val (.int ww), .val (.int (own_got av en (nar .byte vv.toInt8.toInt32))), .val (.int (vv / (4 : Int32)))] []))
          refine OwnEnds.via (fun t k => XS.iconst X3.here hx rfl (hb hby at_157) k) ?_
          show OwnEnds _ _ _ _ (T3.setTop (mkF m 158 #[.val (.int pp), .val (.int qq), .val (.int xx), .val (.int yy), .val (.ref b1), .val (.int av), .val (.int en), .val (.int vv), .val (.int ww), .val (.int (own_got av en (nar .byte vv.toInt8.toInt32))), .val (.int (vv / (4 : Int32)))] [(.int (1 : Int32))]))
          refine OwnEnds.via (fun t k => XS.goto X3.here hx rfl (pc0 := 158) (pc' := 162) rfl (hb hby at_158) (by decide) (by decide) k) ?_
          show OwnEnds _ _ _ _ (T3.setTop (mkF m 162 #[.val (.int pp), .val (.int qq), .val (.int xx), .val (.int yy), .val (.ref b1), .val (.int av), .val (.int en), .val (.int vv), .val (.int ww), .val (.int (own_got av en (nar .byte vv.toInt8.toInt32))), .val (.int (vv / (4 : Int32)))] [(.int (1 : Int32))]))
          obtain ⟨fs, hr, hrun, hended, hW, hsame⟩ := X3.leave (v := some (.int (1 : Int32))) (fun h => by rw [Bd.returns] at h; cases h)
          refine ⟨_, _, ?_, hrun, hended, _, _, rfl, ?_, ⟨_, rfl⟩, hW, hsame.mono (by decide) (by decide)⟩
          · exact retN X3 hx (t := .boolean) Bd.returns (by simp) (hb hby at_162) hr
          · show Q0 Z pp qq xx yy h0 n0 _ T3.heap _
            rw [e3]
            exact ⟨rfl, N3⟩
      ·
        refine OwnEnds.via (fun t k => XS.ifNo X3.here hx rfl (hb hby at_115) rfl ((if0 _ _).trans (feq hc115_5).1) k) ?_
        show OwnEnds _ _ _ _ (T3.setTop (mkF m 118 #[.val (.int pp), .val (.int qq), .val (.int xx), .val (.int yy), .val (.ref b1), .val (.int av), .val (.int en), .val (.int vv), .val (.int ww), .val (.int (own_got av en (nar .byte vv.toInt8.toInt32))), .unset] []))
        refine OwnEnds.via (fun t k => XS.iconst X3.here hx rfl (hb hby at_118) k) ?_
        show OwnEnds _ _ _ _ (T3.setTop (mkF m 119 #[.val (.int pp), .val (.int qq), .val (.int xx), .val (.int yy), .val (.ref b1), .val (.int av), .val (.int en), .val (.int vv), .val (.int ww), .val (.int (own_got av en (nar .byte vv.toInt8.toInt32))), .unset] [(.int (-1 : Int32))]))
        refine OwnEnds.via (fun t k => XS.istore X3.here hx rfl (hb hby at_119) rfl (l' := #[.val (.int pp), .val (.int qq), .val (.int xx), .val (.int yy), .val (.ref b1), .val (.int av), .val (.int en), .val (.int vv), .val (.int ww), .val (.int (own_got av en (nar .byte vv.toInt8.toInt32))), .val (.int (-1 : Int32))]) rfl k) ?_
        show OwnEnds _ _ _ _ (T3.setTop (mkF m 121 #[.val (.int pp), .val (.int qq), .val (.int xx), .val (.int yy), .val (.ref b1), .val (.int av), .val (.int en), .val (.int vv), .val (.int ww), .val (.int (own_got av en (nar .byte vv.toInt8.toInt32))), .val (.int (-1 : Int32))] []))
        refine OwnEnds.via (fun t k => XS.goto X3.here hx rfl (pc0 := 121) (pc' := 150) rfl (hb hby at_121) (by decide) (by decide) k) ?_
        show OwnEnds _ _ _ _ (T3.setTop (mkF m 150 #[.val (.int pp), .val (.int qq), .val (.int xx), .val (.int yy), .val (.ref b1), .val (.int av), .val (.int en), .val (.int vv), .val (.int ww), .val (.int (own_got av en (nar .byte vv.toInt8.toInt32))), .val (.int (-1 : Int32))] []))
        refine OwnEnds.via (fun t k => XS.iload X3.here hx rfl (hb hby at_150) rfl k) ?_
        show OwnEnds _ _ _ _ (T3.setTop (mkF m 152 #[.val (.int pp), .val (.int qq), .val (.int xx), .val (.int yy), .val (.ref b1), .val (.int av), .val (.int en), .val (.int vv), .val (.int ww), .val (.int (own_got av en (nar .byte vv.toInt8.toInt32))), .val (.int (-1 : Int32))] [(.int (own_got av en (nar .byte vv.toInt8.toInt32)))]))
        refine OwnEnds.via (fun t k => XS.iload X3.here hx rfl (hb hby at_152) rfl k) ?_
        show OwnEnds _ _ _ _ (T3.setTop (mkF m 154 #[.val (.int pp), .val (.int qq), .val (.int xx), .val (.int yy), .val (.ref b1), .val (.int av), .val (.int en), .val (.int vv), .val (.int ww), .val (.int (own_got av en (nar .byte vv.toInt8.toInt32))), .val (.int (-1 : Int32))] [(.int (-1 : Int32)), (.int (own_got av en (nar .byte vv.toInt8.toInt32)))]))
        refine OwnEnds.via (fun t k => XS.icmpNo X3.here hx rfl (hb hby at_154) rfl (teq ((own_fin r_av r_en r_vv).2.1 hc102_4 hc115_5)).2 k) ?_
        show OwnEnds _ _ _ _ (T3.setTop (mkF m 157 #[.val (.int pp), .val (.int qq), .val (.int xx), .val (.int yy), .val (.ref b1), .val (.int av), .val (.int en), .val (.int vv), .val (.int ww), .val (.int (own_got av en (nar .byte vv.toInt8.toInt32))), .val (.int (-1 : Int32))] []))
        refine OwnEnds.via (fun t k => XS.iconst X3.here hx rfl (hb hby at_157) k) ?_
        show OwnEnds _ _ _ _ (T3.setTop (mkF m 158 #[.val (.int pp), .val (.int qq), .val (.int xx), .val (.int yy), .val (.ref b1), .val (.int av), .val (.int en), .val (.int vv), .val (.int ww), .val (.int (own_got av en (nar .byte vv.toInt8.toInt32))), .val (.int (-1 : Int32))] [(.int (1 : Int32))]))
        refine OwnEnds.via (fun t k => XS.goto X3.here hx rfl (pc0 := 158) (pc' := 162) rfl (hb hby at_158) (by decide) (by decide) k) ?_
        show OwnEnds _ _ _ _ (T3.setTop (mkF m 162 #[.val (.int pp), .val (.int qq), .val (.int xx), .val (.int yy), .val (.ref b1), .val (.int av), .val (.int en), .val (.int vv), .val (.int ww), .val (.int (own_got av en (nar .byte vv.toInt8.toInt32))), .val (.int (-1 : Int32))] [(.int (1 : Int32))]))
        obtain ⟨fs, hr, hrun, hended, hW, hsame⟩ := X3.leave (v := some (.int (1 : Int32))) (fun h => by rw [Bd.returns] at h; cases h)
        refine ⟨_, _, ?_, hrun, hended, _, _, rfl, ?_, ⟨_, rfl⟩, hW, hsame.mono (by decide) (by decide)⟩
        · exact retN X3 hx (t := .boolean) Bd.returns (by simp) (hb hby at_162) hr
        · show Q0 Z pp qq xx yy h0 n0 _ T3.heap _
          rw [e3]
          exact ⟨rfl, N3⟩
    ·
      refine OwnEnds.via (fun t k => XS.icmpNo X3.here hx rfl (hb hby at_102) rfl (flt hc102_4).1 k) ?_
      show OwnEnds _ _ _ _ (T3.setTop (mkF m 105 #[.val (.int pp), .val (.int qq), .val (.int xx), .val (.int yy), .val (.ref b1), .val (.int av), .val (.int en), .val (.int vv), .val (.int ww), .val (.int (own_got av en (nar .byte vv.toInt8.toInt32))), .unset] []))
      refine OwnEnds.via (fun t k => XS.iconst X3.here hx rfl (hb hby at_105) k) ?_
      show OwnEnds _ _ _ _ (T3.setTop (mkF m 106 #[.val (.int pp), .val (.int qq), .val (.int xx), .val (.int yy), .val (.ref b1), .val (.int av), .val (.int en), .val (.int vv), .val (.int ww), .val (.int (own_got av en (nar .byte vv.toInt8.toInt32))), .unset] [(.int (-1 : Int32))]))
      refine OwnEnds.via (fun t k => XS.istore X3.here hx rfl (hb hby at_106) rfl (l' := #[.val (.int pp), .val (.int qq), .val (.int xx), .val (.int yy), .val (.ref b1), .val (.int av), .val (.int en), .val (.int vv), .val (.int ww), .val (.int (own_got av en (nar .byte vv.toInt8.toInt32))), .val (.int (-1 : Int32))]) rfl k) ?_
      show OwnEnds _ _ _ _ (T3.setTop (mkF m 108 #[.val (.int pp), .val (.int qq), .val (.int xx), .val (.int yy), .val (.ref b1), .val (.int av), .val (.int en), .val (.int vv), .val (.int ww), .val (.int (own_got av en (nar .byte vv.toInt8.toInt32))), .val (.int (-1 : Int32))] []))
      refine OwnEnds.via (fun t k => XS.goto X3.here hx rfl (pc0 := 108) (pc' := 150) rfl (hb hby at_108) (by decide) (by decide) k) ?_
      show OwnEnds _ _ _ _ (T3.setTop (mkF m 150 #[.val (.int pp), .val (.int qq), .val (.int xx), .val (.int yy), .val (.ref b1), .val (.int av), .val (.int en), .val (.int vv), .val (.int ww), .val (.int (own_got av en (nar .byte vv.toInt8.toInt32))), .val (.int (-1 : Int32))] []))
      refine OwnEnds.via (fun t k => XS.iload X3.here hx rfl (hb hby at_150) rfl k) ?_
      show OwnEnds _ _ _ _ (T3.setTop (mkF m 152 #[.val (.int pp), .val (.int qq), .val (.int xx), .val (.int yy), .val (.ref b1), .val (.int av), .val (.int en), .val (.int vv), .val (.int ww), .val (.int (own_got av en (nar .byte vv.toInt8.toInt32))), .val (.int (-1 : Int32))] [(.int (own_got av en (nar .byte vv.toInt8.toInt32)))]))
      refine OwnEnds.via (fun t k => XS.iload X3.here hx rfl (hb hby at_152) rfl k) ?_
      show OwnEnds _ _ _ _ (T3.setTop (mkF m 154 #[.val (.int pp), .val (.int qq), .val (.int xx), .val (.int yy), .val (.ref b1), .val (.int av), .val (.int en), .val (.int vv), .val (.int ww), .val (.int (own_got av en (nar .byte vv.toInt8.toInt32))), .val (.int (-1 : Int32))] [(.int (-1 : Int32)), (.int (own_got av en (nar .byte vv.toInt8.toInt32)))]))
      refine OwnEnds.via (fun t k => XS.icmpNo X3.here hx rfl (hb hby at_154) rfl (teq ((own_fin r_av r_en r_vv).1 hc102_4)).2 k) ?_
      show OwnEnds _ _ _ _ (T3.setTop (mkF m 157 #[.val (.int pp), .val (.int qq), .val (.int xx), .val (.int yy), .val (.ref b1), .val (.int av), .val (.int en), .val (.int vv), .val (.int ww), .val (.int (own_got av en (nar .byte vv.toInt8.toInt32))), .val (.int (-1 : Int32))] []))
      refine OwnEnds.via (fun t k => XS.iconst X3.here hx rfl (hb hby at_157) k) ?_
      show OwnEnds _ _ _ _ (T3.setTop (mkF m 158 #[.val (.int pp), .val (.int qq), .val (.int xx), .val (.int yy), .val (.ref b1), .val (.int av), .val (.int en), .val (.int vv), .val (.int ww), .val (.int (own_got av en (nar .byte vv.toInt8.toInt32))), .val (.int (-1 : Int32))] [(.int (1 : Int32))]))
      refine OwnEnds.via (fun t k => XS.goto X3.here hx rfl (pc0 := 158) (pc' := 162) rfl (hb hby at_158) (by decide) (by decide) k) ?_
      show OwnEnds _ _ _ _ (T3.setTop (mkF m 162 #[.val (.int pp), .val (.int qq), .val (.int xx), .val (.int yy), .val (.ref b1), .val (.int av), .val (.int en), .val (.int vv), .val (.int ww), .val (.int (own_got av en (nar .byte vv.toInt8.toInt32))), .val (.int (-1 : Int32))] [(.int (1 : Int32))]))
      obtain ⟨fs, hr, hrun, hended, hW, hsame⟩ := X3.leave (v := some (.int (1 : Int32))) (fun h => by rw [Bd.returns] at h; cases h)
      refine ⟨_, _, ?_, hrun, hended, _, _, rfl, ?_, ⟨_, rfl⟩, hW, hsame.mono (by decide) (by decide)⟩
      · exact retN X3 hx (t := .boolean) Bd.returns (by simp) (hb hby at_162) hr
      · show Q0 Z pp qq xx yy h0 n0 _ T3.heap _
        rw [e3]
        exact ⟨rfl, N3⟩
  intro J2
  by_cases hc40_7 : (0 : Int32) < av
  ·
    refine OwnEnds.via (fun t k => XS.ifNo X1.here hx rfl (hb hby at_40) rfl ((if0 _ _).trans (tlt hc40_7).2.2.2) k) ?_
    show OwnEnds _ _ _ _ (T1.setTop (mkF m 43 #[.val (.int pp), .val (.int qq), .val (.int xx), .val (.int yy), .val (.ref b1), .val (.int av), .val (.int en), .val (.int vv), .val (.int ww), .unset, .unset] []))
    refine OwnEnds.via (fun t k => XS.aload X1.here hx rfl (hb hby at_43) rfl rfl k) ?_
    show OwnEnds _ _ _ _ (T1.setTop (mkF m 45 #[.val (.int pp), .val (.int qq), .val (.int xx), .val (.int yy), .val (.ref b1), .val (.int av), .val (.int en), .val (.int vv), .val (.int ww), .unset, .unset] [(.ref b1)]))
    refine OwnEnds.via (fun t k => XS.iload X1.here hx rfl (hb hby at_45) rfl k) ?_
    show OwnEnds _ _ _ _ (T1.setTop (mkF m 47 #[.val (.int pp), .val (.int qq), .val (.int xx), .val (.int yy), .val (.ref b1), .val (.int av), .val (.int en), .val (.int vv), .val (.int ww), .unset, .unset] [(.int av), (.ref b1)]))
    refine OwnEnds.via (fun t k => XS.iconst X1.here hx rfl (hb hby at_47) k) ?_
    show OwnEnds _ _ _ _ (T1.setTop (mkF m 48 #[.val (.int pp), .val (.int qq), .val (.int xx), .val (.int yy), .val (.ref b1), .val (.int av), .val (.int en), .val (.int vv), .val (.int ww), .unset, .unset] [(.int (1 : Int32)), (.int av), (.ref b1)]))
    refine OwnEnds.via (fun t k => XS.isub X1.here hx rfl (hb hby at_48) rfl k) ?_
    show OwnEnds _ _ _ _ (T1.setTop (mkF m 49 #[.val (.int pp), .val (.int qq), .val (.int xx), .val (.int yy), .val (.ref b1), .val (.int av), .val (.int en), .val (.int vv), .val (.int ww), .unset, .unset] [(.int (av - (1 : Int32))), (.ref b1)]))
    refine OwnEnds.via (fun t k => XS.iload X1.here hx rfl (hb hby at_49) rfl k) ?_
    show OwnEnds _ _ _ _ (T1.setTop (mkF m 51 #[.val (.int pp), .val (.int qq), .val (.int xx), .val (.int yy), .val (.ref b1), .val (.int av), .val (.int en), .val (.int vv), .val (.int ww), .unset, .unset] [(.int ww), (.int (av - (1 : Int32))), (.ref b1)]))
    refine OwnEnds.via (fun t k => XS.i2b X1.here hx rfl (hb hby at_51) rfl k) ?_
    show OwnEnds _ _ _ _ (T1.setTop (mkF m 52 #[.val (.int pp), .val (.int qq), .val (.int xx), .val (.int yy), .val (.ref b1), .val (.int av), .val (.int en), .val (.int vv), .val (.int ww), .unset, .unset] [(.int (ww.toInt8.toInt32)), (.int (av - (1 : Int32))), (.ref b1)]))
    obtain ⟨cl8, Ar8, q8, S8, M8, H8, G8⟩ := id V1
    have hin8 : ¬ ((av - (1 : Int32)) < 0 ∨ cl8.slots.size ≤ ((av - (1 : Int32))).toNatClampNeg) := inb_of S8 (own_m1 r_av hc40_7)
    obtain ⟨T8, h8, X8, e8, W8, st8⟩ := stB X1 hx hZ e1 Ar8 (j := (av - (1 : Int32))) hin8 (g := (mkF m 52 #[.val (.int pp), .val (.int qq), .val (.int xx), .val (.int yy), .val (.ref b1), .val (.int av), .val (.int en), .val (.int vv), .val (.int ww), .unset, .unset] [(.int (ww.toInt8.toInt32)), (.int (av - (1 : Int32))), (.ref b1)])) rfl rfl (hb hby at_52)
    have V8 : Arv Z h8 b1 k1 .byte (80 : Int32) ((List.replicate 80 (.int (0 : Int32))).set ((av - (1 : Int32))).toNatClampNeg (.int (nar .byte (ww.toInt8.toInt32)))) (.int (0 : Int32)) := Arv.set Ar8 q8 S8 M8 H8 G8 (fits_nar_byte _) W8 ((av - (1 : Int32))).toNatClampNeg rfl (by simp only [List.length_set, List.length_replicate]; exact own_nat (own_m1 r_av hc40_7))
    have N8 := Fr.snoc X8 N0 ge_b1
    have Z8 : n0 ≤ h8.size := Nat.le_trans Z1 (Nat.le_of_eq W8.size.symm)
    refine OwnEnds.via st8 ?_
    show OwnEnds _ _ _ _ (T8.setTop (mkF m 53 #[.val (.int pp), .val (.int qq), .val (.int xx), .val (.int yy), .val (.ref b1), .val (.int av), .val (.int en), .val (.int vv), .val (.int ww), .unset, .unset] []))
    refine OwnEnds.via (fun t k => XS.iload X8.here hx rfl (hb hby at_53) rfl k) ?_
    show OwnEnds _ _ _ _ (T8.setTop (mkF m 55 #[.val (.int pp), .val (.int qq), .val (.int xx), .val (.int yy), .val (.ref b1), .val (.int av), .val (.int en), .val (.int vv), .val (.int ww), .unset, .unset] [(.int av)]))
    refine OwnEnds.via (fun t k => XS.iconst X8.here hx rfl (hb hby at_55) k) ?_
    show OwnEnds _ _ _ _ (T8.setTop (mkF m 56 #[.val (.int pp), .val (.int qq), .val (.int xx), .val (.int yy), .val (.ref b1), .val (.int av), .val (.int en), .val (.int vv), .val (.int ww), .unset, .unset] [(.int (1 : Int32)), (.int av)]))
    refine OwnEnds.via (fun t k => XS.iadd X8.here hx rfl (hb hby at_56) rfl k) ?_
    show OwnEnds _ _ _ _ (T8.setTop (mkF m 57 #[.val (.int pp), .val (.int qq), .val (.int xx), .val (.int yy), .val (.ref b1), .val (.int av), .val (.int en), .val (.int vv), .val (.int ww), .unset, .unset] [(.int (av + (1 : Int32)))]))
    refine OwnEnds.via (fun t k => XS.bipush X8.here hx rfl (hb hby at_57) k) ?_
    show OwnEnds _ _ _ _ (T8.setTop (mkF m 59 #[.val (.int pp), .val (.int qq), .val (.int xx), .val (.int yy), .val (.ref b1), .val (.int av), .val (.int en), .val (.int vv), .val (.int ww), .unset, .unset] [(.int (80 : Int32)), (.int (av + (1 : Int32)))]))
    by_cases hc59_9 : (av + (1 : Int32)) < (80 : Int32)
    ·
      refine OwnEnds.via (fun t k => XS.icmpNo X8.here hx rfl (hb hby at_59) rfl (tlt hc59_9).2.1 k) ?_
      show OwnEnds _ _ _ _ (T8.setTop (mkF m 62 #[.val (.int pp), .val (.int qq), .val (.int xx), .val (.int yy), .val (.ref b1), .val (.int av), .val (.int en), .val (.int vv), .val (.int ww), .unset, .unset] []))
      refine OwnEnds.via (fun t k => XS.aload X8.here hx rfl (hb hby at_62) rfl rfl k) ?_
      show OwnEnds _ _ _ _ (T8.setTop (mkF m 64 #[.val (.int pp), .val (.int qq), .val (.int xx), .val (.int yy), .val (.ref b1), .val (.int av), .val (.int en), .val (.int vv), .val (.int ww), .unset, .unset] [(.ref b1)]))
      refine OwnEnds.via (fun t k => XS.iload X8.here hx rfl (hb hby at_64) rfl k) ?_
      show OwnEnds _ _ _ _ (T8.setTop (mkF m 66 #[.val (.int pp), .val (.int qq), .val (.int xx), .val (.int yy), .val (.ref b1), .val (.int av), .val (.int en), .val (.int vv), .val (.int ww), .unset, .unset] [(.int av), (.ref b1)]))
      refine OwnEnds.via (fun t k => XS.iconst X8.here hx rfl (hb hby at_66) k) ?_
      show OwnEnds _ _ _ _ (T8.setTop (mkF m 67 #[.val (.int pp), .val (.int qq), .val (.int xx), .val (.int yy), .val (.ref b1), .val (.int av), .val (.int en), .val (.int vv), .val (.int ww), .unset, .unset] [(.int (1 : Int32)), (.int av), (.ref b1)]))
      refine OwnEnds.via (fun t k => XS.iadd X8.here hx rfl (hb hby at_67) rfl k) ?_
      show OwnEnds _ _ _ _ (T8.setTop (mkF m 68 #[.val (.int pp), .val (.int qq), .val (.int xx), .val (.int yy), .val (.ref b1), .val (.int av), .val (.int en), .val (.int vv), .val (.int ww), .unset, .unset] [(.int (av + (1 : Int32))), (.ref b1)]))
      refine OwnEnds.via (fun t k => XS.iload X8.here hx rfl (hb hby at_68) rfl k) ?_
      show OwnEnds _ _ _ _ (T8.setTop (mkF m 70 #[.val (.int pp), .val (.int qq), .val (.int xx), .val (.int yy), .val (.ref b1), .val (.int av), .val (.int en), .val (.int vv), .val (.int ww), .unset, .unset] [(.int ww), (.int (av + (1 : Int32))), (.ref b1)]))
      refine OwnEnds.via (fun t k => XS.i2b X8.here hx rfl (hb hby at_70) rfl k) ?_
      show OwnEnds _ _ _ _ (T8.setTop (mkF m 71 #[.val (.int pp), .val (.int qq), .val (.int xx), .val (.int yy), .val (.ref b1), .val (.int av), .val (.int en), .val (.int vv), .val (.int ww), .unset, .unset] [(.int (ww.toInt8.toInt32)), (.int (av + (1 : Int32))), (.ref b1)]))
      obtain ⟨cl10, Ar10, q10, S10, M10, H10, G10⟩ := id V8
      have hin10 : ¬ ((av + (1 : Int32)) < 0 ∨ cl10.slots.size ≤ ((av + (1 : Int32))).toNatClampNeg) := inb_of S10 (own_p1 r_av hc59_9)
      obtain ⟨T10, h10, X10, e10, W10, st10⟩ := stB X8 hx hZ e8 Ar10 (j := (av + (1 : Int32))) hin10 (g := (mkF m 71 #[.val (.int pp), .val (.int qq), .val (.int xx), .val (.int yy), .val (.ref b1), .val (.int av), .val (.int en), .val (.int vv), .val (.int ww), .unset, .unset] [(.int (ww.toInt8.toInt32)), (.int (av + (1 : Int32))), (.ref b1)])) rfl rfl (hb hby at_71)
      have V10 : Arv Z h10 b1 k1 .byte (80 : Int32) (((List.replicate 80 (.int (0 : Int32))).set ((av - (1 : Int32))).toNatClampNeg (.int (nar .byte (ww.toInt8.toInt32)))).set ((av + (1 : Int32))).toNatClampNeg (.int (nar .byte (ww.toInt8.toInt32)))) (.int (0 : Int32)) := Arv.set Ar10 q10 S10 M10 H10 G10 (fits_nar_byte _) W10 ((av + (1 : Int32))).toNatClampNeg rfl (by simp only [List.length_set, List.length_replicate]; exact own_nat (own_p1 r_av hc59_9))
      have N10 := Fr.snoc X10 N8 ge_b1
      have Z10 : n0 ≤ h10.size := Nat.le_trans Z8 (Nat.le_of_eq W10.size.symm)
      refine OwnEnds.via st10 ?_
      show OwnEnds _ _ _ _ (T10.setTop (mkF m 72 #[.val (.int pp), .val (.int qq), .val (.int xx), .val (.int yy), .val (.ref b1), .val (.int av), .val (.int en), .val (.int vv), .val (.int ww), .unset, .unset] []))
      refine OwnEnds.via (fun t k => XS.iload X10.here hx rfl (hb hby at_72) rfl k) ?_
      show OwnEnds _ _ _ _ (T10.setTop (mkF m 74 #[.val (.int pp), .val (.int qq), .val (.int xx), .val (.int yy), .val (.ref b1), .val (.int av), .val (.int en), .val (.int vv), .val (.int ww), .unset, .unset] [(.int av)]))
      refine OwnEnds.via (fun t k => XS.bipush X10.here hx rfl (hb hby at_74) k) ?_
      show OwnEnds _ _ _ _ (T10.setTop (mkF m 76 #[.val (.int pp), .val (.int qq), .val (.int xx), .val (.int yy), .val (.ref b1), .val (.int av), .val (.int en), .val (.int vv), .val (.int ww), .unset, .unset] [(.int (80 : Int32)), (.int av)]))
      by_cases hc76_11 : av < (80 : Int32)
      ·
        refine OwnEnds.via (fun t k => XS.icmpNo X10.here hx rfl (hb hby at_76) rfl (tlt hc76_11).2.1 k) ?_
        show OwnEnds _ _ _ _ (T10.setTop (mkF m 79 #[.val (.int pp), .val (.int qq), .val (.int xx), .val (.int yy), .val (.ref b1), .val (.int av), .val (.int en), .val (.int vv), .val (.int ww), .unset, .unset] []))
        refine OwnEnds.via (fun t k => XS.aload X10.here hx rfl (hb hby at_79) rfl rfl k) ?_
        show OwnEnds _ _ _ _ (T10.setTop (mkF m 81 #[.val (.int pp), .val (.int qq), .val (.int xx), .val (.int yy), .val (.ref b1), .val (.int av), .val (.int en), .val (.int vv), .val (.int ww), .unset, .unset] [(.ref b1)]))
        refine OwnEnds.via (fun t k => XS.iload X10.here hx rfl (hb hby at_81) rfl k) ?_
        show OwnEnds _ _ _ _ (T10.setTop (mkF m 83 #[.val (.int pp), .val (.int qq), .val (.int xx), .val (.int yy), .val (.ref b1), .val (.int av), .val (.int en), .val (.int vv), .val (.int ww), .unset, .unset] [(.int av), (.ref b1)]))
        refine OwnEnds.via (fun t k => XS.iload X10.here hx rfl (hb hby at_83) rfl k) ?_
        show OwnEnds _ _ _ _ (T10.setTop (mkF m 85 #[.val (.int pp), .val (.int qq), .val (.int xx), .val (.int yy), .val (.ref b1), .val (.int av), .val (.int en), .val (.int vv), .val (.int ww), .unset, .unset] [(.int vv), (.int av), (.ref b1)]))
        refine OwnEnds.via (fun t k => XS.i2b X10.here hx rfl (hb hby at_85) rfl k) ?_
        show OwnEnds _ _ _ _ (T10.setTop (mkF m 86 #[.val (.int pp), .val (.int qq), .val (.int xx), .val (.int yy), .val (.ref b1), .val (.int av), .val (.int en), .val (.int vv), .val (.int ww), .unset, .unset] [(.int (vv.toInt8.toInt32)), (.int av), (.ref b1)]))
        obtain ⟨cl12, Ar12, q12, S12, M12, H12, G12⟩ := id V10
        have hin12 : ¬ (av < 0 ∨ cl12.slots.size ≤ (av).toNatClampNeg) := inb_of S12 (own_p0 r_av hc76_11)
        obtain ⟨T12, h12, X12, e12, W12, st12⟩ := stB X10 hx hZ e10 Ar12 (j := av) hin12 (g := (mkF m 86 #[.val (.int pp), .val (.int qq), .val (.int xx), .val (.int yy), .val (.ref b1), .val (.int av), .val (.int en), .val (.int vv), .val (.int ww), .unset, .unset] [(.int (vv.toInt8.toInt32)), (.int av), (.ref b1)])) rfl rfl (hb hby at_86)
        have V12 : Arv Z h12 b1 k1 .byte (80 : Int32) ((((List.replicate 80 (.int (0 : Int32))).set ((av - (1 : Int32))).toNatClampNeg (.int (nar .byte (ww.toInt8.toInt32)))).set ((av + (1 : Int32))).toNatClampNeg (.int (nar .byte (ww.toInt8.toInt32)))).set (av).toNatClampNeg (.int (nar .byte (vv.toInt8.toInt32)))) (.int (0 : Int32)) := Arv.set Ar12 q12 S12 M12 H12 G12 (fits_nar_byte _) W12 (av).toNatClampNeg rfl (by simp only [List.length_set, List.length_replicate]; exact own_nat (own_p0 r_av hc76_11))
        have N12 := Fr.snoc X12 N10 ge_b1
        have Z12 : n0 ≤ h12.size := Nat.le_trans Z10 (Nat.le_of_eq W12.size.symm)
        refine OwnEnds.via st12 ?_
        exact J2 _ _ _ X12 e12 N12 Z12 ((((List.replicate 80 (.int (0 : Int32))).set ((av - (1 : Int32))).toNatClampNeg (.int (nar .byte (ww.toInt8.toInt32)))).set ((av + (1 : Int32))).toNatClampNeg (.int (nar .byte (ww.toInt8.toInt32)))).set (av).toNatClampNeg (.int (nar .byte (vv.toInt8.toInt32)))) V12 (fun _ => own_set (by simp only [List.length_set, List.length_replicate]; exact own_nat (own_p0 r_av hc76_11)))
      ·
        refine OwnEnds.via (fun t k => XS.icmpYes X10.here hx rfl (pc0 := 76) (pc' := 87) rfl (hb hby at_76) rfl (flt hc76_11).2.1 (by decide) (by decide) k) ?_
        exact J2 _ _ _ X10 e10 N10 Z10 (((List.replicate 80 (.int (0 : Int32))).set ((av - (1 : Int32))).toNatClampNeg (.int (nar .byte (ww.toInt8.toInt32)))).set ((av + (1 : Int32))).toNatClampNeg (.int (nar .byte (ww.toInt8.toInt32)))) V10 (fun z => absurd z hc76_11)
    ·
      refine OwnEnds.via (fun t k => XS.icmpYes X8.here hx rfl (pc0 := 59) (pc' := 72) rfl (hb hby at_59) rfl (flt hc59_9).2.1 (by decide) (by decide) k) ?_
      show OwnEnds _ _ _ _ (T8.setTop (mkF m 72 #[.val (.int pp), .val (.int qq), .val (.int xx), .val (.int yy), .val (.ref b1), .val (.int av), .val (.int en), .val (.int vv), .val (.int ww), .unset, .unset] []))
      refine OwnEnds.via (fun t k => XS.iload X8.here hx rfl (hb hby at_72) rfl k) ?_
      show OwnEnds _ _ _ _ (T8.setTop (mkF m 74 #[.val (.int pp), .val (.int qq), .val (.int xx), .val (.int yy), .val (.ref b1), .val (.int av), .val (.int en), .val (.int vv), .val (.int ww), .unset, .unset] [(.int av)]))
      refine OwnEnds.via (fun t k => XS.bipush X8.here hx rfl (hb hby at_74) k) ?_
      show OwnEnds _ _ _ _ (T8.setTop (mkF m 76 #[.val (.int pp), .val (.int qq), .val (.int xx), .val (.int yy), .val (.ref b1), .val (.int av), .val (.int en), .val (.int vv), .val (.int ww), .unset, .unset] [(.int (80 : Int32)), (.int av)]))
      by_cases hc76_13 : av < (80 : Int32)
      ·
        refine OwnEnds.via (fun t k => XS.icmpNo X8.here hx rfl (hb hby at_76) rfl (tlt hc76_13).2.1 k) ?_
        show OwnEnds _ _ _ _ (T8.setTop (mkF m 79 #[.val (.int pp), .val (.int qq), .val (.int xx), .val (.int yy), .val (.ref b1), .val (.int av), .val (.int en), .val (.int vv), .val (.int ww), .unset, .unset] []))
        refine OwnEnds.via (fun t k => XS.aload X8.here hx rfl (hb hby at_79) rfl rfl k) ?_
        show OwnEnds _ _ _ _ (T8.setTop (mkF m 81 #[.val (.int pp), .val (.int qq), .val (.int xx), .val (.int yy), .val (.ref b1), .val (.int av), .val (.int en), .val (.int vv), .val (.int ww), .unset, .unset] [(.ref b1)]))
        refine OwnEnds.via (fun t k => XS.iload X8.here hx rfl (hb hby at_81) rfl k) ?_
        show OwnEnds _ _ _ _ (T8.setTop (mkF m 83 #[.val (.int pp), .val (.int qq), .val (.int xx), .val (.int yy), .val (.ref b1), .val (.int av), .val (.int en), .val (.int vv), .val (.int ww), .unset, .unset] [(.int av), (.ref b1)]))
        refine OwnEnds.via (fun t k => XS.iload X8.here hx rfl (hb hby at_83) rfl k) ?_
        show OwnEnds _ _ _ _ (T8.setTop (mkF m 85 #[.val (.int pp), .val (.int qq), .val (.int xx), .val (.int yy), .val (.ref b1), .val (.int av), .val (.int en), .val (.int vv), .val (.int ww), .unset, .unset] [(.int vv), (.int av), (.ref b1)]))
        refine OwnEnds.via (fun t k => XS.i2b X8.here hx rfl (hb hby at_85) rfl k) ?_
        show OwnEnds _ _ _ _ (T8.setTop (mkF m 86 #[.val (.int pp), .val (.int qq), .val (.int xx), .val (.int yy), .val (.ref b1), .val (.int av), .val (.int en), .val (.int vv), .val (.int ww), .unset, .unset] [(.int (vv.toInt8.toInt32)), (.int av), (.ref b1)]))
        obtain ⟨cl14, Ar14, q14, S14, M14, H14, G14⟩ := id V8
        have hin14 : ¬ (av < 0 ∨ cl14.slots.size ≤ (av).toNatClampNeg) := inb_of S14 (own_p0 r_av hc76_13)
        obtain ⟨T14, h14, X14, e14, W14, st14⟩ := stB X8 hx hZ e8 Ar14 (j := av) hin14 (g := (mkF m 86 #[.val (.int pp), .val (.int qq), .val (.int xx), .val (.int yy), .val (.ref b1), .val (.int av), .val (.int en), .val (.int vv), .val (.int ww), .unset, .unset] [(.int (vv.toInt8.toInt32)), (.int av), (.ref b1)])) rfl rfl (hb hby at_86)
        have V14 : Arv Z h14 b1 k1 .byte (80 : Int32) (((List.replicate 80 (.int (0 : Int32))).set ((av - (1 : Int32))).toNatClampNeg (.int (nar .byte (ww.toInt8.toInt32)))).set (av).toNatClampNeg (.int (nar .byte (vv.toInt8.toInt32)))) (.int (0 : Int32)) := Arv.set Ar14 q14 S14 M14 H14 G14 (fits_nar_byte _) W14 (av).toNatClampNeg rfl (by simp only [List.length_set, List.length_replicate]; exact own_nat (own_p0 r_av hc76_13))
        have N14 := Fr.snoc X14 N8 ge_b1
        have Z14 : n0 ≤ h14.size := Nat.le_trans Z8 (Nat.le_of_eq W14.size.symm)
        refine OwnEnds.via st14 ?_
        exact J2 _ _ _ X14 e14 N14 Z14 (((List.replicate 80 (.int (0 : Int32))).set ((av - (1 : Int32))).toNatClampNeg (.int (nar .byte (ww.toInt8.toInt32)))).set (av).toNatClampNeg (.int (nar .byte (vv.toInt8.toInt32)))) V14 (fun _ => own_set (by simp only [List.length_set, List.length_replicate]; exact own_nat (own_p0 r_av hc76_13)))
      ·
        refine OwnEnds.via (fun t k => XS.icmpYes X8.here hx rfl (pc0 := 76) (pc' := 87) rfl (hb hby at_76) rfl (flt hc76_13).2.1 (by decide) (by decide) k) ?_
        exact J2 _ _ _ X8 e8 N8 Z8 ((List.replicate 80 (.int (0 : Int32))).set ((av - (1 : Int32))).toNatClampNeg (.int (nar .byte (ww.toInt8.toInt32)))) V8 (fun z => absurd z hc76_13)
  ·
    refine OwnEnds.via (fun t k => XS.ifYes X1.here hx rfl (pc0 := 40) (pc' := 53) rfl (hb hby at_40) rfl ((if0 _ _).trans (flt hc40_7).2.2.2) (by decide) (by decide) k) ?_
    show OwnEnds _ _ _ _ (T1.setTop (mkF m 53 #[.val (.int pp), .val (.int qq), .val (.int xx), .val (.int yy), .val (.ref b1), .val (.int av), .val (.int en), .val (.int vv), .val (.int ww), .unset, .unset] []))
    refine OwnEnds.via (fun t k => XS.iload X1.here hx rfl (hb hby at_53) rfl k) ?_
    show OwnEnds _ _ _ _ (T1.setTop (mkF m 55 #[.val (.int pp), .val (.int qq), .val (.int xx), .val (.int yy), .val (.ref b1), .val (.int av), .val (.int en), .val (.int vv), .val (.int ww), .unset, .unset] [(.int av)]))
    refine OwnEnds.via (fun t k => XS.iconst X1.here hx rfl (hb hby at_55) k) ?_
    show OwnEnds _ _ _ _ (T1.setTop (mkF m 56 #[.val (.int pp), .val (.int qq), .val (.int xx), .val (.int yy), .val (.ref b1), .val (.int av), .val (.int en), .val (.int vv), .val (.int ww), .unset, .unset] [(.int (1 : Int32)), (.int av)]))
    refine OwnEnds.via (fun t k => XS.iadd X1.here hx rfl (hb hby at_56) rfl k) ?_
    show OwnEnds _ _ _ _ (T1.setTop (mkF m 57 #[.val (.int pp), .val (.int qq), .val (.int xx), .val (.int yy), .val (.ref b1), .val (.int av), .val (.int en), .val (.int vv), .val (.int ww), .unset, .unset] [(.int (av + (1 : Int32)))]))
    refine OwnEnds.via (fun t k => XS.bipush X1.here hx rfl (hb hby at_57) k) ?_
    show OwnEnds _ _ _ _ (T1.setTop (mkF m 59 #[.val (.int pp), .val (.int qq), .val (.int xx), .val (.int yy), .val (.ref b1), .val (.int av), .val (.int en), .val (.int vv), .val (.int ww), .unset, .unset] [(.int (80 : Int32)), (.int (av + (1 : Int32)))]))
    by_cases hc59_15 : (av + (1 : Int32)) < (80 : Int32)
    ·
      refine OwnEnds.via (fun t k => XS.icmpNo X1.here hx rfl (hb hby at_59) rfl (tlt hc59_15).2.1 k) ?_
      show OwnEnds _ _ _ _ (T1.setTop (mkF m 62 #[.val (.int pp), .val (.int qq), .val (.int xx), .val (.int yy), .val (.ref b1), .val (.int av), .val (.int en), .val (.int vv), .val (.int ww), .unset, .unset] []))
      refine OwnEnds.via (fun t k => XS.aload X1.here hx rfl (hb hby at_62) rfl rfl k) ?_
      show OwnEnds _ _ _ _ (T1.setTop (mkF m 64 #[.val (.int pp), .val (.int qq), .val (.int xx), .val (.int yy), .val (.ref b1), .val (.int av), .val (.int en), .val (.int vv), .val (.int ww), .unset, .unset] [(.ref b1)]))
      refine OwnEnds.via (fun t k => XS.iload X1.here hx rfl (hb hby at_64) rfl k) ?_
      show OwnEnds _ _ _ _ (T1.setTop (mkF m 66 #[.val (.int pp), .val (.int qq), .val (.int xx), .val (.int yy), .val (.ref b1), .val (.int av), .val (.int en), .val (.int vv), .val (.int ww), .unset, .unset] [(.int av), (.ref b1)]))
      refine OwnEnds.via (fun t k => XS.iconst X1.here hx rfl (hb hby at_66) k) ?_
      show OwnEnds _ _ _ _ (T1.setTop (mkF m 67 #[.val (.int pp), .val (.int qq), .val (.int xx), .val (.int yy), .val (.ref b1), .val (.int av), .val (.int en), .val (.int vv), .val (.int ww), .unset, .unset] [(.int (1 : Int32)), (.int av), (.ref b1)]))
      refine OwnEnds.via (fun t k => XS.iadd X1.here hx rfl (hb hby at_67) rfl k) ?_
      show OwnEnds _ _ _ _ (T1.setTop (mkF m 68 #[.val (.int pp), .val (.int qq), .val (.int xx), .val (.int yy), .val (.ref b1), .val (.int av), .val (.int en), .val (.int vv), .val (.int ww), .unset, .unset] [(.int (av + (1 : Int32))), (.ref b1)]))
      refine OwnEnds.via (fun t k => XS.iload X1.here hx rfl (hb hby at_68) rfl k) ?_
      show OwnEnds _ _ _ _ (T1.setTop (mkF m 70 #[.val (.int pp), .val (.int qq), .val (.int xx), .val (.int yy), .val (.ref b1), .val (.int av), .val (.int en), .val (.int vv), .val (.int ww), .unset, .unset] [(.int ww), (.int (av + (1 : Int32))), (.ref b1)]))
      refine OwnEnds.via (fun t k => XS.i2b X1.here hx rfl (hb hby at_70) rfl k) ?_
      show OwnEnds _ _ _ _ (T1.setTop (mkF m 71 #[.val (.int pp), .val (.int qq), .val (.int xx), .val (.int yy), .val (.ref b1), .val (.int av), .val (.int en), .val (.int vv), .val (.int ww), .unset, .unset] [(.int (ww.toInt8.toInt32)), (.int (av + (1 : Int32))), (.ref b1)]))
      obtain ⟨cl16, Ar16, q16, S16, M16, H16, G16⟩ := id V1
      have hin16 : ¬ ((av + (1 : Int32)) < 0 ∨ cl16.slots.size ≤ ((av + (1 : Int32))).toNatClampNeg) := inb_of S16 (own_p1 r_av hc59_15)
      obtain ⟨T16, h16, X16, e16, W16, st16⟩ := stB X1 hx hZ e1 Ar16 (j := (av + (1 : Int32))) hin16 (g := (mkF m 71 #[.val (.int pp), .val (.int qq), .val (.int xx), .val (.int yy), .val (.ref b1), .val (.int av), .val (.int en), .val (.int vv), .val (.int ww), .unset, .unset] [(.int (ww.toInt8.toInt32)), (.int (av + (1 : Int32))), (.ref b1)])) rfl rfl (hb hby at_71)
      have V16 : Arv Z h16 b1 k1 .byte (80 : Int32) ((List.replicate 80 (.int (0 : Int32))).set ((av + (1 : Int32))).toNatClampNeg (.int (nar .byte (ww.toInt8.toInt32)))) (.int (0 : Int32)) := Arv.set Ar16 q16 S16 M16 H16 G16 (fits_nar_byte _) W16 ((av + (1 : Int32))).toNatClampNeg rfl (by simp only [List.length_set, List.length_replicate]; exact own_nat (own_p1 r_av hc59_15))
      have N16 := Fr.snoc X16 N0 ge_b1
      have Z16 : n0 ≤ h16.size := Nat.le_trans Z1 (Nat.le_of_eq W16.size.symm)
      refine OwnEnds.via st16 ?_
      show OwnEnds _ _ _ _ (T16.setTop (mkF m 72 #[.val (.int pp), .val (.int qq), .val (.int xx), .val (.int yy), .val (.ref b1), .val (.int av), .val (.int en), .val (.int vv), .val (.int ww), .unset, .unset] []))
      refine OwnEnds.via (fun t k => XS.iload X16.here hx rfl (hb hby at_72) rfl k) ?_
      show OwnEnds _ _ _ _ (T16.setTop (mkF m 74 #[.val (.int pp), .val (.int qq), .val (.int xx), .val (.int yy), .val (.ref b1), .val (.int av), .val (.int en), .val (.int vv), .val (.int ww), .unset, .unset] [(.int av)]))
      refine OwnEnds.via (fun t k => XS.bipush X16.here hx rfl (hb hby at_74) k) ?_
      show OwnEnds _ _ _ _ (T16.setTop (mkF m 76 #[.val (.int pp), .val (.int qq), .val (.int xx), .val (.int yy), .val (.ref b1), .val (.int av), .val (.int en), .val (.int vv), .val (.int ww), .unset, .unset] [(.int (80 : Int32)), (.int av)]))
      by_cases hc76_17 : av < (80 : Int32)
      ·
        refine OwnEnds.via (fun t k => XS.icmpNo X16.here hx rfl (hb hby at_76) rfl (tlt hc76_17).2.1 k) ?_
        show OwnEnds _ _ _ _ (T16.setTop (mkF m 79 #[.val (.int pp), .val (.int qq), .val (.int xx), .val (.int yy), .val (.ref b1), .val (.int av), .val (.int en), .val (.int vv), .val (.int ww), .unset, .unset] []))
        refine OwnEnds.via (fun t k => XS.aload X16.here hx rfl (hb hby at_79) rfl rfl k) ?_
        show OwnEnds _ _ _ _ (T16.setTop (mkF m 81 #[.val (.int pp), .val (.int qq), .val (.int xx), .val (.int yy), .val (.ref b1), .val (.int av), .val (.int en), .val (.int vv), .val (.int ww), .unset, .unset] [(.ref b1)]))
        refine OwnEnds.via (fun t k => XS.iload X16.here hx rfl (hb hby at_81) rfl k) ?_
        show OwnEnds _ _ _ _ (T16.setTop (mkF m 83 #[.val (.int pp), .val (.int qq), .val (.int xx), .val (.int yy), .val (.ref b1), .val (.int av), .val (.int en), .val (.int vv), .val (.int ww), .unset, .unset] [(.int av), (.ref b1)]))
        refine OwnEnds.via (fun t k => XS.iload X16.here hx rfl (hb hby at_83) rfl k) ?_
        show OwnEnds _ _ _ _ (T16.setTop (mkF m 85 #[.val (.int pp), .val (.int qq), .val (.int xx), .val (.int yy), .val (.ref b1), .val (.int av), .val (.int en), .val (.int vv), .val (.int ww), .unset, .unset] [(.int vv), (.int av), (.ref b1)]))
        refine OwnEnds.via (fun t k => XS.i2b X16.here hx rfl (hb hby at_85) rfl k) ?_
        show OwnEnds _ _ _ _ (T16.setTop (mkF m 86 #[.val (.int pp), .val (.int qq), .val (.int xx), .val (.int yy), .val (.ref b1), .val (.int av), .val (.int en), .val (.int vv), .val (.int ww), .unset, .unset] [(.int (vv.toInt8.toInt32)), (.int av), (.ref b1)]))
        obtain ⟨cl18, Ar18, q18, S18, M18, H18, G18⟩ := id V16
        have hin18 : ¬ (av < 0 ∨ cl18.slots.size ≤ (av).toNatClampNeg) := inb_of S18 (own_p0 r_av hc76_17)
        obtain ⟨T18, h18, X18, e18, W18, st18⟩ := stB X16 hx hZ e16 Ar18 (j := av) hin18 (g := (mkF m 86 #[.val (.int pp), .val (.int qq), .val (.int xx), .val (.int yy), .val (.ref b1), .val (.int av), .val (.int en), .val (.int vv), .val (.int ww), .unset, .unset] [(.int (vv.toInt8.toInt32)), (.int av), (.ref b1)])) rfl rfl (hb hby at_86)
        have V18 : Arv Z h18 b1 k1 .byte (80 : Int32) (((List.replicate 80 (.int (0 : Int32))).set ((av + (1 : Int32))).toNatClampNeg (.int (nar .byte (ww.toInt8.toInt32)))).set (av).toNatClampNeg (.int (nar .byte (vv.toInt8.toInt32)))) (.int (0 : Int32)) := Arv.set Ar18 q18 S18 M18 H18 G18 (fits_nar_byte _) W18 (av).toNatClampNeg rfl (by simp only [List.length_set, List.length_replicate]; exact own_nat (own_p0 r_av hc76_17))
        have N18 := Fr.snoc X18 N16 ge_b1
        have Z18 : n0 ≤ h18.size := Nat.le_trans Z16 (Nat.le_of_eq W18.size.symm)
        refine OwnEnds.via st18 ?_
        exact J2 _ _ _ X18 e18 N18 Z18 (((List.replicate 80 (.int (0 : Int32))).set ((av + (1 : Int32))).toNatClampNeg (.int (nar .byte (ww.toInt8.toInt32)))).set (av).toNatClampNeg (.int (nar .byte (vv.toInt8.toInt32)))) V18 (fun _ => own_set (by simp only [List.length_set, List.length_replicate]; exact own_nat (own_p0 r_av hc76_17)))
      ·
        refine OwnEnds.via (fun t k => XS.icmpYes X16.here hx rfl (pc0 := 76) (pc' := 87) rfl (hb hby at_76) rfl (flt hc76_17).2.1 (by decide) (by decide) k) ?_
        exact J2 _ _ _ X16 e16 N16 Z16 ((List.replicate 80 (.int (0 : Int32))).set ((av + (1 : Int32))).toNatClampNeg (.int (nar .byte (ww.toInt8.toInt32)))) V16 (fun z => absurd z hc76_17)
    ·
      refine OwnEnds.via (fun t k => XS.icmpYes X1.here hx rfl (pc0 := 59) (pc' := 72) rfl (hb hby at_59) rfl (flt hc59_15).2.1 (by decide) (by decide) k) ?_
      show OwnEnds _ _ _ _ (T1.setTop (mkF m 72 #[.val (.int pp), .val (.int qq), .val (.int xx), .val (.int yy), .val (.ref b1), .val (.int av), .val (.int en), .val (.int vv), .val (.int ww), .unset, .unset] []))
      refine OwnEnds.via (fun t k => XS.iload X1.here hx rfl (hb hby at_72) rfl k) ?_
      show OwnEnds _ _ _ _ (T1.setTop (mkF m 74 #[.val (.int pp), .val (.int qq), .val (.int xx), .val (.int yy), .val (.ref b1), .val (.int av), .val (.int en), .val (.int vv), .val (.int ww), .unset, .unset] [(.int av)]))
      refine OwnEnds.via (fun t k => XS.bipush X1.here hx rfl (hb hby at_74) k) ?_
      show OwnEnds _ _ _ _ (T1.setTop (mkF m 76 #[.val (.int pp), .val (.int qq), .val (.int xx), .val (.int yy), .val (.ref b1), .val (.int av), .val (.int en), .val (.int vv), .val (.int ww), .unset, .unset] [(.int (80 : Int32)), (.int av)]))
      by_cases hc76_19 : av < (80 : Int32)
      ·
        refine OwnEnds.via (fun t k => XS.icmpNo X1.here hx rfl (hb hby at_76) rfl (tlt hc76_19).2.1 k) ?_
        show OwnEnds _ _ _ _ (T1.setTop (mkF m 79 #[.val (.int pp), .val (.int qq), .val (.int xx), .val (.int yy), .val (.ref b1), .val (.int av), .val (.int en), .val (.int vv), .val (.int ww), .unset, .unset] []))
        refine OwnEnds.via (fun t k => XS.aload X1.here hx rfl (hb hby at_79) rfl rfl k) ?_
        show OwnEnds _ _ _ _ (T1.setTop (mkF m 81 #[.val (.int pp), .val (.int qq), .val (.int xx), .val (.int yy), .val (.ref b1), .val (.int av), .val (.int en), .val (.int vv), .val (.int ww), .unset, .unset] [(.ref b1)]))
        refine OwnEnds.via (fun t k => XS.iload X1.here hx rfl (hb hby at_81) rfl k) ?_
        show OwnEnds _ _ _ _ (T1.setTop (mkF m 83 #[.val (.int pp), .val (.int qq), .val (.int xx), .val (.int yy), .val (.ref b1), .val (.int av), .val (.int en), .val (.int vv), .val (.int ww), .unset, .unset] [(.int av), (.ref b1)]))
        refine OwnEnds.via (fun t k => XS.iload X1.here hx rfl (hb hby at_83) rfl k) ?_
        show OwnEnds _ _ _ _ (T1.setTop (mkF m 85 #[.val (.int pp), .val (.int qq), .val (.int xx), .val (.int yy), .val (.ref b1), .val (.int av), .val (.int en), .val (.int vv), .val (.int ww), .unset, .unset] [(.int vv), (.int av), (.ref b1)]))
        refine OwnEnds.via (fun t k => XS.i2b X1.here hx rfl (hb hby at_85) rfl k) ?_
        show OwnEnds _ _ _ _ (T1.setTop (mkF m 86 #[.val (.int pp), .val (.int qq), .val (.int xx), .val (.int yy), .val (.ref b1), .val (.int av), .val (.int en), .val (.int vv), .val (.int ww), .unset, .unset] [(.int (vv.toInt8.toInt32)), (.int av), (.ref b1)]))
        obtain ⟨cl20, Ar20, q20, S20, M20, H20, G20⟩ := id V1
        have hin20 : ¬ (av < 0 ∨ cl20.slots.size ≤ (av).toNatClampNeg) := inb_of S20 (own_p0 r_av hc76_19)
        obtain ⟨T20, h20, X20, e20, W20, st20⟩ := stB X1 hx hZ e1 Ar20 (j := av) hin20 (g := (mkF m 86 #[.val (.int pp), .val (.int qq), .val (.int xx), .val (.int yy), .val (.ref b1), .val (.int av), .val (.int en), .val (.int vv), .val (.int ww), .unset, .unset] [(.int (vv.toInt8.toInt32)), (.int av), (.ref b1)])) rfl rfl (hb hby at_86)
        have V20 : Arv Z h20 b1 k1 .byte (80 : Int32) ((List.replicate 80 (.int (0 : Int32))).set (av).toNatClampNeg (.int (nar .byte (vv.toInt8.toInt32)))) (.int (0 : Int32)) := Arv.set Ar20 q20 S20 M20 H20 G20 (fits_nar_byte _) W20 (av).toNatClampNeg rfl (by simp only [List.length_set, List.length_replicate]; exact own_nat (own_p0 r_av hc76_19))
        have N20 := Fr.snoc X20 N0 ge_b1
        have Z20 : n0 ≤ h20.size := Nat.le_trans Z1 (Nat.le_of_eq W20.size.symm)
        refine OwnEnds.via st20 ?_
        exact J2 _ _ _ X20 e20 N20 Z20 ((List.replicate 80 (.int (0 : Int32))).set (av).toNatClampNeg (.int (nar .byte (vv.toInt8.toInt32)))) V20 (fun _ => own_set (by simp only [List.length_set, List.length_replicate]; exact own_nat (own_p0 r_av hc76_19)))
      ·
        refine OwnEnds.via (fun t k => XS.icmpYes X1.here hx rfl (pc0 := 76) (pc' := 87) rfl (hb hby at_76) rfl (flt hc76_19).2.1 (by decide) (by decide) k) ?_
        exact J2 _ _ _ X1 e1 N0 Z1 (List.replicate 80 (.int (0 : Int32))) V1 (fun z => absurd z hc76_19)

set_option maxRecDepth 65536 in
set_option maxHeartbeats 40000000 in
theorem comes_1 {Post : Tables → Env → Array Value → State → Outcome → State → Prop} (hpost : ∀ tb e args s v u, (limb_1_1.after args s (.returned v) u = true ∧ limb_1_2.after args s (.returned v) u = true ∧ True) → FrameEnd s (.returned v) u (Jvm.fieldLocs frame_1_writes args s ++ Jvm.arrayLocs frame_1_arrays args s ++ Jvm.staticLocs frame_1_statics s) 16 256 → Post tb e args s (.returned v) u) :
    ArmFor flags0 classFile x code maxLocals ret World_1 tables_1 room_1 Calls_1 rest_1 Pre_1 Post := by
  intro l hfl _ _ p e ha hc hk s m args below hf hA hF happ hP
  obtain ⟨hcalls, hrest, hpre⟩ := hP
  obtain ⟨-, -, -, hnamed, -, -, -, hat⟩ := (Spec.applies_iff hf).mp happ
  obtain ⟨hg, hn⟩ := and_e (Cond.before_iff.mp (show (Jvm.Cond.and given_1 narrow_1).before args s = true from hpre))
  obtain ⟨hg0, hh0⟩ := and_e hg
  obtain ⟨hg1, hh1⟩ := and_e hh0
  obtain ⟨hg2, hh2⟩ := and_e hh1
  obtain ⟨hg3, hh3⟩ := and_e hh2
  obtain ⟨w0, w1, w2, w3, rfl⟩ : ∃ w0 w1 w2 w3 : Value, args = #[w0, w1, w2, w3] := by
    have hs : args.size = 4 := by simpa [Cond.value, given_1] using hg0
    obtain ⟨L⟩ := args
    match L, hs with
    | [w0, w1, w2, w3], _ => exact ⟨w0, w1, w2, w3, rfl⟩
  have hw := fun d (hd : d ∈ tables_1) => atoms_spec (ws := Jvm.Cond.code x code maxLocals ret :: tables_1) hat d (List.mem_cons_of_mem _ hd)
  have hfit : Fit s := fun {y c} hc i hi => by
    obtain ⟨ha, rfl⟩ := Array.getElem?_eq_some_iff.mp hc
    have q := List.all_eq_true.mp ((Array.all_eq_true_iff_forall_mem.mp hF) _ (Array.getElem_mem ha)) i (List.mem_range.mpr hi)
    simpa [Array.getElem?_eq_getElem hi] using q
  obtain ⟨i0, ei0⟩ := is_v hg1
  obtain rfl : w0 = (.int i0) := Option.some.inj ei0
  obtain ⟨i1, ei1⟩ := is_v hg2
  obtain rfl : w1 = (.int i1) := Option.some.inj ei1
  obtain ⟨i2, ei2⟩ := is_v hg3
  obtain rfl : w2 = (.int i2) := Option.some.inj ei2
  obtain ⟨i3, ei3⟩ := is_v hh3
  obtain rfl : w3 = (.int i3) := Option.some.inj ei3
  obtain ⟨n, o, h1, h2, h3, _, L, rfl, ⟨rfl, N⟩, hq⟩ := rm0 l s _ hw tables_1 i0 i1 i2 i3 s.heap s.heap.size (Nat.le_refl _) p e ha hc hk s m _ below hf ((Spec.applies_iff_loose hf).mp happ).1 ⟨rfl, State.Warmed39.refl s, rfl⟩ trivial
  refine ⟨n, _, h1, h2, h3, hpost _ _ _ _ _ _ ⟨Cond.after_iff.mpr rfl, Cond.after_iff.mpr (eq_i res_at (Term.int_eval (1)) rfl), trivial⟩ ⟨hq.1, hq.2.1, (hq.2.2.sift fun y hy => Or.inr (N y hy)).mono (by decide) (by decide)⟩⟩
theorem main_1_1 : Claimed_1_1 := comes_1 fun _ _ _ _ _ _ h hF => ⟨h.1, hF⟩
theorem main_1_2 : Claimed_1_2 := comes_1 fun _ _ _ _ _ _ h hF => ⟨h.2.1, hF⟩
end Jvm.Pilot.@@N@@
namespace Jvm.Pilot.@@N@@
open Jvm Jvm.ClassFile Sem Op Lib Jvm.Free Jvm.Stand Jvm.Pilot.@@N@@.Jvm.D
/-! MADE BY PROGRAM (witnessworld.py) out of the Statement's table words and the real class files: 9 classes; the members and pool entries that the words name. The judged class is class 1, her method 1. -/
namespace start1
open Jvm.ClassFile
def u (s : String) : CpInfo := .utf8 (stringToUtf16 s)
/-- a pool by its gaps: so many unusable entries, then the entry; so many at the end -/
def gap : Nat → List CpInfo → List CpInfo
  | 0, r => r
  | n + 1, r => .unusable :: gap n r
def poolList (es : List (Nat × CpInfo)) (last : Nat) : List CpInfo := es.foldr (fun e r => gap e.1 (e.2 :: r)) (gap last [])
def pool (es : List (Nat × CpInfo)) (last : Nat) : Array CpInfo := ⟨poolList es last⟩
def fileOf (pool : Array CpInfo) (this : Nat) (attrs : Array Attribute := #[]) (ms : Array MethodInfo := #[]) (fl : Nat := 33) (sup : Nat := 0) (ifs : Array Nat := #[]) (fds : Array FieldInfo := #[]) : ClassFile where
  minorVersion := 0
  majorVersion := 65
  constantPool := pool
  accessFlags := fl
  thisClass := this
  superClass := sup
  interfaces := ifs
  fields := fds
  methods := ms
  attributes := attrs
def plain (name : String) (sup : Option ClassId) : Class where
  name := name
  kind := .ordinary
  loader := none
  accessFlags := 33
  super := sup
  interfaces := #[]
  cf := none
  fields := #[]
  methods := #[]
  instanceTypes := #[]
  staticTypes := #[]
  resolved := #[]
  callSites := []
  init := .initialized
  statics := none
  mirror := none

def pool0 : Array CpInfo := pool [(5, u "<init>"), (0, u "()V"), (1, .class_ 10), (1, u "java/lang/Object")] 113

def k0m0 : Method := { name := "<init>", desc := "()V", sig := { parameters := [], returnType := none }, accessFlags := 1, code := none }
/-- java/lang/Object -/
def k0 : Class := { plain "java/lang/Object" none with
  accessFlags := 33
  interfaces := #[]
  cf := some (fileOf pool0 8 #[] #[{ accessFlags := 1, nameIndex := 5, descriptorIndex := 6, attributes := #[] }] 33 0 #[] #[])
  fields := #[]
  methods := #[k0m0]
  instanceTypes := #[]
  staticTypes := #[]
  resolved := Array.replicate 124 none
  statics := none }

def pool1 : Array CpInfo := pool [(2, .class_ 4), (1, u "java/lang/Object"), (0, u "<init>"), (0, u "()V"), (0, .integer 2147483647), (0, .methodref 9 10), (0, .class_ 11), (0, .nameAndType 12 13), (0, u "com/example/tagwire/tagwire/BeveInput"), (0, u "heldShortSize"), (0, u "([BII)I"), (0, .class_ 15), (0, u "com/example/tagwire/tagwire/BeveInputHeldShortSizePinLaw"), (2, u "law"), (0, u "(IIII)Z")] 5

def k1m0 : Method := { name := "<init>", desc := "()V", sig := { parameters := [], returnType := none }, accessFlags := 1, code := none }
def k1c1 : Code := { maxStack := 3, maxLocals := 11, code := code, exceptionTable := #[], attributes := #[] }
def k1m1 : Method := { name := "law", desc := "(IIII)Z", sig := { parameters := [.int, .int, .int, .int], returnType := some .boolean }, accessFlags := 9, code := some k1c1 }
/-- com/example/tagwire/tagwire/BeveInputHeldShortSizePinLaw -/
def k1 : Class := { plain "com/example/tagwire/tagwire/BeveInputHeldShortSizePinLaw" (some 0) with
  accessFlags := 49
  interfaces := #[]
  cf := some (fileOf pool1 14 #[] #[{ accessFlags := 1, nameIndex := 5, descriptorIndex := 6, attributes := #[] }, { accessFlags := 9, nameIndex := 18, descriptorIndex := 19, attributes := #[] }] 49 2 #[] #[])
  fields := #[]
  methods := #[k1m0, k1m1]
  instanceTypes := #[]
  staticTypes := #[]
  resolved := Array.replicate 25 none
  statics := none }

def pool2 : Array CpInfo := pool [(4, .class_ 6), (1, u "com/example/tagwire/tagwire/BeveInput"), (9, .class_ 18), (1, u "java/lang/Object"), (3, u "in"), (0, u "Ljava/io/InputStream;"), (2, u "file"), (0, u "Ljava/nio/channels/SeekableByteChannel;"), (3, u "buffer"), (0, u "[B"), (2, u "limit"), (0, u "I"), (2, u "bufferOffset"), (0, u "J"), (2, u "position"), (22, u "taken"), (2, u "view"), (0, u "Ljava/nio/ByteBuffer;"), (34, u "heldShortSize"), (0, u "([BII)I"), (6, u "sizeTaken"), (89, u "BUFFER_SIZE"), (1, u "MAX_BYTES"), (1, u "SIZE_WIDTH_BITS"), (1, u "SIZE_WIDTH_MASK"), (1, u "NOT_HELD"), (1, u "SHORT_SIZE_BYTES")] 36

def k2c0 : Code := { maxStack := 3, maxLocals := 5, code := prog_2_method_11_code, exceptionTable := #[], attributes := #[] }
def k2m0 : Method := { name := "heldShortSize", desc := "([BII)I", sig := { parameters := [(.array .byte), .int, .int], returnType := some .int }, accessFlags := 8, code := some k2c0 }
/-- com/example/tagwire/tagwire/BeveInput -/
def k2 : Class := { plain "com/example/tagwire/tagwire/BeveInput" (some 0) with
  accessFlags := 48
  interfaces := #[]
  cf := some (fileOf pool2 4 #[] #[{ accessFlags := 8, nameIndex := 105, descriptorIndex := 106, attributes := #[] }] 48 16 #[] #[{ accessFlags := 26, nameIndex := 203, descriptorIndex := 36, attributes := #[] }, { accessFlags := 26, nameIndex := 205, descriptorIndex := 36, attributes := #[] }, { accessFlags := 26, nameIndex := 207, descriptorIndex := 36, attributes := #[] }, { accessFlags := 26, nameIndex := 209, descriptorIndex := 36, attributes := #[] }, { accessFlags := 26, nameIndex := 211, descriptorIndex := 36, attributes := #[] }, { accessFlags := 24, nameIndex := 213, descriptorIndex := 36, attributes := #[] }, { accessFlags := 18, nameIndex := 22, descriptorIndex := 23, attributes := #[] }, { accessFlags := 18, nameIndex := 26, descriptorIndex := 27, attributes := #[] }, { accessFlags := 18, nameIndex := 31, descriptorIndex := 32, attributes := #[] }, { accessFlags := 2, nameIndex := 69, descriptorIndex := 70, attributes := #[] }, { accessFlags := 2, nameIndex := 66, descriptorIndex := 32, attributes := #[] }, { accessFlags := 2, nameIndex := 113, descriptorIndex := 36, attributes := #[] }, { accessFlags := 2, nameIndex := 43, descriptorIndex := 36, attributes := #[] }, { accessFlags := 2, nameIndex := 35, descriptorIndex := 36, attributes := #[] }, { accessFlags := 2, nameIndex := 39, descriptorIndex := 40, attributes := #[] }])
  fields := #[{ name := "BUFFER_SIZE", type := .int, accessFlags := 26, slot := 0, constantValue := 0 }, { name := "MAX_BYTES", type := .int, accessFlags := 26, slot := 1, constantValue := 0 }, { name := "SIZE_WIDTH_BITS", type := .int, accessFlags := 26, slot := 2, constantValue := 0 }, { name := "SIZE_WIDTH_MASK", type := .int, accessFlags := 26, slot := 3, constantValue := 0 }, { name := "NOT_HELD", type := .int, accessFlags := 26, slot := 4, constantValue := 0 }, { name := "SHORT_SIZE_BYTES", type := .int, accessFlags := 24, slot := 5, constantValue := 0 }, { name := "in", type := (.object "java/io/InputStream"), accessFlags := 18, slot := 0, constantValue := 0 }, { name := "file", type := (.object "java/nio/channels/SeekableByteChannel"), accessFlags := 18, slot := 1, constantValue := 0 }, { name := "buffer", type := (.array .byte), accessFlags := 18, slot := 2, constantValue := 0 }, { name := "view", type := (.object "java/nio/ByteBuffer"), accessFlags := 2, slot := 3, constantValue := 0 }, { name := "taken", type := (.array .byte), accessFlags := 2, slot := 4, constantValue := 0 }, { name := "sizeTaken", type := .int, accessFlags := 2, slot := 5, constantValue := 0 }, { name := "position", type := .int, accessFlags := 2, slot := 6, constantValue := 0 }, { name := "limit", type := .int, accessFlags := 2, slot := 7, constantValue := 0 }, { name := "bufferOffset", type := .long, accessFlags := 2, slot := 8, constantValue := 0 }]
  methods := #[k2m0]
  instanceTypes := #[(.object "java/io/InputStream"), (.object "java/nio/channels/SeekableByteChannel"), (.array .byte), (.object "java/nio/ByteBuffer"), (.array .byte), .int, .int, .int, .long]
  staticTypes := #[.int, .int, .int, .int, .int, .int]
  resolved := Array.replicate 250 none
  statics := none }

def pool3 : Array CpInfo := pool [(1, u "java/lang/Cloneable"), (0, .class_ 1), (0, u "java/lang/Object"), (0, .class_ 3)] 3

/-- java/lang/Cloneable -/
def k3 : Class := { plain "java/lang/Cloneable" (some 0) with
  accessFlags := 1537
  interfaces := #[]
  cf := some (fileOf pool3 2 #[] #[] 1537 4 #[] #[])
  fields := #[]
  methods := #[]
  instanceTypes := #[]
  staticTypes := #[]
  resolved := Array.replicate 8 none
  statics := none }

def pool4 : Array CpInfo := pool [(1, u "java/io/Serializable"), (0, .class_ 1), (0, u "java/lang/Object"), (0, .class_ 3)] 3

/-- java/io/Serializable -/
def k4 : Class := { plain "java/io/Serializable" (some 0) with
  accessFlags := 1537
  interfaces := #[]
  cf := some (fileOf pool4 2 #[] #[] 1537 4 #[] #[])
  fields := #[]
  methods := #[]
  instanceTypes := #[]
  staticTypes := #[]
  resolved := Array.replicate 8 none
  statics := none }

/-- the primitive byte -/
def k5 : Class := { plain "byte" none with kind := .primitive 'B', accessFlags := 0x411 }
/-- [B -/
def k6 : Class := { plain "[B" (some 0) with kind := .array 5 .byte, interfaces := #[3, 4], accessFlags := 1041 }

/-- the primitive int -/
def k7 : Class := { plain "int" none with kind := .primitive 'I', accessFlags := 0x411 }
/-- [I -/
def k8 : Class := { plain "[I" (some 0) with kind := .array 7 .int, interfaces := #[3, 4], accessFlags := 1041 }

def heap : Heap := #[]
def classes : Array Class := #[k0, k1, k2, k3, k4, k5, k6, k7, k8]
def interned : List (Array UInt16 × Addr) := []
def slotsUsed : Nat := 0
def theMethod : MethodId := ⟨1, 1⟩
def args0 : Array Value := #[.int 3, .int 7, .int 5, .int 5]
def aboutOver (below : List Frame) : State where
  vm := { classes := classes, interned := interned.toArray }
  heap := heap
  slotsUsed := slotsUsed
  threads := #[{ frames := .invoking theMethod args0 :: below }]
def below0 : List Frame := [.native { method := ⟨0, 0⟩, args := #[] }]
def about1 : State := aboutOver below0
def p0 : Program := .bare "" "" ""
def e0 : Env := launch0.env 0 0 0
theorem w_frames : about1.frames = Frame.invoking theMethod args0 :: below0 := rfl
set_option maxRecDepth 65536 in
theorem w_args : argsFit about1.vm theMethod args0 = true := by decide +kernel
set_option maxRecDepth 65536 in
theorem w_heap : heapFits about1 = true := by decide +kernel
set_option maxRecDepth 65536 in
theorem w_runnable : about1.curStatus? = some .runnable := by decide +kernel
set_option maxRecDepth 65536 in
theorem w_alone : about1.alone = true := by decide +kernel
set_option maxRecDepth 65536 in
theorem w_named : about1.methodNamed? x = some theMethod := by decide +kernel
set_option maxRecDepth 65536 in
theorem w_hears : about1.hears theMethod below0 = true := by decide +kernel
set_option maxRecDepth 65536 in
theorem w_ripe : about1.ripe theMethod args0 below0 = true := by decide +kernel
theorem w_running : about1.status = .running := rfl
set_option maxRecDepth 65536 in
theorem w_room : about1.hasRoom e0.platform room_1 = true :=
  launch0.hasRoom_least _ room_1 (by decide +kernel) (by decide +kernel) (by decide +kernel) (by decide +kernel) (by decide +kernel) (by decide +kernel)
theorem allAtoms_all (ts : List Jvm.Cond) (a : Array Jvm.Value) (st : Jvm.State) : (allAtoms ts).before a st = ts.all (fun c => c.before a st) := by
  induction ts with
  | nil => rfl
  | cons c t ih =>
    show (Jvm.Cond.and c (allAtoms t)).before a st = _
    rw [Jvm.Cond.before_and, ih, List.all_cons]
def words1 : List Jvm.Cond := Jvm.Cond.code x code maxLocals ret :: tables_1
/-- a 'code' word, met by the world's own term for the bytes: nothing is compared byte by byte -/
theorem code_word {y : MethodName} {bytes : ByteArray} {mx : Nat} {rt : Option FieldType} {a : Array Value} {s : State} {m : MethodId} {meth : Method} {c : Code} (h1 : s.methodNamed? y = some m) (h2 : s.vm.method? m = some meth) (h3 : meth.code = some c) (h4 : c.code = bytes)
    (h5 : (c.maxLocals == mx && c.exceptionTable.isEmpty && decide (c.maxStack ≤ mostOperands) && decide (meth.sig.returnType = rt) && !meth.locks && decide (parseMethodDescriptor y.desc = some meth.sig)) = true) : (Jvm.Cond.code y bytes mx rt).before a s = true := by
  simp only [Bool.and_eq_true, beq_iff_eq, Bool.not_eq_true', decide_eq_true_eq] at h5
  obtain ⟨⟨⟨⟨⟨g1, g2⟩, g3⟩, g4⟩, g5⟩, g6⟩ := h5
  simp [Cond.before, Cond.holds, Cond.value, h1, h2, h3, h4, g1, g2, g3, g4, g5, g6]
def isCode : Jvm.Cond → Bool
  | .code _ _ _ _ => true
  | _ => false
theorem all_split {L : List Jvm.Cond} {P : Jvm.Cond → Bool} (h1 : L.all (fun c => isCode c || P c) = true) (h2 : ∀ c ∈ L.filter isCode, P c = true) : L.all P = true := by
  refine List.all_eq_true.mpr fun c hc => ?_
  have h := List.all_eq_true.mp h1 c hc
  rcases Bool.eq_false_or_eq_true (isCode c) with hi | hi
  · exact h2 c (List.mem_filter.mpr ⟨hc, hi⟩)
  · simpa [hi] using h
set_option maxRecDepth 65536 in
theorem w_c0 : (Jvm.Cond.code x code maxLocals ret).before args0 about1 = true := code_word (m := ⟨1, 1⟩) (meth := k1m1) (c := k1c1) (by decide +kernel) rfl rfl rfl (by decide +kernel)
set_option maxRecDepth 65536 in
theorem w_c1 : (Jvm.Cond.code ({ cls := "com/example/tagwire/tagwire/BeveInput", name := "heldShortSize", desc := "([BII)I" } : Jvm.MethodName) prog_2_method_11_code (5 : Nat) (Option.some Jvm.ClassFile.FieldType.int)).before args0 about1 = true := code_word (m := ⟨2, 0⟩) (meth := k2m0) (c := k2c0) (by decide +kernel) rfl rfl rfl (by decide +kernel)
def codes1 : List Jvm.Cond := [Jvm.Cond.code x code maxLocals ret, Jvm.Cond.code ({ cls := "com/example/tagwire/tagwire/BeveInput", name := "heldShortSize", desc := "([BII)I" } : Jvm.MethodName) prog_2_method_11_code (5 : Nat) (Option.some Jvm.ClassFile.FieldType.int)]
set_option maxRecDepth 65536 in
theorem codes_eq : words1.filter isCode = codes1 := rfl
theorem w_codes : ∀ c ∈ words1.filter isCode, c.before args0 about1 = true := by
  rw [codes_eq]
  intro c hc
  simp only [codes1, List.mem_cons, List.not_mem_nil, or_false] at hc
  rcases hc with rfl | rfl
  · exact w_c0
  · exact w_c1
set_option maxRecDepth 65536 in
theorem w_t1 : words1.all (fun c => isCode c || c.before args0 about1) = true := by decide +kernel
theorem w_tables : (allAtoms (Jvm.Cond.code x code maxLocals ret :: tables_1)).before args0 about1 = true := by
  rw [allAtoms_all]
  show words1.all (fun c => c.before args0 about1) = true
  refine all_split ?_ w_codes
  rw [w_t1]
set_option maxRecDepth 65536 in
theorem w_case : (Jvm.Cond.and given_1 narrow_1).before args0 about1 = true := by decide +kernel
theorem w_applies : (headSpec (Jvm.Cond.code x code maxLocals ret :: tables_1) room_1).applies x e0.platform about1 = true :=
  (Spec.applies_iff w_frames).mpr ⟨w_running, w_runnable, w_alone, w_named, w_hears, w_ripe, w_room, w_tables⟩
theorem atStart : AtStart classFile x code maxLocals ret World_1 tables_1 room_1 Calls_1 rest_1 Pre_1 launch0 p0 e0 about1 theMethod args0 below0 :=
  ⟨lists_1, trivial, launch0.admits_env _ _ _, launch0.least_env, fairChoices_fair.cas, fairChoices_fair.clock, w_frames, w_args, w_heap, w_applies, trivial, trivial, w_case⟩
end start1
theorem witness_1 : WitnessClaimed_1 := ⟨start1.p0, start1.e0, start1.about1, start1.theMethod, start1.args0, start1.below0, start1.atStart⟩
end Jvm.Pilot.@@N@@
