import JvmDerived
import JvmDerived.Pilot.@@N@@Statement
import JvmDerived.Pilot.@@N@@Code
set_option linter.unusedVariables false
set_option linter.unusedSimpArgs false
namespace Jvm.RoadKit
open Sem ClassFile Op Lib Jvm.Stand Jvm.Free Jvm.LawKit
section New
variable {p : Program} {l : Launch} {e : Env} {R : Room} {s : State} {m : MethodId} {args : Array Value} {below : List Frame} {meth : Method} {c : Code} {T : State} {locs : List Loc} {cells slots : Nat}
theorem retI (X : Stand p l e R s m args below meth c T locs cells slots) (hx : p.tables.exec = Jvm.exec) {pc : Nat} {Ls : Array Slot} {z : Int32} {rest : List Value} (hret : meth.sig.returnType = some .int) (hd : decode c.code pc = .ok (.ireturn, 1)) {fs : List Frame}
    (hl : ∀ (f : JFrame) (acts : List Action), f.method = m → f.locked = none → f.entered = [] → (doReturn e (T.setTop f) acts (some (.int z))).1 = T.setFrames fs) : Steps p.tables e below (T.setTop (mkF m pc Ls (.int z :: rest))) (T.setFrames fs) := by
  have hm' : T.vm.method? m = some meth := X.method'
  have hn : narrow .int (.int z) = .int z := rfl
  show Steps p.tables e below (T.setTop { method := m, pc := pc, locals := Ls, stack := _ :: rest, locked := none }) _
  jvm_step X.here [X.here.top, hx, hd, hm', hret, hn]
  first | (intro acts; rw [hl _ acts rfl rfl rfl]) | rw [hl _ _ rfl rfl rfl]
  exact Steps.refl _
end New
/-- from W the run comes to a state and an outcome of which K holds -/
def OE (tb : Tables) (e : Env) (below : List Frame) (K : State → Outcome → Prop) (W : State) : Prop := ∃ t o, Steps tb e below W t ∧ K t o
theorem OE.v {tb : Tables} {e : Env} {below : List Frame} {K : State → Outcome → Prop} {W W' : State} (f : ∀ t, Steps tb e below W' t → Steps tb e below W t) (h : OE tb e below K W') : OE tb e below K W := by
  obtain ⟨t, o, h1, h2⟩ := h
  exact ⟨t, o, f t h1, h2⟩
theorem own_selp {s : State} {args : Array Value} {y : MethodName} {n : Nat} (wi : (Cond.instantiable y.cls n).before args s = true) (hpriv : s.PrivateAt y) (hinst : (Cond.instanceMethod y).before args s = true) (hy : y.cls ≠ "java/lang/invoke/MethodHandle" ∧ y.cls ≠ "java/lang/invoke/VarHandle") : (Cond.selects y.cls y y).before args s = true := by
  obtain ⟨c, k, h1, h2, -, h4, -⟩ := Cond.instantiable_spec wi
  exact selects_self_of_private h1 h2 (Bool.or_eq_false_iff.mp h4).1 hpriv hinst hy
theorem OE.cut {tb : Tables} {e : Env} {below : List Frame} {K : State → Outcome → Prop} {W : State} (A : (State → Prop) → Prop) (h1 : A (OE tb e below K)) (h2 : A (OE tb e below K) → OE tb e below K W) : OE tb e below K W := h2 h1
end Jvm.RoadKit
namespace Jvm.Pilot.@@N@@
open Jvm Jvm.ClassFile Sem Op Lib Jvm.Free Jvm.Stand Jvm.LawKit Jvm.RoadKit Bundle Jvm.Pilot.@@N@@.Jvm.D
theorem own_w (i : Nat) {d : Jvm.Cond} (h : tables_1[i]? = some d) : d ∈ tables_1 := List.mem_of_getElem? h
theorem own_same {Z : State} {a0 : Array Value} {C : String} (y y' : MethodName) (hy : y.cls ≠ "java/lang/invoke/MethodHandle" ∧ y.cls ≠ "java/lang/invoke/VarHandle") (e : y'.cls = y.cls) (wd : (Cond.declares y).before a0 Z = true) (wd' : (Cond.declares y').before a0 Z = true) (ws : (Cond.selects C y' y').before a0 Z = true) : (Cond.sameMethod y.cls y.cls y.name y.desc).before a0 Z = true := by
  obtain ⟨m, meth, hn, -, -, -⟩ := Cond.declares_spec wd
  obtain ⟨m', meth', hn', -, -, -⟩ := Cond.declares_spec wd'
  obtain ⟨kr, hk, hi⟩ := notFace_of_selects ws m' hn'
  have hf : Z.methodFound? y.cls y.name y.desc = some m := State.methodFound?_of_named hn hy
  have hc := findClass_of_methodNamed hn
  have hc' := findClass_of_methodNamed hn'
  rw [e, hc] at hc'
  have hn2 : Z.methodNamed? ⟨y.cls, y.name, y.desc⟩ = some m := hn
  have hk2 : Z.vm.classes[m.cls]? = some kr := by rw [Option.some.inj hc']; exact hk
  simp [Cond.before, Cond.holds, Cond.value, hc, hf, hn2, hk2, hi]
theorem own_selq {s : State} {args : Array Value} {C : String} {y : MethodName} (y' : MethodName) (e : y'.cls = y.cls) (wd' : (Cond.declares y').before args s = true) (ws : (Cond.selects C y' y').before args s = true) (hpriv : s.PrivateAt y) (hinst : (Cond.instanceMethod y).before args s = true) (hy : y.cls ≠ "java/lang/invoke/MethodHandle" ∧ y.cls ≠ "java/lang/invoke/VarHandle") : (Cond.selects y.cls y y).before args s = true := by
  obtain ⟨m', meth', hn', -, -, -⟩ := Cond.declares_spec wd'
  obtain ⟨kr, hk, hi⟩ := notFace_of_selects ws m' hn'
  have hc' := findClass_of_methodNamed hn'
  rw [e] at hc'
  exact selects_self_of_private hc' hk hi hpriv hinst hy
theorem own_nf {s : State} {args : Array Value} {C : String} {y : MethodName} (y' : MethodName) (e : y'.cls = y.cls) (wd' : (Cond.declares y').before args s = true) (ws : (Cond.selects C y' y').before args s = true) : NotFace s y := fun r0 h0 => by
  obtain ⟨m', meth', hn', -, -, -⟩ := Cond.declares_spec wd'
  obtain ⟨kr, hk, hi⟩ := notFace_of_selects ws m' hn'
  have hc' := findClass_of_methodNamed hn'
  have hc := findClass_of_methodNamed h0
  rw [e, hc] at hc'
  exact ⟨kr, by rw [Option.some.inj hc']; exact hk, hi⟩
theorem own_nb {c : Int32} (h : 0 ≤ c.toInt ∧ c.toInt < 128) : nar .byte (c.toInt8.toInt32) = c := by
  obtain ⟨c1, c2, c3⟩ := c_i2b c
  obtain ⟨d1, d2, d3⟩ := c_i2b c.toInt8.toInt32
  show c.toInt8.toInt32.toInt8.toInt32 = c
  rw [← Int32.toInt_inj]
  omega
theorem own_lat {c : Int32} (h : 0 ≤ c.toInt ∧ c.toInt < 128) : ¬ (255 : Int32) < c := by
  rw [Int32.lt_iff_toInt_lt]
  have z : (255 : Int32).toInt = 255 := by decide
  omega
theorem own_s0 (x : Int32) : x >>> ((0 : Int32) &&& 31) = x := by
  rw [← Int32.toInt_inj, c_ishr x 0 0 (by decide)]
  simp
theorem own_sub0 (x : Int32) : x - (0 : Int32) = x := by
  rw [← Int32.toInt_inj]
  have a := c_isub x 0
  have r := rng32 x
  have r2 := rng32 (x - 0)
  have z : (0 : Int32).toInt = 0 := by decide
  omega

theorem d3_0 : decode jdk_68_method_2_code 0 = .ok (.aload_n 0, 1) := by decide +kernel
theorem d3_1 : decode jdk_68_method_2_code 1 = .ok (.invokespecial 3, 3) := by decide +kernel
theorem d3_4 : decode jdk_68_method_2_code 4 = .ok (.getstatic 18, 3) := by decide +kernel
theorem d3_7 : decode jdk_68_method_2_code 7 = .ok (.ifCond .eq 18, 3) := by decide +kernel
theorem d3_10 : decode jdk_68_method_2_code 10 = .ok (.aload_n 0, 1) := by decide +kernel
theorem d3_11 : decode jdk_68_method_2_code 11 = .ok (.iload_n 1, 1) := by decide +kernel
theorem d3_12 : decode jdk_68_method_2_code 12 = .ok (.newarray .byte, 2) := by decide +kernel
theorem d3_14 : decode jdk_68_method_2_code 14 = .ok (.putfield 15, 3) := by decide +kernel
theorem d3_17 : decode jdk_68_method_2_code 17 = .ok (.aload_n 0, 1) := by decide +kernel
theorem d3_18 : decode jdk_68_method_2_code 18 = .ok (.iconst 0, 1) := by decide +kernel
theorem d3_19 : decode jdk_68_method_2_code 19 = .ok (.putfield 22, 3) := by decide +kernel
theorem d3_22 : decode jdk_68_method_2_code 22 = .ok (.goto 16, 3) := by decide +kernel
theorem d3_38 : decode jdk_68_method_2_code 38 = .ok (.return_, 1) := by decide +kernel
theorem pn_rm3 : plainName "java/lang/AbstractStringBuilder" = true := by first | (simp [plainName, overriddenIn]; done) | decide +kernel
theorem ef_rm3 (m : MethodId) (a : Addr) (cap : Int32) : entryFrame m #[(.ref a), (.int cap)] 2 = mkF m 0 #[rv a, iv cap] [] := by first | (simp [entryFrame, mkF, argsToLocals, Value.category]; done) | rfl
def Q3 (Z : State) (a : Addr) (cap : Int32) (cs : Int32) (h0 : Heap) (n0 : Nat) (v : Option Value) (h : Heap) (L : List Loc) : Prop := ∃ vb : Addr, ∃ kv : ClassId, v = none ∧ Fr n0 L ∧ Keep h0 h [a] ∧ Exa Z h a "java/lang/StringBuilder" ∧ Fld Z h a "java/lang/AbstractStringBuilder" "value" "[B" (.ref vb) ∧ Fld Z h a "java/lang/AbstractStringBuilder" "coder" "B" (.int 0) ∧ Fld Z h a "java/lang/AbstractStringBuilder" "count" "I" (.int 0) ∧ Arv Z h vb kv .byte cap [(.int 0), (.int 0), (.int 0), (.int 0), (.int 0), (.int 0), (.int 0), (.int 0), (.int 0)] (.int 0) ∧ Exa Z h vb "[B" ∧ h0.size ≤ vb ∧ n0 ≤ vb
set_option maxRecDepth 65536 in
set_option maxHeartbeats 40000000 in
theorem rm3 (l : Launch) (Z : State) (a0 : Array Value) (hw : ∀ d ∈ tables_1, d.before a0 Z = true) (ws : List Jvm.Cond) (a : Addr) (cap : Int32) (cs : Int32) (h0 : Heap) (n0 : Nat) (Z0 : n0 ≤ h0.size) (O0 : Old Z n0 h0) (P0 : Exa Z h0 a "java/lang/StringBuilder") (P1 : Fld Z h0 a "java/lang/AbstractStringBuilder" "value" "[B" .null) (P2 : Fld Z h0 a "java/lang/AbstractStringBuilder" "coder" "B" (.int 0)) (P3 : Fld Z h0 a "java/lang/AbstractStringBuilder" "count" "I" (.int 0)) (P4 : n0 ≤ a) (P5 : ¬ cap < 0) (P6 : cap.toNatClampNeg ≤ 9) (P7 : ¬ cs = (0 : Int32)) (OP0 : Sta Z Z.heap "java/lang/String" "COMPACT_STRINGS" "Z" (.int cs)) :
    MetFree l (⟨"java/lang/AbstractStringBuilder", "<init>", "(I)V"⟩ : MethodName) (head1 (Jvm.Cond.code (⟨"java/lang/AbstractStringBuilder", "<init>", "(I)V"⟩ : MethodName) jdk_68_method_2_code 2 none :: ws) ({ frames := 1, cells := 1, slots := 9, locals := 12 } : Room)) (fun aa U => aa = #[(.ref a), (.int cap)] ∧ Z.Warmed39 U.vm ∧ U.heap = h0) (fun _ _ _ _ _ => True) (fun _ U o U' => ∃ v L, o = .returned v ∧ Q3 Z a cap cs h0 n0 v U'.heap L ∧ FrameEnd U o U' L ({ frames := 1, cells := 1, slots := 9, locals := 12 } : Room).cells ({ frames := 1, cells := 1, slots := 9, locals := 12 } : Room).slots) := by
  refine MetFree.of_bodySF (plainFor_of_name pn_rm3) hisR ?_
  intro p e s m args below meth c s₁ Bd hml0 hP hK
  obtain ⟨rfl, hZ, hh⟩ := hP
  have hx := Bd.exec
  have hby := Bd.bytes
  have hml : c.maxLocals = 2 := hml0
  have hown : s.vm.findClass "java/lang/AbstractStringBuilder" = some m.cls := findClass_of_methodNamed Bd.named
  have hnm := (name_of_methodNamed Bd.named Bd.method).1
  have X0 : Stand p l e ({ frames := 1, cells := 1, slots := 9, locals := 12 } : Room) s m #[(.ref a), (.int cap)] below meth c s₁ [] 0 0 := Stand.of_body Bd
  have e0 : s₁.heap = h0 := by rw [← hh, Bd.state]; rfl
  have N0 := Fr.nil n0
  change OE p.tables e below _ _
  refine OE.v (fun t k => castTop (ef_rm3 m a cap) k) ?_
  show OE _ _ _ _ (s₁.setTop (mkF m 0 #[rv a, iv cap] []))
  refine OE.v (fun t k => XS.aloadN X0.here hx rfl (hb hby d3_0) rfl rfl k) ?_
  show OE _ _ _ _ (s₁.setTop (mkF m 1 #[rv a, iv cap] [(.ref a)]))
  obtain ⟨T1, X1, e1, st1⟩ := initO X0 hx hZ hown (hw _ (own_w 17 rfl)) (hw _ (own_w 18 rfl)) (hw _ (own_w 19 rfl)) e0 (g := (mkF m 1 #[rv a, iv cap] [(.ref a)])) rfl (by rw [hml]; rfl) rfl (hb hby d3_1) (by decide) (W := 0) (Nat.le_of_eq rfl) (by decide)
  refine OE.v st1 ?_
  show OE _ _ _ _ (T1.setTop (mkF m 4 #[rv a, iv cap] []))
  obtain ⟨T2, X2, e2, st2⟩ := getS2 X1 hx hZ hown (host := "") (Or.inl (hw _ (own_w 20 rfl))) Via.refl e1 (OP0.ext O0.2) (g := (mkF m 4 #[rv a, iv cap] [])) rfl (hb hby d3_4)
  refine OE.v st2 ?_
  show OE _ _ _ _ (T2.setTop (mkF m 7 #[rv a, iv cap] [(.int cs)]))
  refine OE.v (fun t k => XS.ifNo X2.here hx rfl (hb hby d3_7) rfl ((if0 _ _).trans (feq P7).1) k) ?_
  show OE _ _ _ _ (T2.setTop (mkF m 10 #[rv a, iv cap] []))
  refine OE.v (fun t k => XS.aloadN X2.here hx rfl (hb hby d3_10) rfl rfl k) ?_
  refine OE.v (fun t k => XS.iloadN X2.here hx rfl (hb hby d3_11) rfl k) ?_
  show OE _ _ _ _ (T2.setTop (mkF m 12 #[rv a, iv cap] [(.int cap), (.ref a)]))
  obtain ⟨T3, h3, k3, X3, e3, E3, A3, B3, st3⟩ := newPE X2 hx hZ (hw _ (own_w 0 rfl)) e2 (g := (mkF m 12 #[rv a, iv cap] [(.int cap), (.ref a)])) rfl (hb hby d3_12) rfl P5 (cap := 9) P6 (by decide) (by decide) (by decide) (ad := "[B") (by decide)
  obtain ⟨b3, g3⟩ : ∃ z, z = h0.size := ⟨_, rfl⟩
  have ne_a_b3 : a ≠ b3 := Nat.ne_of_lt (Nat.lt_of_lt_of_le P0.lt (Nat.le_of_eq g3.symm))
  have ge_b3 : n0 ≤ b3 := Nat.le_trans Z0 (Nat.le_of_eq g3.symm)
  have sz_b3 : h0.size ≤ b3 := Nat.le_trans (Keep.refl h0 [a]).1 (Nat.le_of_eq g3.symm)
  have Z3 : n0 ≤ h3.size := Nat.le_trans Z0 E3.1
  have K3 : Keep h0 h3 [a] := (Keep.refl h0 [a]).ext E3
  have O3 : Old Z n0 h3 := O0.ext E3
  rw [← g3] at A3 B3 st3
  have V3 : Arv Z h3 b3 k3 .byte cap (List.replicate 9 (.int 0)) (.int 0) := (Arv.new A3 P5).pad (pad_rep [] (.int 0) 9)
  refine OE.v st3 ?_
  show OE _ _ _ _ (T3.setTop (mkF m 14 #[rv a, iv cap] [(.ref b3), (.ref a)]))
  obtain ⟨T4, h4, X4, e4, W4, st4⟩ := putF X3 hx hZ hown (host := "") (Or.inl (hw _ (own_w 22 rfl))) Via.refl e3 (P1.ext E3) (P0.ext E3) (Or.inl (hw _ (own_w 23 rfl))) (hw _ (own_w 6 rfl)) (ty := (.array .byte)) (by decide) rfl rfl (g := (mkF m 14 #[rv a, iv cap] [(.ref b3), (.ref a)])) rfl rfl (hb hby d3_14)
  have Fw4 : Fld Z h4 a "java/lang/AbstractStringBuilder" "value" "[B" (.ref b3) := (P1.ext E3).same W4
  have N4 := Fr.snoc X4 N0 P4
  have Z4 : n0 ≤ h4.size := Nat.le_trans Z3 (Nat.le_of_eq W4.size.symm)
  have K4 : Keep h0 h4 [a] := K3.wr W4 (Or.inl (by simp))
  have O4 : Old Z n0 h4 := O3.wr W4 P4
  refine OE.v st4 ?_
  show OE _ _ _ _ (T4.setTop (mkF m 17 #[rv a, iv cap] []))
  refine OE.v (fun t k => XS.aloadN X4.here hx rfl (hb hby d3_17) rfl rfl k) ?_
  refine OE.v (fun t k => XS.iconst X4.here hx rfl (hb hby d3_18) k) ?_
  show OE _ _ _ _ (T4.setTop (mkF m 19 #[rv a, iv cap] [(.int 0), (.ref a)]))
  obtain ⟨T5, h5, X5, e5, W5, st5⟩ := putFN X4 hx hZ hown (hw _ (own_w 24 rfl)) Via.refl e4 ((P2.ext E3).other W4 (Or.inr (slot_ne (Or.inl (hw _ (own_w 25 rfl))) (Or.inl (hw _ (own_w 23 rfl))) (by decide) (t := .byte) (t' := (.array .byte)) (by decide) (by decide)))) ((P0.ext E3).wr W4) (Or.inl (hw _ (own_w 25 rfl))) (hw _ (own_w 6 rfl)) (ty := .byte) (v' := (.int 0)) (by decide) rfl (by decide) (g := (mkF m 19 #[rv a, iv cap] [(.int 0), (.ref a)])) rfl rfl (hb hby d3_19)
  have Fw5 : Fld Z h5 a "java/lang/AbstractStringBuilder" "coder" "B" (.int 0) := ((P2.ext E3).other W4 (Or.inr (slot_ne (Or.inl (hw _ (own_w 25 rfl))) (Or.inl (hw _ (own_w 23 rfl))) (by decide) (t := .byte) (t' := (.array .byte)) (by decide) (by decide)))).same W5
  have N5 := Fr.snoc X5 N4 P4
  have Z5 : n0 ≤ h5.size := Nat.le_trans Z4 (Nat.le_of_eq W5.size.symm)
  have K5 : Keep h0 h5 [a] := K4.wr W5 (Or.inl (by simp))
  have O5 : Old Z n0 h5 := O4.wr W5 P4
  refine OE.v st5 ?_
  show OE _ _ _ _ (T5.setTop (mkF m 22 #[rv a, iv cap] []))
  refine OE.v (fun t k => XS.goto X5.here hx rfl (pc0 := 22) (pc' := 38) rfl (hb hby d3_22) (by decide) (by decide) k) ?_
  show OE _ _ _ _ (T5.setTop (mkF m 38 #[rv a, iv cap] []))
  obtain ⟨fs, hr, hrun, hended, hW, hsame⟩ := X5.leave (v := none) (fun _ => rfl)
  refine ⟨_, _, ?_, hrun, hended, _, _, rfl, ?_, ⟨_, rfl⟩, hW, hsame.mono (by decide) (by decide)⟩
  · exact X5.returnOut hx Bd.returns (hb hby d3_38) hr
  · show Q3 Z a cap cs h0 n0 _ T5.heap _
    rw [e5]
    exact ⟨b3, k3, rfl, N5, K5, (((P0.ext E3).wr W4).wr W5), (Fw4.other W5 (Or.inr (slot_ne (Or.inl (hw _ (own_w 23 rfl))) (Or.inl (hw _ (own_w 25 rfl))) (by decide) (t := (.array .byte)) (t' := .byte) (by decide) (by decide)))), Fw5, (((P3.ext E3).other W4 (Or.inr (slot_ne (Or.inl (hw _ (own_w 37 rfl))) (Or.inl (hw _ (own_w 23 rfl))) (by decide) (t := .int) (t' := (.array .byte)) (by decide) (by decide)))).other W5 (Or.inr (slot_ne (Or.inl (hw _ (own_w 37 rfl))) (Or.inl (hw _ (own_w 25 rfl))) (by decide) (t := .int) (t' := .byte) (by decide) (by decide)))), ((V3.other W4 (Ne.symm ne_a_b3)).other W5 (Ne.symm ne_a_b3)), ((B3.wr W4).wr W5), sz_b3, ge_b3⟩

theorem d2_0 : decode jdk_67_method_2_code 0 = .ok (.aload_n 0, 1) := by decide +kernel
theorem d2_1 : decode jdk_67_method_2_code 1 = .ok (.iload_n 1, 1) := by decide +kernel
theorem d2_2 : decode jdk_67_method_2_code 2 = .ok (.invokespecial 1, 3) := by decide +kernel
theorem d2_5 : decode jdk_67_method_2_code 5 = .ok (.return_, 1) := by decide +kernel
theorem pn_rm2 : plainName "java/lang/StringBuilder" = true := by first | (simp [plainName, overriddenIn]; done) | decide +kernel
theorem pd_0 : parseMethodDescriptor "(I)V" = some ⟨[.int], none⟩ := by decide +kernel
theorem ef_rm2 (m : MethodId) (a : Addr) (cap : Int32) : entryFrame m #[(.ref a), (.int cap)] 2 = mkF m 0 #[rv a, iv cap] [] := by first | (simp [entryFrame, mkF, argsToLocals, Value.category]; done) | rfl
def Q2 (Z : State) (a : Addr) (cap : Int32) (cs : Int32) (h0 : Heap) (n0 : Nat) (v : Option Value) (h : Heap) (L : List Loc) : Prop := ∃ vb : Addr, ∃ kv : ClassId, v = none ∧ Fr n0 L ∧ Keep h0 h [a] ∧ Exa Z h a "java/lang/StringBuilder" ∧ Fld Z h a "java/lang/AbstractStringBuilder" "value" "[B" (.ref vb) ∧ Fld Z h a "java/lang/AbstractStringBuilder" "coder" "B" (.int 0) ∧ Fld Z h a "java/lang/AbstractStringBuilder" "count" "I" (.int 0) ∧ Arv Z h vb kv .byte cap [(.int 0), (.int 0), (.int 0), (.int 0), (.int 0), (.int 0), (.int 0), (.int 0), (.int 0)] (.int 0) ∧ Exa Z h vb "[B" ∧ h0.size ≤ vb ∧ n0 ≤ vb
set_option maxRecDepth 65536 in
set_option maxHeartbeats 40000000 in
theorem rm2 (l : Launch) (Z : State) (a0 : Array Value) (hw : ∀ d ∈ tables_1, d.before a0 Z = true) (ws : List Jvm.Cond) (a : Addr) (cap : Int32) (cs : Int32) (h0 : Heap) (n0 : Nat) (Z0 : n0 ≤ h0.size) (O0 : Old Z n0 h0) (P0 : Exa Z h0 a "java/lang/StringBuilder") (P1 : Fld Z h0 a "java/lang/AbstractStringBuilder" "value" "[B" .null) (P2 : Fld Z h0 a "java/lang/AbstractStringBuilder" "coder" "B" (.int 0)) (P3 : Fld Z h0 a "java/lang/AbstractStringBuilder" "count" "I" (.int 0)) (P4 : n0 ≤ a) (P5 : ¬ cap < 0) (P6 : cap.toNatClampNeg ≤ 9) (P7 : ¬ cs = (0 : Int32)) (OP0 : Sta Z Z.heap "java/lang/String" "COMPACT_STRINGS" "Z" (.int cs)) :
    MetFree l (⟨"java/lang/StringBuilder", "<init>", "(I)V"⟩ : MethodName) (head1 (Jvm.Cond.code (⟨"java/lang/StringBuilder", "<init>", "(I)V"⟩ : MethodName) jdk_67_method_2_code 2 none :: ws) ({ frames := 2, cells := 1, slots := 9, locals := 25 } : Room)) (fun aa U => aa = #[(.ref a), (.int cap)] ∧ Z.Warmed39 U.vm ∧ U.heap = h0) (fun _ _ _ _ _ => True) (fun _ U o U' => ∃ v L, o = .returned v ∧ Q2 Z a cap cs h0 n0 v U'.heap L ∧ FrameEnd U o U' L ({ frames := 2, cells := 1, slots := 9, locals := 25 } : Room).cells ({ frames := 2, cells := 1, slots := 9, locals := 25 } : Room).slots) := by
  refine MetFree.of_bodySF (plainFor_of_name pn_rm2) hisR ?_
  intro p e s m args below meth c s₁ Bd hml0 hP hK
  obtain ⟨rfl, hZ, hh⟩ := hP
  have hx := Bd.exec
  have hby := Bd.bytes
  have hml : c.maxLocals = 2 := hml0
  have hown : s.vm.findClass "java/lang/StringBuilder" = some m.cls := findClass_of_methodNamed Bd.named
  have hnm := (name_of_methodNamed Bd.named Bd.method).1
  have X0 : Stand p l e ({ frames := 2, cells := 1, slots := 9, locals := 25 } : Room) s m #[(.ref a), (.int cap)] below meth c s₁ [] 0 0 := Stand.of_body Bd
  have e0 : s₁.heap = h0 := by rw [← hh, Bd.state]; rfl
  have N0 := Fr.nil n0
  change OE p.tables e below _ _
  refine OE.v (fun t k => castTop (ef_rm2 m a cap) k) ?_
  show OE _ _ _ _ (s₁.setTop (mkF m 0 #[rv a, iv cap] []))
  refine OE.v (fun t k => XS.aloadN X0.here hx rfl (hb hby d2_0) rfl rfl k) ?_
  refine OE.v (fun t k => XS.iloadN X0.here hx rfl (hb hby d2_1) rfl k) ?_
  show OE _ _ _ _ (s₁.setTop (mkF m 2 #[rv a, iv cap] [(.int cap), (.ref a)]))
  obtain ⟨_, _, ⟨T1, L1, k1, n1⟩, -, X1, ⟨Lc1, hQ1, l1, y1, z1⟩, st1⟩ := X0.specialBack hx (y := (⟨"java/lang/AbstractStringBuilder", "<init>", "(I)V"⟩ : MethodName)) rfl hown (mvT hZ (hw _ (own_w 11 rfl))) (mvT hZ (hw _ (own_w 12 rfl))) (mvT hZ (hw _ (own_w 16 rfl))) (by decide) (backOf (W := 0) (rm3 l Z a0 hw [] a cap cs h0 n0 Z0 O0 P0 P1 P2 P3 P4 P5 P6 P7 OP0) hZ (hw _ (own_w 16 rfl)) (hw _ (own_w 15 rfl)) (by decide) (by decide)) (g := (mkF m 2 #[rv a, iv cap] [(.int cap), (.ref a)])) rfl (by rw [hml]; rfl) (Steps.refl _) (a := a) (argsL := [(.int cap)]) (rest := []) (lenOf pd_0 rfl) rfl (Nat.le_of_eq rfl) (hb hby d2_2) (fun _ _ => ⟨rfl, e0, (by decide : 0 + 1 ≤ _), (by decide : 0 + 9 ≤ _)⟩)
  dsimp only [Pt.U, Pt.locs, Pt.cells, Pt.slots] at X1 l1 y1 z1 st1 hQ1
  subst l1 y1 z1
  obtain ⟨h1, e1⟩ : ∃ z, T1.heap = z := ⟨_, rfl⟩
  rw [e1] at hQ1
  obtain ⟨vb_1, kv_1, rfl, Nq1, Kq1, q1_0, q1_1, q1_2, q1_3, q1_4, q1_5, q1_6, q1_7⟩ := hQ1
  have Z1 : n0 ≤ h1.size := Nat.le_trans Z0 Kq1.1
  have K1 : Keep h0 h1 [a] := (Keep.refl h0 [a]).trans Kq1 (allS (Or.inl (by simp)) all0)
  have O1 : Old Z n0 h1 := O0.keep Kq1 (allS P4 all0)
  have sz_vb_1 : h0.size ≤ vb_1 := Nat.le_trans (Keep.refl h0 [a]).1 q1_6
  have ne_a_vb_1 : a ≠ vb_1 := Nat.ne_of_lt (Nat.lt_of_lt_of_le P0.lt q1_6)
  have N1 := Fr.app N0 Nq1
  refine OE.v (fun t k => st1.trans k) ?_
  show OE _ _ _ _ (T1.setTop (mkF m 5 #[rv a, iv cap] []))
  obtain ⟨fs, hr, hrun, hended, hW, hsame⟩ := X1.leave (v := none) (fun _ => rfl)
  refine ⟨_, _, ?_, hrun, hended, _, _, rfl, ?_, ⟨_, rfl⟩, hW, hsame.mono (by decide) (by decide)⟩
  · exact X1.returnOut hx Bd.returns (hb hby d2_5) hr
  · show Q2 Z a cap cs h0 n0 _ T1.heap _
    rw [e1]
    exact ⟨vb_1, kv_1, rfl, N1, K1, q1_0, q1_1, q1_2, q1_3, q1_4, q1_5, sz_vb_1, q1_7⟩

theorem d8_0 : decode jdk_68_method_68_code 0 = .ok (.getstatic 18, 3) := by decide +kernel
theorem d8_3 : decode jdk_68_method_68_code 3 = .ok (.ifCond .eq 14, 3) := by decide +kernel
theorem d8_6 : decode jdk_68_method_68_code 6 = .ok (.aload_n 0, 1) := by decide +kernel
theorem d8_7 : decode jdk_68_method_68_code 7 = .ok (.getfield 22, 3) := by decide +kernel
theorem d8_10 : decode jdk_68_method_68_code 10 = .ok (.ifCond .ne 7, 3) := by decide +kernel
theorem d8_13 : decode jdk_68_method_68_code 13 = .ok (.iconst 1, 1) := by decide +kernel
theorem d8_14 : decode jdk_68_method_68_code 14 = .ok (.goto 4, 3) := by decide +kernel
theorem d8_18 : decode jdk_68_method_68_code 18 = .ok (.ireturn, 1) := by decide +kernel
theorem pn_rm8 : plainName "java/lang/AbstractStringBuilder" = true := by first | (simp [plainName, overriddenIn]; done) | decide +kernel
theorem ef_rm8 (m : MethodId) (a : Addr) : entryFrame m #[(.ref a)] 1 = mkF m 0 #[rv a] [] := by first | (simp [entryFrame, mkF, argsToLocals, Value.category]; done) | rfl
def Q8 (Z : State) (a : Addr) (cs : Int32) (h0 : Heap) (n0 : Nat) (v : Option Value) (h : Heap) (L : List Loc) : Prop := v = some (.int 1) ∧ Fr n0 L ∧ h = h0
set_option maxRecDepth 65536 in
set_option maxHeartbeats 40000000 in
theorem rm8 (l : Launch) (Z : State) (a0 : Array Value) (hw : ∀ d ∈ tables_1, d.before a0 Z = true) (ws : List Jvm.Cond) (a : Addr) (cs : Int32) (h0 : Heap) (n0 : Nat) (Z0 : n0 ≤ h0.size) (O0 : Old Z n0 h0) (P0 : Fld Z h0 a "java/lang/AbstractStringBuilder" "coder" "B" (.int 0)) (P1 : ¬ cs = (0 : Int32)) (OP0 : Sta Z Z.heap "java/lang/String" "COMPACT_STRINGS" "Z" (.int cs)) :
    MetFree l (⟨"java/lang/AbstractStringBuilder", "isLatin1", "()Z"⟩ : MethodName) (head1 (Jvm.Cond.code (⟨"java/lang/AbstractStringBuilder", "isLatin1", "()Z"⟩ : MethodName) jdk_68_method_68_code 1 (some .boolean) :: ws) ({ frames := 0, cells := 0, slots := 0, locals := 0 } : Room)) (fun aa U => aa = #[(.ref a)] ∧ Z.Warmed39 U.vm ∧ U.heap = h0) (fun _ _ _ _ _ => True) (fun _ U o U' => ∃ v L, o = .returned v ∧ Q8 Z a cs h0 n0 v U'.heap L ∧ FrameEnd U o U' L ({ frames := 0, cells := 0, slots := 0, locals := 0 } : Room).cells ({ frames := 0, cells := 0, slots := 0, locals := 0 } : Room).slots) := by
  refine MetFree.of_bodySF (plainFor_of_name pn_rm8) hisR ?_
  intro p e s m args below meth c s₁ Bd hml0 hP hK
  obtain ⟨rfl, hZ, hh⟩ := hP
  have hx := Bd.exec
  have hby := Bd.bytes
  have hml : c.maxLocals = 1 := hml0
  have hown : s.vm.findClass "java/lang/AbstractStringBuilder" = some m.cls := findClass_of_methodNamed Bd.named
  have hnm := (name_of_methodNamed Bd.named Bd.method).1
  have X0 : Stand p l e ({ frames := 0, cells := 0, slots := 0, locals := 0 } : Room) s m #[(.ref a)] below meth c s₁ [] 0 0 := Stand.of_body Bd
  have e0 : s₁.heap = h0 := by rw [← hh, Bd.state]; rfl
  have N0 := Fr.nil n0
  change OE p.tables e below _ _
  refine OE.v (fun t k => castTop (ef_rm8 m a) k) ?_
  show OE _ _ _ _ (s₁.setTop (mkF m 0 #[rv a] []))
  obtain ⟨T1, X1, e1, st1⟩ := getS2 X0 hx hZ hown (host := "") (Or.inl (hw _ (own_w 20 rfl))) Via.refl e0 (OP0.ext O0.2) (g := (mkF m 0 #[rv a] [])) rfl (hb hby d8_0)
  refine OE.v st1 ?_
  show OE _ _ _ _ (T1.setTop (mkF m 3 #[rv a] [(.int cs)]))
  refine OE.v (fun t k => XS.ifNo X1.here hx rfl (hb hby d8_3) rfl ((if0 _ _).trans (feq P1).1) k) ?_
  show OE _ _ _ _ (T1.setTop (mkF m 6 #[rv a] []))
  refine OE.v (fun t k => XS.aloadN X1.here hx rfl (hb hby d8_6) rfl rfl k) ?_
  show OE _ _ _ _ (T1.setTop (mkF m 7 #[rv a] [(.ref a)]))
  obtain ⟨T2, X2, e2, st2⟩ := getF X1 hx hZ hown (host := "") (Or.inl (hw _ (own_w 24 rfl))) Via.refl e1 P0 (g := (mkF m 7 #[rv a] [(.ref a)])) rfl rfl (hb hby d8_7)
  refine OE.v st2 ?_
  show OE _ _ _ _ (T2.setTop (mkF m 10 #[rv a] [(.int 0)]))
  refine OE.v (fun t k => XS.ifNo X2.here hx rfl (hb hby d8_10) rfl ((if0 _ _).trans (teq (by decide)).2) k) ?_
  show OE _ _ _ _ (T2.setTop (mkF m 13 #[rv a] []))
  refine OE.v (fun t k => XS.iconst X2.here hx rfl (hb hby d8_13) k) ?_
  refine OE.v (fun t k => XS.goto X2.here hx rfl (pc0 := 14) (pc' := 18) rfl (hb hby d8_14) (by decide) (by decide) k) ?_
  show OE _ _ _ _ (T2.setTop (mkF m 18 #[rv a] [(.int 1)]))
  obtain ⟨fs, hr, hrun, hended, hW, hsame⟩ := X2.leave (v := some (.int 1)) (fun h => by rw [Bd.returns] at h; cases h)
  refine ⟨_, _, ?_, hrun, hended, _, _, rfl, ?_, ⟨_, rfl⟩, hW, hsame.mono (by decide) (by decide)⟩
  · exact retN X2 hx (t := .boolean) Bd.returns (by simp) (hb hby d8_18) hr
  · show Q8 Z a cs h0 n0 _ T2.heap _
    rw [e2]
    exact ⟨rfl, N0, rfl⟩

theorem d9_0 : decode jdk_43_method_3_code 0 = .ok (.iload_n 0, 1) := by decide +kernel
theorem d9_1 : decode jdk_43_method_3_code 1 = .ok (.sipush 255, 3) := by decide +kernel
theorem d9_4 : decode jdk_43_method_3_code 4 = .ok (.if_icmp .gt 7, 3) := by decide +kernel
theorem d9_7 : decode jdk_43_method_3_code 7 = .ok (.iconst 1, 1) := by decide +kernel
theorem d9_8 : decode jdk_43_method_3_code 8 = .ok (.goto 4, 3) := by decide +kernel
theorem d9_12 : decode jdk_43_method_3_code 12 = .ok (.ireturn, 1) := by decide +kernel
theorem pn_rm9 : plainName "java/lang/StringLatin1" = true := by first | (simp [plainName, overriddenIn]; done) | decide +kernel
theorem ef_rm9 (m : MethodId) (ch : Int32) : entryFrame m #[(.int ch)] 1 = mkF m 0 #[iv ch] [] := by first | (simp [entryFrame, mkF, argsToLocals, Value.category]; done) | rfl
def Q9 (Z : State) (ch : Int32) (h0 : Heap) (n0 : Nat) (v : Option Value) (h : Heap) (L : List Loc) : Prop := v = some (.int 1) ∧ Fr n0 L ∧ h = h0
set_option maxRecDepth 65536 in
set_option maxHeartbeats 40000000 in
theorem rm9 (l : Launch) (Z : State) (a0 : Array Value) (hw : ∀ d ∈ tables_1, d.before a0 Z = true) (ws : List Jvm.Cond) (ch : Int32) (h0 : Heap) (n0 : Nat) (Z0 : n0 ≤ h0.size) (P0 : ¬ (255 : Int32) < ch) :
    MetFree l (⟨"java/lang/StringLatin1", "canEncode", "(C)Z"⟩ : MethodName) (head1 (Jvm.Cond.code (⟨"java/lang/StringLatin1", "canEncode", "(C)Z"⟩ : MethodName) jdk_43_method_3_code 1 (some .boolean) :: ws) ({ frames := 0, cells := 0, slots := 0, locals := 0 } : Room)) (fun aa U => aa = #[(.int ch)] ∧ Z.Warmed39 U.vm ∧ U.heap = h0) (fun _ _ _ _ _ => True) (fun _ U o U' => ∃ v L, o = .returned v ∧ Q9 Z ch h0 n0 v U'.heap L ∧ FrameEnd U o U' L ({ frames := 0, cells := 0, slots := 0, locals := 0 } : Room).cells ({ frames := 0, cells := 0, slots := 0, locals := 0 } : Room).slots) := by
  refine MetFree.of_bodySF (plainFor_of_name pn_rm9) hisR ?_
  intro p e s m args below meth c s₁ Bd hml0 hP hK
  obtain ⟨rfl, hZ, hh⟩ := hP
  have hx := Bd.exec
  have hby := Bd.bytes
  have hml : c.maxLocals = 1 := hml0
  have hown : s.vm.findClass "java/lang/StringLatin1" = some m.cls := findClass_of_methodNamed Bd.named
  have hnm := (name_of_methodNamed Bd.named Bd.method).1
  have X0 : Stand p l e ({ frames := 0, cells := 0, slots := 0, locals := 0 } : Room) s m #[(.int ch)] below meth c s₁ [] 0 0 := Stand.of_body Bd
  have e0 : s₁.heap = h0 := by rw [← hh, Bd.state]; rfl
  have N0 := Fr.nil n0
  change OE p.tables e below _ _
  refine OE.v (fun t k => castTop (ef_rm9 m ch) k) ?_
  show OE _ _ _ _ (s₁.setTop (mkF m 0 #[iv ch] []))
  refine OE.v (fun t k => XS.iloadN X0.here hx rfl (hb hby d9_0) rfl k) ?_
  refine OE.v (fun t k => XS.sipush X0.here hx rfl (hb hby d9_1) k) ?_
  show OE _ _ _ _ (s₁.setTop (mkF m 4 #[iv ch] [(.int 255), (.int ch)]))
  refine OE.v (fun t k => XS.icmpNo X0.here hx rfl (hb hby d9_4) rfl (flt P0).2.2.1 k) ?_
  show OE _ _ _ _ (s₁.setTop (mkF m 7 #[iv ch] []))
  refine OE.v (fun t k => XS.iconst X0.here hx rfl (hb hby d9_7) k) ?_
  refine OE.v (fun t k => XS.goto X0.here hx rfl (pc0 := 8) (pc' := 12) rfl (hb hby d9_8) (by decide) (by decide) k) ?_
  show OE _ _ _ _ (s₁.setTop (mkF m 12 #[iv ch] [(.int 1)]))
  obtain ⟨fs, hr, hrun, hended, hW, hsame⟩ := X0.leave (v := some (.int 1)) (fun h => by rw [Bd.returns] at h; cases h)
  refine ⟨_, _, ?_, hrun, hended, _, _, rfl, ?_, ⟨_, rfl⟩, hW, hsame.mono (by decide) (by decide)⟩
  · exact retN X0 hx (t := .boolean) Bd.returns (by simp) (hb hby d9_12) hr
  · show Q9 Z ch h0 n0 _ s₁.heap _
    rw [e0]
    exact ⟨rfl, N0, rfl⟩

theorem d7_0 : decode jdk_68_method_9_code 0 = .ok (.aload_n 0, 1) := by decide +kernel
theorem d7_1 : decode jdk_68_method_9_code 1 = .ok (.getfield 15, 3) := by decide +kernel
theorem d7_4 : decode jdk_68_method_9_code 4 = .ok (.arraylength, 1) := by decide +kernel
theorem d7_5 : decode jdk_68_method_9_code 5 = .ok (.aload_n 0, 1) := by decide +kernel
theorem d7_6 : decode jdk_68_method_9_code 6 = .ok (.getfield 22, 3) := by decide +kernel
theorem d7_9 : decode jdk_68_method_9_code 9 = .ok (.ishr, 1) := by decide +kernel
theorem d7_10 : decode jdk_68_method_9_code 10 = .ok (.istore_n 2, 1) := by decide +kernel
theorem d7_11 : decode jdk_68_method_9_code 11 = .ok (.iload_n 1, 1) := by decide +kernel
theorem d7_12 : decode jdk_68_method_9_code 12 = .ok (.iload_n 2, 1) := by decide +kernel
theorem d7_13 : decode jdk_68_method_9_code 13 = .ok (.isub, 1) := by decide +kernel
theorem d7_14 : decode jdk_68_method_9_code 14 = .ok (.ifCond .le 24, 3) := by decide +kernel
theorem d7_38 : decode jdk_68_method_9_code 38 = .ok (.return_, 1) := by decide +kernel
theorem pn_rm7 : plainName "java/lang/AbstractStringBuilder" = true := by first | (simp [plainName, overriddenIn]; done) | decide +kernel
theorem ef_rm7 (m : MethodId) (a : Addr) (mc : Int32) : entryFrame m #[(.ref a), (.int mc)] 3 = mkF m 0 #[rv a, iv mc, .unset] [] := by first | (simp [entryFrame, mkF, argsToLocals, Value.category]; done) | rfl
def Q7 (Z : State) (a : Addr) (mc : Int32) (vb : Addr) (kv : ClassId) (cap : Int32) (vs : List Value) (h0 : Heap) (n0 : Nat) (v : Option Value) (h : Heap) (L : List Loc) : Prop := v = none ∧ Fr n0 L ∧ h = h0
set_option maxRecDepth 65536 in
set_option maxHeartbeats 40000000 in
theorem rm7 (l : Launch) (Z : State) (a0 : Array Value) (hw : ∀ d ∈ tables_1, d.before a0 Z = true) (ws : List Jvm.Cond) (a : Addr) (mc : Int32) (vb : Addr) (kv : ClassId) (cap : Int32) (vs : List Value) (h0 : Heap) (n0 : Nat) (Z0 : n0 ≤ h0.size) (P0 : Fld Z h0 a "java/lang/AbstractStringBuilder" "value" "[B" (.ref vb)) (P1 : Fld Z h0 a "java/lang/AbstractStringBuilder" "coder" "B" (.int 0)) (P2 : Arv Z h0 vb kv .byte cap vs (.int 0)) (P3 : ¬ (0 : Int32) < (mc - (cap >>> ((0 : Int32) &&& 31)))) :
    MetFree l (⟨"java/lang/AbstractStringBuilder", "ensureCapacityInternal", "(I)V"⟩ : MethodName) (head1 (Jvm.Cond.code (⟨"java/lang/AbstractStringBuilder", "ensureCapacityInternal", "(I)V"⟩ : MethodName) jdk_68_method_9_code 3 none :: ws) ({ frames := 0, cells := 0, slots := 0, locals := 0 } : Room)) (fun aa U => aa = #[(.ref a), (.int mc)] ∧ Z.Warmed39 U.vm ∧ U.heap = h0) (fun _ _ _ _ _ => True) (fun _ U o U' => ∃ v L, o = .returned v ∧ Q7 Z a mc vb kv cap vs h0 n0 v U'.heap L ∧ FrameEnd U o U' L ({ frames := 0, cells := 0, slots := 0, locals := 0 } : Room).cells ({ frames := 0, cells := 0, slots := 0, locals := 0 } : Room).slots) := by
  refine MetFree.of_bodySF (plainFor_of_name pn_rm7) hisR ?_
  intro p e s m args below meth c s₁ Bd hml0 hP hK
  obtain ⟨rfl, hZ, hh⟩ := hP
  have hx := Bd.exec
  have hby := Bd.bytes
  have hml : c.maxLocals = 3 := hml0
  have hown : s.vm.findClass "java/lang/AbstractStringBuilder" = some m.cls := findClass_of_methodNamed Bd.named
  have hnm := (name_of_methodNamed Bd.named Bd.method).1
  have X0 : Stand p l e ({ frames := 0, cells := 0, slots := 0, locals := 0 } : Room) s m #[(.ref a), (.int mc)] below meth c s₁ [] 0 0 := Stand.of_body Bd
  have e0 : s₁.heap = h0 := by rw [← hh, Bd.state]; rfl
  have N0 := Fr.nil n0
  change OE p.tables e below _ _
  refine OE.v (fun t k => castTop (ef_rm7 m a mc) k) ?_
  show OE _ _ _ _ (s₁.setTop (mkF m 0 #[rv a, iv mc, .unset] []))
  refine OE.v (fun t k => XS.aloadN X0.here hx rfl (hb hby d7_0) rfl rfl k) ?_
  show OE _ _ _ _ (s₁.setTop (mkF m 1 #[rv a, iv mc, .unset] [(.ref a)]))
  obtain ⟨T1, X1, e1, st1⟩ := getF X0 hx hZ hown (host := "") (Or.inl (hw _ (own_w 22 rfl))) Via.refl e0 P0 (g := (mkF m 1 #[rv a, iv mc, .unset] [(.ref a)])) rfl rfl (hb hby d7_1)
  refine OE.v st1 ?_
  show OE _ _ _ _ (T1.setTop (mkF m 4 #[rv a, iv mc, .unset] [(.ref vb)]))
  obtain ⟨cl2, Ar2, q2, S2, M2, H2, G2⟩ := id P2
  refine OE.v (X1.arraylength hx (by rw [e1]; exact Ar2.1) (State.isArrayOf_alike hZ.alike Ar2.2.1) (g := (mkF m 4 #[rv a, iv mc, .unset] [(.ref vb)])) rfl rfl (hb hby d7_4)) ?_
  rw [len_of S2 M2]
  show OE _ _ _ _ (T1.setTop (mkF m 5 #[rv a, iv mc, .unset] [(.int cap)]))
  refine OE.v (fun t k => XS.aloadN X1.here hx rfl (hb hby d7_5) rfl rfl k) ?_
  show OE _ _ _ _ (T1.setTop (mkF m 6 #[rv a, iv mc, .unset] [(.ref a), (.int cap)]))
  obtain ⟨T3, X3, e3, st3⟩ := getF X1 hx hZ hown (host := "") (Or.inl (hw _ (own_w 24 rfl))) Via.refl e1 P1 (g := (mkF m 6 #[rv a, iv mc, .unset] [(.ref a), (.int cap)])) rfl rfl (hb hby d7_6)
  refine OE.v st3 ?_
  show OE _ _ _ _ (T3.setTop (mkF m 9 #[rv a, iv mc, .unset] [(.int 0), (.int cap)]))
  refine OE.v (fun t k => XS.ishr X3.here hx rfl (hb hby d7_9) rfl k) ?_
  refine OE.v (fun t k => XS.istoreN X3.here hx rfl (hb hby d7_10) rfl (l' := #[rv a, iv mc, iv (cap >>> ((0 : Int32) &&& 31))]) rfl k) ?_
  refine OE.v (fun t k => XS.iloadN X3.here hx rfl (hb hby d7_11) rfl k) ?_
  refine OE.v (fun t k => XS.iloadN X3.here hx rfl (hb hby d7_12) rfl k) ?_
  refine OE.v (fun t k => XS.isub X3.here hx rfl (hb hby d7_13) rfl k) ?_
  show OE _ _ _ _ (T3.setTop (mkF m 14 #[rv a, iv mc, iv (cap >>> ((0 : Int32) &&& 31))] [(.int (mc - (cap >>> ((0 : Int32) &&& 31))))]))
  refine OE.v (fun t k => XS.ifYes X3.here hx rfl (pc0 := 14) (pc' := 38) rfl (hb hby d7_14) rfl ((if0 _ _).trans (flt P3).2.2.2) (by decide) (by decide) k) ?_
  show OE _ _ _ _ (T3.setTop (mkF m 38 #[rv a, iv mc, iv (cap >>> ((0 : Int32) &&& 31))] []))
  obtain ⟨fs, hr, hrun, hended, hW, hsame⟩ := X3.leave (v := none) (fun _ => rfl)
  refine ⟨_, _, ?_, hrun, hended, _, _, rfl, ?_, ⟨_, rfl⟩, hW, hsame.mono (by decide) (by decide)⟩
  · exact X3.returnOut hx Bd.returns (hb hby d7_38) hr
  · show Q7 Z a mc vb kv cap vs h0 n0 _ T3.heap _
    rw [e3]
    exact ⟨rfl, N0, rfl⟩

theorem d6_0 : decode jdk_68_method_31_code 0 = .ok (.aload_n 0, 1) := by decide +kernel
theorem d6_1 : decode jdk_68_method_31_code 1 = .ok (.aload_n 0, 1) := by decide +kernel
theorem d6_2 : decode jdk_68_method_31_code 2 = .ok (.getfield 79, 3) := by decide +kernel
theorem d6_5 : decode jdk_68_method_31_code 5 = .ok (.iconst 1, 1) := by decide +kernel
theorem d6_6 : decode jdk_68_method_31_code 6 = .ok (.iadd, 1) := by decide +kernel
theorem d6_7 : decode jdk_68_method_31_code 7 = .ok (.invokevirtual 100, 3) := by decide +kernel
theorem d6_10 : decode jdk_68_method_31_code 10 = .ok (.aload_n 0, 1) := by decide +kernel
theorem d6_11 : decode jdk_68_method_31_code 11 = .ok (.invokevirtual 83, 3) := by decide +kernel
theorem d6_14 : decode jdk_68_method_31_code 14 = .ok (.ifCond .eq 31, 3) := by decide +kernel
theorem d6_17 : decode jdk_68_method_31_code 17 = .ok (.iload_n 1, 1) := by decide +kernel
theorem d6_18 : decode jdk_68_method_31_code 18 = .ok (.invokestatic 191, 3) := by decide +kernel
theorem d6_21 : decode jdk_68_method_31_code 21 = .ok (.ifCond .eq 24, 3) := by decide +kernel
theorem d6_24 : decode jdk_68_method_31_code 24 = .ok (.aload_n 0, 1) := by decide +kernel
theorem d6_25 : decode jdk_68_method_31_code 25 = .ok (.getfield 15, 3) := by decide +kernel
theorem d6_28 : decode jdk_68_method_31_code 28 = .ok (.aload_n 0, 1) := by decide +kernel
theorem d6_29 : decode jdk_68_method_31_code 29 = .ok (.dup, 1) := by decide +kernel
theorem d6_30 : decode jdk_68_method_31_code 30 = .ok (.getfield 79, 3) := by decide +kernel
theorem d6_33 : decode jdk_68_method_31_code 33 = .ok (.dup_x1, 1) := by decide +kernel
theorem d6_34 : decode jdk_68_method_31_code 34 = .ok (.iconst 1, 1) := by decide +kernel
theorem d6_35 : decode jdk_68_method_31_code 35 = .ok (.iadd, 1) := by decide +kernel
theorem d6_36 : decode jdk_68_method_31_code 36 = .ok (.putfield 79, 3) := by decide +kernel
theorem d6_39 : decode jdk_68_method_31_code 39 = .ok (.iload_n 1, 1) := by decide +kernel
theorem d6_40 : decode jdk_68_method_31_code 40 = .ok (.i2b, 1) := by decide +kernel
theorem d6_41 : decode jdk_68_method_31_code 41 = .ok (.bastore, 1) := by decide +kernel
theorem d6_42 : decode jdk_68_method_31_code 42 = .ok (.goto 33, 3) := by decide +kernel
theorem d6_75 : decode jdk_68_method_31_code 75 = .ok (.aload_n 0, 1) := by decide +kernel
theorem d6_76 : decode jdk_68_method_31_code 76 = .ok (.areturn, 1) := by decide +kernel
theorem pn_rm6 : plainName "java/lang/AbstractStringBuilder" = true := by first | (simp [plainName, overriddenIn]; done) | decide +kernel
theorem pd_1 : parseMethodDescriptor "()Z" = some ⟨[], some .boolean⟩ := by decide +kernel
theorem pd_2 : parseMethodDescriptor "(C)Z" = some ⟨[.char], some .boolean⟩ := by decide +kernel
theorem ef_rm6 (m : MethodId) (a : Addr) (ch : Int32) : entryFrame m #[(.ref a), (.int ch)] 2 = mkF m 0 #[rv a, iv ch] [] := by first | (simp [entryFrame, mkF, argsToLocals, Value.category]; done) | rfl
def Q6 (Z : State) (a : Addr) (ch : Int32) (cnt : Int32) (vb : Addr) (kv : ClassId) (cap : Int32) (vs : List Value) (cs : Int32) (h0 : Heap) (n0 : Nat) (v : Option Value) (h : Heap) (L : List Loc) : Prop := v = some (.ref a) ∧ Fr n0 L ∧ Keep h0 h [a, vb] ∧ Exa Z h a "java/lang/StringBuilder" ∧ Fld Z h a "java/lang/AbstractStringBuilder" "value" "[B" (.ref vb) ∧ Fld Z h a "java/lang/AbstractStringBuilder" "coder" "B" (.int 0) ∧ Fld Z h a "java/lang/AbstractStringBuilder" "count" "I" (.int (cnt + (1 : Int32))) ∧ Arv Z h vb kv .byte cap (vs.set cnt.toNatClampNeg (.int ch)) (.int 0)
set_option maxRecDepth 65536 in
set_option maxHeartbeats 40000000 in
theorem rm6 (l : Launch) (Z : State) (a0 : Array Value) (hw : ∀ d ∈ tables_1, d.before a0 Z = true) (ws : List Jvm.Cond) (a : Addr) (ch : Int32) (cnt : Int32) (vb : Addr) (kv : ClassId) (cap : Int32) (vs : List Value) (cs : Int32) (h0 : Heap) (n0 : Nat) (Z0 : n0 ≤ h0.size) (O0 : Old Z n0 h0) (P0 : Exa Z h0 a "java/lang/StringBuilder") (P1 : Fld Z h0 a "java/lang/AbstractStringBuilder" "value" "[B" (.ref vb)) (P2 : Fld Z h0 a "java/lang/AbstractStringBuilder" "coder" "B" (.int 0)) (P3 : Fld Z h0 a "java/lang/AbstractStringBuilder" "count" "I" (.int cnt)) (P4 : Arv Z h0 vb kv .byte cap vs (.int 0)) (P5 : n0 ≤ a) (P6 : n0 ≤ vb) (P7 : vb ≠ a) (P8 : 0 ≤ ch.toInt ∧ ch.toInt < 128) (P9 : ¬ (0 : Int32) < ((cnt + (1 : Int32)) - (cap >>> ((0 : Int32) &&& 31)))) (P10 : ¬ cnt < 0 ∧ cnt < cap) (P11 : cnt.toNatClampNeg < vs.length) (P12 : ¬ cs = (0 : Int32)) (OP0 : Sta Z Z.heap "java/lang/String" "COMPACT_STRINGS" "Z" (.int cs)) :
    MetFree l (⟨"java/lang/AbstractStringBuilder", "append", "(C)Ljava/lang/AbstractStringBuilder;"⟩ : MethodName) (head1 (Jvm.Cond.code (⟨"java/lang/AbstractStringBuilder", "append", "(C)Ljava/lang/AbstractStringBuilder;"⟩ : MethodName) jdk_68_method_31_code 2 (some (.object "java/lang/AbstractStringBuilder")) :: ws) ({ frames := 1, cells := 0, slots := 0, locals := 14 } : Room)) (fun aa U => aa = #[(.ref a), (.int ch)] ∧ Z.Warmed39 U.vm ∧ U.heap = h0) (fun _ _ _ _ _ => True) (fun _ U o U' => ∃ v L, o = .returned v ∧ Q6 Z a ch cnt vb kv cap vs cs h0 n0 v U'.heap L ∧ FrameEnd U o U' L ({ frames := 1, cells := 0, slots := 0, locals := 14 } : Room).cells ({ frames := 1, cells := 0, slots := 0, locals := 14 } : Room).slots) := by
  refine MetFree.of_bodySF (plainFor_of_name pn_rm6) hisR ?_
  intro p e s m args below meth c s₁ Bd hml0 hP hK
  obtain ⟨rfl, hZ, hh⟩ := hP
  have hx := Bd.exec
  have hby := Bd.bytes
  have hml : c.maxLocals = 2 := hml0
  have hown : s.vm.findClass "java/lang/AbstractStringBuilder" = some m.cls := findClass_of_methodNamed Bd.named
  have hnm := (name_of_methodNamed Bd.named Bd.method).1
  have X0 : Stand p l e ({ frames := 1, cells := 0, slots := 0, locals := 14 } : Room) s m #[(.ref a), (.int ch)] below meth c s₁ [] 0 0 := Stand.of_body Bd
  have e0 : s₁.heap = h0 := by rw [← hh, Bd.state]; rfl
  have N0 := Fr.nil n0
  change OE p.tables e below _ _
  refine OE.v (fun t k => castTop (ef_rm6 m a ch) k) ?_
  show OE _ _ _ _ (s₁.setTop (mkF m 0 #[rv a, iv ch] []))
  refine OE.v (fun t k => XS.aloadN X0.here hx rfl (hb hby d6_0) rfl rfl k) ?_
  refine OE.v (fun t k => XS.aloadN X0.here hx rfl (hb hby d6_1) rfl rfl k) ?_
  show OE _ _ _ _ (s₁.setTop (mkF m 2 #[rv a, iv ch] [(.ref a), (.ref a)]))
  obtain ⟨T1, X1, e1, st1⟩ := getF X0 hx hZ hown (host := "") (Or.inl (hw _ (own_w 36 rfl))) Via.refl e0 P3 (g := (mkF m 2 #[rv a, iv ch] [(.ref a), (.ref a)])) rfl rfl (hb hby d6_2)
  refine OE.v st1 ?_
  show OE _ _ _ _ (T1.setTop (mkF m 5 #[rv a, iv ch] [(.int cnt), (.ref a)]))
  refine OE.v (fun t k => XS.iconst X1.here hx rfl (hb hby d6_5) k) ?_
  refine OE.v (fun t k => XS.iadd X1.here hx rfl (hb hby d6_6) rfl k) ?_
  show OE _ _ _ _ (T1.setTop (mkF m 7 #[rv a, iv ch] [(.int (cnt + (1 : Int32))), (.ref a)]))
  obtain ⟨cq2, q2, q2'⟩ := P0.cell
  obtain ⟨_, _, ⟨T2, L2, k2, n2⟩, -, X2, ⟨Lc2, hQ2, l2, y2, z2⟩, st2⟩ := X1.privateBack hx (y := (⟨"java/lang/AbstractStringBuilder", "ensureCapacityInternal", "(I)V"⟩ : MethodName)) hown (mvT hZ (hw _ (own_w 38 rfl))) (mvT hZ (hw _ (own_w 39 rfl))) (own_selq (⟨"java/lang/AbstractStringBuilder", "isLatin1", "()Z"⟩ : MethodName) rfl (mvT hZ (hw _ (own_w 44 rfl))) (mvT hZ (hw _ (own_w 46 rfl))) (Cond.privateMethod_at (mvP hZ (hw _ (own_w 40 rfl)) (args := #[]))) (mvT hZ (hw _ (own_w 39 rfl))) (by decide)) (Cond.privateMethod_at (mvP hZ (hw _ (own_w 40 rfl)) (args := #[]))) (mvT hZ (hw _ (own_w 42 rfl))) (by decide) (backOf (W := 0) (rm7 l Z a0 hw [] a (cnt + (1 : Int32)) vb kv cap vs h0 n0 Z0 P1 P2 P4 P9) hZ (hw _ (own_w 42 rfl)) (hw _ (own_w 15 rfl)) (by decide) (by decide)) (g := (mkF m 7 #[rv a, iv ch] [(.int (cnt + (1 : Int32))), (.ref a)])) rfl (by rw [hml]; rfl) (Steps.refl _) (a := a) (by rw [e1]; exact q2) q2' (argsL := [(.int (cnt + (1 : Int32)))]) (rest := []) (lenOf pd_0 rfl) rfl (Nat.le_of_eq rfl) (hb hby d6_7) (fun _ _ => ⟨rfl, e1, (by decide : 0 + 0 ≤ _), (by decide : 0 + 0 ≤ _)⟩)
  dsimp only [Pt.U, Pt.locs, Pt.cells, Pt.slots] at X2 l2 y2 z2 st2 hQ2
  subst l2 y2 z2
  obtain ⟨rfl, Nq2, e2⟩ := hQ2
  have N2 := Fr.app N0 Nq2
  refine OE.v (fun t k => st2.trans k) ?_
  show OE _ _ _ _ (T2.setTop (mkF m 10 #[rv a, iv ch] []))
  refine OE.v (fun t k => XS.aloadN X2.here hx rfl (hb hby d6_10) rfl rfl k) ?_
  show OE _ _ _ _ (T2.setTop (mkF m 11 #[rv a, iv ch] [(.ref a)]))
  obtain ⟨cq3, kq3, q3a, q3b, q3c⟩ := isOf hZ e2 P0
  obtain ⟨_, _, ⟨T3, L3, k3, n3⟩, -, X3, ⟨Lc3, hQ3, l3, y3, z3⟩, st3⟩ := X2.virtualBack hx (y := (⟨"java/lang/AbstractStringBuilder", "isLatin1", "()Z"⟩ : MethodName)) (z := (⟨"java/lang/AbstractStringBuilder", "isLatin1", "()Z"⟩ : MethodName)) hown (mvT hZ (hw _ (own_w 43 rfl))) (mvT hZ (hw _ (own_w 44 rfl))) (notFace_of_selects (args := #[]) (mvT hZ (hw _ (own_w 46 rfl)))) (mvT hZ (hw _ (own_w 46 rfl))) (mvT hZ (hw _ (own_w 45 rfl))) (by decide) (backOf (W := 0) (rm8 l Z a0 hw [] a cs h0 n0 Z0 O0 P2 P12 OP0) hZ (hw _ (own_w 47 rfl)) (hw _ (own_w 15 rfl)) (by decide) (by decide)) q3a q3c (g := (mkF m 11 #[rv a, iv ch] [(.ref a)])) rfl (by rw [hml]; rfl) (Steps.refl _) (argsL := []) (rest := []) (lenOf pd_1 rfl) rfl (Nat.le_of_eq rfl) (hb hby d6_11) (fun _ _ => ⟨rfl, e2, (by decide : 0 + 0 ≤ _), (by decide : 0 + 0 ≤ _)⟩)
  dsimp only [Pt.U, Pt.locs, Pt.cells, Pt.slots] at X3 l3 y3 z3 st3 hQ3
  subst l3 y3 z3
  obtain ⟨rfl, Nq3, e3⟩ := hQ3
  have N3 := Fr.app N2 Nq3
  refine OE.v (fun t k => st3.trans k) ?_
  show OE _ _ _ _ (T3.setTop (mkF m 14 #[rv a, iv ch] [(.int 1)]))
  refine OE.v (fun t k => XS.ifNo X3.here hx rfl (hb hby d6_14) rfl ((if0 _ _).trans (feq (by decide)).1) k) ?_
  show OE _ _ _ _ (T3.setTop (mkF m 17 #[rv a, iv ch] []))
  refine OE.v (fun t k => XS.iloadN X3.here hx rfl (hb hby d6_17) rfl k) ?_
  show OE _ _ _ _ (T3.setTop (mkF m 18 #[rv a, iv ch] [(.int ch)]))
  obtain ⟨_, _, ⟨T4, L4, k4, n4⟩, -, X4, ⟨Lc4, hQ4, l4, y4, z4⟩, st4⟩ := Jvm.LawKit.callS X3 hx (y := (⟨"java/lang/StringLatin1", "canEncode", "(C)Z"⟩ : MethodName)) hown (mvT hZ (hw _ (own_w 48 rfl))) (mvT hZ (hw _ (own_w 49 rfl))) (mvT hZ (hw _ (own_w 50 rfl))) (mvT hZ (hw _ (own_w 51 rfl))) (by decide) (backOf (W := 0) (rm9 l Z a0 hw [] ch h0 n0 Z0 (own_lat P8)) hZ (hw _ (own_w 51 rfl)) (hw _ (own_w 50 rfl)) (by decide) (by decide)) (g := (mkF m 18 #[rv a, iv ch] [(.int ch)])) rfl (by rw [hml]; rfl) (argsL := [(.int ch)]) (rest := []) (lenOf pd_2 rfl) rfl (Nat.le_of_eq rfl) (hb hby d6_18) (fun _ _ => ⟨rfl, e3, (by decide : 0 + 0 ≤ _), (by decide : 0 + 0 ≤ _)⟩)
  dsimp only [Pt.U, Pt.locs, Pt.cells, Pt.slots] at X4 l4 y4 z4 st4 hQ4
  subst l4 y4 z4
  obtain ⟨rfl, Nq4, e4⟩ := hQ4
  have N4 := Fr.app N3 Nq4
  refine OE.v st4 ?_
  show OE _ _ _ _ (T4.setTop (mkF m 21 #[rv a, iv ch] [(.int 1)]))
  refine OE.v (fun t k => XS.ifNo X4.here hx rfl (hb hby d6_21) rfl ((if0 _ _).trans (feq (by decide)).1) k) ?_
  show OE _ _ _ _ (T4.setTop (mkF m 24 #[rv a, iv ch] []))
  refine OE.v (fun t k => XS.aloadN X4.here hx rfl (hb hby d6_24) rfl rfl k) ?_
  show OE _ _ _ _ (T4.setTop (mkF m 25 #[rv a, iv ch] [(.ref a)]))
  obtain ⟨T5, X5, e5, st5⟩ := getF X4 hx hZ hown (host := "") (Or.inl (hw _ (own_w 22 rfl))) Via.refl e4 P1 (g := (mkF m 25 #[rv a, iv ch] [(.ref a)])) rfl rfl (hb hby d6_25)
  refine OE.v st5 ?_
  show OE _ _ _ _ (T5.setTop (mkF m 28 #[rv a, iv ch] [(.ref vb)]))
  refine OE.v (fun t k => XS.aloadN X5.here hx rfl (hb hby d6_28) rfl rfl k) ?_
  refine OE.v (fun t k => XS.dup X5.here hx rfl (hb hby d6_29) rfl rfl k) ?_
  show OE _ _ _ _ (T5.setTop (mkF m 30 #[rv a, iv ch] [(.ref a), (.ref a), (.ref vb)]))
  obtain ⟨T6, X6, e6, st6⟩ := getF X5 hx hZ hown (host := "") (Or.inl (hw _ (own_w 36 rfl))) Via.refl e5 P3 (g := (mkF m 30 #[rv a, iv ch] [(.ref a), (.ref a), (.ref vb)])) rfl rfl (hb hby d6_30)
  refine OE.v st6 ?_
  show OE _ _ _ _ (T6.setTop (mkF m 33 #[rv a, iv ch] [(.int cnt), (.ref a), (.ref vb)]))
  refine OE.v (fun t k => XS.dupX1 X6.here hx rfl (hb hby d6_33) rfl rfl rfl k) ?_
  show OE _ _ _ _ (T6.setTop (mkF m 34 #[rv a, iv ch] [(.int cnt), (.ref a), (.int cnt), (.ref vb)]))
  refine OE.v (fun t k => XS.iconst X6.here hx rfl (hb hby d6_34) k) ?_
  refine OE.v (fun t k => XS.iadd X6.here hx rfl (hb hby d6_35) rfl k) ?_
  show OE _ _ _ _ (T6.setTop (mkF m 36 #[rv a, iv ch] [(.int (cnt + (1 : Int32))), (.ref a), (.int cnt), (.ref vb)]))
  obtain ⟨T7, h7, X7, e7, W7, st7⟩ := putF X6 hx hZ hown (host := "") (Or.inl (hw _ (own_w 36 rfl))) Via.refl e6 P3 P0 (Or.inl (hw _ (own_w 37 rfl))) (hw _ (own_w 6 rfl)) (ty := .int) (by decide) rfl rfl (g := (mkF m 36 #[rv a, iv ch] [(.int (cnt + (1 : Int32))), (.ref a), (.int cnt), (.ref vb)])) rfl rfl (hb hby d6_36)
  have Fw7 : Fld Z h7 a "java/lang/AbstractStringBuilder" "count" "I" (.int (cnt + (1 : Int32))) := P3.same W7
  have N7 := Fr.snoc X7 N4 P5
  have Z7 : n0 ≤ h7.size := Nat.le_trans Z0 (Nat.le_of_eq W7.size.symm)
  have K7 : Keep h0 h7 [a, vb] := (Keep.refl h0 [a, vb]).wr W7 (Or.inl (by simp))
  have O7 : Old Z n0 h7 := O0.wr W7 P5
  refine OE.v st7 ?_
  show OE _ _ _ _ (T7.setTop (mkF m 39 #[rv a, iv ch] [(.int cnt), (.ref vb)]))
  refine OE.v (fun t k => XS.iloadN X7.here hx rfl (hb hby d6_39) rfl k) ?_
  refine OE.v (fun t k => XS.i2b X7.here hx rfl (hb hby d6_40) rfl k) ?_
  show OE _ _ _ _ (T7.setTop (mkF m 41 #[rv a, iv ch] [(.int (ch.toInt8.toInt32)), (.int cnt), (.ref vb)]))
  obtain ⟨cl8, Ar8, q8, S8, M8, H8, G8⟩ := id (P4.other W7 P7)
  have hin8 : ¬ (cnt < 0 ∨ cl8.slots.size ≤ (cnt).toNatClampNeg) := inb_of S8 P10
  obtain ⟨T8, h8, X8, e8, W8, st8⟩ := stB X7 hx hZ e7 Ar8 (j := cnt) hin8 (g := (mkF m 41 #[rv a, iv ch] [(.int (ch.toInt8.toInt32)), (.int cnt), (.ref vb)])) rfl rfl (hb hby d6_41)
  have V8 : Arv Z h8 vb kv .byte cap (vs.set (cnt).toNatClampNeg (.int (nar .byte (ch.toInt8.toInt32)))) (.int 0) := Arv.set Ar8 q8 S8 M8 H8 G8 (fits_nar_byte _) W8 (cnt).toNatClampNeg rfl P11
  have N8 := Fr.snoc X8 N7 P6
  have Z8 : n0 ≤ h8.size := Nat.le_trans Z7 (Nat.le_of_eq W8.size.symm)
  have K8 : Keep h0 h8 [a, vb] := K7.wr W8 (Or.inl (by simp))
  have O8 : Old Z n0 h8 := O7.wr W8 P6
  refine OE.v st8 ?_
  show OE _ _ _ _ (T8.setTop (mkF m 42 #[rv a, iv ch] []))
  refine OE.v (fun t k => XS.goto X8.here hx rfl (pc0 := 42) (pc' := 75) rfl (hb hby d6_42) (by decide) (by decide) k) ?_
  refine OE.v (fun t k => XS.aloadN X8.here hx rfl (hb hby d6_75) rfl rfl k) ?_
  show OE _ _ _ _ (T8.setTop (mkF m 76 #[rv a, iv ch] [(.ref a)]))
  obtain ⟨fs, hr, hrun, hended, hW, hsame⟩ := X8.leave (v := some (.ref a)) (fun h => by rw [Bd.returns] at h; cases h)
  refine ⟨_, _, ?_, hrun, hended, _, _, rfl, ?_, ⟨_, rfl⟩, hW, hsame.mono (by decide) (by decide)⟩
  · jvm_step X8.here [X8.here.top, hx, (hb hby d6_76), X8.method', Bd.returns, Value.isRef, FieldType.isReference]
    first | (intro acts; rw [hr _ acts rfl rfl rfl]) | rw [hr _ _ rfl rfl rfl]
    exact Steps.refl _
  · show Q6 Z a ch cnt vb kv cap vs cs h0 n0 _ T8.heap _
    rw [e8]
    exact ⟨rfl, N8, K8, ((P0.wr W7).wr W8), ((P1.other W7 (Or.inr (slot_ne (Or.inl (hw _ (own_w 23 rfl))) (Or.inl (hw _ (own_w 37 rfl))) (by decide) (t := (.array .byte)) (t' := .int) (by decide) (by decide)))).other W8 (Or.inl (Ne.symm P7))), ((P2.other W7 (Or.inr (slot_ne (Or.inl (hw _ (own_w 25 rfl))) (Or.inl (hw _ (own_w 37 rfl))) (by decide) (t := .byte) (t' := .int) (by decide) (by decide)))).other W8 (Or.inl (Ne.symm P7))), (Fw7.other W8 (Or.inl (Ne.symm P7))), (by have q := V8; rw [own_nb P8] at q; exact q)⟩

theorem d5_0 : decode jdk_67_method_14_code 0 = .ok (.aload_n 0, 1) := by decide +kernel
theorem d5_1 : decode jdk_67_method_14_code 1 = .ok (.iload_n 1, 1) := by decide +kernel
theorem d5_2 : decode jdk_67_method_14_code 2 = .ok (.invokespecial 50, 3) := by decide +kernel
theorem d5_5 : decode jdk_67_method_14_code 5 = .ok (.pop, 1) := by decide +kernel
theorem d5_6 : decode jdk_67_method_14_code 6 = .ok (.aload_n 0, 1) := by decide +kernel
theorem d5_7 : decode jdk_67_method_14_code 7 = .ok (.areturn, 1) := by decide +kernel
theorem pn_rm5 : plainName "java/lang/StringBuilder" = true := by first | (simp [plainName, overriddenIn]; done) | decide +kernel
theorem pd_3 : parseMethodDescriptor "(C)Ljava/lang/AbstractStringBuilder;" = some ⟨[.char], some (.object "java/lang/AbstractStringBuilder")⟩ := by decide +kernel
theorem ef_rm5 (m : MethodId) (a : Addr) (ch : Int32) : entryFrame m #[(.ref a), (.int ch)] 2 = mkF m 0 #[rv a, iv ch] [] := by first | (simp [entryFrame, mkF, argsToLocals, Value.category]; done) | rfl
def Q5 (Z : State) (a : Addr) (ch : Int32) (cnt : Int32) (vb : Addr) (kv : ClassId) (cap : Int32) (vs : List Value) (cs : Int32) (h0 : Heap) (n0 : Nat) (v : Option Value) (h : Heap) (L : List Loc) : Prop := v = some (.ref a) ∧ Fr n0 L ∧ Keep h0 h [a, vb] ∧ Exa Z h a "java/lang/StringBuilder" ∧ Fld Z h a "java/lang/AbstractStringBuilder" "value" "[B" (.ref vb) ∧ Fld Z h a "java/lang/AbstractStringBuilder" "coder" "B" (.int 0) ∧ Fld Z h a "java/lang/AbstractStringBuilder" "count" "I" (.int (cnt + (1 : Int32))) ∧ Arv Z h vb kv .byte cap (vs.set cnt.toNatClampNeg (.int ch)) (.int 0)
set_option maxRecDepth 65536 in
set_option maxHeartbeats 40000000 in
theorem rm5 (l : Launch) (Z : State) (a0 : Array Value) (hw : ∀ d ∈ tables_1, d.before a0 Z = true) (ws : List Jvm.Cond) (a : Addr) (ch : Int32) (cnt : Int32) (vb : Addr) (kv : ClassId) (cap : Int32) (vs : List Value) (cs : Int32) (h0 : Heap) (n0 : Nat) (Z0 : n0 ≤ h0.size) (O0 : Old Z n0 h0) (P0 : Exa Z h0 a "java/lang/StringBuilder") (P1 : Fld Z h0 a "java/lang/AbstractStringBuilder" "value" "[B" (.ref vb)) (P2 : Fld Z h0 a "java/lang/AbstractStringBuilder" "coder" "B" (.int 0)) (P3 : Fld Z h0 a "java/lang/AbstractStringBuilder" "count" "I" (.int cnt)) (P4 : Arv Z h0 vb kv .byte cap vs (.int 0)) (P5 : n0 ≤ a) (P6 : n0 ≤ vb) (P7 : vb ≠ a) (P8 : 0 ≤ ch.toInt ∧ ch.toInt < 128) (P9 : ¬ (0 : Int32) < ((cnt + (1 : Int32)) - (cap >>> ((0 : Int32) &&& 31)))) (P10 : ¬ cnt < 0 ∧ cnt < cap) (P11 : cnt.toNatClampNeg < vs.length) (P12 : ¬ cs = (0 : Int32)) (OP0 : Sta Z Z.heap "java/lang/String" "COMPACT_STRINGS" "Z" (.int cs)) :
    MetFree l (⟨"java/lang/StringBuilder", "append", "(C)Ljava/lang/StringBuilder;"⟩ : MethodName) (head1 (Jvm.Cond.code (⟨"java/lang/StringBuilder", "append", "(C)Ljava/lang/StringBuilder;"⟩ : MethodName) jdk_67_method_14_code 2 (some (.object "java/lang/StringBuilder")) :: ws) ({ frames := 2, cells := 0, slots := 0, locals := 27 } : Room)) (fun aa U => aa = #[(.ref a), (.int ch)] ∧ Z.Warmed39 U.vm ∧ U.heap = h0) (fun _ _ _ _ _ => True) (fun _ U o U' => ∃ v L, o = .returned v ∧ Q5 Z a ch cnt vb kv cap vs cs h0 n0 v U'.heap L ∧ FrameEnd U o U' L ({ frames := 2, cells := 0, slots := 0, locals := 27 } : Room).cells ({ frames := 2, cells := 0, slots := 0, locals := 27 } : Room).slots) := by
  refine MetFree.of_bodySF (plainFor_of_name pn_rm5) hisR ?_
  intro p e s m args below meth c s₁ Bd hml0 hP hK
  obtain ⟨rfl, hZ, hh⟩ := hP
  have hx := Bd.exec
  have hby := Bd.bytes
  have hml : c.maxLocals = 2 := hml0
  have hown : s.vm.findClass "java/lang/StringBuilder" = some m.cls := findClass_of_methodNamed Bd.named
  have hnm := (name_of_methodNamed Bd.named Bd.method).1
  have X0 : Stand p l e ({ frames := 2, cells := 0, slots := 0, locals := 27 } : Room) s m #[(.ref a), (.int ch)] below meth c s₁ [] 0 0 := Stand.of_body Bd
  have e0 : s₁.heap = h0 := by rw [← hh, Bd.state]; rfl
  have N0 := Fr.nil n0
  change OE p.tables e below _ _
  refine OE.v (fun t k => castTop (ef_rm5 m a ch) k) ?_
  show OE _ _ _ _ (s₁.setTop (mkF m 0 #[rv a, iv ch] []))
  refine OE.v (fun t k => XS.aloadN X0.here hx rfl (hb hby d5_0) rfl rfl k) ?_
  refine OE.v (fun t k => XS.iloadN X0.here hx rfl (hb hby d5_1) rfl k) ?_
  show OE _ _ _ _ (s₁.setTop (mkF m 2 #[rv a, iv ch] [(.int ch), (.ref a)]))
  obtain ⟨_, _, ⟨T1, L1, k1, n1⟩, -, X1, ⟨Lc1, hQ1, l1, y1, z1⟩, st1⟩ := superBack X0 hx hZ (y := (⟨"java/lang/AbstractStringBuilder", "append", "(C)Ljava/lang/AbstractStringBuilder;"⟩ : MethodName)) hown (hw _ (own_w 31 rfl)) (own_same (⟨"java/lang/AbstractStringBuilder", "append", "(C)Ljava/lang/AbstractStringBuilder;"⟩ : MethodName) (⟨"java/lang/AbstractStringBuilder", "isLatin1", "()Z"⟩ : MethodName) (by decide) rfl (hw _ (own_w 34 rfl)) (hw _ (own_w 44 rfl)) (hw _ (own_w 46 rfl))) (hw _ (own_w 32 rfl)) (hw _ (own_w 33 rfl)) (by decide) (backOf (W := 0) (rm6 l Z a0 hw [] a ch cnt vb kv cap vs cs h0 n0 Z0 O0 P0 P1 P2 P3 P4 P5 P6 P7 P8 P9 P10 P11 P12 OP0) hZ (hw _ (own_w 35 rfl)) (hw _ (own_w 15 rfl)) (by decide) (by decide)) e0 (Ins.self P0) (g := (mkF m 2 #[rv a, iv ch] [(.int ch), (.ref a)])) rfl (by rw [hml]; rfl) (hw _ (own_w 35 rfl)) (argsL := [(.int ch)]) (rest := []) (lenOf pd_3 rfl) rfl (Nat.le_of_eq rfl) (hb hby d5_2) (fun _ _ => ⟨rfl, e0, (by decide : 0 + 0 ≤ _), (by decide : 0 + 0 ≤ _)⟩)
  dsimp only [Pt.U, Pt.locs, Pt.cells, Pt.slots] at X1 l1 y1 z1 st1 hQ1
  subst l1 y1 z1
  obtain ⟨h1, e1⟩ : ∃ z, T1.heap = z := ⟨_, rfl⟩
  rw [e1] at hQ1
  obtain ⟨rfl, Nq1, Kq1, q1_0, q1_1, q1_2, q1_3, q1_4⟩ := hQ1
  have Z1 : n0 ≤ h1.size := Nat.le_trans Z0 Kq1.1
  have K1 : Keep h0 h1 [a, vb] := (Keep.refl h0 [a, vb]).trans Kq1 (allS (Or.inl (by simp)) (allS (Or.inl (by simp)) all0))
  have O1 : Old Z n0 h1 := O0.keep Kq1 (allS P5 (allS P6 all0))
  have N1 := Fr.app N0 Nq1
  refine OE.v (fun t k => st1.trans k) ?_
  show OE _ _ _ _ (T1.setTop (mkF m 5 #[rv a, iv ch] [(.ref a)]))
  refine OE.v (fun t k => XS.pop X1.here hx rfl (hb hby d5_5) rfl rfl k) ?_
  refine OE.v (fun t k => XS.aloadN X1.here hx rfl (hb hby d5_6) rfl rfl k) ?_
  show OE _ _ _ _ (T1.setTop (mkF m 7 #[rv a, iv ch] [(.ref a)]))
  obtain ⟨fs, hr, hrun, hended, hW, hsame⟩ := X1.leave (v := some (.ref a)) (fun h => by rw [Bd.returns] at h; cases h)
  refine ⟨_, _, ?_, hrun, hended, _, _, rfl, ?_, ⟨_, rfl⟩, hW, hsame.mono (by decide) (by decide)⟩
  · jvm_step X1.here [X1.here.top, hx, (hb hby d5_7), X1.method', Bd.returns, Value.isRef, FieldType.isReference]
    first | (intro acts; rw [hr _ acts rfl rfl rfl]) | rw [hr _ _ rfl rfl rfl]
    exact Steps.refl _
  · show Q5 Z a ch cnt vb kv cap vs cs h0 n0 _ T1.heap _
    rw [e1]
    exact ⟨rfl, N1, K1, q1_0, q1_1, q1_2, q1_3, q1_4⟩

theorem d13_0 : decode jdk_68_method_64_code 0 = .ok (.aload_n 0, 1) := by decide +kernel
theorem d13_1 : decode jdk_68_method_64_code 1 = .ok (.getfield 15, 3) := by decide +kernel
theorem d13_4 : decode jdk_68_method_64_code 4 = .ok (.areturn, 1) := by decide +kernel
theorem pn_rm13 : plainName "java/lang/AbstractStringBuilder" = true := by first | (simp [plainName, overriddenIn]; done) | decide +kernel
theorem ef_rm13 (m : MethodId) (a : Addr) : entryFrame m #[(.ref a)] 1 = mkF m 0 #[rv a] [] := by first | (simp [entryFrame, mkF, argsToLocals, Value.category]; done) | rfl
def Q13 (Z : State) (a : Addr) (vb : Addr) (h0 : Heap) (n0 : Nat) (v : Option Value) (h : Heap) (L : List Loc) : Prop := v = some (.ref vb) ∧ Fr n0 L ∧ h = h0
set_option maxRecDepth 65536 in
set_option maxHeartbeats 40000000 in
theorem rm13 (l : Launch) (Z : State) (a0 : Array Value) (hw : ∀ d ∈ tables_1, d.before a0 Z = true) (ws : List Jvm.Cond) (a : Addr) (vb : Addr) (h0 : Heap) (n0 : Nat) (Z0 : n0 ≤ h0.size) (P0 : Fld Z h0 a "java/lang/AbstractStringBuilder" "value" "[B" (.ref vb)) :
    MetFree l (⟨"java/lang/AbstractStringBuilder", "getValue", "()[B"⟩ : MethodName) (head1 (Jvm.Cond.code (⟨"java/lang/AbstractStringBuilder", "getValue", "()[B"⟩ : MethodName) jdk_68_method_64_code 1 (some (.array .byte)) :: ws) ({ frames := 0, cells := 0, slots := 0, locals := 0 } : Room)) (fun aa U => aa = #[(.ref a)] ∧ Z.Warmed39 U.vm ∧ U.heap = h0) (fun _ _ _ _ _ => True) (fun _ U o U' => ∃ v L, o = .returned v ∧ Q13 Z a vb h0 n0 v U'.heap L ∧ FrameEnd U o U' L ({ frames := 0, cells := 0, slots := 0, locals := 0 } : Room).cells ({ frames := 0, cells := 0, slots := 0, locals := 0 } : Room).slots) := by
  refine MetFree.of_bodySF (plainFor_of_name pn_rm13) hisR ?_
  intro p e s m args below meth c s₁ Bd hml0 hP hK
  obtain ⟨rfl, hZ, hh⟩ := hP
  have hx := Bd.exec
  have hby := Bd.bytes
  have hml : c.maxLocals = 1 := hml0
  have hown : s.vm.findClass "java/lang/AbstractStringBuilder" = some m.cls := findClass_of_methodNamed Bd.named
  have hnm := (name_of_methodNamed Bd.named Bd.method).1
  have X0 : Stand p l e ({ frames := 0, cells := 0, slots := 0, locals := 0 } : Room) s m #[(.ref a)] below meth c s₁ [] 0 0 := Stand.of_body Bd
  have e0 : s₁.heap = h0 := by rw [← hh, Bd.state]; rfl
  have N0 := Fr.nil n0
  change OE p.tables e below _ _
  refine OE.v (fun t k => castTop (ef_rm13 m a) k) ?_
  show OE _ _ _ _ (s₁.setTop (mkF m 0 #[rv a] []))
  refine OE.v (fun t k => XS.aloadN X0.here hx rfl (hb hby d13_0) rfl rfl k) ?_
  show OE _ _ _ _ (s₁.setTop (mkF m 1 #[rv a] [(.ref a)]))
  obtain ⟨T1, X1, e1, st1⟩ := getF X0 hx hZ hown (host := "") (Or.inl (hw _ (own_w 22 rfl))) Via.refl e0 P0 (g := (mkF m 1 #[rv a] [(.ref a)])) rfl rfl (hb hby d13_1)
  refine OE.v st1 ?_
  show OE _ _ _ _ (T1.setTop (mkF m 4 #[rv a] [(.ref vb)]))
  obtain ⟨fs, hr, hrun, hended, hW, hsame⟩ := X1.leave (v := some (.ref vb)) (fun h => by rw [Bd.returns] at h; cases h)
  refine ⟨_, _, ?_, hrun, hended, _, _, rfl, ?_, ⟨_, rfl⟩, hW, hsame.mono (by decide) (by decide)⟩
  · jvm_step X1.here [X1.here.top, hx, (hb hby d13_4), X1.method', Bd.returns, Value.isRef, FieldType.isReference]
    first | (intro acts; rw [hr _ acts rfl rfl rfl]) | rw [hr _ _ rfl rfl rfl]
    exact Steps.refl _
  · show Q13 Z a vb h0 n0 _ T1.heap _
    rw [e1]
    exact ⟨rfl, N0, rfl⟩

theorem d15_0 : decode jdk_68_method_6_code 0 = .ok (.aload_n 0, 1) := by decide +kernel
theorem d15_1 : decode jdk_68_method_6_code 1 = .ok (.getfield 79, 3) := by decide +kernel
theorem d15_4 : decode jdk_68_method_6_code 4 = .ok (.ireturn, 1) := by decide +kernel
theorem pn_rm15 : plainName "java/lang/AbstractStringBuilder" = true := by first | (simp [plainName, overriddenIn]; done) | decide +kernel
theorem ef_rm15 (m : MethodId) (a : Addr) : entryFrame m #[(.ref a)] 1 = mkF m 0 #[rv a] [] := by first | (simp [entryFrame, mkF, argsToLocals, Value.category]; done) | rfl
def Q15 (Z : State) (a : Addr) (cnt : Int32) (h0 : Heap) (n0 : Nat) (v : Option Value) (h : Heap) (L : List Loc) : Prop := v = some (.int cnt) ∧ Fr n0 L ∧ h = h0
set_option maxRecDepth 65536 in
set_option maxHeartbeats 40000000 in
theorem rm15 (l : Launch) (Z : State) (a0 : Array Value) (hw : ∀ d ∈ tables_1, d.before a0 Z = true) (ws : List Jvm.Cond) (a : Addr) (cnt : Int32) (h0 : Heap) (n0 : Nat) (Z0 : n0 ≤ h0.size) (P0 : Fld Z h0 a "java/lang/AbstractStringBuilder" "count" "I" (.int cnt)) :
    MetFree l (⟨"java/lang/AbstractStringBuilder", "length", "()I"⟩ : MethodName) (head1 (Jvm.Cond.code (⟨"java/lang/AbstractStringBuilder", "length", "()I"⟩ : MethodName) jdk_68_method_6_code 1 (some .int) :: ws) ({ frames := 0, cells := 0, slots := 0, locals := 0 } : Room)) (fun aa U => aa = #[(.ref a)] ∧ Z.Warmed39 U.vm ∧ U.heap = h0) (fun _ _ _ _ _ => True) (fun _ U o U' => ∃ v L, o = .returned v ∧ Q15 Z a cnt h0 n0 v U'.heap L ∧ FrameEnd U o U' L ({ frames := 0, cells := 0, slots := 0, locals := 0 } : Room).cells ({ frames := 0, cells := 0, slots := 0, locals := 0 } : Room).slots) := by
  refine MetFree.of_bodySF (plainFor_of_name pn_rm15) hisR ?_
  intro p e s m args below meth c s₁ Bd hml0 hP hK
  obtain ⟨rfl, hZ, hh⟩ := hP
  have hx := Bd.exec
  have hby := Bd.bytes
  have hml : c.maxLocals = 1 := hml0
  have hown : s.vm.findClass "java/lang/AbstractStringBuilder" = some m.cls := findClass_of_methodNamed Bd.named
  have hnm := (name_of_methodNamed Bd.named Bd.method).1
  have X0 : Stand p l e ({ frames := 0, cells := 0, slots := 0, locals := 0 } : Room) s m #[(.ref a)] below meth c s₁ [] 0 0 := Stand.of_body Bd
  have e0 : s₁.heap = h0 := by rw [← hh, Bd.state]; rfl
  have N0 := Fr.nil n0
  change OE p.tables e below _ _
  refine OE.v (fun t k => castTop (ef_rm15 m a) k) ?_
  show OE _ _ _ _ (s₁.setTop (mkF m 0 #[rv a] []))
  refine OE.v (fun t k => XS.aloadN X0.here hx rfl (hb hby d15_0) rfl rfl k) ?_
  show OE _ _ _ _ (s₁.setTop (mkF m 1 #[rv a] [(.ref a)]))
  obtain ⟨T1, X1, e1, st1⟩ := getF X0 hx hZ hown (host := "") (Or.inl (hw _ (own_w 36 rfl))) Via.refl e0 P0 (g := (mkF m 1 #[rv a] [(.ref a)])) rfl rfl (hb hby d15_1)
  refine OE.v st1 ?_
  show OE _ _ _ _ (T1.setTop (mkF m 4 #[rv a] [(.int cnt)]))
  obtain ⟨fs, hr, hrun, hended, hW, hsame⟩ := X1.leave (v := some (.int cnt)) (fun h => by rw [Bd.returns] at h; cases h)
  refine ⟨_, _, ?_, hrun, hended, _, _, rfl, ?_, ⟨_, rfl⟩, hW, hsame.mono (by decide) (by decide)⟩
  · exact retI X1 hx Bd.returns (hb hby d15_4) hr
  · show Q15 Z a cnt h0 n0 _ T1.heap _
    rw [e1]
    exact ⟨rfl, N0, rfl⟩

theorem d14_0 : decode jdk_67_method_93_code 0 = .ok (.aload_n 0, 1) := by decide +kernel
theorem d14_1 : decode jdk_67_method_93_code 1 = .ok (.invokespecial 343, 3) := by decide +kernel
theorem d14_4 : decode jdk_67_method_93_code 4 = .ok (.ireturn, 1) := by decide +kernel
theorem pn_rm14 : plainName "java/lang/StringBuilder" = true := by first | (simp [plainName, overriddenIn]; done) | decide +kernel
theorem pd_4 : parseMethodDescriptor "()I" = some ⟨[], some .int⟩ := by decide +kernel
theorem ef_rm14 (m : MethodId) (a : Addr) : entryFrame m #[(.ref a)] 1 = mkF m 0 #[rv a] [] := by first | (simp [entryFrame, mkF, argsToLocals, Value.category]; done) | rfl
def Q14 (Z : State) (a : Addr) (cnt : Int32) (h0 : Heap) (n0 : Nat) (v : Option Value) (h : Heap) (L : List Loc) : Prop := v = some (.int cnt) ∧ Fr n0 L ∧ h = h0
set_option maxRecDepth 65536 in
set_option maxHeartbeats 40000000 in
theorem rm14 (l : Launch) (Z : State) (a0 : Array Value) (hw : ∀ d ∈ tables_1, d.before a0 Z = true) (ws : List Jvm.Cond) (a : Addr) (cnt : Int32) (h0 : Heap) (n0 : Nat) (Z0 : n0 ≤ h0.size) (P0 : Exa Z h0 a "java/lang/StringBuilder") (P1 : Fld Z h0 a "java/lang/AbstractStringBuilder" "count" "I" (.int cnt)) :
    MetFree l (⟨"java/lang/StringBuilder", "length", "()I"⟩ : MethodName) (head1 (Jvm.Cond.code (⟨"java/lang/StringBuilder", "length", "()I"⟩ : MethodName) jdk_67_method_93_code 1 (some .int) :: ws) ({ frames := 1, cells := 0, slots := 0, locals := 12 } : Room)) (fun aa U => aa = #[(.ref a)] ∧ Z.Warmed39 U.vm ∧ U.heap = h0) (fun _ _ _ _ _ => True) (fun _ U o U' => ∃ v L, o = .returned v ∧ Q14 Z a cnt h0 n0 v U'.heap L ∧ FrameEnd U o U' L ({ frames := 1, cells := 0, slots := 0, locals := 12 } : Room).cells ({ frames := 1, cells := 0, slots := 0, locals := 12 } : Room).slots) := by
  refine MetFree.of_bodySF (plainFor_of_name pn_rm14) hisR ?_
  intro p e s m args below meth c s₁ Bd hml0 hP hK
  obtain ⟨rfl, hZ, hh⟩ := hP
  have hx := Bd.exec
  have hby := Bd.bytes
  have hml : c.maxLocals = 1 := hml0
  have hown : s.vm.findClass "java/lang/StringBuilder" = some m.cls := findClass_of_methodNamed Bd.named
  have hnm := (name_of_methodNamed Bd.named Bd.method).1
  have X0 : Stand p l e ({ frames := 1, cells := 0, slots := 0, locals := 12 } : Room) s m #[(.ref a)] below meth c s₁ [] 0 0 := Stand.of_body Bd
  have e0 : s₁.heap = h0 := by rw [← hh, Bd.state]; rfl
  have N0 := Fr.nil n0
  change OE p.tables e below _ _
  refine OE.v (fun t k => castTop (ef_rm14 m a) k) ?_
  show OE _ _ _ _ (s₁.setTop (mkF m 0 #[rv a] []))
  refine OE.v (fun t k => XS.aloadN X0.here hx rfl (hb hby d14_0) rfl rfl k) ?_
  show OE _ _ _ _ (s₁.setTop (mkF m 1 #[rv a] [(.ref a)]))
  obtain ⟨_, _, ⟨T1, L1, k1, n1⟩, -, X1, ⟨Lc1, hQ1, l1, y1, z1⟩, st1⟩ := superBack X0 hx hZ (y := (⟨"java/lang/AbstractStringBuilder", "length", "()I"⟩ : MethodName)) hown (hw _ (own_w 80 rfl)) (own_same (⟨"java/lang/AbstractStringBuilder", "length", "()I"⟩ : MethodName) (⟨"java/lang/AbstractStringBuilder", "isLatin1", "()Z"⟩ : MethodName) (by decide) rfl (hw _ (own_w 75 rfl)) (hw _ (own_w 44 rfl)) (hw _ (own_w 46 rfl))) (hw _ (own_w 76 rfl)) (hw _ (own_w 33 rfl)) (by decide) (backOf (W := 0) (rm15 l Z a0 hw [] a cnt h0 n0 Z0 P1) hZ (hw _ (own_w 81 rfl)) (hw _ (own_w 15 rfl)) (by decide) (by decide)) e0 (Ins.self P0) (g := (mkF m 1 #[rv a] [(.ref a)])) rfl (by rw [hml]; rfl) (hw _ (own_w 81 rfl)) (argsL := []) (rest := []) (lenOf pd_4 rfl) rfl (Nat.le_of_eq rfl) (hb hby d14_1) (fun _ _ => ⟨rfl, e0, (by decide : 0 + 0 ≤ _), (by decide : 0 + 0 ≤ _)⟩)
  dsimp only [Pt.U, Pt.locs, Pt.cells, Pt.slots] at X1 l1 y1 z1 st1 hQ1
  subst l1 y1 z1
  obtain ⟨rfl, Nq1, e1⟩ := hQ1
  have N1 := Fr.app N0 Nq1
  refine OE.v (fun t k => st1.trans k) ?_
  show OE _ _ _ _ (T1.setTop (mkF m 4 #[rv a] [(.int cnt)]))
  obtain ⟨fs, hr, hrun, hended, hW, hsame⟩ := X1.leave (v := some (.int cnt)) (fun h => by rw [Bd.returns] at h; cases h)
  refine ⟨_, _, ?_, hrun, hended, _, _, rfl, ?_, ⟨_, rfl⟩, hW, hsame.mono (by decide) (by decide)⟩
  · exact retI X1 hx Bd.returns (hb hby d14_4) hr
  · show Q14 Z a cnt h0 n0 _ T1.heap _
    rw [e1]
    exact ⟨rfl, N1, rfl⟩

def own_min (x y : Int32) : Int32 := if y < x then y else x
def own_like (us vs : List Value) (n : Nat) : Prop := ∀ i, i < n → us.getD i (.int 0) = vs.getD i (.int 0)
theorem own_nn {cnt cap : Int32} (h : 0 ≤ cnt.toInt ∧ cnt.toInt ≤ cap.toInt ∧ cap.toInt ≤ 9) : ¬ cnt < 0 := by
  rw [Int32.lt_iff_toInt_lt]
  have z : (0 : Int32).toInt = 0 := by decide
  omega
theorem own_le {cnt cap : Int32} (h : 0 ≤ cnt.toInt ∧ cnt.toInt ≤ cap.toInt ∧ cap.toInt ≤ 9) : cnt.toNatClampNeg ≤ 9 := by
  have e := nat_of (own_nn h)
  omega
theorem own_ck {cnt cap : Int32} (h : 0 ≤ cnt.toInt ∧ cnt.toInt ≤ cap.toInt ∧ cap.toInt ≤ 9) : ¬ cnt < (0 : Int32) := own_nn h
theorem own_h4 {cnt cap : Int32} (h : 0 ≤ cnt.toInt ∧ cnt.toInt ≤ cap.toInt ∧ cap.toInt ≤ 9) : (0 : Int32).toNatClampNeg + cnt.toNatClampNeg ≤ cap.toNatClampNeg := by
  have e := nat_of (own_nn h)
  have n : ¬ cap < 0 := by
    rw [Int32.lt_iff_toInt_lt]
    have z : (0 : Int32).toInt = 0 := by decide
    omega
  have e2 := nat_of n
  have e3 : (0 : Int32).toNatClampNeg = 0 := by decide
  omega
theorem own_mn {cnt cap : Int32} (h : 0 ≤ cnt.toInt ∧ cnt.toInt ≤ cap.toInt ∧ cap.toInt ≤ 9) : own_min cap cnt = cnt := by
  unfold own_min
  by_cases q : cnt < cap
  · rw [if_pos q]
  · rw [if_neg q, ← Int32.toInt_inj]
    rw [Int32.lt_iff_toInt_lt] at q
    omega
theorem own_cp {vs vd : List Value} {d : Value} {n i : Nat} (hi : i < n) : (vd.take (0 : Int32).toNatClampNeg ++ ((List.range n).map fun i => vs.getD ((0 : Int32).toNatClampNeg + i) d) ++ vd.drop ((0 : Int32).toNatClampNeg + n)).getD i d = vs.getD i d := by
  have e3 : (0 : Int32).toNatClampNeg = 0 := by decide
  rw [e3]
  simp [List.getD, List.getElem?_append, hi]

theorem d28_0 : decode jdk_65_method_131_code 0 = .ok (.iload_n 1, 1) := by decide +kernel
theorem d28_1 : decode jdk_65_method_131_code 1 = .ok (.iload_n 0, 1) := by decide +kernel
theorem d28_2 : decode jdk_65_method_131_code 2 = .ok (.if_icmp .ge 35, 3) := by decide +kernel
theorem d28_37 : decode jdk_65_method_131_code 37 = .ok (.return_, 1) := by decide +kernel
theorem pn_rm28 : plainName "java/util/Arrays" = true := by first | (simp [plainName, overriddenIn]; done) | decide +kernel
theorem ef_rm28 (m : MethodId) (to : Int32) : entryFrame m #[(.int 0), (.int to)] 2 = mkF m 0 #[iv 0, iv to] [] := by first | (simp [entryFrame, mkF, argsToLocals, Value.category]; done) | rfl
def Q28 (Z : State) (to : Int32) (h0 : Heap) (n0 : Nat) (v : Option Value) (h : Heap) (L : List Loc) : Prop := v = none ∧ Fr n0 L ∧ h = h0
set_option maxRecDepth 65536 in
set_option maxHeartbeats 40000000 in
theorem rm28 (l : Launch) (Z : State) (a0 : Array Value) (hw : ∀ d ∈ tables_1, d.before a0 Z = true) (ws : List Jvm.Cond) (to : Int32) (h0 : Heap) (n0 : Nat) (Z0 : n0 ≤ h0.size) (P0 : ¬ to < (0 : Int32)) :
    MetFree l (⟨"java/util/Arrays", "checkLength", "(II)V"⟩ : MethodName) (head1 (Jvm.Cond.code (⟨"java/util/Arrays", "checkLength", "(II)V"⟩ : MethodName) jdk_65_method_131_code 2 none :: ws) ({ frames := 0, cells := 0, slots := 0, locals := 0 } : Room)) (fun aa U => aa = #[(.int 0), (.int to)] ∧ Z.Warmed39 U.vm ∧ U.heap = h0) (fun _ _ _ _ _ => True) (fun _ U o U' => ∃ v L, o = .returned v ∧ Q28 Z to h0 n0 v U'.heap L ∧ FrameEnd U o U' L ({ frames := 0, cells := 0, slots := 0, locals := 0 } : Room).cells ({ frames := 0, cells := 0, slots := 0, locals := 0 } : Room).slots) := by
  refine MetFree.of_bodySF (plainFor_of_name pn_rm28) hisR ?_
  intro p e s m args below meth c s₁ Bd hml0 hP hK
  obtain ⟨rfl, hZ, hh⟩ := hP
  have hx := Bd.exec
  have hby := Bd.bytes
  have hml : c.maxLocals = 2 := hml0
  have hown : s.vm.findClass "java/util/Arrays" = some m.cls := findClass_of_methodNamed Bd.named
  have hnm := (name_of_methodNamed Bd.named Bd.method).1
  have X0 : Stand p l e ({ frames := 0, cells := 0, slots := 0, locals := 0 } : Room) s m #[(.int 0), (.int to)] below meth c s₁ [] 0 0 := Stand.of_body Bd
  have e0 : s₁.heap = h0 := by rw [← hh, Bd.state]; rfl
  have N0 := Fr.nil n0
  change OE p.tables e below _ _
  refine OE.v (fun t k => castTop (ef_rm28 m to) k) ?_
  show OE _ _ _ _ (s₁.setTop (mkF m 0 #[iv 0, iv to] []))
  refine OE.v (fun t k => XS.iloadN X0.here hx rfl (hb hby d28_0) rfl k) ?_
  refine OE.v (fun t k => XS.iloadN X0.here hx rfl (hb hby d28_1) rfl k) ?_
  show OE _ _ _ _ (s₁.setTop (mkF m 2 #[iv 0, iv to] [(.int 0), (.int to)]))
  refine OE.v (fun t k => XS.icmpYes X0.here hx rfl (pc0 := 2) (pc' := 37) rfl (hb hby d28_2) rfl (flt P0).2.1 (by decide) (by decide) k) ?_
  show OE _ _ _ _ (s₁.setTop (mkF m 37 #[iv 0, iv to] []))
  obtain ⟨fs, hr, hrun, hended, hW, hsame⟩ := X0.leave (v := none) (fun _ => rfl)
  refine ⟨_, _, ?_, hrun, hended, _, _, rfl, ?_, ⟨_, rfl⟩, hW, hsame.mono (by decide) (by decide)⟩
  · exact X0.returnOut hx Bd.returns (hb hby d28_37) hr
  · show Q28 Z to h0 n0 _ s₁.heap _
    rw [e0]
    exact ⟨rfl, N0, rfl⟩

theorem d29_0 : decode jdk_29_method_69_code 0 = .ok (.iload_n 0, 1) := by decide +kernel
theorem d29_1 : decode jdk_29_method_69_code 1 = .ok (.iload_n 1, 1) := by decide +kernel
theorem d29_2 : decode jdk_29_method_69_code 2 = .ok (.if_icmp .gt 7, 3) := by decide +kernel
theorem d29_5 : decode jdk_29_method_69_code 5 = .ok (.iload_n 0, 1) := by decide +kernel
theorem d29_6 : decode jdk_29_method_69_code 6 = .ok (.goto 4, 3) := by decide +kernel
theorem d29_9 : decode jdk_29_method_69_code 9 = .ok (.iload_n 1, 1) := by decide +kernel
theorem d29_10 : decode jdk_29_method_69_code 10 = .ok (.ireturn, 1) := by decide +kernel
theorem pn_rm29 : plainFor (⟨"java/lang/Math", "min", "(II)I"⟩ : MethodName) = true := Jvm.Free.JP.mathPlain rfl (by decide +kernel)
theorem ef_rm29 (m : MethodId) (ix : Int32) (iy : Int32) : entryFrame m #[(.int ix), (.int iy)] 2 = mkF m 0 #[iv ix, iv iy] [] := by first | (simp [entryFrame, mkF, argsToLocals, Value.category]; done) | rfl
def Q29 (Z : State) (ix : Int32) (iy : Int32) (h0 : Heap) (n0 : Nat) (v : Option Value) (h : Heap) (L : List Loc) : Prop := v = some (.int (own_min ix iy)) ∧ Fr n0 L ∧ h = h0
set_option maxRecDepth 65536 in
set_option maxHeartbeats 40000000 in
theorem rm29 (l : Launch) (Z : State) (a0 : Array Value) (hw : ∀ d ∈ tables_1, d.before a0 Z = true) (ws : List Jvm.Cond) (ix : Int32) (iy : Int32) (h0 : Heap) (n0 : Nat) (Z0 : n0 ≤ h0.size)  :
    MetFree l (⟨"java/lang/Math", "min", "(II)I"⟩ : MethodName) (head1 (Jvm.Cond.code (⟨"java/lang/Math", "min", "(II)I"⟩ : MethodName) jdk_29_method_69_code 2 (some .int) :: ws) ({ frames := 0, cells := 0, slots := 0, locals := 0 } : Room)) (fun aa U => aa = #[(.int ix), (.int iy)] ∧ Z.Warmed39 U.vm ∧ U.heap = h0) (fun _ _ _ _ _ => True) (fun _ U o U' => ∃ v L, o = .returned v ∧ Q29 Z ix iy h0 n0 v U'.heap L ∧ FrameEnd U o U' L ({ frames := 0, cells := 0, slots := 0, locals := 0 } : Room).cells ({ frames := 0, cells := 0, slots := 0, locals := 0 } : Room).slots) := by
  refine MetFree.of_bodySF pn_rm29 hisR ?_
  intro p e s m args below meth c s₁ Bd hml0 hP hK
  obtain ⟨rfl, hZ, hh⟩ := hP
  have hx := Bd.exec
  have hby := Bd.bytes
  have hml : c.maxLocals = 2 := hml0
  have hown : s.vm.findClass "java/lang/Math" = some m.cls := findClass_of_methodNamed Bd.named
  have hnm := (name_of_methodNamed Bd.named Bd.method).1
  have X0 : Stand p l e ({ frames := 0, cells := 0, slots := 0, locals := 0 } : Room) s m #[(.int ix), (.int iy)] below meth c s₁ [] 0 0 := Stand.of_body Bd
  have e0 : s₁.heap = h0 := by rw [← hh, Bd.state]; rfl
  have N0 := Fr.nil n0
  change OE p.tables e below _ _
  refine OE.v (fun t k => castTop (ef_rm29 m ix iy) k) ?_
  show OE _ _ _ _ (s₁.setTop (mkF m 0 #[iv ix, iv iy] []))
  refine OE.v (fun t k => XS.iloadN X0.here hx rfl (hb hby d29_0) rfl k) ?_
  refine OE.v (fun t k => XS.iloadN X0.here hx rfl (hb hby d29_1) rfl k) ?_
  show OE _ _ _ _ (s₁.setTop (mkF m 2 #[iv ix, iv iy] [(.int iy), (.int ix)]))
  by_cases hc2_1 : iy < ix
  ·
    refine OE.v (fun t k => XS.icmpYes X0.here hx rfl (pc0 := 2) (pc' := 9) rfl (hb hby d29_2) rfl (tlt hc2_1).2.2.1 (by decide) (by decide) k) ?_
    show OE _ _ _ _ (s₁.setTop (mkF m 9 #[iv ix, iv iy] []))
    refine OE.v (fun t k => XS.iloadN X0.here hx rfl (hb hby d29_9) rfl k) ?_
    show OE _ _ _ _ (s₁.setTop (mkF m 10 #[iv ix, iv iy] [(.int iy)]))
    obtain ⟨fs, hr, hrun, hended, hW, hsame⟩ := X0.leave (v := some (.int iy)) (fun h => by rw [Bd.returns] at h; cases h)
    refine ⟨_, _, ?_, hrun, hended, _, _, rfl, ?_, ⟨_, rfl⟩, hW, hsame.mono (by decide) (by decide)⟩
    · exact retI X0 hx Bd.returns (hb hby d29_10) hr
    · show Q29 Z ix iy h0 n0 _ s₁.heap _
      rw [e0]
      exact ⟨(by rw [own_min, if_pos hc2_1]), N0, rfl⟩
  ·
    refine OE.v (fun t k => XS.icmpNo X0.here hx rfl (hb hby d29_2) rfl (flt hc2_1).2.2.1 k) ?_
    show OE _ _ _ _ (s₁.setTop (mkF m 5 #[iv ix, iv iy] []))
    refine OE.v (fun t k => XS.iloadN X0.here hx rfl (hb hby d29_5) rfl k) ?_
    refine OE.v (fun t k => XS.goto X0.here hx rfl (pc0 := 6) (pc' := 10) rfl (hb hby d29_6) (by decide) (by decide) k) ?_
    show OE _ _ _ _ (s₁.setTop (mkF m 10 #[iv ix, iv iy] [(.int ix)]))
    obtain ⟨fs, hr, hrun, hended, hW, hsame⟩ := X0.leave (v := some (.int ix)) (fun h => by rw [Bd.returns] at h; cases h)
    refine ⟨_, _, ?_, hrun, hended, _, _, rfl, ?_, ⟨_, rfl⟩, hW, hsame.mono (by decide) (by decide)⟩
    · exact retI X0 hx Bd.returns (hb hby d29_10) hr
    · show Q29 Z ix iy h0 n0 _ s₁.heap _
      rw [e0]
      exact ⟨(by rw [own_min, if_neg hc2_1]), N0, rfl⟩

theorem d27_0 : decode jdk_65_method_133_code 0 = .ok (.iload_n 1, 1) := by decide +kernel
theorem d27_1 : decode jdk_65_method_133_code 1 = .ok (.iload_n 2, 1) := by decide +kernel
theorem d27_2 : decode jdk_65_method_133_code 2 = .ok (.invokestatic 343, 3) := by decide +kernel
theorem d27_5 : decode jdk_65_method_133_code 5 = .ok (.iload_n 2, 1) := by decide +kernel
theorem d27_6 : decode jdk_65_method_133_code 6 = .ok (.iload_n 1, 1) := by decide +kernel
theorem d27_7 : decode jdk_65_method_133_code 7 = .ok (.isub, 1) := by decide +kernel
theorem d27_8 : decode jdk_65_method_133_code 8 = .ok (.istore_n 3, 1) := by decide +kernel
theorem d27_9 : decode jdk_65_method_133_code 9 = .ok (.iload_n 3, 1) := by decide +kernel
theorem d27_10 : decode jdk_65_method_133_code 10 = .ok (.newarray .byte, 2) := by decide +kernel
theorem d27_12 : decode jdk_65_method_133_code 12 = .ok (.astore 4, 2) := by decide +kernel
theorem d27_14 : decode jdk_65_method_133_code 14 = .ok (.aload_n 0, 1) := by decide +kernel
theorem d27_15 : decode jdk_65_method_133_code 15 = .ok (.iload_n 1, 1) := by decide +kernel
theorem d27_16 : decode jdk_65_method_133_code 16 = .ok (.aload 4, 2) := by decide +kernel
theorem d27_18 : decode jdk_65_method_133_code 18 = .ok (.iconst 0, 1) := by decide +kernel
theorem d27_19 : decode jdk_65_method_133_code 19 = .ok (.aload_n 0, 1) := by decide +kernel
theorem d27_20 : decode jdk_65_method_133_code 20 = .ok (.arraylength, 1) := by decide +kernel
theorem d27_21 : decode jdk_65_method_133_code 21 = .ok (.iload_n 1, 1) := by decide +kernel
theorem d27_22 : decode jdk_65_method_133_code 22 = .ok (.isub, 1) := by decide +kernel
theorem d27_23 : decode jdk_65_method_133_code 23 = .ok (.iload_n 3, 1) := by decide +kernel
theorem d27_24 : decode jdk_65_method_133_code 24 = .ok (.invokestatic 304, 3) := by decide +kernel
theorem d27_27 : decode jdk_65_method_133_code 27 = .ok (.invokestatic 150, 3) := by decide +kernel
theorem d27_30 : decode jdk_65_method_133_code 30 = .ok (.aload 4, 2) := by decide +kernel
theorem d27_32 : decode jdk_65_method_133_code 32 = .ok (.areturn, 1) := by decide +kernel
theorem pn_rm27 : plainName "java/util/Arrays" = true := by first | (simp [plainName, overriddenIn]; done) | decide +kernel
theorem pd_5 : parseMethodDescriptor "(II)V" = some ⟨[.int, .int], none⟩ := by decide +kernel
theorem pd_6 : parseMethodDescriptor "(II)I" = some ⟨[.int, .int], some .int⟩ := by decide +kernel
theorem ef_rm27 (m : MethodId) (dd : Addr) (cnt : Int32) : entryFrame m #[(.ref dd), (.int 0), (.int cnt)] 5 = mkF m 0 #[rv dd, iv 0, iv cnt, .unset, .unset] [] := by first | (simp [entryFrame, mkF, argsToLocals, Value.category]; done) | rfl
def Q27 (Z : State) (dd : Addr) (cnt : Int32) (cap : Int32) (kd : ClassId) (vs : List Value) (h0 : Heap) (n0 : Nat) (v : Option Value) (h : Heap) (L : List Loc) : Prop := ∃ b : Addr, ∃ kb : ClassId, ∃ us : List Value, v = some (.ref b) ∧ Fr n0 L ∧ Keep h0 h [] ∧ h0.size ≤ b ∧ Arv Z h b kb .byte cnt us (.int 0) ∧ own_like us vs cnt.toNatClampNeg
set_option maxRecDepth 65536 in
set_option maxHeartbeats 40000000 in
theorem rm27 (l : Launch) (Z : State) (a0 : Array Value) (hw : ∀ d ∈ tables_1, d.before a0 Z = true) (ws : List Jvm.Cond) (dd : Addr) (cnt : Int32) (cap : Int32) (kd : ClassId) (vs : List Value) (h0 : Heap) (n0 : Nat) (Z0 : n0 ≤ h0.size) (P0 : Arv Z h0 dd kd .byte cap vs (.int 0)) (P1 : 0 ≤ cnt.toInt ∧ cnt.toInt ≤ cap.toInt ∧ cap.toInt ≤ 9) :
    MetFree l (⟨"java/util/Arrays", "copyOfRangeByte", "([BII)[B"⟩ : MethodName) (head1 (Jvm.Cond.code (⟨"java/util/Arrays", "copyOfRangeByte", "([BII)[B"⟩ : MethodName) jdk_65_method_133_code 5 (some (.array .byte)) :: ws) ({ frames := 1, cells := 1, slots := 9, locals := 18 } : Room)) (fun aa U => aa = #[(.ref dd), (.int 0), (.int cnt)] ∧ Z.Warmed39 U.vm ∧ U.heap = h0) (fun _ _ _ _ _ => True) (fun _ U o U' => ∃ v L, o = .returned v ∧ Q27 Z dd cnt cap kd vs h0 n0 v U'.heap L ∧ FrameEnd U o U' L ({ frames := 1, cells := 1, slots := 9, locals := 18 } : Room).cells ({ frames := 1, cells := 1, slots := 9, locals := 18 } : Room).slots) := by
  refine MetFree.of_bodySF (plainFor_of_name pn_rm27) hisR ?_
  intro p e s m args below meth c s₁ Bd hml0 hP hK
  obtain ⟨rfl, hZ, hh⟩ := hP
  have hx := Bd.exec
  have hby := Bd.bytes
  have hml : c.maxLocals = 5 := hml0
  have hown : s.vm.findClass "java/util/Arrays" = some m.cls := findClass_of_methodNamed Bd.named
  have hnm := (name_of_methodNamed Bd.named Bd.method).1
  have X0 : Stand p l e ({ frames := 1, cells := 1, slots := 9, locals := 18 } : Room) s m #[(.ref dd), (.int 0), (.int cnt)] below meth c s₁ [] 0 0 := Stand.of_body Bd
  have e0 : s₁.heap = h0 := by rw [← hh, Bd.state]; rfl
  have N0 := Fr.nil n0
  change OE p.tables e below _ _
  refine OE.v (fun t k => castTop (ef_rm27 m dd cnt) k) ?_
  show OE _ _ _ _ (s₁.setTop (mkF m 0 #[rv dd, iv 0, iv cnt, .unset, .unset] []))
  refine OE.v (fun t k => XS.iloadN X0.here hx rfl (hb hby d27_0) rfl k) ?_
  refine OE.v (fun t k => XS.iloadN X0.here hx rfl (hb hby d27_1) rfl k) ?_
  show OE _ _ _ _ (s₁.setTop (mkF m 2 #[rv dd, iv 0, iv cnt, .unset, .unset] [(.int cnt), (.int 0)]))
  obtain ⟨_, _, ⟨T1, L1, k1, n1⟩, -, X1, ⟨Lc1, hQ1, l1, y1, z1⟩, st1⟩ := Jvm.LawKit.callS X0 hx (y := (⟨"java/util/Arrays", "checkLength", "(II)V"⟩ : MethodName)) hown (mvT hZ (hw _ (own_w 145 rfl))) (mvT hZ (hw _ (own_w 146 rfl))) (mvT hZ (hw _ (own_w 87 rfl))) (mvT hZ (hw _ (own_w 147 rfl))) (by decide) (backOf (W := 0) (rm28 l Z a0 hw [] cnt h0 n0 Z0 (own_ck P1)) hZ (hw _ (own_w 147 rfl)) (hw _ (own_w 87 rfl)) (by decide) (by decide)) (g := (mkF m 2 #[rv dd, iv 0, iv cnt, .unset, .unset] [(.int cnt), (.int 0)])) rfl (by rw [hml]; rfl) (argsL := [(.int 0), (.int cnt)]) (rest := []) (lenOf pd_5 rfl) rfl (Nat.le_of_eq rfl) (hb hby d27_2) (fun _ _ => ⟨rfl, e0, (by decide : 0 + 0 ≤ _), (by decide : 0 + 0 ≤ _)⟩)
  dsimp only [Pt.U, Pt.locs, Pt.cells, Pt.slots] at X1 l1 y1 z1 st1 hQ1
  subst l1 y1 z1
  obtain ⟨rfl, Nq1, e1⟩ := hQ1
  have N1 := Fr.app N0 Nq1
  refine OE.v st1 ?_
  show OE _ _ _ _ (T1.setTop (mkF m 5 #[rv dd, iv 0, iv cnt, .unset, .unset] []))
  refine OE.v (fun t k => XS.iloadN X1.here hx rfl (hb hby d27_5) rfl k) ?_
  refine OE.v (fun t k => XS.iloadN X1.here hx rfl (hb hby d27_6) rfl k) ?_
  refine OE.v (fun t k => XS.isub X1.here hx rfl (hb hby d27_7) rfl k) ?_
  show OE _ _ _ _ (T1.setTop (mkF m 8 #[rv dd, iv 0, iv cnt, .unset, .unset] [(.int (cnt - (0 : Int32)))]))
  rw [own_sub0 cnt]
  refine OE.v (fun t k => XS.istoreN X1.here hx rfl (hb hby d27_8) rfl (l' := #[rv dd, iv 0, iv cnt, iv cnt, .unset]) rfl k) ?_
  refine OE.v (fun t k => XS.iloadN X1.here hx rfl (hb hby d27_9) rfl k) ?_
  show OE _ _ _ _ (T1.setTop (mkF m 10 #[rv dd, iv 0, iv cnt, iv cnt, .unset] [(.int cnt)]))
  obtain ⟨T2, h2, k2, X2, e2, E2, A2, st2⟩ := newP X1 hx hZ (hw _ (own_w 0 rfl)) e1 (g := (mkF m 10 #[rv dd, iv 0, iv cnt, iv cnt, .unset] [(.int cnt)])) rfl (hb hby d27_10) rfl (own_nn P1) (cap := 9) (own_le P1) (by decide) (by decide) (by decide)
  obtain ⟨b2, g2⟩ : ∃ z, z = h0.size := ⟨_, rfl⟩
  have ne_dd_b2 : dd ≠ b2 := Nat.ne_of_lt (Nat.lt_of_lt_of_le P0.lt (Nat.le_of_eq g2.symm))
  have ge_b2 : n0 ≤ b2 := Nat.le_trans Z0 (Nat.le_of_eq g2.symm)
  have sz_b2 : h0.size ≤ b2 := Nat.le_trans (Keep.refl h0 []).1 (Nat.le_of_eq g2.symm)
  have Z2 : n0 ≤ h2.size := Nat.le_trans Z0 E2.1
  have K2 : Keep h0 h2 [] := (Keep.refl h0 []).ext E2
  rw [← g2] at A2 st2
  have V2 : Arv Z h2 b2 k2 .byte cnt (List.replicate 9 (.int 0)) (.int 0) := (Arv.new A2 (own_nn P1)).pad (pad_rep [] (.int 0) 9)
  refine OE.v st2 ?_
  show OE _ _ _ _ (T2.setTop (mkF m 12 #[rv dd, iv 0, iv cnt, iv cnt, .unset] [(.ref b2)]))
  refine OE.v (fun t k => XS.astore X2.here hx rfl (hb hby d27_12) rfl rfl (l' := #[rv dd, iv 0, iv cnt, iv cnt, rv b2]) rfl k) ?_
  refine OE.v (fun t k => XS.aloadN X2.here hx rfl (hb hby d27_14) rfl rfl k) ?_
  refine OE.v (fun t k => XS.iloadN X2.here hx rfl (hb hby d27_15) rfl k) ?_
  refine OE.v (fun t k => XS.aload X2.here hx rfl (hb hby d27_16) rfl rfl k) ?_
  refine OE.v (fun t k => XS.iconst X2.here hx rfl (hb hby d27_18) k) ?_
  refine OE.v (fun t k => XS.aloadN X2.here hx rfl (hb hby d27_19) rfl rfl k) ?_
  show OE _ _ _ _ (T2.setTop (mkF m 20 #[rv dd, iv 0, iv cnt, iv cnt, rv b2] [(.ref dd), (.int 0), (.ref b2), (.int 0), (.ref dd)]))
  obtain ⟨cl3, Ar3, q3, S3, M3, H3, G3⟩ := id (P0.ext E2)
  refine OE.v (X2.arraylength hx (by rw [e2]; exact Ar3.1) (State.isArrayOf_alike hZ.alike Ar3.2.1) (g := (mkF m 20 #[rv dd, iv 0, iv cnt, iv cnt, rv b2] [(.ref dd), (.int 0), (.ref b2), (.int 0), (.ref dd)])) rfl rfl (hb hby d27_20)) ?_
  rw [len_of S3 M3]
  show OE _ _ _ _ (T2.setTop (mkF m 21 #[rv dd, iv 0, iv cnt, iv cnt, rv b2] [(.int cap), (.int 0), (.ref b2), (.int 0), (.ref dd)]))
  refine OE.v (fun t k => XS.iloadN X2.here hx rfl (hb hby d27_21) rfl k) ?_
  refine OE.v (fun t k => XS.isub X2.here hx rfl (hb hby d27_22) rfl k) ?_
  show OE _ _ _ _ (T2.setTop (mkF m 23 #[rv dd, iv 0, iv cnt, iv cnt, rv b2] [(.int (cap - (0 : Int32))), (.int 0), (.ref b2), (.int 0), (.ref dd)]))
  rw [own_sub0 cap]
  refine OE.v (fun t k => XS.iloadN X2.here hx rfl (hb hby d27_23) rfl k) ?_
  show OE _ _ _ _ (T2.setTop (mkF m 24 #[rv dd, iv 0, iv cnt, iv cnt, rv b2] [(.int cnt), (.int cap), (.int 0), (.ref b2), (.int 0), (.ref dd)]))
  obtain ⟨_, _, ⟨T4, L4, k4, n4⟩, -, X4, ⟨Lc4, hQ4, l4, y4, z4⟩, st4⟩ := Jvm.LawKit.callS X2 hx (y := (⟨"java/lang/Math", "min", "(II)I"⟩ : MethodName)) hown (mvT hZ (hw _ (own_w 148 rfl))) (mvT hZ (hw _ (own_w 149 rfl))) (mvT hZ (hw _ (own_w 150 rfl))) (mvT hZ (hw _ (own_w 151 rfl))) (by decide) (backOf (W := 4) (rm29 l Z a0 hw [] cap cnt h2 n0 Z2 ) hZ (hw _ (own_w 151 rfl)) (hw _ (own_w 150 rfl)) (by decide) (by decide)) (g := (mkF m 24 #[rv dd, iv 0, iv cnt, iv cnt, rv b2] [(.int cnt), (.int cap), (.int 0), (.ref b2), (.int 0), (.ref dd)])) rfl (by rw [hml]; rfl) (argsL := [(.int cap), (.int cnt)]) (rest := [(.int 0), (.ref b2), (.int 0), (.ref dd)]) (lenOf pd_6 rfl) rfl (Nat.le_of_eq rfl) (hb hby d27_24) (fun _ _ => ⟨rfl, e2, (by decide : 1 + 0 ≤ _), (by decide : 9 + 0 ≤ _)⟩)
  dsimp only [Pt.U, Pt.locs, Pt.cells, Pt.slots] at X4 l4 y4 z4 st4 hQ4
  subst l4 y4 z4
  obtain ⟨rfl, Nq4, e4⟩ := hQ4
  have N4 := Fr.app N1 Nq4
  refine OE.v st4 ?_
  show OE _ _ _ _ (T4.setTop (mkF m 27 #[rv dd, iv 0, iv cnt, iv cnt, rv b2] [(.int (own_min cap cnt)), (.int 0), (.ref b2), (.int 0), (.ref dd)]))
  rw [show (own_min cap cnt) = cnt from own_mn P1]
  show OE _ _ _ _ (T4.setTop (mkF m 27 #[rv dd, iv 0, iv cnt, iv cnt, rv b2] [(.int cnt), (.int 0), (.ref b2), (.int 0), (.ref dd)]))
  obtain ⟨T5, h5, L5, X5, e5, N5, Kq5, V5, st5⟩ := cpA X4 hx hZ hown (hw _ (own_w 152 rfl)) (hw _ (own_w 155 rfl)) (hw _ (own_w 153 rfl)) (hw _ (own_w 154 rfl)) e4 (sp := (0 : Int32)) (dp := (0 : Int32)) (nn := cnt) (P0.ext E2) V2 (Or.inl ⟨rfl, rfl⟩) (by decide) (by decide) (own_nn P1) (own_h4 P1) (by show 0 + cnt.toNatClampNeg ≤ cnt.toNatClampNeg; omega) rfl (by show 0 + cnt.toNatClampNeg ≤ _; simp only [List.length_replicate]; have := own_le P1; omega) N4 ge_b2 (g := (mkF m 27 #[rv dd, iv 0, iv cnt, iv cnt, rv b2] [(.int cnt), (.int 0), (.ref b2), (.int 0), (.ref dd)])) rfl (by rw [hml]; rfl) rfl (hb hby d27_27) (by decide) (W := 0) (Nat.le_of_eq rfl) (by decide)
  have Z5 : n0 ≤ h5.size := Nat.le_trans Z2 Kq5.1
  have K5 : Keep h0 h5 [] := K2.trans Kq5 (allS (Or.inr sz_b2) all0)
  obtain ⟨us5, V5, lk5⟩ : ∃ us : List Value, Arv Z h5 b2 k2 .byte cnt us (.int 0) ∧ own_like us vs cnt.toNatClampNeg := ⟨_, V5, fun i hi => own_cp hi⟩
  refine OE.v st5 ?_
  show OE _ _ _ _ (T5.setTop (mkF m 30 #[rv dd, iv 0, iv cnt, iv cnt, rv b2] []))
  refine OE.v (fun t k => XS.aload X5.here hx rfl (hb hby d27_30) rfl rfl k) ?_
  show OE _ _ _ _ (T5.setTop (mkF m 32 #[rv dd, iv 0, iv cnt, iv cnt, rv b2] [(.ref b2)]))
  obtain ⟨fs, hr, hrun, hended, hW, hsame⟩ := X5.leave (v := some (.ref b2)) (fun h => by rw [Bd.returns] at h; cases h)
  refine ⟨_, _, ?_, hrun, hended, _, _, rfl, ?_, ⟨_, rfl⟩, hW, hsame.mono (by decide) (by decide)⟩
  · jvm_step X5.here [X5.here.top, hx, (hb hby d27_32), X5.method', Bd.returns, Value.isRef, FieldType.isReference]
    first | (intro acts; rw [hr _ acts rfl rfl rfl]) | rw [hr _ _ rfl rfl rfl]
    exact Steps.refl _
  · show Q27 Z dd cnt cap kd vs h0 n0 _ T5.heap _
    rw [e5]
    exact ⟨b2, k2, us5, rfl, N5, K5, sz_b2, V5, lk5⟩

theorem d16_0 : decode jdk_65_method_132_code 0 = .ok (.iload_n 1, 1) := by decide +kernel
theorem d16_1 : decode jdk_65_method_132_code 1 = .ok (.ifCond .ne 9, 3) := by decide +kernel
theorem d16_4 : decode jdk_65_method_132_code 4 = .ok (.iload_n 2, 1) := by decide +kernel
theorem d16_5 : decode jdk_65_method_132_code 5 = .ok (.aload_n 0, 1) := by decide +kernel
theorem d16_6 : decode jdk_65_method_132_code 6 = .ok (.arraylength, 1) := by decide +kernel
theorem d16_7 : decode jdk_65_method_132_code 7 = .ok (.if_icmp .eq 10, 3) := by decide +kernel
theorem d16_10 : decode jdk_65_method_132_code 10 = .ok (.aload_n 0, 1) := by decide +kernel
theorem d16_11 : decode jdk_65_method_132_code 11 = .ok (.iload_n 1, 1) := by decide +kernel
theorem d16_12 : decode jdk_65_method_132_code 12 = .ok (.iload_n 2, 1) := by decide +kernel
theorem d16_13 : decode jdk_65_method_132_code 13 = .ok (.invokestatic 339, 3) := by decide +kernel
theorem d16_16 : decode jdk_65_method_132_code 16 = .ok (.areturn, 1) := by decide +kernel
theorem d16_17 : decode jdk_65_method_132_code 17 = .ok (.aload_n 0, 1) := by decide +kernel
theorem d16_18 : decode jdk_65_method_132_code 18 = .ok (.invokevirtual 310, 3) := by decide +kernel
theorem d16_21 : decode jdk_65_method_132_code 21 = .ok (.checkcast 311, 3) := by decide +kernel
theorem d16_24 : decode jdk_65_method_132_code 24 = .ok (.areturn, 1) := by decide +kernel
theorem pn_rm16 : plainName "java/util/Arrays" = true := by first | (simp [plainName, overriddenIn]; done) | decide +kernel
theorem pd_7 : parseMethodDescriptor "([BII)[B" = some ⟨[(.array .byte), .int, .int], some (.array .byte)⟩ := by decide +kernel
theorem ef_rm16 (m : MethodId) (dd : Addr) (cnt : Int32) : entryFrame m #[(.ref dd), (.int 0), (.int cnt)] 3 = mkF m 0 #[rv dd, iv 0, iv cnt] [] := by first | (simp [entryFrame, mkF, argsToLocals, Value.category]; done) | rfl
def Q16 (Z : State) (dd : Addr) (cnt : Int32) (cap : Int32) (kd : ClassId) (vs : List Value) (h0 : Heap) (n0 : Nat) (v : Option Value) (h : Heap) (L : List Loc) : Prop := ∃ b : Addr, ∃ kb : ClassId, ∃ us : List Value, v = some (.ref b) ∧ Fr n0 L ∧ Keep h0 h [] ∧ h0.size ≤ b ∧ Arv Z h b kb .byte cnt us (.int 0) ∧ own_like us vs cnt.toNatClampNeg
set_option maxRecDepth 65536 in
set_option maxHeartbeats 40000000 in
theorem rm16 (l : Launch) (Z : State) (a0 : Array Value) (hw : ∀ d ∈ tables_1, d.before a0 Z = true) (ws : List Jvm.Cond) (dd : Addr) (cnt : Int32) (cap : Int32) (kd : ClassId) (vs : List Value) (h0 : Heap) (n0 : Nat) (Z0 : n0 ≤ h0.size) (P0 : Arv Z h0 dd kd .byte cap vs (.int 0)) (P1 : 0 ≤ cnt.toInt ∧ cnt.toInt ≤ cap.toInt ∧ cap.toInt ≤ 9) (P2 : Exa Z h0 dd "[B") :
    MetFree l (⟨"java/util/Arrays", "copyOfRange", "([BII)[B"⟩ : MethodName) (head1 (Jvm.Cond.code (⟨"java/util/Arrays", "copyOfRange", "([BII)[B"⟩ : MethodName) jdk_65_method_132_code 3 (some (.array .byte)) :: ws) ({ frames := 2, cells := 1, slots := 9, locals := 34 } : Room)) (fun aa U => aa = #[(.ref dd), (.int 0), (.int cnt)] ∧ Z.Warmed39 U.vm ∧ U.heap = h0) (fun _ _ _ _ _ => True) (fun _ U o U' => ∃ v L, o = .returned v ∧ Q16 Z dd cnt cap kd vs h0 n0 v U'.heap L ∧ FrameEnd U o U' L ({ frames := 2, cells := 1, slots := 9, locals := 34 } : Room).cells ({ frames := 2, cells := 1, slots := 9, locals := 34 } : Room).slots) := by
  refine MetFree.of_bodySF (plainFor_of_name pn_rm16) hisR ?_
  intro p e s m args below meth c s₁ Bd hml0 hP hK
  obtain ⟨rfl, hZ, hh⟩ := hP
  have hx := Bd.exec
  have hby := Bd.bytes
  have hml : c.maxLocals = 3 := hml0
  have hown : s.vm.findClass "java/util/Arrays" = some m.cls := findClass_of_methodNamed Bd.named
  have hnm := (name_of_methodNamed Bd.named Bd.method).1
  have X0 : Stand p l e ({ frames := 2, cells := 1, slots := 9, locals := 34 } : Room) s m #[(.ref dd), (.int 0), (.int cnt)] below meth c s₁ [] 0 0 := Stand.of_body Bd
  have e0 : s₁.heap = h0 := by rw [← hh, Bd.state]; rfl
  have N0 := Fr.nil n0
  change OE p.tables e below _ _
  refine OE.v (fun t k => castTop (ef_rm16 m dd cnt) k) ?_
  show OE _ _ _ _ (s₁.setTop (mkF m 0 #[rv dd, iv 0, iv cnt] []))
  refine OE.v (fun t k => XS.iloadN X0.here hx rfl (hb hby d16_0) rfl k) ?_
  show OE _ _ _ _ (s₁.setTop (mkF m 1 #[rv dd, iv 0, iv cnt] [(.int 0)]))
  refine OE.v (fun t k => XS.ifNo X0.here hx rfl (hb hby d16_1) rfl ((if0 _ _).trans (teq (by decide)).2) k) ?_
  show OE _ _ _ _ (s₁.setTop (mkF m 4 #[rv dd, iv 0, iv cnt] []))
  refine OE.v (fun t k => XS.iloadN X0.here hx rfl (hb hby d16_4) rfl k) ?_
  refine OE.v (fun t k => XS.aloadN X0.here hx rfl (hb hby d16_5) rfl rfl k) ?_
  show OE _ _ _ _ (s₁.setTop (mkF m 6 #[rv dd, iv 0, iv cnt] [(.ref dd), (.int cnt)]))
  obtain ⟨cl1, Ar1, q1, S1, M1, H1, G1⟩ := id P0
  refine OE.v (X0.arraylength hx (by rw [e0]; exact Ar1.1) (State.isArrayOf_alike hZ.alike Ar1.2.1) (g := (mkF m 6 #[rv dd, iv 0, iv cnt] [(.ref dd), (.int cnt)])) rfl rfl (hb hby d16_6)) ?_
  rw [len_of S1 M1]
  show OE _ _ _ _ (s₁.setTop (mkF m 7 #[rv dd, iv 0, iv cnt] [(.int cap), (.int cnt)]))
  by_cases hc7_2 : cnt = cap
  ·
    refine OE.v (fun t k => XS.icmpYes X0.here hx rfl (pc0 := 7) (pc' := 17) rfl (hb hby d16_7) rfl (teq hc7_2).1 (by decide) (by decide) k) ?_
    show OE _ _ _ _ (s₁.setTop (mkF m 17 #[rv dd, iv 0, iv cnt] []))
    refine OE.v (fun t k => XS.aloadN X0.here hx rfl (hb hby d16_17) rfl rfl k) ?_
    obtain ⟨T3, h3, X3, e3, E3, V3, A3, st3⟩ := cloneH X0 hx hZ hown (hw _ (own_w 89 rfl)) (hw _ (own_w 90 rfl)) (hw _ (own_w 94 rfl)) (hw _ (own_w 92 rfl)) (hw _ (own_w 93 rfl)) (hw _ (own_w 95 rfl)) e0 (P0).arh P2 (g := (mkF m 18 #[rv dd, iv 0, iv cnt] [(.ref dd)])) rfl (by rw [hml]; rfl) rfl (hb hby d16_18) (by decide) (W := 0) (cap := 9) (Nat.le_of_eq rfl) (by decide) (by have h := hc7_2; rw [h] at P1; exact own_le P1) (by decide) (by decide)
    obtain ⟨b3, g3⟩ : ∃ z, z = h0.size := ⟨_, rfl⟩
    have ne_dd_b3 : dd ≠ b3 := Nat.ne_of_lt (Nat.lt_of_lt_of_le P0.lt (Nat.le_of_eq g3.symm))
    have ge_b3 : n0 ≤ b3 := Nat.le_trans Z0 (Nat.le_of_eq g3.symm)
    have sz_b3 : h0.size ≤ b3 := Nat.le_trans (Keep.refl h0 []).1 (Nat.le_of_eq g3.symm)
    have Z3 : n0 ≤ h3.size := Nat.le_trans Z0 E3.1
    have K3 : Keep h0 h3 [] := (Keep.refl h0 []).ext E3
    rw [← g3] at V3 A3 st3
    have V3' : Arv Z h3 b3 kd .byte cnt vs (.int 0) := by rw [hc7_2]; exact V3
    refine OE.v st3 ?_
    show OE _ _ _ _ (T3.setTop (mkF m 21 #[rv dd, iv 0, iv cnt] [(.ref b3)]))
    obtain ⟨T4, X4, e4, st4⟩ := castY X3 hx hZ hown (hw _ (own_w 96 rfl)) e3 (Ins.self A3) (g := (mkF m 21 #[rv dd, iv 0, iv cnt] [(.ref b3)])) rfl rfl (hb hby d16_21)
    refine OE.v st4 ?_
    show OE _ _ _ _ (T4.setTop (mkF m 24 #[rv dd, iv 0, iv cnt] [(.ref b3)]))
    obtain ⟨fs, hr, hrun, hended, hW, hsame⟩ := X4.leave (v := some (.ref b3)) (fun h => by rw [Bd.returns] at h; cases h)
    refine ⟨_, _, ?_, hrun, hended, _, _, rfl, ?_, ⟨_, rfl⟩, hW, hsame.mono (by decide) (by decide)⟩
    · jvm_step X4.here [X4.here.top, hx, (hb hby d16_24), X4.method', Bd.returns, Value.isRef, FieldType.isReference]
      first | (intro acts; rw [hr _ acts rfl rfl rfl]) | rw [hr _ _ rfl rfl rfl]
      exact Steps.refl _
    · show Q16 Z dd cnt cap kd vs h0 n0 _ T4.heap _
      rw [e4]
      exact ⟨b3, kd, vs, rfl, N0, K3, sz_b3, V3', (fun _ _ => rfl)⟩
  ·
    refine OE.v (fun t k => XS.icmpNo X0.here hx rfl (hb hby d16_7) rfl (feq hc7_2).1 k) ?_
    show OE _ _ _ _ (s₁.setTop (mkF m 10 #[rv dd, iv 0, iv cnt] []))
    refine OE.v (fun t k => XS.aloadN X0.here hx rfl (hb hby d16_10) rfl rfl k) ?_
    refine OE.v (fun t k => XS.iloadN X0.here hx rfl (hb hby d16_11) rfl k) ?_
    refine OE.v (fun t k => XS.iloadN X0.here hx rfl (hb hby d16_12) rfl k) ?_
    show OE _ _ _ _ (s₁.setTop (mkF m 13 #[rv dd, iv 0, iv cnt] [(.int cnt), (.int 0), (.ref dd)]))
    obtain ⟨_, _, ⟨T5, L5, k5, n5⟩, -, X5, ⟨Lc5, hQ5, l5, y5, z5⟩, st5⟩ := Jvm.LawKit.callS X0 hx (y := (⟨"java/util/Arrays", "copyOfRangeByte", "([BII)[B"⟩ : MethodName)) hown (mvT hZ (hw _ (own_w 142 rfl))) (mvT hZ (hw _ (own_w 143 rfl))) (mvT hZ (hw _ (own_w 87 rfl))) (mvT hZ (hw _ (own_w 144 rfl))) (by decide) (backOf (W := 0) (rm27 l Z a0 hw [] dd cnt cap kd vs h0 n0 Z0 P0 P1) hZ (hw _ (own_w 144 rfl)) (hw _ (own_w 87 rfl)) (by decide) (by decide)) (g := (mkF m 13 #[rv dd, iv 0, iv cnt] [(.int cnt), (.int 0), (.ref dd)])) rfl (by rw [hml]; rfl) (argsL := [(.ref dd), (.int 0), (.int cnt)]) (rest := []) (lenOf pd_7 rfl) rfl (Nat.le_of_eq rfl) (hb hby d16_13) (fun _ _ => ⟨rfl, e0, (by decide : 0 + 1 ≤ _), (by decide : 0 + 9 ≤ _)⟩)
    dsimp only [Pt.U, Pt.locs, Pt.cells, Pt.slots] at X5 l5 y5 z5 st5 hQ5
    subst l5 y5 z5
    obtain ⟨h5, e5⟩ : ∃ z, T5.heap = z := ⟨_, rfl⟩
    rw [e5] at hQ5
    obtain ⟨b_5, kb_5, us_5, rfl, Nq5, Kq5, q5_0, q5_1, q5_2⟩ := hQ5
    have Z5 : n0 ≤ h5.size := Nat.le_trans Z0 Kq5.1
    have K5 : Keep h0 h5 [] := (Keep.refl h0 []).trans Kq5 all0
    have sz_b_5 : h0.size ≤ b_5 := Nat.le_trans (Keep.refl h0 []).1 q5_0
    have ne_dd_b_5 : dd ≠ b_5 := Nat.ne_of_lt (Nat.lt_of_lt_of_le P0.lt q5_0)
    have N5 := Fr.app N0 Nq5
    refine OE.v st5 ?_
    show OE _ _ _ _ (T5.setTop (mkF m 16 #[rv dd, iv 0, iv cnt] [(.ref b_5)]))
    obtain ⟨fs, hr, hrun, hended, hW, hsame⟩ := X5.leave (v := some (.ref b_5)) (fun h => by rw [Bd.returns] at h; cases h)
    refine ⟨_, _, ?_, hrun, hended, _, _, rfl, ?_, ⟨_, rfl⟩, hW, hsame.mono (by decide) (by decide)⟩
    · jvm_step X5.here [X5.here.top, hx, (hb hby d16_16), X5.method', Bd.returns, Value.isRef, FieldType.isReference]
      first | (intro acts; rw [hr _ acts rfl rfl rfl]) | rw [hr _ _ rfl rfl rfl]
      exact Steps.refl _
    · show Q16 Z dd cnt cap kd vs h0 n0 _ T5.heap _
      rw [e5]
      exact ⟨b_5, kb_5, us_5, rfl, N5, K5, sz_b_5, q5_1, q5_2⟩

theorem d12_0 : decode jdk_42_method_150_code 0 = .ok (.aload_n 0, 1) := by decide +kernel
theorem d12_1 : decode jdk_42_method_150_code 1 = .ok (.invokespecial 1, 3) := by decide +kernel
theorem d12_4 : decode jdk_42_method_150_code 4 = .ok (.aload_n 1, 1) := by decide +kernel
theorem d12_5 : decode jdk_42_method_150_code 5 = .ok (.invokevirtual 552, 3) := by decide +kernel
theorem d12_8 : decode jdk_42_method_150_code 8 = .ok (.astore_n 3, 1) := by decide +kernel
theorem d12_9 : decode jdk_42_method_150_code 9 = .ok (.aload_n 1, 1) := by decide +kernel
theorem d12_10 : decode jdk_42_method_150_code 10 = .ok (.invokevirtual 549, 3) := by decide +kernel
theorem d12_13 : decode jdk_42_method_150_code 13 = .ok (.istore 4, 2) := by decide +kernel
theorem d12_15 : decode jdk_42_method_150_code 15 = .ok (.aload_n 1, 1) := by decide +kernel
theorem d12_16 : decode jdk_42_method_150_code 16 = .ok (.invokevirtual 1047, 3) := by decide +kernel
theorem d12_19 : decode jdk_42_method_150_code 19 = .ok (.ifCond .eq 22, 3) := by decide +kernel
theorem d12_22 : decode jdk_42_method_150_code 22 = .ok (.aload_n 0, 1) := by decide +kernel
theorem d12_23 : decode jdk_42_method_150_code 23 = .ok (.iconst 0, 1) := by decide +kernel
theorem d12_24 : decode jdk_42_method_150_code 24 = .ok (.putfield 15, 3) := by decide +kernel
theorem d12_27 : decode jdk_42_method_150_code 27 = .ok (.aload_n 0, 1) := by decide +kernel
theorem d12_28 : decode jdk_42_method_150_code 28 = .ok (.aload_n 3, 1) := by decide +kernel
theorem d12_29 : decode jdk_42_method_150_code 29 = .ok (.iconst 0, 1) := by decide +kernel
theorem d12_30 : decode jdk_42_method_150_code 30 = .ok (.iload 4, 2) := by decide +kernel
theorem d12_32 : decode jdk_42_method_150_code 32 = .ok (.invokestatic 54, 3) := by decide +kernel
theorem d12_35 : decode jdk_42_method_150_code 35 = .ok (.putfield 9, 3) := by decide +kernel
theorem d12_38 : decode jdk_42_method_150_code 38 = .ok (.goto 59, 3) := by decide +kernel
theorem d12_97 : decode jdk_42_method_150_code 97 = .ok (.return_, 1) := by decide +kernel
theorem pn_rm12 : plainName "java/lang/String" = true := by first | (simp [plainName, overriddenIn]; done) | decide +kernel
theorem pd_8 : parseMethodDescriptor "()[B" = some ⟨[], some (.array .byte)⟩ := by decide +kernel
theorem ef_rm12 (m : MethodId) (a : Addr) (sb : Addr) : entryFrame m #[(.ref a), (.ref sb), .null] 5 = mkF m 0 #[rv a, rv sb, .val .null, .unset, .unset] [] := by first | (simp [entryFrame, mkF, argsToLocals, Value.category]; done) | rfl
def Q12 (Z : State) (a : Addr) (sb : Addr) (cnt : Int32) (vb : Addr) (kv : ClassId) (cap : Int32) (vs : List Value) (cs : Int32) (h0 : Heap) (n0 : Nat) (v : Option Value) (h : Heap) (L : List Loc) : Prop := ∃ sv : Addr, ∃ ks : ClassId, ∃ us : List Value, v = none ∧ Fr n0 L ∧ Keep h0 h [a] ∧ Exa Z h a "java/lang/String" ∧ Fld Z h a "java/lang/String" "value" "[B" (.ref sv) ∧ Fld Z h a "java/lang/String" "coder" "B" (.int 0) ∧ Arv Z h sv ks .byte cnt us (.int 0) ∧ own_like us vs cnt.toNatClampNeg
set_option maxRecDepth 65536 in
set_option maxHeartbeats 40000000 in
theorem rm12 (l : Launch) (Z : State) (a0 : Array Value) (hw : ∀ d ∈ tables_1, d.before a0 Z = true) (ws : List Jvm.Cond) (a : Addr) (sb : Addr) (cnt : Int32) (vb : Addr) (kv : ClassId) (cap : Int32) (vs : List Value) (cs : Int32) (h0 : Heap) (n0 : Nat) (Z0 : n0 ≤ h0.size) (O0 : Old Z n0 h0) (P0 : Exa Z h0 a "java/lang/String") (P1 : Fld Z h0 a "java/lang/String" "value" "[B" .null) (P2 : Fld Z h0 a "java/lang/String" "coder" "B" (.int 0)) (P3 : n0 ≤ a) (P4 : Exa Z h0 sb "java/lang/StringBuilder") (P5 : Fld Z h0 sb "java/lang/AbstractStringBuilder" "value" "[B" (.ref vb)) (P6 : Fld Z h0 sb "java/lang/AbstractStringBuilder" "coder" "B" (.int 0)) (P7 : Fld Z h0 sb "java/lang/AbstractStringBuilder" "count" "I" (.int cnt)) (P8 : Arv Z h0 vb kv .byte cap vs (.int 0)) (P9 : Exa Z h0 vb "[B") (P10 : sb ≠ a) (P11 : vb ≠ a) (P12 : 0 ≤ cnt.toInt ∧ cnt.toInt ≤ cap.toInt ∧ cap.toInt ≤ 9) (P13 : ¬ cs = (0 : Int32)) (OP0 : Sta Z Z.heap "java/lang/String" "COMPACT_STRINGS" "Z" (.int cs)) :
    MetFree l (⟨"java/lang/String", "<init>", "(Ljava/lang/AbstractStringBuilder;Ljava/lang/Void;)V"⟩ : MethodName) (head1 (Jvm.Cond.code (⟨"java/lang/String", "<init>", "(Ljava/lang/AbstractStringBuilder;Ljava/lang/Void;)V"⟩ : MethodName) jdk_42_method_150_code 5 none :: ws) ({ frames := 3, cells := 1, slots := 9, locals := 49 } : Room)) (fun aa U => aa = #[(.ref a), (.ref sb), .null] ∧ Z.Warmed39 U.vm ∧ U.heap = h0) (fun _ _ _ _ _ => True) (fun _ U o U' => ∃ v L, o = .returned v ∧ Q12 Z a sb cnt vb kv cap vs cs h0 n0 v U'.heap L ∧ FrameEnd U o U' L ({ frames := 3, cells := 1, slots := 9, locals := 49 } : Room).cells ({ frames := 3, cells := 1, slots := 9, locals := 49 } : Room).slots) := by
  refine MetFree.of_bodySF (plainFor_of_name pn_rm12) hisR ?_
  intro p e s m args below meth c s₁ Bd hml0 hP hK
  obtain ⟨rfl, hZ, hh⟩ := hP
  have hx := Bd.exec
  have hby := Bd.bytes
  have hml : c.maxLocals = 5 := hml0
  have hown : s.vm.findClass "java/lang/String" = some m.cls := findClass_of_methodNamed Bd.named
  have hnm := (name_of_methodNamed Bd.named Bd.method).1
  have X0 : Stand p l e ({ frames := 3, cells := 1, slots := 9, locals := 49 } : Room) s m #[(.ref a), (.ref sb), .null] below meth c s₁ [] 0 0 := Stand.of_body Bd
  have e0 : s₁.heap = h0 := by rw [← hh, Bd.state]; rfl
  have N0 := Fr.nil n0
  change OE p.tables e below _ _
  refine OE.v (fun t k => castTop (ef_rm12 m a sb) k) ?_
  show OE _ _ _ _ (s₁.setTop (mkF m 0 #[rv a, rv sb, .val .null, .unset, .unset] []))
  refine OE.v (fun t k => XS.aloadN X0.here hx rfl (hb hby d12_0) rfl rfl k) ?_
  show OE _ _ _ _ (s₁.setTop (mkF m 1 #[rv a, rv sb, .val .null, .unset, .unset] [(.ref a)]))
  obtain ⟨T1, X1, e1, st1⟩ := initO X0 hx hZ hown (hw _ (own_w 68 rfl)) (hw _ (own_w 18 rfl)) (hw _ (own_w 19 rfl)) e0 (g := (mkF m 1 #[rv a, rv sb, .val .null, .unset, .unset] [(.ref a)])) rfl (by rw [hml]; rfl) rfl (hb hby d12_1) (by decide) (W := 0) (Nat.le_of_eq rfl) (by decide)
  refine OE.v st1 ?_
  show OE _ _ _ _ (T1.setTop (mkF m 4 #[rv a, rv sb, .val .null, .unset, .unset] []))
  refine OE.v (fun t k => XS.aloadN X1.here hx rfl (hb hby d12_4) rfl rfl k) ?_
  show OE _ _ _ _ (T1.setTop (mkF m 5 #[rv a, rv sb, .val .null, .unset, .unset] [(.ref sb)]))
  obtain ⟨cq2, kq2, q2a, q2b, q2c⟩ := isOf hZ e1 P4
  obtain ⟨_, _, ⟨T2, L2, k2, n2⟩, -, X2, ⟨Lc2, hQ2, l2, y2, z2⟩, st2⟩ := X1.virtualBack hx (y := (⟨"java/lang/AbstractStringBuilder", "getValue", "()[B"⟩ : MethodName)) (z := (⟨"java/lang/AbstractStringBuilder", "getValue", "()[B"⟩ : MethodName)) hown (mvT hZ (hw _ (own_w 69 rfl))) (mvT hZ (hw _ (own_w 70 rfl))) (notFace_of_selects (args := #[]) (mvT hZ (hw _ (own_w 72 rfl)))) (mvT hZ (hw _ (own_w 72 rfl))) (mvT hZ (hw _ (own_w 71 rfl))) (by decide) (backOf (W := 0) (rm13 l Z a0 hw [] sb vb h0 n0 Z0 P5) hZ (hw _ (own_w 73 rfl)) (hw _ (own_w 15 rfl)) (by decide) (by decide)) q2a q2c (g := (mkF m 5 #[rv a, rv sb, .val .null, .unset, .unset] [(.ref sb)])) rfl (by rw [hml]; rfl) (Steps.refl _) (argsL := []) (rest := []) (lenOf pd_8 rfl) rfl (Nat.le_of_eq rfl) (hb hby d12_5) (fun _ _ => ⟨rfl, e1, (by decide : 0 + 0 ≤ _), (by decide : 0 + 0 ≤ _)⟩)
  dsimp only [Pt.U, Pt.locs, Pt.cells, Pt.slots] at X2 l2 y2 z2 st2 hQ2
  subst l2 y2 z2
  obtain ⟨rfl, Nq2, e2⟩ := hQ2
  have N2 := Fr.app N0 Nq2
  refine OE.v (fun t k => st2.trans k) ?_
  show OE _ _ _ _ (T2.setTop (mkF m 8 #[rv a, rv sb, .val .null, .unset, .unset] [(.ref vb)]))
  refine OE.v (fun t k => XS.astoreN X2.here hx rfl (hb hby d12_8) rfl rfl (l' := #[rv a, rv sb, .val .null, rv vb, .unset]) rfl k) ?_
  refine OE.v (fun t k => XS.aloadN X2.here hx rfl (hb hby d12_9) rfl rfl k) ?_
  show OE _ _ _ _ (T2.setTop (mkF m 10 #[rv a, rv sb, .val .null, rv vb, .unset] [(.ref sb)]))
  obtain ⟨cq3, kq3, q3a, q3b, q3c⟩ := isOf hZ e2 P4
  obtain ⟨_, _, ⟨T3, L3, k3, n3⟩, -, X3, ⟨Lc3, hQ3, l3, y3, z3⟩, st3⟩ := X2.virtualBack hx (y := (⟨"java/lang/AbstractStringBuilder", "length", "()I"⟩ : MethodName)) (z := (⟨"java/lang/StringBuilder", "length", "()I"⟩ : MethodName)) hown (mvT hZ (hw _ (own_w 74 rfl))) (mvT hZ (hw _ (own_w 75 rfl))) (own_nf (args := #[]) (⟨"java/lang/AbstractStringBuilder", "isLatin1", "()Z"⟩ : MethodName) rfl (mvT hZ (hw _ (own_w 44 rfl))) (mvT hZ (hw _ (own_w 46 rfl)))) (mvT hZ (hw _ (own_w 77 rfl))) (mvT hZ (hw _ (own_w 78 rfl))) (by decide) (backOf (W := 0) (rm14 l Z a0 hw [] sb cnt h0 n0 Z0 P4 P7) hZ (hw _ (own_w 79 rfl)) (hw _ (own_w 7 rfl)) (by decide) (by decide)) q3a q3c (g := (mkF m 10 #[rv a, rv sb, .val .null, rv vb, .unset] [(.ref sb)])) rfl (by rw [hml]; rfl) (Steps.refl _) (argsL := []) (rest := []) (lenOf pd_4 rfl) rfl (Nat.le_of_eq rfl) (hb hby d12_10) (fun _ _ => ⟨rfl, e2, (by decide : 0 + 0 ≤ _), (by decide : 0 + 0 ≤ _)⟩)
  dsimp only [Pt.U, Pt.locs, Pt.cells, Pt.slots] at X3 l3 y3 z3 st3 hQ3
  subst l3 y3 z3
  obtain ⟨rfl, Nq3, e3⟩ := hQ3
  have N3 := Fr.app N2 Nq3
  refine OE.v (fun t k => st3.trans k) ?_
  show OE _ _ _ _ (T3.setTop (mkF m 13 #[rv a, rv sb, .val .null, rv vb, .unset] [(.int cnt)]))
  refine OE.v (fun t k => XS.istore X3.here hx rfl (hb hby d12_13) rfl (l' := #[rv a, rv sb, .val .null, rv vb, iv cnt]) rfl k) ?_
  refine OE.v (fun t k => XS.aloadN X3.here hx rfl (hb hby d12_15) rfl rfl k) ?_
  show OE _ _ _ _ (T3.setTop (mkF m 16 #[rv a, rv sb, .val .null, rv vb, iv cnt] [(.ref sb)]))
  obtain ⟨cq4, kq4, q4a, q4b, q4c⟩ := isOf hZ e3 P4
  obtain ⟨_, _, ⟨T4, L4, k4, n4⟩, -, X4, ⟨Lc4, hQ4, l4, y4, z4⟩, st4⟩ := X3.virtualBack hx (y := (⟨"java/lang/AbstractStringBuilder", "isLatin1", "()Z"⟩ : MethodName)) (z := (⟨"java/lang/AbstractStringBuilder", "isLatin1", "()Z"⟩ : MethodName)) hown (mvT hZ (hw _ (own_w 82 rfl))) (mvT hZ (hw _ (own_w 44 rfl))) (notFace_of_selects (args := #[]) (mvT hZ (hw _ (own_w 46 rfl)))) (mvT hZ (hw _ (own_w 46 rfl))) (mvT hZ (hw _ (own_w 45 rfl))) (by decide) (backOf (W := 0) (rm8 l Z a0 hw [] sb cs h0 n0 Z0 O0 P6 P13 OP0) hZ (hw _ (own_w 47 rfl)) (hw _ (own_w 15 rfl)) (by decide) (by decide)) q4a q4c (g := (mkF m 16 #[rv a, rv sb, .val .null, rv vb, iv cnt] [(.ref sb)])) rfl (by rw [hml]; rfl) (Steps.refl _) (argsL := []) (rest := []) (lenOf pd_1 rfl) rfl (Nat.le_of_eq rfl) (hb hby d12_16) (fun _ _ => ⟨rfl, e3, (by decide : 0 + 0 ≤ _), (by decide : 0 + 0 ≤ _)⟩)
  dsimp only [Pt.U, Pt.locs, Pt.cells, Pt.slots] at X4 l4 y4 z4 st4 hQ4
  subst l4 y4 z4
  obtain ⟨rfl, Nq4, e4⟩ := hQ4
  have N4 := Fr.app N3 Nq4
  refine OE.v (fun t k => st4.trans k) ?_
  show OE _ _ _ _ (T4.setTop (mkF m 19 #[rv a, rv sb, .val .null, rv vb, iv cnt] [(.int 1)]))
  refine OE.v (fun t k => XS.ifNo X4.here hx rfl (hb hby d12_19) rfl ((if0 _ _).trans (feq (by decide)).1) k) ?_
  show OE _ _ _ _ (T4.setTop (mkF m 22 #[rv a, rv sb, .val .null, rv vb, iv cnt] []))
  refine OE.v (fun t k => XS.aloadN X4.here hx rfl (hb hby d12_22) rfl rfl k) ?_
  refine OE.v (fun t k => XS.iconst X4.here hx rfl (hb hby d12_23) k) ?_
  show OE _ _ _ _ (T4.setTop (mkF m 24 #[rv a, rv sb, .val .null, rv vb, iv cnt] [(.int 0), (.ref a)]))
  obtain ⟨T5, h5, X5, e5, W5, st5⟩ := putFN X4 hx hZ hown (hw _ (own_w 83 rfl)) Via.refl e4 P2 P0 (Or.inr ⟨(hw _ (own_w 84 rfl)), rfl, hnm⟩) (hw _ (own_w 60 rfl)) (ty := .byte) (v' := (.int 0)) (by decide) rfl (by decide) (g := (mkF m 24 #[rv a, rv sb, .val .null, rv vb, iv cnt] [(.int 0), (.ref a)])) rfl rfl (hb hby d12_24)
  have Fw5 : Fld Z h5 a "java/lang/String" "coder" "B" (.int 0) := P2.same W5
  have N5 := Fr.snoc X5 N4 P3
  have Z5 : n0 ≤ h5.size := Nat.le_trans Z0 (Nat.le_of_eq W5.size.symm)
  have K5 : Keep h0 h5 [a] := (Keep.refl h0 [a]).wr W5 (Or.inl (by simp))
  have O5 : Old Z n0 h5 := O0.wr W5 P3
  refine OE.v st5 ?_
  show OE _ _ _ _ (T5.setTop (mkF m 27 #[rv a, rv sb, .val .null, rv vb, iv cnt] []))
  refine OE.v (fun t k => XS.aloadN X5.here hx rfl (hb hby d12_27) rfl rfl k) ?_
  refine OE.v (fun t k => XS.aloadN X5.here hx rfl (hb hby d12_28) rfl rfl k) ?_
  refine OE.v (fun t k => XS.iconst X5.here hx rfl (hb hby d12_29) k) ?_
  refine OE.v (fun t k => XS.iload X5.here hx rfl (hb hby d12_30) rfl k) ?_
  show OE _ _ _ _ (T5.setTop (mkF m 32 #[rv a, rv sb, .val .null, rv vb, iv cnt] [(.int cnt), (.int 0), (.ref vb), (.ref a)]))
  obtain ⟨_, _, ⟨T6, L6, k6, n6⟩, -, X6, ⟨Lc6, hQ6, l6, y6, z6⟩, st6⟩ := Jvm.LawKit.callS X5 hx (y := (⟨"java/util/Arrays", "copyOfRange", "([BII)[B"⟩ : MethodName)) hown (mvT hZ (hw _ (own_w 85 rfl))) (mvT hZ (hw _ (own_w 86 rfl))) (mvT hZ (hw _ (own_w 87 rfl))) (mvT hZ (hw _ (own_w 88 rfl))) (by decide) (backOf (W := 1) (rm16 l Z a0 hw [] vb cnt cap kv vs h5 n0 Z5 (P8.other W5 P11) P12 (P9.wr W5)) hZ (hw _ (own_w 88 rfl)) (hw _ (own_w 87 rfl)) (by decide) (by decide)) (g := (mkF m 32 #[rv a, rv sb, .val .null, rv vb, iv cnt] [(.int cnt), (.int 0), (.ref vb), (.ref a)])) rfl (by rw [hml]; rfl) (argsL := [(.ref vb), (.int 0), (.int cnt)]) (rest := [(.ref a)]) (lenOf pd_7 rfl) rfl (Nat.le_of_eq rfl) (hb hby d12_32) (fun _ _ => ⟨rfl, e5, (by decide : 0 + 1 ≤ _), (by decide : 0 + 9 ≤ _)⟩)
  dsimp only [Pt.U, Pt.locs, Pt.cells, Pt.slots] at X6 l6 y6 z6 st6 hQ6
  subst l6 y6 z6
  obtain ⟨h6, e6⟩ : ∃ z, T6.heap = z := ⟨_, rfl⟩
  rw [e6] at hQ6
  obtain ⟨b_6, kb_6, us_6, rfl, Nq6, Kq6, q6_0, q6_1, q6_2⟩ := hQ6
  have Z6 : n0 ≤ h6.size := Nat.le_trans Z5 Kq6.1
  have K6 : Keep h0 h6 [a] := K5.trans Kq6 all0
  have O6 : Old Z n0 h6 := O5.keep Kq6 all0
  have sz_b_6 : h0.size ≤ b_6 := Nat.le_trans K5.1 q6_0
  have ne_a_b_6 : a ≠ b_6 := Nat.ne_of_lt (Nat.lt_of_lt_of_le (P0.wr W5).lt q6_0)
  have ne_sb_b_6 : sb ≠ b_6 := Nat.ne_of_lt (Nat.lt_of_lt_of_le (P4.wr W5).lt q6_0)
  have ne_vb_b_6 : vb ≠ b_6 := Nat.ne_of_lt (Nat.lt_of_lt_of_le (P8.other W5 P11).lt q6_0)
  have N6 := Fr.app N5 Nq6
  refine OE.v st6 ?_
  show OE _ _ _ _ (T6.setTop (mkF m 35 #[rv a, rv sb, .val .null, rv vb, iv cnt] [(.ref b_6), (.ref a)]))
  obtain ⟨T7, h7, X7, e7, W7, st7⟩ := putF X6 hx hZ hown (host := "") (Or.inl (hw _ (own_w 98 rfl))) Via.refl e6 ((P1.other W5 (Or.inr (slot_ne (Or.inr (hw _ (own_w 99 rfl))) (Or.inr (hw _ (own_w 84 rfl))) (by decide) (t := (.array .byte)) (t' := .byte) (by decide) (by decide)))).keep Kq6 nin0) ((P0.wr W5).keep Kq6) (Or.inr ⟨(hw _ (own_w 99 rfl)), rfl, hnm⟩) (hw _ (own_w 60 rfl)) (ty := (.array .byte)) (by decide) rfl rfl (g := (mkF m 35 #[rv a, rv sb, .val .null, rv vb, iv cnt] [(.ref b_6), (.ref a)])) rfl rfl (hb hby d12_35)
  have Fw7 : Fld Z h7 a "java/lang/String" "value" "[B" (.ref b_6) := ((P1.other W5 (Or.inr (slot_ne (Or.inr (hw _ (own_w 99 rfl))) (Or.inr (hw _ (own_w 84 rfl))) (by decide) (t := (.array .byte)) (t' := .byte) (by decide) (by decide)))).keep Kq6 nin0).same W7
  have N7 := Fr.snoc X7 N6 P3
  have Z7 : n0 ≤ h7.size := Nat.le_trans Z6 (Nat.le_of_eq W7.size.symm)
  have K7 : Keep h0 h7 [a] := K6.wr W7 (Or.inl (by simp))
  have O7 : Old Z n0 h7 := O6.wr W7 P3
  refine OE.v st7 ?_
  show OE _ _ _ _ (T7.setTop (mkF m 38 #[rv a, rv sb, .val .null, rv vb, iv cnt] []))
  refine OE.v (fun t k => XS.goto X7.here hx rfl (pc0 := 38) (pc' := 97) rfl (hb hby d12_38) (by decide) (by decide) k) ?_
  show OE _ _ _ _ (T7.setTop (mkF m 97 #[rv a, rv sb, .val .null, rv vb, iv cnt] []))
  obtain ⟨fs, hr, hrun, hended, hW, hsame⟩ := X7.leave (v := none) (fun _ => rfl)
  refine ⟨_, _, ?_, hrun, hended, _, _, rfl, ?_, ⟨_, rfl⟩, hW, hsame.mono (by decide) (by decide)⟩
  · exact X7.returnOut hx Bd.returns (hb hby d12_97) hr
  · show Q12 Z a sb cnt vb kv cap vs cs h0 n0 _ T7.heap _
    rw [e7]
    exact ⟨b_6, kb_6, us_6, rfl, N7, K7, (((P0.wr W5).keep Kq6).wr W7), Fw7, ((Fw5.keep Kq6 nin0).other W7 (Or.inr (slot_ne (Or.inr (hw _ (own_w 84 rfl))) (Or.inr (hw _ (own_w 99 rfl))) (by decide) (t := .byte) (t' := (.array .byte)) (by decide) (by decide)))), (q6_1.other W7 (Ne.symm ne_a_b_6)), q6_2⟩

theorem d11_0 : decode jdk_42_method_53_code 0 = .ok (.aload_n 0, 1) := by decide +kernel
theorem d11_1 : decode jdk_42_method_53_code 1 = .ok (.aload_n 1, 1) := by decide +kernel
theorem d11_2 : decode jdk_42_method_53_code 2 = .ok (.aconst_null, 1) := by decide +kernel
theorem d11_3 : decode jdk_42_method_53_code 3 = .ok (.invokespecial 489, 3) := by decide +kernel
theorem d11_6 : decode jdk_42_method_53_code 6 = .ok (.return_, 1) := by decide +kernel
theorem pn_rm11 : plainName "java/lang/String" = true := by first | (simp [plainName, overriddenIn]; done) | decide +kernel
theorem pd_9 : parseMethodDescriptor "(Ljava/lang/AbstractStringBuilder;Ljava/lang/Void;)V" = some ⟨[(.object "java/lang/AbstractStringBuilder"), (.object "java/lang/Void")], none⟩ := by decide +kernel
theorem ef_rm11 (m : MethodId) (a : Addr) (sb : Addr) : entryFrame m #[(.ref a), (.ref sb)] 2 = mkF m 0 #[rv a, rv sb] [] := by first | (simp [entryFrame, mkF, argsToLocals, Value.category]; done) | rfl
def Q11 (Z : State) (a : Addr) (sb : Addr) (cnt : Int32) (vb : Addr) (kv : ClassId) (cap : Int32) (vs : List Value) (cs : Int32) (h0 : Heap) (n0 : Nat) (v : Option Value) (h : Heap) (L : List Loc) : Prop := ∃ sv : Addr, ∃ ks : ClassId, ∃ us : List Value, v = none ∧ Fr n0 L ∧ Keep h0 h [a] ∧ Exa Z h a "java/lang/String" ∧ Fld Z h a "java/lang/String" "value" "[B" (.ref sv) ∧ Fld Z h a "java/lang/String" "coder" "B" (.int 0) ∧ Arv Z h sv ks .byte cnt us (.int 0) ∧ own_like us vs cnt.toNatClampNeg
set_option maxRecDepth 65536 in
set_option maxHeartbeats 40000000 in
theorem rm11 (l : Launch) (Z : State) (a0 : Array Value) (hw : ∀ d ∈ tables_1, d.before a0 Z = true) (ws : List Jvm.Cond) (a : Addr) (sb : Addr) (cnt : Int32) (vb : Addr) (kv : ClassId) (cap : Int32) (vs : List Value) (cs : Int32) (h0 : Heap) (n0 : Nat) (Z0 : n0 ≤ h0.size) (O0 : Old Z n0 h0) (P0 : Exa Z h0 a "java/lang/String") (P1 : Fld Z h0 a "java/lang/String" "value" "[B" .null) (P2 : Fld Z h0 a "java/lang/String" "coder" "B" (.int 0)) (P3 : n0 ≤ a) (P4 : Exa Z h0 sb "java/lang/StringBuilder") (P5 : Fld Z h0 sb "java/lang/AbstractStringBuilder" "value" "[B" (.ref vb)) (P6 : Fld Z h0 sb "java/lang/AbstractStringBuilder" "coder" "B" (.int 0)) (P7 : Fld Z h0 sb "java/lang/AbstractStringBuilder" "count" "I" (.int cnt)) (P8 : Arv Z h0 vb kv .byte cap vs (.int 0)) (P9 : Exa Z h0 vb "[B") (P10 : sb ≠ a) (P11 : vb ≠ a) (P12 : 0 ≤ cnt.toInt ∧ cnt.toInt ≤ cap.toInt ∧ cap.toInt ≤ 9) (P13 : ¬ cs = (0 : Int32)) (OP0 : Sta Z Z.heap "java/lang/String" "COMPACT_STRINGS" "Z" (.int cs)) :
    MetFree l (⟨"java/lang/String", "<init>", "(Ljava/lang/StringBuilder;)V"⟩ : MethodName) (head1 (Jvm.Cond.code (⟨"java/lang/String", "<init>", "(Ljava/lang/StringBuilder;)V"⟩ : MethodName) jdk_42_method_53_code 2 none :: ws) ({ frames := 4, cells := 1, slots := 9, locals := 65 } : Room)) (fun aa U => aa = #[(.ref a), (.ref sb)] ∧ Z.Warmed39 U.vm ∧ U.heap = h0) (fun _ _ _ _ _ => True) (fun _ U o U' => ∃ v L, o = .returned v ∧ Q11 Z a sb cnt vb kv cap vs cs h0 n0 v U'.heap L ∧ FrameEnd U o U' L ({ frames := 4, cells := 1, slots := 9, locals := 65 } : Room).cells ({ frames := 4, cells := 1, slots := 9, locals := 65 } : Room).slots) := by
  refine MetFree.of_bodySF (plainFor_of_name pn_rm11) hisR ?_
  intro p e s m args below meth c s₁ Bd hml0 hP hK
  obtain ⟨rfl, hZ, hh⟩ := hP
  have hx := Bd.exec
  have hby := Bd.bytes
  have hml : c.maxLocals = 2 := hml0
  have hown : s.vm.findClass "java/lang/String" = some m.cls := findClass_of_methodNamed Bd.named
  have hnm := (name_of_methodNamed Bd.named Bd.method).1
  have X0 : Stand p l e ({ frames := 4, cells := 1, slots := 9, locals := 65 } : Room) s m #[(.ref a), (.ref sb)] below meth c s₁ [] 0 0 := Stand.of_body Bd
  have e0 : s₁.heap = h0 := by rw [← hh, Bd.state]; rfl
  have N0 := Fr.nil n0
  change OE p.tables e below _ _
  refine OE.v (fun t k => castTop (ef_rm11 m a sb) k) ?_
  show OE _ _ _ _ (s₁.setTop (mkF m 0 #[rv a, rv sb] []))
  refine OE.v (fun t k => XS.aloadN X0.here hx rfl (hb hby d11_0) rfl rfl k) ?_
  refine OE.v (fun t k => XS.aloadN X0.here hx rfl (hb hby d11_1) rfl rfl k) ?_
  refine OE.v (fun t k => XS.aconstNull X0.here hx rfl (hb hby d11_2) k) ?_
  show OE _ _ _ _ (s₁.setTop (mkF m 3 #[rv a, rv sb] [.null, (.ref sb), (.ref a)]))
  obtain ⟨_, _, ⟨T1, L1, k1, n1⟩, -, X1, ⟨Lc1, hQ1, l1, y1, z1⟩, st1⟩ := X0.specialBack hx (y := (⟨"java/lang/String", "<init>", "(Ljava/lang/AbstractStringBuilder;Ljava/lang/Void;)V"⟩ : MethodName)) rfl hown (mvT hZ (hw _ (own_w 65 rfl))) (mvT hZ (hw _ (own_w 66 rfl))) (mvT hZ (hw _ (own_w 67 rfl))) (by decide) (backOf (W := 0) (rm12 l Z a0 hw [] a sb cnt vb kv cap vs cs h0 n0 Z0 O0 P0 P1 P2 P3 P4 P5 P6 P7 P8 P9 P10 P11 P12 P13 OP0) hZ (hw _ (own_w 67 rfl)) (hw _ (own_w 21 rfl)) (by decide) (by decide)) (g := (mkF m 3 #[rv a, rv sb] [.null, (.ref sb), (.ref a)])) rfl (by rw [hml]; rfl) (Steps.refl _) (a := a) (argsL := [(.ref sb), .null]) (rest := []) (lenOf pd_9 rfl) rfl (Nat.le_of_eq rfl) (hb hby d11_3) (fun _ _ => ⟨rfl, e0, (by decide : 0 + 1 ≤ _), (by decide : 0 + 9 ≤ _)⟩)
  dsimp only [Pt.U, Pt.locs, Pt.cells, Pt.slots] at X1 l1 y1 z1 st1 hQ1
  subst l1 y1 z1
  obtain ⟨h1, e1⟩ : ∃ z, T1.heap = z := ⟨_, rfl⟩
  rw [e1] at hQ1
  obtain ⟨sv_1, ks_1, us_1, rfl, Nq1, Kq1, q1_0, q1_1, q1_2, q1_3, q1_4⟩ := hQ1
  have Z1 : n0 ≤ h1.size := Nat.le_trans Z0 Kq1.1
  have K1 : Keep h0 h1 [a] := (Keep.refl h0 [a]).trans Kq1 (allS (Or.inl (by simp)) all0)
  have O1 : Old Z n0 h1 := O0.keep Kq1 (allS P3 all0)
  have N1 := Fr.app N0 Nq1
  refine OE.v (fun t k => st1.trans k) ?_
  show OE _ _ _ _ (T1.setTop (mkF m 6 #[rv a, rv sb] []))
  obtain ⟨fs, hr, hrun, hended, hW, hsame⟩ := X1.leave (v := none) (fun _ => rfl)
  refine ⟨_, _, ?_, hrun, hended, _, _, rfl, ?_, ⟨_, rfl⟩, hW, hsame.mono (by decide) (by decide)⟩
  · exact X1.returnOut hx Bd.returns (hb hby d11_6) hr
  · show Q11 Z a sb cnt vb kv cap vs cs h0 n0 _ T1.heap _
    rw [e1]
    exact ⟨sv_1, ks_1, us_1, rfl, N1, K1, q1_0, q1_1, q1_2, q1_3, q1_4⟩

theorem d10_0 : decode jdk_67_method_42_code 0 = .ok (.new 18, 3) := by decide +kernel
theorem d10_3 : decode jdk_67_method_42_code 3 = .ok (.dup, 1) := by decide +kernel
theorem d10_4 : decode jdk_67_method_42_code 4 = .ok (.aload_n 0, 1) := by decide +kernel
theorem d10_5 : decode jdk_67_method_42_code 5 = .ok (.invokespecial 137, 3) := by decide +kernel
theorem d10_8 : decode jdk_67_method_42_code 8 = .ok (.areturn, 1) := by decide +kernel
theorem pn_rm10 : plainName "java/lang/StringBuilder" = true := by first | (simp [plainName, overriddenIn]; done) | decide +kernel
theorem pd_10 : parseMethodDescriptor "(Ljava/lang/StringBuilder;)V" = some ⟨[(.object "java/lang/StringBuilder")], none⟩ := by decide +kernel
theorem ef_rm10 (m : MethodId) (sb : Addr) : entryFrame m #[(.ref sb)] 1 = mkF m 0 #[rv sb] [] := by first | (simp [entryFrame, mkF, argsToLocals, Value.category]; done) | rfl
def Q10 (Z : State) (sb : Addr) (cnt : Int32) (vb : Addr) (kv : ClassId) (cap : Int32) (vs : List Value) (cs : Int32) (h0 : Heap) (n0 : Nat) (v : Option Value) (h : Heap) (L : List Loc) : Prop := ∃ a : Addr, ∃ sv : Addr, ∃ ks : ClassId, ∃ us : List Value, v = some (.ref a) ∧ Fr n0 L ∧ Keep h0 h [] ∧ Exa Z h a "java/lang/String" ∧ Fld Z h a "java/lang/String" "value" "[B" (.ref sv) ∧ Fld Z h a "java/lang/String" "coder" "B" (.int 0) ∧ Arv Z h sv ks .byte cnt us (.int 0) ∧ own_like us vs cnt.toNatClampNeg
set_option maxRecDepth 65536 in
set_option maxHeartbeats 40000000 in
theorem rm10 (l : Launch) (Z : State) (a0 : Array Value) (hw : ∀ d ∈ tables_1, d.before a0 Z = true) (ws : List Jvm.Cond) (sb : Addr) (cnt : Int32) (vb : Addr) (kv : ClassId) (cap : Int32) (vs : List Value) (cs : Int32) (h0 : Heap) (n0 : Nat) (Z0 : n0 ≤ h0.size) (O0 : Old Z n0 h0) (P0 : Exa Z h0 sb "java/lang/StringBuilder") (P1 : Fld Z h0 sb "java/lang/AbstractStringBuilder" "value" "[B" (.ref vb)) (P2 : Fld Z h0 sb "java/lang/AbstractStringBuilder" "coder" "B" (.int 0)) (P3 : Fld Z h0 sb "java/lang/AbstractStringBuilder" "count" "I" (.int cnt)) (P4 : Arv Z h0 vb kv .byte cap vs (.int 0)) (P5 : Exa Z h0 vb "[B") (P6 : 0 ≤ cnt.toInt ∧ cnt.toInt ≤ cap.toInt ∧ cap.toInt ≤ 9) (P7 : ¬ cs = (0 : Int32)) (OP0 : Sta Z Z.heap "java/lang/String" "COMPACT_STRINGS" "Z" (.int cs)) :
    MetFree l (⟨"java/lang/StringBuilder", "toString", "()Ljava/lang/String;"⟩ : MethodName) (head1 (Jvm.Cond.code (⟨"java/lang/StringBuilder", "toString", "()Ljava/lang/String;"⟩ : MethodName) jdk_67_method_42_code 1 (some (.object "java/lang/String")) :: ws) ({ frames := 5, cells := 2, slots := 13, locals := 79 } : Room)) (fun aa U => aa = #[(.ref sb)] ∧ Z.Warmed39 U.vm ∧ U.heap = h0) (fun _ _ _ _ _ => True) (fun _ U o U' => ∃ v L, o = .returned v ∧ Q10 Z sb cnt vb kv cap vs cs h0 n0 v U'.heap L ∧ FrameEnd U o U' L ({ frames := 5, cells := 2, slots := 13, locals := 79 } : Room).cells ({ frames := 5, cells := 2, slots := 13, locals := 79 } : Room).slots) := by
  refine MetFree.of_bodySF (plainFor_of_name pn_rm10) hisR ?_
  intro p e s m args below meth c s₁ Bd hml0 hP hK
  obtain ⟨rfl, hZ, hh⟩ := hP
  have hx := Bd.exec
  have hby := Bd.bytes
  have hml : c.maxLocals = 1 := hml0
  have hown : s.vm.findClass "java/lang/StringBuilder" = some m.cls := findClass_of_methodNamed Bd.named
  have hnm := (name_of_methodNamed Bd.named Bd.method).1
  have X0 : Stand p l e ({ frames := 5, cells := 2, slots := 13, locals := 79 } : Room) s m #[(.ref sb)] below meth c s₁ [] 0 0 := Stand.of_body Bd
  have e0 : s₁.heap = h0 := by rw [← hh, Bd.state]; rfl
  have N0 := Fr.nil n0
  change OE p.tables e below _ _
  refine OE.v (fun t k => castTop (ef_rm10 m sb) k) ?_
  show OE _ _ _ _ (s₁.setTop (mkF m 0 #[rv sb] []))
  obtain ⟨T1, h1, X1, e1, E1, A1, D1, -, st1⟩ := newO X0 hx hZ hown (hw _ (own_w 59 rfl)) (hw _ (own_w 60 rfl)) (hw _ (own_w 21 rfl)) e0 (g := (mkF m 0 #[rv sb] [])) rfl (hb hby d10_0) (by decide) (by decide)
  obtain ⟨b1, g1⟩ : ∃ z, z = h0.size := ⟨_, rfl⟩
  have ne_sb_b1 : sb ≠ b1 := Nat.ne_of_lt (Nat.lt_of_lt_of_le P0.lt (Nat.le_of_eq g1.symm))
  have ne_vb_b1 : vb ≠ b1 := Nat.ne_of_lt (Nat.lt_of_lt_of_le P4.lt (Nat.le_of_eq g1.symm))
  have ge_b1 : n0 ≤ b1 := Nat.le_trans Z0 (Nat.le_of_eq g1.symm)
  have sz_b1 : h0.size ≤ b1 := Nat.le_trans (Keep.refl h0 []).1 (Nat.le_of_eq g1.symm)
  have Z1 : n0 ≤ h1.size := Nat.le_trans Z0 E1.1
  have K1 : Keep h0 h1 [] := (Keep.refl h0 []).ext E1
  have O1 : Old Z n0 h1 := O0.ext E1
  rw [← g1] at A1 D1 st1
  have F1_coder : Fld Z h1 b1 "java/lang/String" "coder" "B" (.int 0) := D1 (Or.inr (hw _ (own_w 84 rfl))) (ty := .byte) (by decide)
  have F1_value : Fld Z h1 b1 "java/lang/String" "value" "[B" .null := D1 (Or.inr (hw _ (own_w 99 rfl))) (ty := (.array .byte)) (by decide)
  refine OE.v st1 ?_
  show OE _ _ _ _ (T1.setTop (mkF m 3 #[rv sb] [(.ref b1)]))
  refine OE.v (fun t k => XS.dup X1.here hx rfl (hb hby d10_3) rfl rfl k) ?_
  refine OE.v (fun t k => XS.aloadN X1.here hx rfl (hb hby d10_4) rfl rfl k) ?_
  show OE _ _ _ _ (T1.setTop (mkF m 5 #[rv sb] [(.ref sb), (.ref b1), (.ref b1)]))
  obtain ⟨_, _, ⟨T2, L2, k2, n2⟩, -, X2, ⟨Lc2, hQ2, l2, y2, z2⟩, st2⟩ := X1.specialBack hx (y := (⟨"java/lang/String", "<init>", "(Ljava/lang/StringBuilder;)V"⟩ : MethodName)) rfl hown (mvT hZ (hw _ (own_w 61 rfl))) (mvT hZ (hw _ (own_w 62 rfl))) (mvT hZ (hw _ (own_w 64 rfl))) (by decide) (backOf (W := 1) (rm11 l Z a0 hw [] b1 sb cnt vb kv cap vs cs h1 n0 Z1 O1 A1 F1_value F1_coder ge_b1 (P0.ext E1) (P1.ext E1) (P2.ext E1) (P3.ext E1) (P4.ext E1) (P5.ext E1) ne_sb_b1 ne_vb_b1 P6 P7 OP0) hZ (hw _ (own_w 64 rfl)) (hw _ (own_w 21 rfl)) (by decide) (by decide)) (g := (mkF m 5 #[rv sb] [(.ref sb), (.ref b1), (.ref b1)])) rfl (by rw [hml]; rfl) (Steps.refl _) (a := b1) (argsL := [(.ref sb)]) (rest := [(.ref b1)]) (lenOf pd_10 rfl) rfl (Nat.le_of_eq rfl) (hb hby d10_5) (fun _ _ => ⟨rfl, e1, (by decide : 1 + 1 ≤ _), (by decide : 4 + 9 ≤ _)⟩)
  dsimp only [Pt.U, Pt.locs, Pt.cells, Pt.slots] at X2 l2 y2 z2 st2 hQ2
  subst l2 y2 z2
  obtain ⟨h2, e2⟩ : ∃ z, T2.heap = z := ⟨_, rfl⟩
  rw [e2] at hQ2
  obtain ⟨sv_2, ks_2, us_2, rfl, Nq2, Kq2, q2_0, q2_1, q2_2, q2_3, q2_4⟩ := hQ2
  have Z2 : n0 ≤ h2.size := Nat.le_trans Z1 Kq2.1
  have K2 : Keep h0 h2 [] := K1.trans Kq2 (allS (Or.inr sz_b1) all0)
  have O2 : Old Z n0 h2 := O1.keep Kq2 (allS ge_b1 all0)
  have N2 := Fr.app N0 Nq2
  refine OE.v (fun t k => st2.trans k) ?_
  show OE _ _ _ _ (T2.setTop (mkF m 8 #[rv sb] [(.ref b1)]))
  obtain ⟨fs, hr, hrun, hended, hW, hsame⟩ := X2.leave (v := some (.ref b1)) (fun h => by rw [Bd.returns] at h; cases h)
  refine ⟨_, _, ?_, hrun, hended, _, _, rfl, ?_, ⟨_, rfl⟩, hW, hsame.mono (by decide) (by decide)⟩
  · jvm_step X2.here [X2.here.top, hx, (hb hby d10_8), X2.method', Bd.returns, Value.isRef, FieldType.isReference]
    first | (intro acts; rw [hr _ acts rfl rfl rfl]) | rw [hr _ _ rfl rfl rfl]
    exact Steps.refl _
  · show Q10 Z sb cnt vb kv cap vs cs h0 n0 _ T2.heap _
    rw [e2]
    exact ⟨b1, sv_2, ks_2, us_2, rfl, N2, K2, q2_0, q2_1, q2_2, q2_3, q2_4⟩

def own_SI (Z : State) : Prop := Sta Z Z.heap "jdk/internal/util/Preconditions" "SIOOBE_FORMATTER" "Ljava/util/function/BiFunction;" .null ∨ ∃ fo : Addr, Sta Z Z.heap "jdk/internal/util/Preconditions" "SIOOBE_FORMATTER" "Ljava/util/function/BiFunction;" (.ref fo)
def own_U (v : Int32) : Prop := (65 ≤ v.toInt ∧ v.toInt ≤ 90) ∨ (97 ≤ v.toInt ∧ v.toInt ≤ 122) ∨ (48 ≤ v.toInt ∧ v.toInt ≤ 57) ∨ v.toInt = 45 ∨ v.toInt = 46 ∨ v.toInt = 95 ∨ v.toInt = 126
instance (v : Int32) : Decidable (own_U v) := inferInstanceAs (Decidable (_ ∨ _))
def own_hx (j : Int32) : Int32 := if j < (10 : Int32) then (48 : Int32) + j else (55 : Int32) + j
def own_enc (v : Int32) : List Int32 := if own_U v then [v] else [37, own_hx (v >>> ((4 : Int32) &&& 31)), own_hx (v &&& (15 : Int32))]
theorem own_cc {x : Int32} (h : 0 ≤ x.toInt ∧ x.toInt < 65536) : x.toUInt32.toUInt16.toUInt32.toInt32 = x := by
  obtain ⟨a1, a2, a3⟩ := c_i2c x
  rw [← Int32.toInt_inj]
  omega
theorem own_nc {x : Int32} (h : 0 ≤ x.toInt ∧ x.toInt < 65536) : nar .char x = x := own_cc h
theorem own_m {b : Int32} (h : 0 ≤ b.toInt ∧ b.toInt < 128) : b &&& (255 : Int32) = b := by
  rw [← Int32.toInt_inj, c_mask b (255 : Int32) 8 (by decide) (by decide)]
  omega
theorem own_ch {b : Int32} (h : 0 ≤ b.toInt ∧ b.toInt < 128) : nar .char ((b &&& (255 : Int32)).toUInt32.toUInt16.toUInt32.toInt32) = b := by
  rw [own_m h, own_cc ⟨h.1, by omega⟩, own_nc ⟨h.1, by omega⟩]
theorem own_h0 {j : Int32} (h : 0 ≤ j.toInt ∧ j.toInt < 16) : 48 ≤ (own_hx j).toInt ∧ (own_hx j).toInt ≤ 70 := by
  unfold own_hx
  have z : (10 : Int32).toInt = 10 := by decide
  have z4 : (48 : Int32).toInt = 48 := by decide
  have z5 : (55 : Int32).toInt = 55 := by decide
  by_cases q : j < (10 : Int32)
  · rw [if_pos q]
    rw [Int32.lt_iff_toInt_lt] at q
    have a := c_iadd 48 j
    have r := rng32 (48 + j)
    omega
  · rw [if_neg q]
    rw [Int32.lt_iff_toInt_lt] at q
    have a := c_iadd 55 j
    have r := rng32 (55 + j)
    omega
theorem own_hr {j : Int32} (h : 0 ≤ j.toInt ∧ j.toInt < 16) : 0 ≤ (own_hx j).toInt ∧ (own_hx j).toInt < 128 := by
  have := own_h0 h
  omega
theorem own_hi {v : Int32} (h : 0 ≤ v.toInt ∧ v.toInt ≤ 255) : 0 ≤ (v >>> ((4 : Int32) &&& 31)).toInt ∧ (v >>> ((4 : Int32) &&& 31)).toInt < 16 := by
  rw [c_ishr v 4 4 (by decide)]
  omega
theorem own_lo (v : Int32) : 0 ≤ (v &&& (15 : Int32)).toInt ∧ (v &&& (15 : Int32)).toInt < 16 := by
  rw [c_mask v (15 : Int32) 4 (by decide) (by decide)]
  omega
theorem own_x1 {j : Int32} (h : 0 ≤ j.toInt ∧ j.toInt < 16) (q : j < (10 : Int32)) : nar .char (((48 : Int32) + j).toUInt32.toUInt16.toUInt32.toInt32) = own_hx j := by
  have r := own_h0 h
  rw [own_hx, if_pos q] at r ⊢
  rw [own_cc ⟨by omega, by omega⟩, own_nc ⟨by omega, by omega⟩]
theorem own_x2 {j : Int32} (h : 0 ≤ j.toInt ∧ j.toInt < 16) (q : ¬ j < (10 : Int32)) : nar .char ((((65 : Int32) + j) - (10 : Int32)).toUInt32.toUInt16.toUInt32.toInt32) = own_hx j := by
  have r := own_h0 h
  rw [own_hx, if_neg q] at r ⊢
  have e : ((65 : Int32) + j) - (10 : Int32) = (55 : Int32) + j := by grind
  rw [e, own_cc ⟨by omega, by omega⟩, own_nc ⟨by omega, by omega⟩]

theorem own_k65 : (65 : Int32).toInt = 65 := by decide
theorem own_k90 : (90 : Int32).toInt = 90 := by decide
theorem own_k97 : (97 : Int32).toInt = 97 := by decide
theorem own_k122 : (122 : Int32).toInt = 122 := by decide
theorem own_k48 : (48 : Int32).toInt = 48 := by decide
theorem own_k57 : (57 : Int32).toInt = 57 := by decide
theorem own_k45 : (45 : Int32).toInt = 45 := by decide
theorem own_k46 : (46 : Int32).toInt = 46 := by decide
theorem own_k95 : (95 : Int32).toInt = 95 := by decide
theorem own_k126 : (126 : Int32).toInt = 126 := by decide

theorem d18_0 : decode method_3_code 0 = .ok (.iload_n 0, 1) := by decide +kernel
theorem d18_1 : decode method_3_code 1 = .ok (.bipush 65, 2) := by decide +kernel
theorem d18_3 : decode method_3_code 3 = .ok (.if_icmp .lt 11, 3) := by decide +kernel
theorem d18_6 : decode method_3_code 6 = .ok (.iload_n 0, 1) := by decide +kernel
theorem d18_7 : decode method_3_code 7 = .ok (.bipush 90, 2) := by decide +kernel
theorem d18_9 : decode method_3_code 9 = .ok (.if_icmp .gt 5, 3) := by decide +kernel
theorem d18_12 : decode method_3_code 12 = .ok (.iconst 1, 1) := by decide +kernel
theorem d18_13 : decode method_3_code 13 = .ok (.ireturn, 1) := by decide +kernel
theorem d18_14 : decode method_3_code 14 = .ok (.iload_n 0, 1) := by decide +kernel
theorem d18_15 : decode method_3_code 15 = .ok (.bipush 97, 2) := by decide +kernel
theorem d18_17 : decode method_3_code 17 = .ok (.if_icmp .lt 11, 3) := by decide +kernel
theorem d18_20 : decode method_3_code 20 = .ok (.iload_n 0, 1) := by decide +kernel
theorem d18_21 : decode method_3_code 21 = .ok (.bipush 122, 2) := by decide +kernel
theorem d18_23 : decode method_3_code 23 = .ok (.if_icmp .gt 5, 3) := by decide +kernel
theorem d18_26 : decode method_3_code 26 = .ok (.iconst 1, 1) := by decide +kernel
theorem d18_27 : decode method_3_code 27 = .ok (.ireturn, 1) := by decide +kernel
theorem d18_28 : decode method_3_code 28 = .ok (.iload_n 0, 1) := by decide +kernel
theorem d18_29 : decode method_3_code 29 = .ok (.bipush 48, 2) := by decide +kernel
theorem d18_31 : decode method_3_code 31 = .ok (.if_icmp .lt 11, 3) := by decide +kernel
theorem d18_34 : decode method_3_code 34 = .ok (.iload_n 0, 1) := by decide +kernel
theorem d18_35 : decode method_3_code 35 = .ok (.bipush 57, 2) := by decide +kernel
theorem d18_37 : decode method_3_code 37 = .ok (.if_icmp .gt 5, 3) := by decide +kernel
theorem d18_40 : decode method_3_code 40 = .ok (.iconst 1, 1) := by decide +kernel
theorem d18_41 : decode method_3_code 41 = .ok (.ireturn, 1) := by decide +kernel
theorem d18_42 : decode method_3_code 42 = .ok (.iload_n 0, 1) := by decide +kernel
theorem d18_43 : decode method_3_code 43 = .ok (.bipush 45, 2) := by decide +kernel
theorem d18_45 : decode method_3_code 45 = .ok (.if_icmp .eq 21, 3) := by decide +kernel
theorem d18_48 : decode method_3_code 48 = .ok (.iload_n 0, 1) := by decide +kernel
theorem d18_49 : decode method_3_code 49 = .ok (.bipush 46, 2) := by decide +kernel
theorem d18_51 : decode method_3_code 51 = .ok (.if_icmp .eq 15, 3) := by decide +kernel
theorem d18_54 : decode method_3_code 54 = .ok (.iload_n 0, 1) := by decide +kernel
theorem d18_55 : decode method_3_code 55 = .ok (.bipush 95, 2) := by decide +kernel
theorem d18_57 : decode method_3_code 57 = .ok (.if_icmp .eq 9, 3) := by decide +kernel
theorem d18_60 : decode method_3_code 60 = .ok (.iload_n 0, 1) := by decide +kernel
theorem d18_61 : decode method_3_code 61 = .ok (.bipush 126, 2) := by decide +kernel
theorem d18_63 : decode method_3_code 63 = .ok (.if_icmp .ne 7, 3) := by decide +kernel
theorem d18_66 : decode method_3_code 66 = .ok (.iconst 1, 1) := by decide +kernel
theorem d18_67 : decode method_3_code 67 = .ok (.goto 4, 3) := by decide +kernel
theorem d18_70 : decode method_3_code 70 = .ok (.iconst 0, 1) := by decide +kernel
theorem d18_71 : decode method_3_code 71 = .ok (.ireturn, 1) := by decide +kernel
theorem pn_rm18 : plainName "com/example/plumbago/plumbago/server/EntryPathsEncodePinLaw" = true := by first | (simp [plainName, overriddenIn]; done) | decide +kernel
theorem ef_rm18 (m : MethodId) (vv : Int32) : entryFrame m #[(.int vv)] 1 = mkF m 0 #[iv vv] [] := by first | (simp [entryFrame, mkF, argsToLocals, Value.category]; done) | rfl
def Q18 (Z : State) (vv : Int32) (h0 : Heap) (n0 : Nat) (v : Option Value) (h : Heap) (L : List Loc) : Prop := v = some (.int (if own_U vv then (1 : Int32) else (0 : Int32))) ∧ Fr n0 L ∧ h = h0
set_option maxRecDepth 65536 in
set_option maxHeartbeats 40000000 in
theorem rm18 (l : Launch) (Z : State) (a0 : Array Value) (hw : ∀ d ∈ tables_1, d.before a0 Z = true) (ws : List Jvm.Cond) (vv : Int32) (h0 : Heap) (n0 : Nat) (Z0 : n0 ≤ h0.size)  :
    MetFree l (⟨"com/example/plumbago/plumbago/server/EntryPathsEncodePinLaw", "unreserved", "(I)Z"⟩ : MethodName) (head1 (Jvm.Cond.code (⟨"com/example/plumbago/plumbago/server/EntryPathsEncodePinLaw", "unreserved", "(I)Z"⟩ : MethodName) method_3_code 1 (some .boolean) :: ws) ({ frames := 0, cells := 0, slots := 0, locals := 0 } : Room)) (fun aa U => aa = #[(.int vv)] ∧ Z.Warmed39 U.vm ∧ U.heap = h0) (fun _ _ _ _ _ => True) (fun _ U o U' => ∃ v L, o = .returned v ∧ Q18 Z vv h0 n0 v U'.heap L ∧ FrameEnd U o U' L ({ frames := 0, cells := 0, slots := 0, locals := 0 } : Room).cells ({ frames := 0, cells := 0, slots := 0, locals := 0 } : Room).slots) := by
  refine MetFree.of_bodySF (plainFor_of_name pn_rm18) hisR ?_
  intro p e s m args below meth c s₁ Bd hml0 hP hK
  obtain ⟨rfl, hZ, hh⟩ := hP
  have hx := Bd.exec
  have hby := Bd.bytes
  have hml : c.maxLocals = 1 := hml0
  have hown : s.vm.findClass "com/example/plumbago/plumbago/server/EntryPathsEncodePinLaw" = some m.cls := findClass_of_methodNamed Bd.named
  have hnm := (name_of_methodNamed Bd.named Bd.method).1
  have X0 : Stand p l e ({ frames := 0, cells := 0, slots := 0, locals := 0 } : Room) s m #[(.int vv)] below meth c s₁ [] 0 0 := Stand.of_body Bd
  have e0 : s₁.heap = h0 := by rw [← hh, Bd.state]; rfl
  have N0 := Fr.nil n0
  change OE p.tables e below _ _
  refine OE.v (fun t k => castTop (ef_rm18 m vv) k) ?_
  show OE _ _ _ _ (s₁.setTop (mkF m 0 #[iv vv] []))
  refine OE.v (fun t k => XS.iloadN X0.here hx rfl (hb hby d18_0) rfl k) ?_
  refine OE.v (fun t k => XS.bipush X0.here hx rfl (hb hby d18_1) k) ?_
  show OE _ _ _ _ (s₁.setTop (mkF m 3 #[iv vv] [(.int 65), (.int vv)]))
  by_cases hc3_1 : vv < (65 : Int32)
  ·
    refine OE.v (fun t k => XS.icmpYes X0.here hx rfl (pc0 := 3) (pc' := 14) rfl (hb hby d18_3) rfl (tlt hc3_1).1 (by decide) (by decide) k) ?_
    show OE _ _ _ _ (s₁.setTop (mkF m 14 #[iv vv] []))
    refine OE.v (fun t k => XS.iloadN X0.here hx rfl (hb hby d18_14) rfl k) ?_
    refine OE.v (fun t k => XS.bipush X0.here hx rfl (hb hby d18_15) k) ?_
    show OE _ _ _ _ (s₁.setTop (mkF m 17 #[iv vv] [(.int 97), (.int vv)]))
    by_cases hc17_2 : vv < (97 : Int32)
    ·
      refine OE.v (fun t k => XS.icmpYes X0.here hx rfl (pc0 := 17) (pc' := 28) rfl (hb hby d18_17) rfl (tlt hc17_2).1 (by decide) (by decide) k) ?_
      show OE _ _ _ _ (s₁.setTop (mkF m 28 #[iv vv] []))
      refine OE.v (fun t k => XS.iloadN X0.here hx rfl (hb hby d18_28) rfl k) ?_
      refine OE.v (fun t k => XS.bipush X0.here hx rfl (hb hby d18_29) k) ?_
      show OE _ _ _ _ (s₁.setTop (mkF m 31 #[iv vv] [(.int 48), (.int vv)]))
      by_cases hc31_3 : vv < (48 : Int32)
      ·
        refine OE.v (fun t k => XS.icmpYes X0.here hx rfl (pc0 := 31) (pc' := 42) rfl (hb hby d18_31) rfl (tlt hc31_3).1 (by decide) (by decide) k) ?_
        show OE _ _ _ _ (s₁.setTop (mkF m 42 #[iv vv] []))
        refine OE.v (fun t k => XS.iloadN X0.here hx rfl (hb hby d18_42) rfl k) ?_
        refine OE.v (fun t k => XS.bipush X0.here hx rfl (hb hby d18_43) k) ?_
        show OE _ _ _ _ (s₁.setTop (mkF m 45 #[iv vv] [(.int 45), (.int vv)]))
        by_cases hc45_4 : vv = (45 : Int32)
        ·
          refine OE.v (fun t k => XS.icmpYes X0.here hx rfl (pc0 := 45) (pc' := 66) rfl (hb hby d18_45) rfl (teq hc45_4).1 (by decide) (by decide) k) ?_
          show OE _ _ _ _ (s₁.setTop (mkF m 66 #[iv vv] []))
          refine OE.v (fun t k => XS.iconst X0.here hx rfl (hb hby d18_66) k) ?_
          refine OE.v (fun t k => XS.goto X0.here hx rfl (pc0 := 67) (pc' := 71) rfl (hb hby d18_67) (by decide) (by decide) k) ?_
          show OE _ _ _ _ (s₁.setTop (mkF m 71 #[iv vv] [(.int 1)]))
          obtain ⟨fs, hr, hrun, hended, hW, hsame⟩ := X0.leave (v := some (.int 1)) (fun h => by rw [Bd.returns] at h; cases h)
          refine ⟨_, _, ?_, hrun, hended, _, _, rfl, ?_, ⟨_, rfl⟩, hW, hsame.mono (by decide) (by decide)⟩
          · exact retN X0 hx (t := .boolean) Bd.returns (by simp) (hb hby d18_71) hr
          · show Q18 Z vv h0 n0 _ s₁.heap _
            rw [e0]
            exact ⟨(by rw [if_pos (by simp only [← Int32.toInt_inj, Int32.lt_iff_toInt_lt, own_k65, own_k90, own_k97, own_k122, own_k48, own_k57, own_k45, own_k46, own_k95, own_k126] at hc3_1 hc17_2 hc31_3 hc45_4; unfold own_U; omega)]), N0, rfl⟩
        ·
          refine OE.v (fun t k => XS.icmpNo X0.here hx rfl (hb hby d18_45) rfl (feq hc45_4).1 k) ?_
          show OE _ _ _ _ (s₁.setTop (mkF m 48 #[iv vv] []))
          refine OE.v (fun t k => XS.iloadN X0.here hx rfl (hb hby d18_48) rfl k) ?_
          refine OE.v (fun t k => XS.bipush X0.here hx rfl (hb hby d18_49) k) ?_
          show OE _ _ _ _ (s₁.setTop (mkF m 51 #[iv vv] [(.int 46), (.int vv)]))
          by_cases hc51_5 : vv = (46 : Int32)
          ·
            refine OE.v (fun t k => XS.icmpYes X0.here hx rfl (pc0 := 51) (pc' := 66) rfl (hb hby d18_51) rfl (teq hc51_5).1 (by decide) (by decide) k) ?_
            show OE _ _ _ _ (s₁.setTop (mkF m 66 #[iv vv] []))
            refine OE.v (fun t k => XS.iconst X0.here hx rfl (hb hby d18_66) k) ?_
            refine OE.v (fun t k => XS.goto X0.here hx rfl (pc0 := 67) (pc' := 71) rfl (hb hby d18_67) (by decide) (by decide) k) ?_
            show OE _ _ _ _ (s₁.setTop (mkF m 71 #[iv vv] [(.int 1)]))
            obtain ⟨fs, hr, hrun, hended, hW, hsame⟩ := X0.leave (v := some (.int 1)) (fun h => by rw [Bd.returns] at h; cases h)
            refine ⟨_, _, ?_, hrun, hended, _, _, rfl, ?_, ⟨_, rfl⟩, hW, hsame.mono (by decide) (by decide)⟩
            · exact retN X0 hx (t := .boolean) Bd.returns (by simp) (hb hby d18_71) hr
            · show Q18 Z vv h0 n0 _ s₁.heap _
              rw [e0]
              exact ⟨(by rw [if_pos (by simp only [← Int32.toInt_inj, Int32.lt_iff_toInt_lt, own_k65, own_k90, own_k97, own_k122, own_k48, own_k57, own_k45, own_k46, own_k95, own_k126] at hc3_1 hc17_2 hc31_3 hc45_4 hc51_5; unfold own_U; omega)]), N0, rfl⟩
          ·
            refine OE.v (fun t k => XS.icmpNo X0.here hx rfl (hb hby d18_51) rfl (feq hc51_5).1 k) ?_
            show OE _ _ _ _ (s₁.setTop (mkF m 54 #[iv vv] []))
            refine OE.v (fun t k => XS.iloadN X0.here hx rfl (hb hby d18_54) rfl k) ?_
            refine OE.v (fun t k => XS.bipush X0.here hx rfl (hb hby d18_55) k) ?_
            show OE _ _ _ _ (s₁.setTop (mkF m 57 #[iv vv] [(.int 95), (.int vv)]))
            by_cases hc57_6 : vv = (95 : Int32)
            ·
              refine OE.v (fun t k => XS.icmpYes X0.here hx rfl (pc0 := 57) (pc' := 66) rfl (hb hby d18_57) rfl (teq hc57_6).1 (by decide) (by decide) k) ?_
              show OE _ _ _ _ (s₁.setTop (mkF m 66 #[iv vv] []))
              refine OE.v (fun t k => XS.iconst X0.here hx rfl (hb hby d18_66) k) ?_
              refine OE.v (fun t k => XS.goto X0.here hx rfl (pc0 := 67) (pc' := 71) rfl (hb hby d18_67) (by decide) (by decide) k) ?_
              show OE _ _ _ _ (s₁.setTop (mkF m 71 #[iv vv] [(.int 1)]))
              obtain ⟨fs, hr, hrun, hended, hW, hsame⟩ := X0.leave (v := some (.int 1)) (fun h => by rw [Bd.returns] at h; cases h)
              refine ⟨_, _, ?_, hrun, hended, _, _, rfl, ?_, ⟨_, rfl⟩, hW, hsame.mono (by decide) (by decide)⟩
              · exact retN X0 hx (t := .boolean) Bd.returns (by simp) (hb hby d18_71) hr
              · show Q18 Z vv h0 n0 _ s₁.heap _
                rw [e0]
                exact ⟨(by rw [if_pos (by simp only [← Int32.toInt_inj, Int32.lt_iff_toInt_lt, own_k65, own_k90, own_k97, own_k122, own_k48, own_k57, own_k45, own_k46, own_k95, own_k126] at hc3_1 hc17_2 hc31_3 hc45_4 hc51_5 hc57_6; unfold own_U; omega)]), N0, rfl⟩
            ·
              refine OE.v (fun t k => XS.icmpNo X0.here hx rfl (hb hby d18_57) rfl (feq hc57_6).1 k) ?_
              show OE _ _ _ _ (s₁.setTop (mkF m 60 #[iv vv] []))
              refine OE.v (fun t k => XS.iloadN X0.here hx rfl (hb hby d18_60) rfl k) ?_
              refine OE.v (fun t k => XS.bipush X0.here hx rfl (hb hby d18_61) k) ?_
              show OE _ _ _ _ (s₁.setTop (mkF m 63 #[iv vv] [(.int 126), (.int vv)]))
              by_cases hc63_7 : vv = (126 : Int32)
              ·
                refine OE.v (fun t k => XS.icmpNo X0.here hx rfl (hb hby d18_63) rfl (teq hc63_7).2 k) ?_
                show OE _ _ _ _ (s₁.setTop (mkF m 66 #[iv vv] []))
                refine OE.v (fun t k => XS.iconst X0.here hx rfl (hb hby d18_66) k) ?_
                refine OE.v (fun t k => XS.goto X0.here hx rfl (pc0 := 67) (pc' := 71) rfl (hb hby d18_67) (by decide) (by decide) k) ?_
                show OE _ _ _ _ (s₁.setTop (mkF m 71 #[iv vv] [(.int 1)]))
                obtain ⟨fs, hr, hrun, hended, hW, hsame⟩ := X0.leave (v := some (.int 1)) (fun h => by rw [Bd.returns] at h; cases h)
                refine ⟨_, _, ?_, hrun, hended, _, _, rfl, ?_, ⟨_, rfl⟩, hW, hsame.mono (by decide) (by decide)⟩
                · exact retN X0 hx (t := .boolean) Bd.returns (by simp) (hb hby d18_71) hr
                · show Q18 Z vv h0 n0 _ s₁.heap _
                  rw [e0]
                  exact ⟨(by rw [if_pos (by simp only [← Int32.toInt_inj, Int32.lt_iff_toInt_lt, own_k65, own_k90, own_k97, own_k122, own_k48, own_k57, own_k45, own_k46, own_k95, own_k126] at hc3_1 hc17_2 hc31_3 hc45_4 hc51_5 hc57_6 hc63_7; unfold own_U; omega)]), N0, rfl⟩
              ·
                refine OE.v (fun t k => XS.icmpYes X0.here hx rfl (pc0 := 63) (pc' := 70) rfl (hb hby d18_63) rfl (feq hc63_7).2 (by decide) (by decide) k) ?_
                show OE _ _ _ _ (s₁.setTop (mkF m 70 #[iv vv] []))
                refine OE.v (fun t k => XS.iconst X0.here hx rfl (hb hby d18_70) k) ?_
                show OE _ _ _ _ (s₁.setTop (mkF m 71 #[iv vv] [(.int 0)]))
                obtain ⟨fs, hr, hrun, hended, hW, hsame⟩ := X0.leave (v := some (.int 0)) (fun h => by rw [Bd.returns] at h; cases h)
                refine ⟨_, _, ?_, hrun, hended, _, _, rfl, ?_, ⟨_, rfl⟩, hW, hsame.mono (by decide) (by decide)⟩
                · exact retN X0 hx (t := .boolean) Bd.returns (by simp) (hb hby d18_71) hr
                · show Q18 Z vv h0 n0 _ s₁.heap _
                  rw [e0]
                  exact ⟨(by rw [if_neg (by simp only [← Int32.toInt_inj, Int32.lt_iff_toInt_lt, own_k65, own_k90, own_k97, own_k122, own_k48, own_k57, own_k45, own_k46, own_k95, own_k126] at hc3_1 hc17_2 hc31_3 hc45_4 hc51_5 hc57_6 hc63_7; unfold own_U; omega)]), N0, rfl⟩
      ·
        refine OE.v (fun t k => XS.icmpNo X0.here hx rfl (hb hby d18_31) rfl (flt hc31_3).1 k) ?_
        show OE _ _ _ _ (s₁.setTop (mkF m 34 #[iv vv] []))
        refine OE.v (fun t k => XS.iloadN X0.here hx rfl (hb hby d18_34) rfl k) ?_
        refine OE.v (fun t k => XS.bipush X0.here hx rfl (hb hby d18_35) k) ?_
        show OE _ _ _ _ (s₁.setTop (mkF m 37 #[iv vv] [(.int 57), (.int vv)]))
        by_cases hc37_8 : (57 : Int32) < vv
        ·
          refine OE.v (fun t k => XS.icmpYes X0.here hx rfl (pc0 := 37) (pc' := 42) rfl (hb hby d18_37) rfl (tlt hc37_8).2.2.1 (by decide) (by decide) k) ?_
          show OE _ _ _ _ (s₁.setTop (mkF m 42 #[iv vv] []))
          refine OE.v (fun t k => XS.iloadN X0.here hx rfl (hb hby d18_42) rfl k) ?_
          refine OE.v (fun t k => XS.bipush X0.here hx rfl (hb hby d18_43) k) ?_
          show OE _ _ _ _ (s₁.setTop (mkF m 45 #[iv vv] [(.int 45), (.int vv)]))
          by_cases hc45_9 : vv = (45 : Int32)
          ·
            refine OE.v (fun t k => XS.icmpYes X0.here hx rfl (pc0 := 45) (pc' := 66) rfl (hb hby d18_45) rfl (teq hc45_9).1 (by decide) (by decide) k) ?_
            show OE _ _ _ _ (s₁.setTop (mkF m 66 #[iv vv] []))
            refine OE.v (fun t k => XS.iconst X0.here hx rfl (hb hby d18_66) k) ?_
            refine OE.v (fun t k => XS.goto X0.here hx rfl (pc0 := 67) (pc' := 71) rfl (hb hby d18_67) (by decide) (by decide) k) ?_
            show OE _ _ _ _ (s₁.setTop (mkF m 71 #[iv vv] [(.int 1)]))
            obtain ⟨fs, hr, hrun, hended, hW, hsame⟩ := X0.leave (v := some (.int 1)) (fun h => by rw [Bd.returns] at h; cases h)
            refine ⟨_, _, ?_, hrun, hended, _, _, rfl, ?_, ⟨_, rfl⟩, hW, hsame.mono (by decide) (by decide)⟩
            · exact retN X0 hx (t := .boolean) Bd.returns (by simp) (hb hby d18_71) hr
            · show Q18 Z vv h0 n0 _ s₁.heap _
              rw [e0]
              exact ⟨(by rw [if_pos (by simp only [← Int32.toInt_inj, Int32.lt_iff_toInt_lt, own_k65, own_k90, own_k97, own_k122, own_k48, own_k57, own_k45, own_k46, own_k95, own_k126] at hc3_1 hc17_2 hc31_3 hc37_8 hc45_9; unfold own_U; omega)]), N0, rfl⟩
          ·
            refine OE.v (fun t k => XS.icmpNo X0.here hx rfl (hb hby d18_45) rfl (feq hc45_9).1 k) ?_
            show OE _ _ _ _ (s₁.setTop (mkF m 48 #[iv vv] []))
            refine OE.v (fun t k => XS.iloadN X0.here hx rfl (hb hby d18_48) rfl k) ?_
            refine OE.v (fun t k => XS.bipush X0.here hx rfl (hb hby d18_49) k) ?_
            show OE _ _ _ _ (s₁.setTop (mkF m 51 #[iv vv] [(.int 46), (.int vv)]))
            by_cases hc51_10 : vv = (46 : Int32)
            ·
              refine OE.v (fun t k => XS.icmpYes X0.here hx rfl (pc0 := 51) (pc' := 66) rfl (hb hby d18_51) rfl (teq hc51_10).1 (by decide) (by decide) k) ?_
              show OE _ _ _ _ (s₁.setTop (mkF m 66 #[iv vv] []))
              refine OE.v (fun t k => XS.iconst X0.here hx rfl (hb hby d18_66) k) ?_
              refine OE.v (fun t k => XS.goto X0.here hx rfl (pc0 := 67) (pc' := 71) rfl (hb hby d18_67) (by decide) (by decide) k) ?_
              show OE _ _ _ _ (s₁.setTop (mkF m 71 #[iv vv] [(.int 1)]))
              obtain ⟨fs, hr, hrun, hended, hW, hsame⟩ := X0.leave (v := some (.int 1)) (fun h => by rw [Bd.returns] at h; cases h)
              refine ⟨_, _, ?_, hrun, hended, _, _, rfl, ?_, ⟨_, rfl⟩, hW, hsame.mono (by decide) (by decide)⟩
              · exact retN X0 hx (t := .boolean) Bd.returns (by simp) (hb hby d18_71) hr
              · show Q18 Z vv h0 n0 _ s₁.heap _
                rw [e0]
                exact ⟨(by rw [if_pos (by simp only [← Int32.toInt_inj, Int32.lt_iff_toInt_lt, own_k65, own_k90, own_k97, own_k122, own_k48, own_k57, own_k45, own_k46, own_k95, own_k126] at hc3_1 hc17_2 hc31_3 hc37_8 hc45_9 hc51_10; unfold own_U; omega)]), N0, rfl⟩
            ·
              refine OE.v (fun t k => XS.icmpNo X0.here hx rfl (hb hby d18_51) rfl (feq hc51_10).1 k) ?_
              show OE _ _ _ _ (s₁.setTop (mkF m 54 #[iv vv] []))
              refine OE.v (fun t k => XS.iloadN X0.here hx rfl (hb hby d18_54) rfl k) ?_
              refine OE.v (fun t k => XS.bipush X0.here hx rfl (hb hby d18_55) k) ?_
              show OE _ _ _ _ (s₁.setTop (mkF m 57 #[iv vv] [(.int 95), (.int vv)]))
              by_cases hc57_11 : vv = (95 : Int32)
              ·
                refine OE.v (fun t k => XS.icmpYes X0.here hx rfl (pc0 := 57) (pc' := 66) rfl (hb hby d18_57) rfl (teq hc57_11).1 (by decide) (by decide) k) ?_
                show OE _ _ _ _ (s₁.setTop (mkF m 66 #[iv vv] []))
                refine OE.v (fun t k => XS.iconst X0.here hx rfl (hb hby d18_66) k) ?_
                refine OE.v (fun t k => XS.goto X0.here hx rfl (pc0 := 67) (pc' := 71) rfl (hb hby d18_67) (by decide) (by decide) k) ?_
                show OE _ _ _ _ (s₁.setTop (mkF m 71 #[iv vv] [(.int 1)]))
                obtain ⟨fs, hr, hrun, hended, hW, hsame⟩ := X0.leave (v := some (.int 1)) (fun h => by rw [Bd.returns] at h; cases h)
                refine ⟨_, _, ?_, hrun, hended, _, _, rfl, ?_, ⟨_, rfl⟩, hW, hsame.mono (by decide) (by decide)⟩
                · exact retN X0 hx (t := .boolean) Bd.returns (by simp) (hb hby d18_71) hr
                · show Q18 Z vv h0 n0 _ s₁.heap _
                  rw [e0]
                  exact ⟨(by rw [if_pos (by simp only [← Int32.toInt_inj, Int32.lt_iff_toInt_lt, own_k65, own_k90, own_k97, own_k122, own_k48, own_k57, own_k45, own_k46, own_k95, own_k126] at hc3_1 hc17_2 hc31_3 hc37_8 hc45_9 hc51_10 hc57_11; unfold own_U; omega)]), N0, rfl⟩
              ·
                refine OE.v (fun t k => XS.icmpNo X0.here hx rfl (hb hby d18_57) rfl (feq hc57_11).1 k) ?_
                show OE _ _ _ _ (s₁.setTop (mkF m 60 #[iv vv] []))
                refine OE.v (fun t k => XS.iloadN X0.here hx rfl (hb hby d18_60) rfl k) ?_
                refine OE.v (fun t k => XS.bipush X0.here hx rfl (hb hby d18_61) k) ?_
                show OE _ _ _ _ (s₁.setTop (mkF m 63 #[iv vv] [(.int 126), (.int vv)]))
                by_cases hc63_12 : vv = (126 : Int32)
                ·
                  refine OE.v (fun t k => XS.icmpNo X0.here hx rfl (hb hby d18_63) rfl (teq hc63_12).2 k) ?_
                  show OE _ _ _ _ (s₁.setTop (mkF m 66 #[iv vv] []))
                  refine OE.v (fun t k => XS.iconst X0.here hx rfl (hb hby d18_66) k) ?_
                  refine OE.v (fun t k => XS.goto X0.here hx rfl (pc0 := 67) (pc' := 71) rfl (hb hby d18_67) (by decide) (by decide) k) ?_
                  show OE _ _ _ _ (s₁.setTop (mkF m 71 #[iv vv] [(.int 1)]))
                  obtain ⟨fs, hr, hrun, hended, hW, hsame⟩ := X0.leave (v := some (.int 1)) (fun h => by rw [Bd.returns] at h; cases h)
                  refine ⟨_, _, ?_, hrun, hended, _, _, rfl, ?_, ⟨_, rfl⟩, hW, hsame.mono (by decide) (by decide)⟩
                  · exact retN X0 hx (t := .boolean) Bd.returns (by simp) (hb hby d18_71) hr
                  · show Q18 Z vv h0 n0 _ s₁.heap _
                    rw [e0]
                    exact ⟨(by rw [if_pos (by simp only [← Int32.toInt_inj, Int32.lt_iff_toInt_lt, own_k65, own_k90, own_k97, own_k122, own_k48, own_k57, own_k45, own_k46, own_k95, own_k126] at hc3_1 hc17_2 hc31_3 hc37_8 hc45_9 hc51_10 hc57_11 hc63_12; unfold own_U; omega)]), N0, rfl⟩
                ·
                  refine OE.v (fun t k => XS.icmpYes X0.here hx rfl (pc0 := 63) (pc' := 70) rfl (hb hby d18_63) rfl (feq hc63_12).2 (by decide) (by decide) k) ?_
                  show OE _ _ _ _ (s₁.setTop (mkF m 70 #[iv vv] []))
                  refine OE.v (fun t k => XS.iconst X0.here hx rfl (hb hby d18_70) k) ?_
                  show OE _ _ _ _ (s₁.setTop (mkF m 71 #[iv vv] [(.int 0)]))
                  obtain ⟨fs, hr, hrun, hended, hW, hsame⟩ := X0.leave (v := some (.int 0)) (fun h => by rw [Bd.returns] at h; cases h)
                  refine ⟨_, _, ?_, hrun, hended, _, _, rfl, ?_, ⟨_, rfl⟩, hW, hsame.mono (by decide) (by decide)⟩
                  · exact retN X0 hx (t := .boolean) Bd.returns (by simp) (hb hby d18_71) hr
                  · show Q18 Z vv h0 n0 _ s₁.heap _
                    rw [e0]
                    exact ⟨(by rw [if_neg (by simp only [← Int32.toInt_inj, Int32.lt_iff_toInt_lt, own_k65, own_k90, own_k97, own_k122, own_k48, own_k57, own_k45, own_k46, own_k95, own_k126] at hc3_1 hc17_2 hc31_3 hc37_8 hc45_9 hc51_10 hc57_11 hc63_12; unfold own_U; omega)]), N0, rfl⟩
        ·
          refine OE.v (fun t k => XS.icmpNo X0.here hx rfl (hb hby d18_37) rfl (flt hc37_8).2.2.1 k) ?_
          show OE _ _ _ _ (s₁.setTop (mkF m 40 #[iv vv] []))
          refine OE.v (fun t k => XS.iconst X0.here hx rfl (hb hby d18_40) k) ?_
          show OE _ _ _ _ (s₁.setTop (mkF m 41 #[iv vv] [(.int 1)]))
          obtain ⟨fs, hr, hrun, hended, hW, hsame⟩ := X0.leave (v := some (.int 1)) (fun h => by rw [Bd.returns] at h; cases h)
          refine ⟨_, _, ?_, hrun, hended, _, _, rfl, ?_, ⟨_, rfl⟩, hW, hsame.mono (by decide) (by decide)⟩
          · exact retN X0 hx (t := .boolean) Bd.returns (by simp) (hb hby d18_41) hr
          · show Q18 Z vv h0 n0 _ s₁.heap _
            rw [e0]
            exact ⟨(by rw [if_pos (by simp only [← Int32.toInt_inj, Int32.lt_iff_toInt_lt, own_k65, own_k90, own_k97, own_k122, own_k48, own_k57, own_k45, own_k46, own_k95, own_k126] at hc3_1 hc17_2 hc31_3 hc37_8; unfold own_U; omega)]), N0, rfl⟩
    ·
      refine OE.v (fun t k => XS.icmpNo X0.here hx rfl (hb hby d18_17) rfl (flt hc17_2).1 k) ?_
      show OE _ _ _ _ (s₁.setTop (mkF m 20 #[iv vv] []))
      refine OE.v (fun t k => XS.iloadN X0.here hx rfl (hb hby d18_20) rfl k) ?_
      refine OE.v (fun t k => XS.bipush X0.here hx rfl (hb hby d18_21) k) ?_
      show OE _ _ _ _ (s₁.setTop (mkF m 23 #[iv vv] [(.int 122), (.int vv)]))
      by_cases hc23_13 : (122 : Int32) < vv
      ·
        refine OE.v (fun t k => XS.icmpYes X0.here hx rfl (pc0 := 23) (pc' := 28) rfl (hb hby d18_23) rfl (tlt hc23_13).2.2.1 (by decide) (by decide) k) ?_
        show OE _ _ _ _ (s₁.setTop (mkF m 28 #[iv vv] []))
        refine OE.v (fun t k => XS.iloadN X0.here hx rfl (hb hby d18_28) rfl k) ?_
        refine OE.v (fun t k => XS.bipush X0.here hx rfl (hb hby d18_29) k) ?_
        show OE _ _ _ _ (s₁.setTop (mkF m 31 #[iv vv] [(.int 48), (.int vv)]))
        by_cases hc31_14 : vv < (48 : Int32)
        ·
          refine OE.v (fun t k => XS.icmpYes X0.here hx rfl (pc0 := 31) (pc' := 42) rfl (hb hby d18_31) rfl (tlt hc31_14).1 (by decide) (by decide) k) ?_
          show OE _ _ _ _ (s₁.setTop (mkF m 42 #[iv vv] []))
          refine OE.v (fun t k => XS.iloadN X0.here hx rfl (hb hby d18_42) rfl k) ?_
          refine OE.v (fun t k => XS.bipush X0.here hx rfl (hb hby d18_43) k) ?_
          show OE _ _ _ _ (s₁.setTop (mkF m 45 #[iv vv] [(.int 45), (.int vv)]))
          by_cases hc45_15 : vv = (45 : Int32)
          ·
            refine OE.v (fun t k => XS.icmpYes X0.here hx rfl (pc0 := 45) (pc' := 66) rfl (hb hby d18_45) rfl (teq hc45_15).1 (by decide) (by decide) k) ?_
            show OE _ _ _ _ (s₁.setTop (mkF m 66 #[iv vv] []))
            refine OE.v (fun t k => XS.iconst X0.here hx rfl (hb hby d18_66) k) ?_
            refine OE.v (fun t k => XS.goto X0.here hx rfl (pc0 := 67) (pc' := 71) rfl (hb hby d18_67) (by decide) (by decide) k) ?_
            show OE _ _ _ _ (s₁.setTop (mkF m 71 #[iv vv] [(.int 1)]))
            obtain ⟨fs, hr, hrun, hended, hW, hsame⟩ := X0.leave (v := some (.int 1)) (fun h => by rw [Bd.returns] at h; cases h)
            refine ⟨_, _, ?_, hrun, hended, _, _, rfl, ?_, ⟨_, rfl⟩, hW, hsame.mono (by decide) (by decide)⟩
            · exact retN X0 hx (t := .boolean) Bd.returns (by simp) (hb hby d18_71) hr
            · show Q18 Z vv h0 n0 _ s₁.heap _
              rw [e0]
              exact ⟨(by rw [if_pos (by simp only [← Int32.toInt_inj, Int32.lt_iff_toInt_lt, own_k65, own_k90, own_k97, own_k122, own_k48, own_k57, own_k45, own_k46, own_k95, own_k126] at hc3_1 hc17_2 hc23_13 hc31_14 hc45_15; unfold own_U; omega)]), N0, rfl⟩
          ·
            refine OE.v (fun t k => XS.icmpNo X0.here hx rfl (hb hby d18_45) rfl (feq hc45_15).1 k) ?_
            show OE _ _ _ _ (s₁.setTop (mkF m 48 #[iv vv] []))
            refine OE.v (fun t k => XS.iloadN X0.here hx rfl (hb hby d18_48) rfl k) ?_
            refine OE.v (fun t k => XS.bipush X0.here hx rfl (hb hby d18_49) k) ?_
            show OE _ _ _ _ (s₁.setTop (mkF m 51 #[iv vv] [(.int 46), (.int vv)]))
            by_cases hc51_16 : vv = (46 : Int32)
            ·
              refine OE.v (fun t k => XS.icmpYes X0.here hx rfl (pc0 := 51) (pc' := 66) rfl (hb hby d18_51) rfl (teq hc51_16).1 (by decide) (by decide) k) ?_
              show OE _ _ _ _ (s₁.setTop (mkF m 66 #[iv vv] []))
              refine OE.v (fun t k => XS.iconst X0.here hx rfl (hb hby d18_66) k) ?_
              refine OE.v (fun t k => XS.goto X0.here hx rfl (pc0 := 67) (pc' := 71) rfl (hb hby d18_67) (by decide) (by decide) k) ?_
              show OE _ _ _ _ (s₁.setTop (mkF m 71 #[iv vv] [(.int 1)]))
              obtain ⟨fs, hr, hrun, hended, hW, hsame⟩ := X0.leave (v := some (.int 1)) (fun h => by rw [Bd.returns] at h; cases h)
              refine ⟨_, _, ?_, hrun, hended, _, _, rfl, ?_, ⟨_, rfl⟩, hW, hsame.mono (by decide) (by decide)⟩
              · exact retN X0 hx (t := .boolean) Bd.returns (by simp) (hb hby d18_71) hr
              · show Q18 Z vv h0 n0 _ s₁.heap _
                rw [e0]
                exact ⟨(by rw [if_pos (by simp only [← Int32.toInt_inj, Int32.lt_iff_toInt_lt, own_k65, own_k90, own_k97, own_k122, own_k48, own_k57, own_k45, own_k46, own_k95, own_k126] at hc3_1 hc17_2 hc23_13 hc31_14 hc45_15 hc51_16; unfold own_U; omega)]), N0, rfl⟩
            ·
              refine OE.v (fun t k => XS.icmpNo X0.here hx rfl (hb hby d18_51) rfl (feq hc51_16).1 k) ?_
              show OE _ _ _ _ (s₁.setTop (mkF m 54 #[iv vv] []))
              refine OE.v (fun t k => XS.iloadN X0.here hx rfl (hb hby d18_54) rfl k) ?_
              refine OE.v (fun t k => XS.bipush X0.here hx rfl (hb hby d18_55) k) ?_
              show OE _ _ _ _ (s₁.setTop (mkF m 57 #[iv vv] [(.int 95), (.int vv)]))
              by_cases hc57_17 : vv = (95 : Int32)
              ·
                refine OE.v (fun t k => XS.icmpYes X0.here hx rfl (pc0 := 57) (pc' := 66) rfl (hb hby d18_57) rfl (teq hc57_17).1 (by decide) (by decide) k) ?_
                show OE _ _ _ _ (s₁.setTop (mkF m 66 #[iv vv] []))
                refine OE.v (fun t k => XS.iconst X0.here hx rfl (hb hby d18_66) k) ?_
                refine OE.v (fun t k => XS.goto X0.here hx rfl (pc0 := 67) (pc' := 71) rfl (hb hby d18_67) (by decide) (by decide) k) ?_
                show OE _ _ _ _ (s₁.setTop (mkF m 71 #[iv vv] [(.int 1)]))
                obtain ⟨fs, hr, hrun, hended, hW, hsame⟩ := X0.leave (v := some (.int 1)) (fun h => by rw [Bd.returns] at h; cases h)
                refine ⟨_, _, ?_, hrun, hended, _, _, rfl, ?_, ⟨_, rfl⟩, hW, hsame.mono (by decide) (by decide)⟩
                · exact retN X0 hx (t := .boolean) Bd.returns (by simp) (hb hby d18_71) hr
                · show Q18 Z vv h0 n0 _ s₁.heap _
                  rw [e0]
                  exact ⟨(by rw [if_pos (by simp only [← Int32.toInt_inj, Int32.lt_iff_toInt_lt, own_k65, own_k90, own_k97, own_k122, own_k48, own_k57, own_k45, own_k46, own_k95, own_k126] at hc3_1 hc17_2 hc23_13 hc31_14 hc45_15 hc51_16 hc57_17; unfold own_U; omega)]), N0, rfl⟩
              ·
                refine OE.v (fun t k => XS.icmpNo X0.here hx rfl (hb hby d18_57) rfl (feq hc57_17).1 k) ?_
                show OE _ _ _ _ (s₁.setTop (mkF m 60 #[iv vv] []))
                refine OE.v (fun t k => XS.iloadN X0.here hx rfl (hb hby d18_60) rfl k) ?_
                refine OE.v (fun t k => XS.bipush X0.here hx rfl (hb hby d18_61) k) ?_
                show OE _ _ _ _ (s₁.setTop (mkF m 63 #[iv vv] [(.int 126), (.int vv)]))
                by_cases hc63_18 : vv = (126 : Int32)
                ·
                  refine OE.v (fun t k => XS.icmpNo X0.here hx rfl (hb hby d18_63) rfl (teq hc63_18).2 k) ?_
                  show OE _ _ _ _ (s₁.setTop (mkF m 66 #[iv vv] []))
                  refine OE.v (fun t k => XS.iconst X0.here hx rfl (hb hby d18_66) k) ?_
                  refine OE.v (fun t k => XS.goto X0.here hx rfl (pc0 := 67) (pc' := 71) rfl (hb hby d18_67) (by decide) (by decide) k) ?_
                  show OE _ _ _ _ (s₁.setTop (mkF m 71 #[iv vv] [(.int 1)]))
                  obtain ⟨fs, hr, hrun, hended, hW, hsame⟩ := X0.leave (v := some (.int 1)) (fun h => by rw [Bd.returns] at h; cases h)
                  refine ⟨_, _, ?_, hrun, hended, _, _, rfl, ?_, ⟨_, rfl⟩, hW, hsame.mono (by decide) (by decide)⟩
                  · exact retN X0 hx (t := .boolean) Bd.returns (by simp) (hb hby d18_71) hr
                  · show Q18 Z vv h0 n0 _ s₁.heap _
                    rw [e0]
                    exact ⟨(by rw [if_pos (by simp only [← Int32.toInt_inj, Int32.lt_iff_toInt_lt, own_k65, own_k90, own_k97, own_k122, own_k48, own_k57, own_k45, own_k46, own_k95, own_k126] at hc3_1 hc17_2 hc23_13 hc31_14 hc45_15 hc51_16 hc57_17 hc63_18; unfold own_U; omega)]), N0, rfl⟩
                ·
                  refine OE.v (fun t k => XS.icmpYes X0.here hx rfl (pc0 := 63) (pc' := 70) rfl (hb hby d18_63) rfl (feq hc63_18).2 (by decide) (by decide) k) ?_
                  show OE _ _ _ _ (s₁.setTop (mkF m 70 #[iv vv] []))
                  refine OE.v (fun t k => XS.iconst X0.here hx rfl (hb hby d18_70) k) ?_
                  show OE _ _ _ _ (s₁.setTop (mkF m 71 #[iv vv] [(.int 0)]))
                  obtain ⟨fs, hr, hrun, hended, hW, hsame⟩ := X0.leave (v := some (.int 0)) (fun h => by rw [Bd.returns] at h; cases h)
                  refine ⟨_, _, ?_, hrun, hended, _, _, rfl, ?_, ⟨_, rfl⟩, hW, hsame.mono (by decide) (by decide)⟩
                  · exact retN X0 hx (t := .boolean) Bd.returns (by simp) (hb hby d18_71) hr
                  · show Q18 Z vv h0 n0 _ s₁.heap _
                    rw [e0]
                    exact ⟨(by rw [if_neg (by simp only [← Int32.toInt_inj, Int32.lt_iff_toInt_lt, own_k65, own_k90, own_k97, own_k122, own_k48, own_k57, own_k45, own_k46, own_k95, own_k126] at hc3_1 hc17_2 hc23_13 hc31_14 hc45_15 hc51_16 hc57_17 hc63_18; unfold own_U; omega)]), N0, rfl⟩
        ·
          refine OE.v (fun t k => XS.icmpNo X0.here hx rfl (hb hby d18_31) rfl (flt hc31_14).1 k) ?_
          show OE _ _ _ _ (s₁.setTop (mkF m 34 #[iv vv] []))
          refine OE.v (fun t k => XS.iloadN X0.here hx rfl (hb hby d18_34) rfl k) ?_
          refine OE.v (fun t k => XS.bipush X0.here hx rfl (hb hby d18_35) k) ?_
          show OE _ _ _ _ (s₁.setTop (mkF m 37 #[iv vv] [(.int 57), (.int vv)]))
          by_cases hc37_19 : (57 : Int32) < vv
          ·
            refine OE.v (fun t k => XS.icmpYes X0.here hx rfl (pc0 := 37) (pc' := 42) rfl (hb hby d18_37) rfl (tlt hc37_19).2.2.1 (by decide) (by decide) k) ?_
            show OE _ _ _ _ (s₁.setTop (mkF m 42 #[iv vv] []))
            refine OE.v (fun t k => XS.iloadN X0.here hx rfl (hb hby d18_42) rfl k) ?_
            refine OE.v (fun t k => XS.bipush X0.here hx rfl (hb hby d18_43) k) ?_
            show OE _ _ _ _ (s₁.setTop (mkF m 45 #[iv vv] [(.int 45), (.int vv)]))
            by_cases hc45_20 : vv = (45 : Int32)
            ·
              refine OE.v (fun t k => XS.icmpYes X0.here hx rfl (pc0 := 45) (pc' := 66) rfl (hb hby d18_45) rfl (teq hc45_20).1 (by decide) (by decide) k) ?_
              show OE _ _ _ _ (s₁.setTop (mkF m 66 #[iv vv] []))
              refine OE.v (fun t k => XS.iconst X0.here hx rfl (hb hby d18_66) k) ?_
              refine OE.v (fun t k => XS.goto X0.here hx rfl (pc0 := 67) (pc' := 71) rfl (hb hby d18_67) (by decide) (by decide) k) ?_
              show OE _ _ _ _ (s₁.setTop (mkF m 71 #[iv vv] [(.int 1)]))
              obtain ⟨fs, hr, hrun, hended, hW, hsame⟩ := X0.leave (v := some (.int 1)) (fun h => by rw [Bd.returns] at h; cases h)
              refine ⟨_, _, ?_, hrun, hended, _, _, rfl, ?_, ⟨_, rfl⟩, hW, hsame.mono (by decide) (by decide)⟩
              · exact retN X0 hx (t := .boolean) Bd.returns (by simp) (hb hby d18_71) hr
              · show Q18 Z vv h0 n0 _ s₁.heap _
                rw [e0]
                exact ⟨(by rw [if_pos (by simp only [← Int32.toInt_inj, Int32.lt_iff_toInt_lt, own_k65, own_k90, own_k97, own_k122, own_k48, own_k57, own_k45, own_k46, own_k95, own_k126] at hc3_1 hc17_2 hc23_13 hc31_14 hc37_19 hc45_20; unfold own_U; omega)]), N0, rfl⟩
            ·
              refine OE.v (fun t k => XS.icmpNo X0.here hx rfl (hb hby d18_45) rfl (feq hc45_20).1 k) ?_
              show OE _ _ _ _ (s₁.setTop (mkF m 48 #[iv vv] []))
              refine OE.v (fun t k => XS.iloadN X0.here hx rfl (hb hby d18_48) rfl k) ?_
              refine OE.v (fun t k => XS.bipush X0.here hx rfl (hb hby d18_49) k) ?_
              show OE _ _ _ _ (s₁.setTop (mkF m 51 #[iv vv] [(.int 46), (.int vv)]))
              by_cases hc51_21 : vv = (46 : Int32)
              ·
                refine OE.v (fun t k => XS.icmpYes X0.here hx rfl (pc0 := 51) (pc' := 66) rfl (hb hby d18_51) rfl (teq hc51_21).1 (by decide) (by decide) k) ?_
                show OE _ _ _ _ (s₁.setTop (mkF m 66 #[iv vv] []))
                refine OE.v (fun t k => XS.iconst X0.here hx rfl (hb hby d18_66) k) ?_
                refine OE.v (fun t k => XS.goto X0.here hx rfl (pc0 := 67) (pc' := 71) rfl (hb hby d18_67) (by decide) (by decide) k) ?_
                show OE _ _ _ _ (s₁.setTop (mkF m 71 #[iv vv] [(.int 1)]))
                obtain ⟨fs, hr, hrun, hended, hW, hsame⟩ := X0.leave (v := some (.int 1)) (fun h => by rw [Bd.returns] at h; cases h)
                refine ⟨_, _, ?_, hrun, hended, _, _, rfl, ?_, ⟨_, rfl⟩, hW, hsame.mono (by decide) (by decide)⟩
                · exact retN X0 hx (t := .boolean) Bd.returns (by simp) (hb hby d18_71) hr
                · show Q18 Z vv h0 n0 _ s₁.heap _
                  rw [e0]
                  exact ⟨(by rw [if_pos (by simp only [← Int32.toInt_inj, Int32.lt_iff_toInt_lt, own_k65, own_k90, own_k97, own_k122, own_k48, own_k57, own_k45, own_k46, own_k95, own_k126] at hc3_1 hc17_2 hc23_13 hc31_14 hc37_19 hc45_20 hc51_21; unfold own_U; omega)]), N0, rfl⟩
              ·
                refine OE.v (fun t k => XS.icmpNo X0.here hx rfl (hb hby d18_51) rfl (feq hc51_21).1 k) ?_
                show OE _ _ _ _ (s₁.setTop (mkF m 54 #[iv vv] []))
                refine OE.v (fun t k => XS.iloadN X0.here hx rfl (hb hby d18_54) rfl k) ?_
                refine OE.v (fun t k => XS.bipush X0.here hx rfl (hb hby d18_55) k) ?_
                show OE _ _ _ _ (s₁.setTop (mkF m 57 #[iv vv] [(.int 95), (.int vv)]))
                by_cases hc57_22 : vv = (95 : Int32)
                ·
                  refine OE.v (fun t k => XS.icmpYes X0.here hx rfl (pc0 := 57) (pc' := 66) rfl (hb hby d18_57) rfl (teq hc57_22).1 (by decide) (by decide) k) ?_
                  show OE _ _ _ _ (s₁.setTop (mkF m 66 #[iv vv] []))
                  refine OE.v (fun t k => XS.iconst X0.here hx rfl (hb hby d18_66) k) ?_
                  refine OE.v (fun t k => XS.goto X0.here hx rfl (pc0 := 67) (pc' := 71) rfl (hb hby d18_67) (by decide) (by decide) k) ?_
                  show OE _ _ _ _ (s₁.setTop (mkF m 71 #[iv vv] [(.int 1)]))
                  obtain ⟨fs, hr, hrun, hended, hW, hsame⟩ := X0.leave (v := some (.int 1)) (fun h => by rw [Bd.returns] at h; cases h)
                  refine ⟨_, _, ?_, hrun, hended, _, _, rfl, ?_, ⟨_, rfl⟩, hW, hsame.mono (by decide) (by decide)⟩
                  · exact retN X0 hx (t := .boolean) Bd.returns (by simp) (hb hby d18_71) hr
                  · show Q18 Z vv h0 n0 _ s₁.heap _
                    rw [e0]
                    exact ⟨(by rw [if_pos (by simp only [← Int32.toInt_inj, Int32.lt_iff_toInt_lt, own_k65, own_k90, own_k97, own_k122, own_k48, own_k57, own_k45, own_k46, own_k95, own_k126] at hc3_1 hc17_2 hc23_13 hc31_14 hc37_19 hc45_20 hc51_21 hc57_22; unfold own_U; omega)]), N0, rfl⟩
                ·
                  refine OE.v (fun t k => XS.icmpNo X0.here hx rfl (hb hby d18_57) rfl (feq hc57_22).1 k) ?_
                  show OE _ _ _ _ (s₁.setTop (mkF m 60 #[iv vv] []))
                  refine OE.v (fun t k => XS.iloadN X0.here hx rfl (hb hby d18_60) rfl k) ?_
                  refine OE.v (fun t k => XS.bipush X0.here hx rfl (hb hby d18_61) k) ?_
                  show OE _ _ _ _ (s₁.setTop (mkF m 63 #[iv vv] [(.int 126), (.int vv)]))
                  by_cases hc63_23 : vv = (126 : Int32)
                  ·
                    refine OE.v (fun t k => XS.icmpNo X0.here hx rfl (hb hby d18_63) rfl (teq hc63_23).2 k) ?_
                    show OE _ _ _ _ (s₁.setTop (mkF m 66 #[iv vv] []))
                    refine OE.v (fun t k => XS.iconst X0.here hx rfl (hb hby d18_66) k) ?_
                    refine OE.v (fun t k => XS.goto X0.here hx rfl (pc0 := 67) (pc' := 71) rfl (hb hby d18_67) (by decide) (by decide) k) ?_
                    show OE _ _ _ _ (s₁.setTop (mkF m 71 #[iv vv] [(.int 1)]))
                    obtain ⟨fs, hr, hrun, hended, hW, hsame⟩ := X0.leave (v := some (.int 1)) (fun h => by rw [Bd.returns] at h; cases h)
                    refine ⟨_, _, ?_, hrun, hended, _, _, rfl, ?_, ⟨_, rfl⟩, hW, hsame.mono (by decide) (by decide)⟩
                    · exact retN X0 hx (t := .boolean) Bd.returns (by simp) (hb hby d18_71) hr
                    · show Q18 Z vv h0 n0 _ s₁.heap _
                      rw [e0]
                      exact ⟨(by rw [if_pos (by simp only [← Int32.toInt_inj, Int32.lt_iff_toInt_lt, own_k65, own_k90, own_k97, own_k122, own_k48, own_k57, own_k45, own_k46, own_k95, own_k126] at hc3_1 hc17_2 hc23_13 hc31_14 hc37_19 hc45_20 hc51_21 hc57_22 hc63_23; unfold own_U; omega)]), N0, rfl⟩
                  ·
                    refine OE.v (fun t k => XS.icmpYes X0.here hx rfl (pc0 := 63) (pc' := 70) rfl (hb hby d18_63) rfl (feq hc63_23).2 (by decide) (by decide) k) ?_
                    show OE _ _ _ _ (s₁.setTop (mkF m 70 #[iv vv] []))
                    refine OE.v (fun t k => XS.iconst X0.here hx rfl (hb hby d18_70) k) ?_
                    show OE _ _ _ _ (s₁.setTop (mkF m 71 #[iv vv] [(.int 0)]))
                    obtain ⟨fs, hr, hrun, hended, hW, hsame⟩ := X0.leave (v := some (.int 0)) (fun h => by rw [Bd.returns] at h; cases h)
                    refine ⟨_, _, ?_, hrun, hended, _, _, rfl, ?_, ⟨_, rfl⟩, hW, hsame.mono (by decide) (by decide)⟩
                    · exact retN X0 hx (t := .boolean) Bd.returns (by simp) (hb hby d18_71) hr
                    · show Q18 Z vv h0 n0 _ s₁.heap _
                      rw [e0]
                      exact ⟨(by rw [if_neg (by simp only [← Int32.toInt_inj, Int32.lt_iff_toInt_lt, own_k65, own_k90, own_k97, own_k122, own_k48, own_k57, own_k45, own_k46, own_k95, own_k126] at hc3_1 hc17_2 hc23_13 hc31_14 hc37_19 hc45_20 hc51_21 hc57_22 hc63_23; unfold own_U; omega)]), N0, rfl⟩
          ·
            refine OE.v (fun t k => XS.icmpNo X0.here hx rfl (hb hby d18_37) rfl (flt hc37_19).2.2.1 k) ?_
            show OE _ _ _ _ (s₁.setTop (mkF m 40 #[iv vv] []))
            refine OE.v (fun t k => XS.iconst X0.here hx rfl (hb hby d18_40) k) ?_
            show OE _ _ _ _ (s₁.setTop (mkF m 41 #[iv vv] [(.int 1)]))
            obtain ⟨fs, hr, hrun, hended, hW, hsame⟩ := X0.leave (v := some (.int 1)) (fun h => by rw [Bd.returns] at h; cases h)
            refine ⟨_, _, ?_, hrun, hended, _, _, rfl, ?_, ⟨_, rfl⟩, hW, hsame.mono (by decide) (by decide)⟩
            · exact retN X0 hx (t := .boolean) Bd.returns (by simp) (hb hby d18_41) hr
            · show Q18 Z vv h0 n0 _ s₁.heap _
              rw [e0]
              exact ⟨(by rw [if_pos (by simp only [← Int32.toInt_inj, Int32.lt_iff_toInt_lt, own_k65, own_k90, own_k97, own_k122, own_k48, own_k57, own_k45, own_k46, own_k95, own_k126] at hc3_1 hc17_2 hc23_13 hc31_14 hc37_19; unfold own_U; omega)]), N0, rfl⟩
      ·
        refine OE.v (fun t k => XS.icmpNo X0.here hx rfl (hb hby d18_23) rfl (flt hc23_13).2.2.1 k) ?_
        show OE _ _ _ _ (s₁.setTop (mkF m 26 #[iv vv] []))
        refine OE.v (fun t k => XS.iconst X0.here hx rfl (hb hby d18_26) k) ?_
        show OE _ _ _ _ (s₁.setTop (mkF m 27 #[iv vv] [(.int 1)]))
        obtain ⟨fs, hr, hrun, hended, hW, hsame⟩ := X0.leave (v := some (.int 1)) (fun h => by rw [Bd.returns] at h; cases h)
        refine ⟨_, _, ?_, hrun, hended, _, _, rfl, ?_, ⟨_, rfl⟩, hW, hsame.mono (by decide) (by decide)⟩
        · exact retN X0 hx (t := .boolean) Bd.returns (by simp) (hb hby d18_27) hr
        · show Q18 Z vv h0 n0 _ s₁.heap _
          rw [e0]
          exact ⟨(by rw [if_pos (by simp only [← Int32.toInt_inj, Int32.lt_iff_toInt_lt, own_k65, own_k90, own_k97, own_k122, own_k48, own_k57, own_k45, own_k46, own_k95, own_k126] at hc3_1 hc17_2 hc23_13; unfold own_U; omega)]), N0, rfl⟩
  ·
    refine OE.v (fun t k => XS.icmpNo X0.here hx rfl (hb hby d18_3) rfl (flt hc3_1).1 k) ?_
    show OE _ _ _ _ (s₁.setTop (mkF m 6 #[iv vv] []))
    refine OE.v (fun t k => XS.iloadN X0.here hx rfl (hb hby d18_6) rfl k) ?_
    refine OE.v (fun t k => XS.bipush X0.here hx rfl (hb hby d18_7) k) ?_
    show OE _ _ _ _ (s₁.setTop (mkF m 9 #[iv vv] [(.int 90), (.int vv)]))
    by_cases hc9_24 : (90 : Int32) < vv
    ·
      refine OE.v (fun t k => XS.icmpYes X0.here hx rfl (pc0 := 9) (pc' := 14) rfl (hb hby d18_9) rfl (tlt hc9_24).2.2.1 (by decide) (by decide) k) ?_
      show OE _ _ _ _ (s₁.setTop (mkF m 14 #[iv vv] []))
      refine OE.v (fun t k => XS.iloadN X0.here hx rfl (hb hby d18_14) rfl k) ?_
      refine OE.v (fun t k => XS.bipush X0.here hx rfl (hb hby d18_15) k) ?_
      show OE _ _ _ _ (s₁.setTop (mkF m 17 #[iv vv] [(.int 97), (.int vv)]))
      by_cases hc17_25 : vv < (97 : Int32)
      ·
        refine OE.v (fun t k => XS.icmpYes X0.here hx rfl (pc0 := 17) (pc' := 28) rfl (hb hby d18_17) rfl (tlt hc17_25).1 (by decide) (by decide) k) ?_
        show OE _ _ _ _ (s₁.setTop (mkF m 28 #[iv vv] []))
        refine OE.v (fun t k => XS.iloadN X0.here hx rfl (hb hby d18_28) rfl k) ?_
        refine OE.v (fun t k => XS.bipush X0.here hx rfl (hb hby d18_29) k) ?_
        show OE _ _ _ _ (s₁.setTop (mkF m 31 #[iv vv] [(.int 48), (.int vv)]))
        by_cases hc31_26 : vv < (48 : Int32)
        ·
          refine OE.v (fun t k => XS.icmpYes X0.here hx rfl (pc0 := 31) (pc' := 42) rfl (hb hby d18_31) rfl (tlt hc31_26).1 (by decide) (by decide) k) ?_
          show OE _ _ _ _ (s₁.setTop (mkF m 42 #[iv vv] []))
          refine OE.v (fun t k => XS.iloadN X0.here hx rfl (hb hby d18_42) rfl k) ?_
          refine OE.v (fun t k => XS.bipush X0.here hx rfl (hb hby d18_43) k) ?_
          show OE _ _ _ _ (s₁.setTop (mkF m 45 #[iv vv] [(.int 45), (.int vv)]))
          by_cases hc45_27 : vv = (45 : Int32)
          ·
            refine OE.v (fun t k => XS.icmpYes X0.here hx rfl (pc0 := 45) (pc' := 66) rfl (hb hby d18_45) rfl (teq hc45_27).1 (by decide) (by decide) k) ?_
            show OE _ _ _ _ (s₁.setTop (mkF m 66 #[iv vv] []))
            refine OE.v (fun t k => XS.iconst X0.here hx rfl (hb hby d18_66) k) ?_
            refine OE.v (fun t k => XS.goto X0.here hx rfl (pc0 := 67) (pc' := 71) rfl (hb hby d18_67) (by decide) (by decide) k) ?_
            show OE _ _ _ _ (s₁.setTop (mkF m 71 #[iv vv] [(.int 1)]))
            obtain ⟨fs, hr, hrun, hended, hW, hsame⟩ := X0.leave (v := some (.int 1)) (fun h => by rw [Bd.returns] at h; cases h)
            refine ⟨_, _, ?_, hrun, hended, _, _, rfl, ?_, ⟨_, rfl⟩, hW, hsame.mono (by decide) (by decide)⟩
            · exact retN X0 hx (t := .boolean) Bd.returns (by simp) (hb hby d18_71) hr
            · show Q18 Z vv h0 n0 _ s₁.heap _
              rw [e0]
              exact ⟨(by rw [if_pos (by simp only [← Int32.toInt_inj, Int32.lt_iff_toInt_lt, own_k65, own_k90, own_k97, own_k122, own_k48, own_k57, own_k45, own_k46, own_k95, own_k126] at hc3_1 hc9_24 hc17_25 hc31_26 hc45_27; unfold own_U; omega)]), N0, rfl⟩
          ·
            refine OE.v (fun t k => XS.icmpNo X0.here hx rfl (hb hby d18_45) rfl (feq hc45_27).1 k) ?_
            show OE _ _ _ _ (s₁.setTop (mkF m 48 #[iv vv] []))
            refine OE.v (fun t k => XS.iloadN X0.here hx rfl (hb hby d18_48) rfl k) ?_
            refine OE.v (fun t k => XS.bipush X0.here hx rfl (hb hby d18_49) k) ?_
            show OE _ _ _ _ (s₁.setTop (mkF m 51 #[iv vv] [(.int 46), (.int vv)]))
            by_cases hc51_28 : vv = (46 : Int32)
            ·
              refine OE.v (fun t k => XS.icmpYes X0.here hx rfl (pc0 := 51) (pc' := 66) rfl (hb hby d18_51) rfl (teq hc51_28).1 (by decide) (by decide) k) ?_
              show OE _ _ _ _ (s₁.setTop (mkF m 66 #[iv vv] []))
              refine OE.v (fun t k => XS.iconst X0.here hx rfl (hb hby d18_66) k) ?_
              refine OE.v (fun t k => XS.goto X0.here hx rfl (pc0 := 67) (pc' := 71) rfl (hb hby d18_67) (by decide) (by decide) k) ?_
              show OE _ _ _ _ (s₁.setTop (mkF m 71 #[iv vv] [(.int 1)]))
              obtain ⟨fs, hr, hrun, hended, hW, hsame⟩ := X0.leave (v := some (.int 1)) (fun h => by rw [Bd.returns] at h; cases h)
              refine ⟨_, _, ?_, hrun, hended, _, _, rfl, ?_, ⟨_, rfl⟩, hW, hsame.mono (by decide) (by decide)⟩
              · exact retN X0 hx (t := .boolean) Bd.returns (by simp) (hb hby d18_71) hr
              · show Q18 Z vv h0 n0 _ s₁.heap _
                rw [e0]
                exact ⟨(by rw [if_pos (by simp only [← Int32.toInt_inj, Int32.lt_iff_toInt_lt, own_k65, own_k90, own_k97, own_k122, own_k48, own_k57, own_k45, own_k46, own_k95, own_k126] at hc3_1 hc9_24 hc17_25 hc31_26 hc45_27 hc51_28; unfold own_U; omega)]), N0, rfl⟩
            ·
              refine OE.v (fun t k => XS.icmpNo X0.here hx rfl (hb hby d18_51) rfl (feq hc51_28).1 k) ?_
              show OE _ _ _ _ (s₁.setTop (mkF m 54 #[iv vv] []))
              refine OE.v (fun t k => XS.iloadN X0.here hx rfl (hb hby d18_54) rfl k) ?_
              refine OE.v (fun t k => XS.bipush X0.here hx rfl (hb hby d18_55) k) ?_
              show OE _ _ _ _ (s₁.setTop (mkF m 57 #[iv vv] [(.int 95), (.int vv)]))
              by_cases hc57_29 : vv = (95 : Int32)
              ·
                refine OE.v (fun t k => XS.icmpYes X0.here hx rfl (pc0 := 57) (pc' := 66) rfl (hb hby d18_57) rfl (teq hc57_29).1 (by decide) (by decide) k) ?_
                show OE _ _ _ _ (s₁.setTop (mkF m 66 #[iv vv] []))
                refine OE.v (fun t k => XS.iconst X0.here hx rfl (hb hby d18_66) k) ?_
                refine OE.v (fun t k => XS.goto X0.here hx rfl (pc0 := 67) (pc' := 71) rfl (hb hby d18_67) (by decide) (by decide) k) ?_
                show OE _ _ _ _ (s₁.setTop (mkF m 71 #[iv vv] [(.int 1)]))
                obtain ⟨fs, hr, hrun, hended, hW, hsame⟩ := X0.leave (v := some (.int 1)) (fun h => by rw [Bd.returns] at h; cases h)
                refine ⟨_, _, ?_, hrun, hended, _, _, rfl, ?_, ⟨_, rfl⟩, hW, hsame.mono (by decide) (by decide)⟩
                · exact retN X0 hx (t := .boolean) Bd.returns (by simp) (hb hby d18_71) hr
                · show Q18 Z vv h0 n0 _ s₁.heap _
                  rw [e0]
                  exact ⟨(by rw [if_pos (by simp only [← Int32.toInt_inj, Int32.lt_iff_toInt_lt, own_k65, own_k90, own_k97, own_k122, own_k48, own_k57, own_k45, own_k46, own_k95, own_k126] at hc3_1 hc9_24 hc17_25 hc31_26 hc45_27 hc51_28 hc57_29; unfold own_U; omega)]), N0, rfl⟩
              ·
                refine OE.v (fun t k => XS.icmpNo X0.here hx rfl (hb hby d18_57) rfl (feq hc57_29).1 k) ?_
                show OE _ _ _ _ (s₁.setTop (mkF m 60 #[iv vv] []))
                refine OE.v (fun t k => XS.iloadN X0.here hx rfl (hb hby d18_60) rfl k) ?_
                refine OE.v (fun t k => XS.bipush X0.here hx rfl (hb hby d18_61) k) ?_
                show OE _ _ _ _ (s₁.setTop (mkF m 63 #[iv vv] [(.int 126), (.int vv)]))
                by_cases hc63_30 : vv = (126 : Int32)
                ·
                  refine OE.v (fun t k => XS.icmpNo X0.here hx rfl (hb hby d18_63) rfl (teq hc63_30).2 k) ?_
                  show OE _ _ _ _ (s₁.setTop (mkF m 66 #[iv vv] []))
                  refine OE.v (fun t k => XS.iconst X0.here hx rfl (hb hby d18_66) k) ?_
                  refine OE.v (fun t k => XS.goto X0.here hx rfl (pc0 := 67) (pc' := 71) rfl (hb hby d18_67) (by decide) (by decide) k) ?_
                  show OE _ _ _ _ (s₁.setTop (mkF m 71 #[iv vv] [(.int 1)]))
                  obtain ⟨fs, hr, hrun, hended, hW, hsame⟩ := X0.leave (v := some (.int 1)) (fun h => by rw [Bd.returns] at h; cases h)
                  refine ⟨_, _, ?_, hrun, hended, _, _, rfl, ?_, ⟨_, rfl⟩, hW, hsame.mono (by decide) (by decide)⟩
                  · exact retN X0 hx (t := .boolean) Bd.returns (by simp) (hb hby d18_71) hr
                  · show Q18 Z vv h0 n0 _ s₁.heap _
                    rw [e0]
                    exact ⟨(by rw [if_pos (by simp only [← Int32.toInt_inj, Int32.lt_iff_toInt_lt, own_k65, own_k90, own_k97, own_k122, own_k48, own_k57, own_k45, own_k46, own_k95, own_k126] at hc3_1 hc9_24 hc17_25 hc31_26 hc45_27 hc51_28 hc57_29 hc63_30; unfold own_U; omega)]), N0, rfl⟩
                ·
                  refine OE.v (fun t k => XS.icmpYes X0.here hx rfl (pc0 := 63) (pc' := 70) rfl (hb hby d18_63) rfl (feq hc63_30).2 (by decide) (by decide) k) ?_
                  show OE _ _ _ _ (s₁.setTop (mkF m 70 #[iv vv] []))
                  refine OE.v (fun t k => XS.iconst X0.here hx rfl (hb hby d18_70) k) ?_
                  show OE _ _ _ _ (s₁.setTop (mkF m 71 #[iv vv] [(.int 0)]))
                  obtain ⟨fs, hr, hrun, hended, hW, hsame⟩ := X0.leave (v := some (.int 0)) (fun h => by rw [Bd.returns] at h; cases h)
                  refine ⟨_, _, ?_, hrun, hended, _, _, rfl, ?_, ⟨_, rfl⟩, hW, hsame.mono (by decide) (by decide)⟩
                  · exact retN X0 hx (t := .boolean) Bd.returns (by simp) (hb hby d18_71) hr
                  · show Q18 Z vv h0 n0 _ s₁.heap _
                    rw [e0]
                    exact ⟨(by rw [if_neg (by simp only [← Int32.toInt_inj, Int32.lt_iff_toInt_lt, own_k65, own_k90, own_k97, own_k122, own_k48, own_k57, own_k45, own_k46, own_k95, own_k126] at hc3_1 hc9_24 hc17_25 hc31_26 hc45_27 hc51_28 hc57_29 hc63_30; unfold own_U; omega)]), N0, rfl⟩
        ·
          refine OE.v (fun t k => XS.icmpNo X0.here hx rfl (hb hby d18_31) rfl (flt hc31_26).1 k) ?_
          show OE _ _ _ _ (s₁.setTop (mkF m 34 #[iv vv] []))
          refine OE.v (fun t k => XS.iloadN X0.here hx rfl (hb hby d18_34) rfl k) ?_
          refine OE.v (fun t k => XS.bipush X0.here hx rfl (hb hby d18_35) k) ?_
          show OE _ _ _ _ (s₁.setTop (mkF m 37 #[iv vv] [(.int 57), (.int vv)]))
          by_cases hc37_31 : (57 : Int32) < vv
          ·
            refine OE.v (fun t k => XS.icmpYes X0.here hx rfl (pc0 := 37) (pc' := 42) rfl (hb hby d18_37) rfl (tlt hc37_31).2.2.1 (by decide) (by decide) k) ?_
            show OE _ _ _ _ (s₁.setTop (mkF m 42 #[iv vv] []))
            refine OE.v (fun t k => XS.iloadN X0.here hx rfl (hb hby d18_42) rfl k) ?_
            refine OE.v (fun t k => XS.bipush X0.here hx rfl (hb hby d18_43) k) ?_
            show OE _ _ _ _ (s₁.setTop (mkF m 45 #[iv vv] [(.int 45), (.int vv)]))
            by_cases hc45_32 : vv = (45 : Int32)
            ·
              refine OE.v (fun t k => XS.icmpYes X0.here hx rfl (pc0 := 45) (pc' := 66) rfl (hb hby d18_45) rfl (teq hc45_32).1 (by decide) (by decide) k) ?_
              show OE _ _ _ _ (s₁.setTop (mkF m 66 #[iv vv] []))
              refine OE.v (fun t k => XS.iconst X0.here hx rfl (hb hby d18_66) k) ?_
              refine OE.v (fun t k => XS.goto X0.here hx rfl (pc0 := 67) (pc' := 71) rfl (hb hby d18_67) (by decide) (by decide) k) ?_
              show OE _ _ _ _ (s₁.setTop (mkF m 71 #[iv vv] [(.int 1)]))
              obtain ⟨fs, hr, hrun, hended, hW, hsame⟩ := X0.leave (v := some (.int 1)) (fun h => by rw [Bd.returns] at h; cases h)
              refine ⟨_, _, ?_, hrun, hended, _, _, rfl, ?_, ⟨_, rfl⟩, hW, hsame.mono (by decide) (by decide)⟩
              · exact retN X0 hx (t := .boolean) Bd.returns (by simp) (hb hby d18_71) hr
              · show Q18 Z vv h0 n0 _ s₁.heap _
                rw [e0]
                exact ⟨(by rw [if_pos (by simp only [← Int32.toInt_inj, Int32.lt_iff_toInt_lt, own_k65, own_k90, own_k97, own_k122, own_k48, own_k57, own_k45, own_k46, own_k95, own_k126] at hc3_1 hc9_24 hc17_25 hc31_26 hc37_31 hc45_32; unfold own_U; omega)]), N0, rfl⟩
            ·
              refine OE.v (fun t k => XS.icmpNo X0.here hx rfl (hb hby d18_45) rfl (feq hc45_32).1 k) ?_
              show OE _ _ _ _ (s₁.setTop (mkF m 48 #[iv vv] []))
              refine OE.v (fun t k => XS.iloadN X0.here hx rfl (hb hby d18_48) rfl k) ?_
              refine OE.v (fun t k => XS.bipush X0.here hx rfl (hb hby d18_49) k) ?_
              show OE _ _ _ _ (s₁.setTop (mkF m 51 #[iv vv] [(.int 46), (.int vv)]))
              by_cases hc51_33 : vv = (46 : Int32)
              ·
                refine OE.v (fun t k => XS.icmpYes X0.here hx rfl (pc0 := 51) (pc' := 66) rfl (hb hby d18_51) rfl (teq hc51_33).1 (by decide) (by decide) k) ?_
                show OE _ _ _ _ (s₁.setTop (mkF m 66 #[iv vv] []))
                refine OE.v (fun t k => XS.iconst X0.here hx rfl (hb hby d18_66) k) ?_
                refine OE.v (fun t k => XS.goto X0.here hx rfl (pc0 := 67) (pc' := 71) rfl (hb hby d18_67) (by decide) (by decide) k) ?_
                show OE _ _ _ _ (s₁.setTop (mkF m 71 #[iv vv] [(.int 1)]))
                obtain ⟨fs, hr, hrun, hended, hW, hsame⟩ := X0.leave (v := some (.int 1)) (fun h => by rw [Bd.returns] at h; cases h)
                refine ⟨_, _, ?_, hrun, hended, _, _, rfl, ?_, ⟨_, rfl⟩, hW, hsame.mono (by decide) (by decide)⟩
                · exact retN X0 hx (t := .boolean) Bd.returns (by simp) (hb hby d18_71) hr
                · show Q18 Z vv h0 n0 _ s₁.heap _
                  rw [e0]
                  exact ⟨(by rw [if_pos (by simp only [← Int32.toInt_inj, Int32.lt_iff_toInt_lt, own_k65, own_k90, own_k97, own_k122, own_k48, own_k57, own_k45, own_k46, own_k95, own_k126] at hc3_1 hc9_24 hc17_25 hc31_26 hc37_31 hc45_32 hc51_33; unfold own_U; omega)]), N0, rfl⟩
              ·
                refine OE.v (fun t k => XS.icmpNo X0.here hx rfl (hb hby d18_51) rfl (feq hc51_33).1 k) ?_
                show OE _ _ _ _ (s₁.setTop (mkF m 54 #[iv vv] []))
                refine OE.v (fun t k => XS.iloadN X0.here hx rfl (hb hby d18_54) rfl k) ?_
                refine OE.v (fun t k => XS.bipush X0.here hx rfl (hb hby d18_55) k) ?_
                show OE _ _ _ _ (s₁.setTop (mkF m 57 #[iv vv] [(.int 95), (.int vv)]))
                by_cases hc57_34 : vv = (95 : Int32)
                ·
                  refine OE.v (fun t k => XS.icmpYes X0.here hx rfl (pc0 := 57) (pc' := 66) rfl (hb hby d18_57) rfl (teq hc57_34).1 (by decide) (by decide) k) ?_
                  show OE _ _ _ _ (s₁.setTop (mkF m 66 #[iv vv] []))
                  refine OE.v (fun t k => XS.iconst X0.here hx rfl (hb hby d18_66) k) ?_
                  refine OE.v (fun t k => XS.goto X0.here hx rfl (pc0 := 67) (pc' := 71) rfl (hb hby d18_67) (by decide) (by decide) k) ?_
                  show OE _ _ _ _ (s₁.setTop (mkF m 71 #[iv vv] [(.int 1)]))
                  obtain ⟨fs, hr, hrun, hended, hW, hsame⟩ := X0.leave (v := some (.int 1)) (fun h => by rw [Bd.returns] at h; cases h)
                  refine ⟨_, _, ?_, hrun, hended, _, _, rfl, ?_, ⟨_, rfl⟩, hW, hsame.mono (by decide) (by decide)⟩
                  · exact retN X0 hx (t := .boolean) Bd.returns (by simp) (hb hby d18_71) hr
                  · show Q18 Z vv h0 n0 _ s₁.heap _
                    rw [e0]
                    exact ⟨(by rw [if_pos (by simp only [← Int32.toInt_inj, Int32.lt_iff_toInt_lt, own_k65, own_k90, own_k97, own_k122, own_k48, own_k57, own_k45, own_k46, own_k95, own_k126] at hc3_1 hc9_24 hc17_25 hc31_26 hc37_31 hc45_32 hc51_33 hc57_34; unfold own_U; omega)]), N0, rfl⟩
                ·
                  refine OE.v (fun t k => XS.icmpNo X0.here hx rfl (hb hby d18_57) rfl (feq hc57_34).1 k) ?_
                  show OE _ _ _ _ (s₁.setTop (mkF m 60 #[iv vv] []))
                  refine OE.v (fun t k => XS.iloadN X0.here hx rfl (hb hby d18_60) rfl k) ?_
                  refine OE.v (fun t k => XS.bipush X0.here hx rfl (hb hby d18_61) k) ?_
                  show OE _ _ _ _ (s₁.setTop (mkF m 63 #[iv vv] [(.int 126), (.int vv)]))
                  by_cases hc63_35 : vv = (126 : Int32)
                  ·
                    refine OE.v (fun t k => XS.icmpNo X0.here hx rfl (hb hby d18_63) rfl (teq hc63_35).2 k) ?_
                    show OE _ _ _ _ (s₁.setTop (mkF m 66 #[iv vv] []))
                    refine OE.v (fun t k => XS.iconst X0.here hx rfl (hb hby d18_66) k) ?_
                    refine OE.v (fun t k => XS.goto X0.here hx rfl (pc0 := 67) (pc' := 71) rfl (hb hby d18_67) (by decide) (by decide) k) ?_
                    show OE _ _ _ _ (s₁.setTop (mkF m 71 #[iv vv] [(.int 1)]))
                    obtain ⟨fs, hr, hrun, hended, hW, hsame⟩ := X0.leave (v := some (.int 1)) (fun h => by rw [Bd.returns] at h; cases h)
                    refine ⟨_, _, ?_, hrun, hended, _, _, rfl, ?_, ⟨_, rfl⟩, hW, hsame.mono (by decide) (by decide)⟩
                    · exact retN X0 hx (t := .boolean) Bd.returns (by simp) (hb hby d18_71) hr
                    · show Q18 Z vv h0 n0 _ s₁.heap _
                      rw [e0]
                      exact ⟨(by rw [if_pos (by simp only [← Int32.toInt_inj, Int32.lt_iff_toInt_lt, own_k65, own_k90, own_k97, own_k122, own_k48, own_k57, own_k45, own_k46, own_k95, own_k126] at hc3_1 hc9_24 hc17_25 hc31_26 hc37_31 hc45_32 hc51_33 hc57_34 hc63_35; unfold own_U; omega)]), N0, rfl⟩
                  ·
                    refine OE.v (fun t k => XS.icmpYes X0.here hx rfl (pc0 := 63) (pc' := 70) rfl (hb hby d18_63) rfl (feq hc63_35).2 (by decide) (by decide) k) ?_
                    show OE _ _ _ _ (s₁.setTop (mkF m 70 #[iv vv] []))
                    refine OE.v (fun t k => XS.iconst X0.here hx rfl (hb hby d18_70) k) ?_
                    show OE _ _ _ _ (s₁.setTop (mkF m 71 #[iv vv] [(.int 0)]))
                    obtain ⟨fs, hr, hrun, hended, hW, hsame⟩ := X0.leave (v := some (.int 0)) (fun h => by rw [Bd.returns] at h; cases h)
                    refine ⟨_, _, ?_, hrun, hended, _, _, rfl, ?_, ⟨_, rfl⟩, hW, hsame.mono (by decide) (by decide)⟩
                    · exact retN X0 hx (t := .boolean) Bd.returns (by simp) (hb hby d18_71) hr
                    · show Q18 Z vv h0 n0 _ s₁.heap _
                      rw [e0]
                      exact ⟨(by rw [if_neg (by simp only [← Int32.toInt_inj, Int32.lt_iff_toInt_lt, own_k65, own_k90, own_k97, own_k122, own_k48, own_k57, own_k45, own_k46, own_k95, own_k126] at hc3_1 hc9_24 hc17_25 hc31_26 hc37_31 hc45_32 hc51_33 hc57_34 hc63_35; unfold own_U; omega)]), N0, rfl⟩
          ·
            refine OE.v (fun t k => XS.icmpNo X0.here hx rfl (hb hby d18_37) rfl (flt hc37_31).2.2.1 k) ?_
            show OE _ _ _ _ (s₁.setTop (mkF m 40 #[iv vv] []))
            refine OE.v (fun t k => XS.iconst X0.here hx rfl (hb hby d18_40) k) ?_
            show OE _ _ _ _ (s₁.setTop (mkF m 41 #[iv vv] [(.int 1)]))
            obtain ⟨fs, hr, hrun, hended, hW, hsame⟩ := X0.leave (v := some (.int 1)) (fun h => by rw [Bd.returns] at h; cases h)
            refine ⟨_, _, ?_, hrun, hended, _, _, rfl, ?_, ⟨_, rfl⟩, hW, hsame.mono (by decide) (by decide)⟩
            · exact retN X0 hx (t := .boolean) Bd.returns (by simp) (hb hby d18_41) hr
            · show Q18 Z vv h0 n0 _ s₁.heap _
              rw [e0]
              exact ⟨(by rw [if_pos (by simp only [← Int32.toInt_inj, Int32.lt_iff_toInt_lt, own_k65, own_k90, own_k97, own_k122, own_k48, own_k57, own_k45, own_k46, own_k95, own_k126] at hc3_1 hc9_24 hc17_25 hc31_26 hc37_31; unfold own_U; omega)]), N0, rfl⟩
      ·
        refine OE.v (fun t k => XS.icmpNo X0.here hx rfl (hb hby d18_17) rfl (flt hc17_25).1 k) ?_
        show OE _ _ _ _ (s₁.setTop (mkF m 20 #[iv vv] []))
        refine OE.v (fun t k => XS.iloadN X0.here hx rfl (hb hby d18_20) rfl k) ?_
        refine OE.v (fun t k => XS.bipush X0.here hx rfl (hb hby d18_21) k) ?_
        show OE _ _ _ _ (s₁.setTop (mkF m 23 #[iv vv] [(.int 122), (.int vv)]))
        by_cases hc23_36 : (122 : Int32) < vv
        ·
          refine OE.v (fun t k => XS.icmpYes X0.here hx rfl (pc0 := 23) (pc' := 28) rfl (hb hby d18_23) rfl (tlt hc23_36).2.2.1 (by decide) (by decide) k) ?_
          show OE _ _ _ _ (s₁.setTop (mkF m 28 #[iv vv] []))
          refine OE.v (fun t k => XS.iloadN X0.here hx rfl (hb hby d18_28) rfl k) ?_
          refine OE.v (fun t k => XS.bipush X0.here hx rfl (hb hby d18_29) k) ?_
          show OE _ _ _ _ (s₁.setTop (mkF m 31 #[iv vv] [(.int 48), (.int vv)]))
          by_cases hc31_37 : vv < (48 : Int32)
          ·
            refine OE.v (fun t k => XS.icmpYes X0.here hx rfl (pc0 := 31) (pc' := 42) rfl (hb hby d18_31) rfl (tlt hc31_37).1 (by decide) (by decide) k) ?_
            show OE _ _ _ _ (s₁.setTop (mkF m 42 #[iv vv] []))
            refine OE.v (fun t k => XS.iloadN X0.here hx rfl (hb hby d18_42) rfl k) ?_
            refine OE.v (fun t k => XS.bipush X0.here hx rfl (hb hby d18_43) k) ?_
            show OE _ _ _ _ (s₁.setTop (mkF m 45 #[iv vv] [(.int 45), (.int vv)]))
            by_cases hc45_38 : vv = (45 : Int32)
            ·
              refine OE.v (fun t k => XS.icmpYes X0.here hx rfl (pc0 := 45) (pc' := 66) rfl (hb hby d18_45) rfl (teq hc45_38).1 (by decide) (by decide) k) ?_
              show OE _ _ _ _ (s₁.setTop (mkF m 66 #[iv vv] []))
              refine OE.v (fun t k => XS.iconst X0.here hx rfl (hb hby d18_66) k) ?_
              refine OE.v (fun t k => XS.goto X0.here hx rfl (pc0 := 67) (pc' := 71) rfl (hb hby d18_67) (by decide) (by decide) k) ?_
              show OE _ _ _ _ (s₁.setTop (mkF m 71 #[iv vv] [(.int 1)]))
              obtain ⟨fs, hr, hrun, hended, hW, hsame⟩ := X0.leave (v := some (.int 1)) (fun h => by rw [Bd.returns] at h; cases h)
              refine ⟨_, _, ?_, hrun, hended, _, _, rfl, ?_, ⟨_, rfl⟩, hW, hsame.mono (by decide) (by decide)⟩
              · exact retN X0 hx (t := .boolean) Bd.returns (by simp) (hb hby d18_71) hr
              · show Q18 Z vv h0 n0 _ s₁.heap _
                rw [e0]
                exact ⟨(by rw [if_pos (by simp only [← Int32.toInt_inj, Int32.lt_iff_toInt_lt, own_k65, own_k90, own_k97, own_k122, own_k48, own_k57, own_k45, own_k46, own_k95, own_k126] at hc3_1 hc9_24 hc17_25 hc23_36 hc31_37 hc45_38; unfold own_U; omega)]), N0, rfl⟩
            ·
              refine OE.v (fun t k => XS.icmpNo X0.here hx rfl (hb hby d18_45) rfl (feq hc45_38).1 k) ?_
              show OE _ _ _ _ (s₁.setTop (mkF m 48 #[iv vv] []))
              refine OE.v (fun t k => XS.iloadN X0.here hx rfl (hb hby d18_48) rfl k) ?_
              refine OE.v (fun t k => XS.bipush X0.here hx rfl (hb hby d18_49) k) ?_
              show OE _ _ _ _ (s₁.setTop (mkF m 51 #[iv vv] [(.int 46), (.int vv)]))
              by_cases hc51_39 : vv = (46 : Int32)
              ·
                refine OE.v (fun t k => XS.icmpYes X0.here hx rfl (pc0 := 51) (pc' := 66) rfl (hb hby d18_51) rfl (teq hc51_39).1 (by decide) (by decide) k) ?_
                show OE _ _ _ _ (s₁.setTop (mkF m 66 #[iv vv] []))
                refine OE.v (fun t k => XS.iconst X0.here hx rfl (hb hby d18_66) k) ?_
                refine OE.v (fun t k => XS.goto X0.here hx rfl (pc0 := 67) (pc' := 71) rfl (hb hby d18_67) (by decide) (by decide) k) ?_
                show OE _ _ _ _ (s₁.setTop (mkF m 71 #[iv vv] [(.int 1)]))
                obtain ⟨fs, hr, hrun, hended, hW, hsame⟩ := X0.leave (v := some (.int 1)) (fun h => by rw [Bd.returns] at h; cases h)
                refine ⟨_, _, ?_, hrun, hended, _, _, rfl, ?_, ⟨_, rfl⟩, hW, hsame.mono (by decide) (by decide)⟩
                · exact retN X0 hx (t := .boolean) Bd.returns (by simp) (hb hby d18_71) hr
                · show Q18 Z vv h0 n0 _ s₁.heap _
                  rw [e0]
                  exact ⟨(by rw [if_pos (by simp only [← Int32.toInt_inj, Int32.lt_iff_toInt_lt, own_k65, own_k90, own_k97, own_k122, own_k48, own_k57, own_k45, own_k46, own_k95, own_k126] at hc3_1 hc9_24 hc17_25 hc23_36 hc31_37 hc45_38 hc51_39; unfold own_U; omega)]), N0, rfl⟩
              ·
                refine OE.v (fun t k => XS.icmpNo X0.here hx rfl (hb hby d18_51) rfl (feq hc51_39).1 k) ?_
                show OE _ _ _ _ (s₁.setTop (mkF m 54 #[iv vv] []))
                refine OE.v (fun t k => XS.iloadN X0.here hx rfl (hb hby d18_54) rfl k) ?_
                refine OE.v (fun t k => XS.bipush X0.here hx rfl (hb hby d18_55) k) ?_
                show OE _ _ _ _ (s₁.setTop (mkF m 57 #[iv vv] [(.int 95), (.int vv)]))
                by_cases hc57_40 : vv = (95 : Int32)
                ·
                  refine OE.v (fun t k => XS.icmpYes X0.here hx rfl (pc0 := 57) (pc' := 66) rfl (hb hby d18_57) rfl (teq hc57_40).1 (by decide) (by decide) k) ?_
                  show OE _ _ _ _ (s₁.setTop (mkF m 66 #[iv vv] []))
                  refine OE.v (fun t k => XS.iconst X0.here hx rfl (hb hby d18_66) k) ?_
                  refine OE.v (fun t k => XS.goto X0.here hx rfl (pc0 := 67) (pc' := 71) rfl (hb hby d18_67) (by decide) (by decide) k) ?_
                  show OE _ _ _ _ (s₁.setTop (mkF m 71 #[iv vv] [(.int 1)]))
                  obtain ⟨fs, hr, hrun, hended, hW, hsame⟩ := X0.leave (v := some (.int 1)) (fun h => by rw [Bd.returns] at h; cases h)
                  refine ⟨_, _, ?_, hrun, hended, _, _, rfl, ?_, ⟨_, rfl⟩, hW, hsame.mono (by decide) (by decide)⟩
                  · exact retN X0 hx (t := .boolean) Bd.returns (by simp) (hb hby d18_71) hr
                  · show Q18 Z vv h0 n0 _ s₁.heap _
                    rw [e0]
                    exact ⟨(by rw [if_pos (by simp only [← Int32.toInt_inj, Int32.lt_iff_toInt_lt, own_k65, own_k90, own_k97, own_k122, own_k48, own_k57, own_k45, own_k46, own_k95, own_k126] at hc3_1 hc9_24 hc17_25 hc23_36 hc31_37 hc45_38 hc51_39 hc57_40; unfold own_U; omega)]), N0, rfl⟩
                ·
                  refine OE.v (fun t k => XS.icmpNo X0.here hx rfl (hb hby d18_57) rfl (feq hc57_40).1 k) ?_
                  show OE _ _ _ _ (s₁.setTop (mkF m 60 #[iv vv] []))
                  refine OE.v (fun t k => XS.iloadN X0.here hx rfl (hb hby d18_60) rfl k) ?_
                  refine OE.v (fun t k => XS.bipush X0.here hx rfl (hb hby d18_61) k) ?_
                  show OE _ _ _ _ (s₁.setTop (mkF m 63 #[iv vv] [(.int 126), (.int vv)]))
                  by_cases hc63_41 : vv = (126 : Int32)
                  ·
                    refine OE.v (fun t k => XS.icmpNo X0.here hx rfl (hb hby d18_63) rfl (teq hc63_41).2 k) ?_
                    show OE _ _ _ _ (s₁.setTop (mkF m 66 #[iv vv] []))
                    refine OE.v (fun t k => XS.iconst X0.here hx rfl (hb hby d18_66) k) ?_
                    refine OE.v (fun t k => XS.goto X0.here hx rfl (pc0 := 67) (pc' := 71) rfl (hb hby d18_67) (by decide) (by decide) k) ?_
                    show OE _ _ _ _ (s₁.setTop (mkF m 71 #[iv vv] [(.int 1)]))
                    obtain ⟨fs, hr, hrun, hended, hW, hsame⟩ := X0.leave (v := some (.int 1)) (fun h => by rw [Bd.returns] at h; cases h)
                    refine ⟨_, _, ?_, hrun, hended, _, _, rfl, ?_, ⟨_, rfl⟩, hW, hsame.mono (by decide) (by decide)⟩
                    · exact retN X0 hx (t := .boolean) Bd.returns (by simp) (hb hby d18_71) hr
                    · show Q18 Z vv h0 n0 _ s₁.heap _
                      rw [e0]
                      exact ⟨(by rw [if_pos (by simp only [← Int32.toInt_inj, Int32.lt_iff_toInt_lt, own_k65, own_k90, own_k97, own_k122, own_k48, own_k57, own_k45, own_k46, own_k95, own_k126] at hc3_1 hc9_24 hc17_25 hc23_36 hc31_37 hc45_38 hc51_39 hc57_40 hc63_41; unfold own_U; omega)]), N0, rfl⟩
                  ·
                    refine OE.v (fun t k => XS.icmpYes X0.here hx rfl (pc0 := 63) (pc' := 70) rfl (hb hby d18_63) rfl (feq hc63_41).2 (by decide) (by decide) k) ?_
                    show OE _ _ _ _ (s₁.setTop (mkF m 70 #[iv vv] []))
                    refine OE.v (fun t k => XS.iconst X0.here hx rfl (hb hby d18_70) k) ?_
                    show OE _ _ _ _ (s₁.setTop (mkF m 71 #[iv vv] [(.int 0)]))
                    obtain ⟨fs, hr, hrun, hended, hW, hsame⟩ := X0.leave (v := some (.int 0)) (fun h => by rw [Bd.returns] at h; cases h)
                    refine ⟨_, _, ?_, hrun, hended, _, _, rfl, ?_, ⟨_, rfl⟩, hW, hsame.mono (by decide) (by decide)⟩
                    · exact retN X0 hx (t := .boolean) Bd.returns (by simp) (hb hby d18_71) hr
                    · show Q18 Z vv h0 n0 _ s₁.heap _
                      rw [e0]
                      exact ⟨(by rw [if_neg (by simp only [← Int32.toInt_inj, Int32.lt_iff_toInt_lt, own_k65, own_k90, own_k97, own_k122, own_k48, own_k57, own_k45, own_k46, own_k95, own_k126] at hc3_1 hc9_24 hc17_25 hc23_36 hc31_37 hc45_38 hc51_39 hc57_40 hc63_41; unfold own_U; omega)]), N0, rfl⟩
          ·
            refine OE.v (fun t k => XS.icmpNo X0.here hx rfl (hb hby d18_31) rfl (flt hc31_37).1 k) ?_
            show OE _ _ _ _ (s₁.setTop (mkF m 34 #[iv vv] []))
            refine OE.v (fun t k => XS.iloadN X0.here hx rfl (hb hby d18_34) rfl k) ?_
            refine OE.v (fun t k => XS.bipush X0.here hx rfl (hb hby d18_35) k) ?_
            show OE _ _ _ _ (s₁.setTop (mkF m 37 #[iv vv] [(.int 57), (.int vv)]))
            by_cases hc37_42 : (57 : Int32) < vv
            ·
              refine OE.v (fun t k => XS.icmpYes X0.here hx rfl (pc0 := 37) (pc' := 42) rfl (hb hby d18_37) rfl (tlt hc37_42).2.2.1 (by decide) (by decide) k) ?_
              show OE _ _ _ _ (s₁.setTop (mkF m 42 #[iv vv] []))
              refine OE.v (fun t k => XS.iloadN X0.here hx rfl (hb hby d18_42) rfl k) ?_
              refine OE.v (fun t k => XS.bipush X0.here hx rfl (hb hby d18_43) k) ?_
              show OE _ _ _ _ (s₁.setTop (mkF m 45 #[iv vv] [(.int 45), (.int vv)]))
              by_cases hc45_43 : vv = (45 : Int32)
              ·
                refine OE.v (fun t k => XS.icmpYes X0.here hx rfl (pc0 := 45) (pc' := 66) rfl (hb hby d18_45) rfl (teq hc45_43).1 (by decide) (by decide) k) ?_
                show OE _ _ _ _ (s₁.setTop (mkF m 66 #[iv vv] []))
                refine OE.v (fun t k => XS.iconst X0.here hx rfl (hb hby d18_66) k) ?_
                refine OE.v (fun t k => XS.goto X0.here hx rfl (pc0 := 67) (pc' := 71) rfl (hb hby d18_67) (by decide) (by decide) k) ?_
                show OE _ _ _ _ (s₁.setTop (mkF m 71 #[iv vv] [(.int 1)]))
                obtain ⟨fs, hr, hrun, hended, hW, hsame⟩ := X0.leave (v := some (.int 1)) (fun h => by rw [Bd.returns] at h; cases h)
                refine ⟨_, _, ?_, hrun, hended, _, _, rfl, ?_, ⟨_, rfl⟩, hW, hsame.mono (by decide) (by decide)⟩
                · exact retN X0 hx (t := .boolean) Bd.returns (by simp) (hb hby d18_71) hr
                · show Q18 Z vv h0 n0 _ s₁.heap _
                  rw [e0]
                  exact ⟨(by rw [if_pos (by simp only [← Int32.toInt_inj, Int32.lt_iff_toInt_lt, own_k65, own_k90, own_k97, own_k122, own_k48, own_k57, own_k45, own_k46, own_k95, own_k126] at hc3_1 hc9_24 hc17_25 hc23_36 hc31_37 hc37_42 hc45_43; unfold own_U; omega)]), N0, rfl⟩
              ·
                refine OE.v (fun t k => XS.icmpNo X0.here hx rfl (hb hby d18_45) rfl (feq hc45_43).1 k) ?_
                show OE _ _ _ _ (s₁.setTop (mkF m 48 #[iv vv] []))
                refine OE.v (fun t k => XS.iloadN X0.here hx rfl (hb hby d18_48) rfl k) ?_
                refine OE.v (fun t k => XS.bipush X0.here hx rfl (hb hby d18_49) k) ?_
                show OE _ _ _ _ (s₁.setTop (mkF m 51 #[iv vv] [(.int 46), (.int vv)]))
                by_cases hc51_44 : vv = (46 : Int32)
                ·
                  refine OE.v (fun t k => XS.icmpYes X0.here hx rfl (pc0 := 51) (pc' := 66) rfl (hb hby d18_51) rfl (teq hc51_44).1 (by decide) (by decide) k) ?_
                  show OE _ _ _ _ (s₁.setTop (mkF m 66 #[iv vv] []))
                  refine OE.v (fun t k => XS.iconst X0.here hx rfl (hb hby d18_66) k) ?_
                  refine OE.v (fun t k => XS.goto X0.here hx rfl (pc0 := 67) (pc' := 71) rfl (hb hby d18_67) (by decide) (by decide) k) ?_
                  show OE _ _ _ _ (s₁.setTop (mkF m 71 #[iv vv] [(.int 1)]))
                  obtain ⟨fs, hr, hrun, hended, hW, hsame⟩ := X0.leave (v := some (.int 1)) (fun h => by rw [Bd.returns] at h; cases h)
                  refine ⟨_, _, ?_, hrun, hended, _, _, rfl, ?_, ⟨_, rfl⟩, hW, hsame.mono (by decide) (by decide)⟩
                  · exact retN X0 hx (t := .boolean) Bd.returns (by simp) (hb hby d18_71) hr
                  · show Q18 Z vv h0 n0 _ s₁.heap _
                    rw [e0]
                    exact ⟨(by rw [if_pos (by simp only [← Int32.toInt_inj, Int32.lt_iff_toInt_lt, own_k65, own_k90, own_k97, own_k122, own_k48, own_k57, own_k45, own_k46, own_k95, own_k126] at hc3_1 hc9_24 hc17_25 hc23_36 hc31_37 hc37_42 hc45_43 hc51_44; unfold own_U; omega)]), N0, rfl⟩
                ·
                  refine OE.v (fun t k => XS.icmpNo X0.here hx rfl (hb hby d18_51) rfl (feq hc51_44).1 k) ?_
                  show OE _ _ _ _ (s₁.setTop (mkF m 54 #[iv vv] []))
                  refine OE.v (fun t k => XS.iloadN X0.here hx rfl (hb hby d18_54) rfl k) ?_
                  refine OE.v (fun t k => XS.bipush X0.here hx rfl (hb hby d18_55) k) ?_
                  show OE _ _ _ _ (s₁.setTop (mkF m 57 #[iv vv] [(.int 95), (.int vv)]))
                  by_cases hc57_45 : vv = (95 : Int32)
                  ·
                    refine OE.v (fun t k => XS.icmpYes X0.here hx rfl (pc0 := 57) (pc' := 66) rfl (hb hby d18_57) rfl (teq hc57_45).1 (by decide) (by decide) k) ?_
                    show OE _ _ _ _ (s₁.setTop (mkF m 66 #[iv vv] []))
                    refine OE.v (fun t k => XS.iconst X0.here hx rfl (hb hby d18_66) k) ?_
                    refine OE.v (fun t k => XS.goto X0.here hx rfl (pc0 := 67) (pc' := 71) rfl (hb hby d18_67) (by decide) (by decide) k) ?_
                    show OE _ _ _ _ (s₁.setTop (mkF m 71 #[iv vv] [(.int 1)]))
                    obtain ⟨fs, hr, hrun, hended, hW, hsame⟩ := X0.leave (v := some (.int 1)) (fun h => by rw [Bd.returns] at h; cases h)
                    refine ⟨_, _, ?_, hrun, hended, _, _, rfl, ?_, ⟨_, rfl⟩, hW, hsame.mono (by decide) (by decide)⟩
                    · exact retN X0 hx (t := .boolean) Bd.returns (by simp) (hb hby d18_71) hr
                    · show Q18 Z vv h0 n0 _ s₁.heap _
                      rw [e0]
                      exact ⟨(by rw [if_pos (by simp only [← Int32.toInt_inj, Int32.lt_iff_toInt_lt, own_k65, own_k90, own_k97, own_k122, own_k48, own_k57, own_k45, own_k46, own_k95, own_k126] at hc3_1 hc9_24 hc17_25 hc23_36 hc31_37 hc37_42 hc45_43 hc51_44 hc57_45; unfold own_U; omega)]), N0, rfl⟩
                  ·
                    refine OE.v (fun t k => XS.icmpNo X0.here hx rfl (hb hby d18_57) rfl (feq hc57_45).1 k) ?_
                    show OE _ _ _ _ (s₁.setTop (mkF m 60 #[iv vv] []))
                    refine OE.v (fun t k => XS.iloadN X0.here hx rfl (hb hby d18_60) rfl k) ?_
                    refine OE.v (fun t k => XS.bipush X0.here hx rfl (hb hby d18_61) k) ?_
                    show OE _ _ _ _ (s₁.setTop (mkF m 63 #[iv vv] [(.int 126), (.int vv)]))
                    by_cases hc63_46 : vv = (126 : Int32)
                    ·
                      refine OE.v (fun t k => XS.icmpNo X0.here hx rfl (hb hby d18_63) rfl (teq hc63_46).2 k) ?_
                      show OE _ _ _ _ (s₁.setTop (mkF m 66 #[iv vv] []))
                      refine OE.v (fun t k => XS.iconst X0.here hx rfl (hb hby d18_66) k) ?_
                      refine OE.v (fun t k => XS.goto X0.here hx rfl (pc0 := 67) (pc' := 71) rfl (hb hby d18_67) (by decide) (by decide) k) ?_
                      show OE _ _ _ _ (s₁.setTop (mkF m 71 #[iv vv] [(.int 1)]))
                      obtain ⟨fs, hr, hrun, hended, hW, hsame⟩ := X0.leave (v := some (.int 1)) (fun h => by rw [Bd.returns] at h; cases h)
                      refine ⟨_, _, ?_, hrun, hended, _, _, rfl, ?_, ⟨_, rfl⟩, hW, hsame.mono (by decide) (by decide)⟩
                      · exact retN X0 hx (t := .boolean) Bd.returns (by simp) (hb hby d18_71) hr
                      · show Q18 Z vv h0 n0 _ s₁.heap _
                        rw [e0]
                        exact ⟨(by rw [if_pos (by simp only [← Int32.toInt_inj, Int32.lt_iff_toInt_lt, own_k65, own_k90, own_k97, own_k122, own_k48, own_k57, own_k45, own_k46, own_k95, own_k126] at hc3_1 hc9_24 hc17_25 hc23_36 hc31_37 hc37_42 hc45_43 hc51_44 hc57_45 hc63_46; unfold own_U; omega)]), N0, rfl⟩
                    ·
                      refine OE.v (fun t k => XS.icmpYes X0.here hx rfl (pc0 := 63) (pc' := 70) rfl (hb hby d18_63) rfl (feq hc63_46).2 (by decide) (by decide) k) ?_
                      show OE _ _ _ _ (s₁.setTop (mkF m 70 #[iv vv] []))
                      refine OE.v (fun t k => XS.iconst X0.here hx rfl (hb hby d18_70) k) ?_
                      show OE _ _ _ _ (s₁.setTop (mkF m 71 #[iv vv] [(.int 0)]))
                      obtain ⟨fs, hr, hrun, hended, hW, hsame⟩ := X0.leave (v := some (.int 0)) (fun h => by rw [Bd.returns] at h; cases h)
                      refine ⟨_, _, ?_, hrun, hended, _, _, rfl, ?_, ⟨_, rfl⟩, hW, hsame.mono (by decide) (by decide)⟩
                      · exact retN X0 hx (t := .boolean) Bd.returns (by simp) (hb hby d18_71) hr
                      · show Q18 Z vv h0 n0 _ s₁.heap _
                        rw [e0]
                        exact ⟨(by rw [if_neg (by simp only [← Int32.toInt_inj, Int32.lt_iff_toInt_lt, own_k65, own_k90, own_k97, own_k122, own_k48, own_k57, own_k45, own_k46, own_k95, own_k126] at hc3_1 hc9_24 hc17_25 hc23_36 hc31_37 hc37_42 hc45_43 hc51_44 hc57_45 hc63_46; unfold own_U; omega)]), N0, rfl⟩
            ·
              refine OE.v (fun t k => XS.icmpNo X0.here hx rfl (hb hby d18_37) rfl (flt hc37_42).2.2.1 k) ?_
              show OE _ _ _ _ (s₁.setTop (mkF m 40 #[iv vv] []))
              refine OE.v (fun t k => XS.iconst X0.here hx rfl (hb hby d18_40) k) ?_
              show OE _ _ _ _ (s₁.setTop (mkF m 41 #[iv vv] [(.int 1)]))
              obtain ⟨fs, hr, hrun, hended, hW, hsame⟩ := X0.leave (v := some (.int 1)) (fun h => by rw [Bd.returns] at h; cases h)
              refine ⟨_, _, ?_, hrun, hended, _, _, rfl, ?_, ⟨_, rfl⟩, hW, hsame.mono (by decide) (by decide)⟩
              · exact retN X0 hx (t := .boolean) Bd.returns (by simp) (hb hby d18_41) hr
              · show Q18 Z vv h0 n0 _ s₁.heap _
                rw [e0]
                exact ⟨(by rw [if_pos (by simp only [← Int32.toInt_inj, Int32.lt_iff_toInt_lt, own_k65, own_k90, own_k97, own_k122, own_k48, own_k57, own_k45, own_k46, own_k95, own_k126] at hc3_1 hc9_24 hc17_25 hc23_36 hc31_37 hc37_42; unfold own_U; omega)]), N0, rfl⟩
        ·
          refine OE.v (fun t k => XS.icmpNo X0.here hx rfl (hb hby d18_23) rfl (flt hc23_36).2.2.1 k) ?_
          show OE _ _ _ _ (s₁.setTop (mkF m 26 #[iv vv] []))
          refine OE.v (fun t k => XS.iconst X0.here hx rfl (hb hby d18_26) k) ?_
          show OE _ _ _ _ (s₁.setTop (mkF m 27 #[iv vv] [(.int 1)]))
          obtain ⟨fs, hr, hrun, hended, hW, hsame⟩ := X0.leave (v := some (.int 1)) (fun h => by rw [Bd.returns] at h; cases h)
          refine ⟨_, _, ?_, hrun, hended, _, _, rfl, ?_, ⟨_, rfl⟩, hW, hsame.mono (by decide) (by decide)⟩
          · exact retN X0 hx (t := .boolean) Bd.returns (by simp) (hb hby d18_27) hr
          · show Q18 Z vv h0 n0 _ s₁.heap _
            rw [e0]
            exact ⟨(by rw [if_pos (by simp only [← Int32.toInt_inj, Int32.lt_iff_toInt_lt, own_k65, own_k90, own_k97, own_k122, own_k48, own_k57, own_k45, own_k46, own_k95, own_k126] at hc3_1 hc9_24 hc17_25 hc23_36; unfold own_U; omega)]), N0, rfl⟩
    ·
      refine OE.v (fun t k => XS.icmpNo X0.here hx rfl (hb hby d18_9) rfl (flt hc9_24).2.2.1 k) ?_
      show OE _ _ _ _ (s₁.setTop (mkF m 12 #[iv vv] []))
      refine OE.v (fun t k => XS.iconst X0.here hx rfl (hb hby d18_12) k) ?_
      show OE _ _ _ _ (s₁.setTop (mkF m 13 #[iv vv] [(.int 1)]))
      obtain ⟨fs, hr, hrun, hended, hW, hsame⟩ := X0.leave (v := some (.int 1)) (fun h => by rw [Bd.returns] at h; cases h)
      refine ⟨_, _, ?_, hrun, hended, _, _, rfl, ?_, ⟨_, rfl⟩, hW, hsame.mono (by decide) (by decide)⟩
      · exact retN X0 hx (t := .boolean) Bd.returns (by simp) (hb hby d18_13) hr
      · show Q18 Z vv h0 n0 _ s₁.heap _
        rw [e0]
        exact ⟨(by rw [if_pos (by simp only [← Int32.toInt_inj, Int32.lt_iff_toInt_lt, own_k65, own_k90, own_k97, own_k122, own_k48, own_k57, own_k45, own_k46, own_k95, own_k126] at hc3_1 hc9_24; unfold own_U; omega)]), N0, rfl⟩

theorem d26_0 : decode method_4_code 0 = .ok (.iload_n 0, 1) := by decide +kernel
theorem d26_1 : decode method_4_code 1 = .ok (.bipush 10, 2) := by decide +kernel
theorem d26_3 : decode method_4_code 3 = .ok (.if_icmp .ge 11, 3) := by decide +kernel
theorem d26_6 : decode method_4_code 6 = .ok (.bipush 48, 2) := by decide +kernel
theorem d26_8 : decode method_4_code 8 = .ok (.iload_n 0, 1) := by decide +kernel
theorem d26_9 : decode method_4_code 9 = .ok (.iadd, 1) := by decide +kernel
theorem d26_10 : decode method_4_code 10 = .ok (.i2c, 1) := by decide +kernel
theorem d26_11 : decode method_4_code 11 = .ok (.goto 11, 3) := by decide +kernel
theorem d26_14 : decode method_4_code 14 = .ok (.bipush 65, 2) := by decide +kernel
theorem d26_16 : decode method_4_code 16 = .ok (.iload_n 0, 1) := by decide +kernel
theorem d26_17 : decode method_4_code 17 = .ok (.iadd, 1) := by decide +kernel
theorem d26_18 : decode method_4_code 18 = .ok (.bipush 10, 2) := by decide +kernel
theorem d26_20 : decode method_4_code 20 = .ok (.isub, 1) := by decide +kernel
theorem d26_21 : decode method_4_code 21 = .ok (.i2c, 1) := by decide +kernel
theorem d26_22 : decode method_4_code 22 = .ok (.ireturn, 1) := by decide +kernel
theorem pn_rm26 : plainName "com/example/plumbago/plumbago/server/EntryPathsEncodePinLaw" = true := by first | (simp [plainName, overriddenIn]; done) | decide +kernel
theorem ef_rm26 (m : MethodId) (dg : Int32) : entryFrame m #[(.int dg)] 1 = mkF m 0 #[iv dg] [] := by first | (simp [entryFrame, mkF, argsToLocals, Value.category]; done) | rfl
def Q26 (Z : State) (dg : Int32) (h0 : Heap) (n0 : Nat) (v : Option Value) (h : Heap) (L : List Loc) : Prop := v = some (.int (own_hx dg)) ∧ Fr n0 L ∧ h = h0
set_option maxRecDepth 65536 in
set_option maxHeartbeats 40000000 in
theorem rm26 (l : Launch) (Z : State) (a0 : Array Value) (hw : ∀ d ∈ tables_1, d.before a0 Z = true) (ws : List Jvm.Cond) (dg : Int32) (h0 : Heap) (n0 : Nat) (Z0 : n0 ≤ h0.size) (P0 : 0 ≤ dg.toInt ∧ dg.toInt < 16) :
    MetFree l (⟨"com/example/plumbago/plumbago/server/EntryPathsEncodePinLaw", "hex", "(I)C"⟩ : MethodName) (head1 (Jvm.Cond.code (⟨"com/example/plumbago/plumbago/server/EntryPathsEncodePinLaw", "hex", "(I)C"⟩ : MethodName) method_4_code 1 (some .char) :: ws) ({ frames := 0, cells := 0, slots := 0, locals := 0 } : Room)) (fun aa U => aa = #[(.int dg)] ∧ Z.Warmed39 U.vm ∧ U.heap = h0) (fun _ _ _ _ _ => True) (fun _ U o U' => ∃ v L, o = .returned v ∧ Q26 Z dg h0 n0 v U'.heap L ∧ FrameEnd U o U' L ({ frames := 0, cells := 0, slots := 0, locals := 0 } : Room).cells ({ frames := 0, cells := 0, slots := 0, locals := 0 } : Room).slots) := by
  refine MetFree.of_bodySF (plainFor_of_name pn_rm26) hisR ?_
  intro p e s m args below meth c s₁ Bd hml0 hP hK
  obtain ⟨rfl, hZ, hh⟩ := hP
  have hx := Bd.exec
  have hby := Bd.bytes
  have hml : c.maxLocals = 1 := hml0
  have hown : s.vm.findClass "com/example/plumbago/plumbago/server/EntryPathsEncodePinLaw" = some m.cls := findClass_of_methodNamed Bd.named
  have hnm := (name_of_methodNamed Bd.named Bd.method).1
  have X0 : Stand p l e ({ frames := 0, cells := 0, slots := 0, locals := 0 } : Room) s m #[(.int dg)] below meth c s₁ [] 0 0 := Stand.of_body Bd
  have e0 : s₁.heap = h0 := by rw [← hh, Bd.state]; rfl
  have N0 := Fr.nil n0
  change OE p.tables e below _ _
  refine OE.v (fun t k => castTop (ef_rm26 m dg) k) ?_
  show OE _ _ _ _ (s₁.setTop (mkF m 0 #[iv dg] []))
  refine OE.v (fun t k => XS.iloadN X0.here hx rfl (hb hby d26_0) rfl k) ?_
  refine OE.v (fun t k => XS.bipush X0.here hx rfl (hb hby d26_1) k) ?_
  show OE _ _ _ _ (s₁.setTop (mkF m 3 #[iv dg] [(.int 10), (.int dg)]))
  by_cases hc3_1 : dg < (10 : Int32)
  ·
    refine OE.v (fun t k => XS.icmpNo X0.here hx rfl (hb hby d26_3) rfl (tlt hc3_1).2.1 k) ?_
    show OE _ _ _ _ (s₁.setTop (mkF m 6 #[iv dg] []))
    refine OE.v (fun t k => XS.bipush X0.here hx rfl (hb hby d26_6) k) ?_
    refine OE.v (fun t k => XS.iloadN X0.here hx rfl (hb hby d26_8) rfl k) ?_
    refine OE.v (fun t k => XS.iadd X0.here hx rfl (hb hby d26_9) rfl k) ?_
    refine OE.v (fun t k => XS.i2c X0.here hx rfl (hb hby d26_10) rfl k) ?_
    refine OE.v (fun t k => XS.goto X0.here hx rfl (pc0 := 11) (pc' := 22) rfl (hb hby d26_11) (by decide) (by decide) k) ?_
    show OE _ _ _ _ (s₁.setTop (mkF m 22 #[iv dg] [(.int (((48 : Int32) + dg).toUInt32.toUInt16.toUInt32.toInt32))]))
    obtain ⟨fs, hr, hrun, hended, hW, hsame⟩ := X0.leave (v := some (.int (nar .char (((48 : Int32) + dg).toUInt32.toUInt16.toUInt32.toInt32)))) (fun h => by rw [Bd.returns] at h; cases h)
    refine ⟨_, _, ?_, hrun, hended, _, _, rfl, ?_, ⟨_, rfl⟩, hW, hsame.mono (by decide) (by decide)⟩
    · exact retN X0 hx (t := .char) Bd.returns (by simp) (hb hby d26_22) hr
    · show Q26 Z dg h0 n0 _ s₁.heap _
      rw [e0]
      exact ⟨(by rw [own_x1 P0 hc3_1]), N0, rfl⟩
  ·
    refine OE.v (fun t k => XS.icmpYes X0.here hx rfl (pc0 := 3) (pc' := 14) rfl (hb hby d26_3) rfl (flt hc3_1).2.1 (by decide) (by decide) k) ?_
    show OE _ _ _ _ (s₁.setTop (mkF m 14 #[iv dg] []))
    refine OE.v (fun t k => XS.bipush X0.here hx rfl (hb hby d26_14) k) ?_
    refine OE.v (fun t k => XS.iloadN X0.here hx rfl (hb hby d26_16) rfl k) ?_
    refine OE.v (fun t k => XS.iadd X0.here hx rfl (hb hby d26_17) rfl k) ?_
    refine OE.v (fun t k => XS.bipush X0.here hx rfl (hb hby d26_18) k) ?_
    refine OE.v (fun t k => XS.isub X0.here hx rfl (hb hby d26_20) rfl k) ?_
    refine OE.v (fun t k => XS.i2c X0.here hx rfl (hb hby d26_21) rfl k) ?_
    show OE _ _ _ _ (s₁.setTop (mkF m 22 #[iv dg] [(.int ((((65 : Int32) + dg) - (10 : Int32)).toUInt32.toUInt16.toUInt32.toInt32))]))
    obtain ⟨fs, hr, hrun, hended, hW, hsame⟩ := X0.leave (v := some (.int (nar .char ((((65 : Int32) + dg) - (10 : Int32)).toUInt32.toUInt16.toUInt32.toInt32)))) (fun h => by rw [Bd.returns] at h; cases h)
    refine ⟨_, _, ?_, hrun, hended, _, _, rfl, ?_, ⟨_, rfl⟩, hW, hsame.mono (by decide) (by decide)⟩
    · exact retN X0 hx (t := .char) Bd.returns (by simp) (hb hby d26_22) hr
    · show Q26 Z dg h0 n0 _ s₁.heap _
      rw [e0]
      exact ⟨(by rw [own_x2 P0 hc3_1]), N0, rfl⟩

theorem d20_0 : decode jdk_42_method_152_code 0 = .ok (.getstatic 38, 3) := by decide +kernel
theorem d20_3 : decode jdk_42_method_152_code 3 = .ok (.ifCond .eq 10, 3) := by decide +kernel
theorem d20_6 : decode jdk_42_method_152_code 6 = .ok (.aload_n 0, 1) := by decide +kernel
theorem d20_7 : decode jdk_42_method_152_code 7 = .ok (.getfield 15, 3) := by decide +kernel
theorem d20_10 : decode jdk_42_method_152_code 10 = .ok (.goto 4, 3) := by decide +kernel
theorem d20_14 : decode jdk_42_method_152_code 14 = .ok (.ireturn, 1) := by decide +kernel
theorem pn_rm20 : plainName "java/lang/String" = true := by first | (simp [plainName, overriddenIn]; done) | decide +kernel
theorem ef_rm20 (m : MethodId) (a : Addr) : entryFrame m #[(.ref a)] 1 = mkF m 0 #[rv a] [] := by first | (simp [entryFrame, mkF, argsToLocals, Value.category]; done) | rfl
def Q20 (Z : State) (a : Addr) (cs : Int32) (h0 : Heap) (n0 : Nat) (v : Option Value) (h : Heap) (L : List Loc) : Prop := v = some (.int 0) ∧ Fr n0 L ∧ h = h0
set_option maxRecDepth 65536 in
set_option maxHeartbeats 40000000 in
theorem rm20 (l : Launch) (Z : State) (a0 : Array Value) (hw : ∀ d ∈ tables_1, d.before a0 Z = true) (ws : List Jvm.Cond) (a : Addr) (cs : Int32) (h0 : Heap) (n0 : Nat) (Z0 : n0 ≤ h0.size) (O0 : Old Z n0 h0) (P0 : Fld Z h0 a "java/lang/String" "coder" "B" (.int 0)) (P1 : ¬ cs = (0 : Int32)) (OP0 : Sta Z Z.heap "java/lang/String" "COMPACT_STRINGS" "Z" (.int cs)) :
    MetFree l (⟨"java/lang/String", "coder", "()B"⟩ : MethodName) (head1 (Jvm.Cond.code (⟨"java/lang/String", "coder", "()B"⟩ : MethodName) jdk_42_method_152_code 1 (some .byte) :: ws) ({ frames := 0, cells := 0, slots := 0, locals := 0 } : Room)) (fun aa U => aa = #[(.ref a)] ∧ Z.Warmed39 U.vm ∧ U.heap = h0) (fun _ _ _ _ _ => True) (fun _ U o U' => ∃ v L, o = .returned v ∧ Q20 Z a cs h0 n0 v U'.heap L ∧ FrameEnd U o U' L ({ frames := 0, cells := 0, slots := 0, locals := 0 } : Room).cells ({ frames := 0, cells := 0, slots := 0, locals := 0 } : Room).slots) := by
  refine MetFree.of_bodySF (plainFor_of_name pn_rm20) hisR ?_
  intro p e s m args below meth c s₁ Bd hml0 hP hK
  obtain ⟨rfl, hZ, hh⟩ := hP
  have hx := Bd.exec
  have hby := Bd.bytes
  have hml : c.maxLocals = 1 := hml0
  have hown : s.vm.findClass "java/lang/String" = some m.cls := findClass_of_methodNamed Bd.named
  have hnm := (name_of_methodNamed Bd.named Bd.method).1
  have X0 : Stand p l e ({ frames := 0, cells := 0, slots := 0, locals := 0 } : Room) s m #[(.ref a)] below meth c s₁ [] 0 0 := Stand.of_body Bd
  have e0 : s₁.heap = h0 := by rw [← hh, Bd.state]; rfl
  have N0 := Fr.nil n0
  change OE p.tables e below _ _
  refine OE.v (fun t k => castTop (ef_rm20 m a) k) ?_
  show OE _ _ _ _ (s₁.setTop (mkF m 0 #[rv a] []))
  obtain ⟨T1, X1, e1, st1⟩ := getS2 X0 hx hZ hown (host := "") (Or.inl (hw _ (own_w 117 rfl))) Via.refl e0 (OP0.ext O0.2) (g := (mkF m 0 #[rv a] [])) rfl (hb hby d20_0)
  refine OE.v st1 ?_
  show OE _ _ _ _ (T1.setTop (mkF m 3 #[rv a] [(.int cs)]))
  refine OE.v (fun t k => XS.ifNo X1.here hx rfl (hb hby d20_3) rfl ((if0 _ _).trans (feq P1).1) k) ?_
  show OE _ _ _ _ (T1.setTop (mkF m 6 #[rv a] []))
  refine OE.v (fun t k => XS.aloadN X1.here hx rfl (hb hby d20_6) rfl rfl k) ?_
  show OE _ _ _ _ (T1.setTop (mkF m 7 #[rv a] [(.ref a)]))
  obtain ⟨T2, X2, e2, st2⟩ := getF X1 hx hZ hown (host := "") (Or.inl (hw _ (own_w 83 rfl))) Via.refl e1 P0 (g := (mkF m 7 #[rv a] [(.ref a)])) rfl rfl (hb hby d20_7)
  refine OE.v st2 ?_
  show OE _ _ _ _ (T2.setTop (mkF m 10 #[rv a] [(.int 0)]))
  refine OE.v (fun t k => XS.goto X2.here hx rfl (pc0 := 10) (pc' := 14) rfl (hb hby d20_10) (by decide) (by decide) k) ?_
  show OE _ _ _ _ (T2.setTop (mkF m 14 #[rv a] [(.int 0)]))
  obtain ⟨fs, hr, hrun, hended, hW, hsame⟩ := X2.leave (v := some (.int 0)) (fun h => by rw [Bd.returns] at h; cases h)
  refine ⟨_, _, ?_, hrun, hended, _, _, rfl, ?_, ⟨_, rfl⟩, hW, hsame.mono (by decide) (by decide)⟩
  · exact retN X2 hx (t := .byte) Bd.returns (by simp) (hb hby d20_14) hr
  · show Q20 Z a cs h0 n0 _ T2.heap _
    rw [e2]
    exact ⟨rfl, N0, rfl⟩

theorem d19_0 : decode jdk_42_method_54_code 0 = .ok (.aload_n 0, 1) := by decide +kernel
theorem d19_1 : decode jdk_42_method_54_code 1 = .ok (.getfield 9, 3) := by decide +kernel
theorem d19_4 : decode jdk_42_method_54_code 4 = .ok (.arraylength, 1) := by decide +kernel
theorem d19_5 : decode jdk_42_method_54_code 5 = .ok (.aload_n 0, 1) := by decide +kernel
theorem d19_6 : decode jdk_42_method_54_code 6 = .ok (.invokevirtual 335, 3) := by decide +kernel
theorem d19_9 : decode jdk_42_method_54_code 9 = .ok (.ishr, 1) := by decide +kernel
theorem d19_10 : decode jdk_42_method_54_code 10 = .ok (.ireturn, 1) := by decide +kernel
theorem pn_rm19 : plainName "java/lang/String" = true := by first | (simp [plainName, overriddenIn]; done) | decide +kernel
theorem pd_11 : parseMethodDescriptor "()B" = some ⟨[], some .byte⟩ := by decide +kernel
theorem ef_rm19 (m : MethodId) (a : Addr) : entryFrame m #[(.ref a)] 1 = mkF m 0 #[rv a] [] := by first | (simp [entryFrame, mkF, argsToLocals, Value.category]; done) | rfl
def Q19 (Z : State) (a : Addr) (sv : Addr) (ks : ClassId) (cn : Int32) (us : List Value) (cs : Int32) (h0 : Heap) (n0 : Nat) (v : Option Value) (h : Heap) (L : List Loc) : Prop := v = some (.int cn) ∧ Fr n0 L ∧ h = h0
set_option maxRecDepth 65536 in
set_option maxHeartbeats 40000000 in
theorem rm19 (l : Launch) (Z : State) (a0 : Array Value) (hw : ∀ d ∈ tables_1, d.before a0 Z = true) (ws : List Jvm.Cond) (a : Addr) (sv : Addr) (ks : ClassId) (cn : Int32) (us : List Value) (cs : Int32) (h0 : Heap) (n0 : Nat) (Z0 : n0 ≤ h0.size) (O0 : Old Z n0 h0) (P0 : Exa Z h0 a "java/lang/String") (P1 : Fld Z h0 a "java/lang/String" "value" "[B" (.ref sv)) (P2 : Fld Z h0 a "java/lang/String" "coder" "B" (.int 0)) (P3 : Arv Z h0 sv ks .byte cn us (.int 0)) (P4 : ¬ cs = (0 : Int32)) (OP0 : Sta Z Z.heap "java/lang/String" "COMPACT_STRINGS" "Z" (.int cs)) :
    MetFree l (⟨"java/lang/String", "length", "()I"⟩ : MethodName) (head1 (Jvm.Cond.code (⟨"java/lang/String", "length", "()I"⟩ : MethodName) jdk_42_method_54_code 1 (some .int) :: ws) ({ frames := 1, cells := 0, slots := 0, locals := 13 } : Room)) (fun aa U => aa = #[(.ref a)] ∧ Z.Warmed39 U.vm ∧ U.heap = h0) (fun _ _ _ _ _ => True) (fun _ U o U' => ∃ v L, o = .returned v ∧ Q19 Z a sv ks cn us cs h0 n0 v U'.heap L ∧ FrameEnd U o U' L ({ frames := 1, cells := 0, slots := 0, locals := 13 } : Room).cells ({ frames := 1, cells := 0, slots := 0, locals := 13 } : Room).slots) := by
  refine MetFree.of_bodySF (plainFor_of_name pn_rm19) hisR ?_
  intro p e s m args below meth c s₁ Bd hml0 hP hK
  obtain ⟨rfl, hZ, hh⟩ := hP
  have hx := Bd.exec
  have hby := Bd.bytes
  have hml : c.maxLocals = 1 := hml0
  have hown : s.vm.findClass "java/lang/String" = some m.cls := findClass_of_methodNamed Bd.named
  have hnm := (name_of_methodNamed Bd.named Bd.method).1
  have X0 : Stand p l e ({ frames := 1, cells := 0, slots := 0, locals := 13 } : Room) s m #[(.ref a)] below meth c s₁ [] 0 0 := Stand.of_body Bd
  have e0 : s₁.heap = h0 := by rw [← hh, Bd.state]; rfl
  have N0 := Fr.nil n0
  change OE p.tables e below _ _
  refine OE.v (fun t k => castTop (ef_rm19 m a) k) ?_
  show OE _ _ _ _ (s₁.setTop (mkF m 0 #[rv a] []))
  refine OE.v (fun t k => XS.aloadN X0.here hx rfl (hb hby d19_0) rfl rfl k) ?_
  show OE _ _ _ _ (s₁.setTop (mkF m 1 #[rv a] [(.ref a)]))
  obtain ⟨T1, X1, e1, st1⟩ := getF X0 hx hZ hown (host := "") (Or.inl (hw _ (own_w 98 rfl))) Via.refl e0 P1 (g := (mkF m 1 #[rv a] [(.ref a)])) rfl rfl (hb hby d19_1)
  refine OE.v st1 ?_
  show OE _ _ _ _ (T1.setTop (mkF m 4 #[rv a] [(.ref sv)]))
  obtain ⟨cl2, Ar2, q2, S2, M2, H2, G2⟩ := id P3
  refine OE.v (X1.arraylength hx (by rw [e1]; exact Ar2.1) (State.isArrayOf_alike hZ.alike Ar2.2.1) (g := (mkF m 4 #[rv a] [(.ref sv)])) rfl rfl (hb hby d19_4)) ?_
  rw [len_of S2 M2]
  show OE _ _ _ _ (T1.setTop (mkF m 5 #[rv a] [(.int cn)]))
  refine OE.v (fun t k => XS.aloadN X1.here hx rfl (hb hby d19_5) rfl rfl k) ?_
  show OE _ _ _ _ (T1.setTop (mkF m 6 #[rv a] [(.ref a), (.int cn)]))
  obtain ⟨cq3, kq3, q3a, q3b, q3c⟩ := isOf hZ e1 P0
  obtain ⟨_, _, ⟨T3, L3, k3, n3⟩, -, X3, ⟨Lc3, hQ3, l3, y3, z3⟩, st3⟩ := X1.virtualBack hx (y := (⟨"java/lang/String", "coder", "()B"⟩ : MethodName)) (z := (⟨"java/lang/String", "coder", "()B"⟩ : MethodName)) hown (mvT hZ (hw _ (own_w 112 rfl))) (mvT hZ (hw _ (own_w 113 rfl))) (notFace_of_selects (args := #[]) (mvT hZ (hw _ (own_w 115 rfl)))) (mvT hZ (hw _ (own_w 115 rfl))) (mvT hZ (hw _ (own_w 114 rfl))) (by decide) (backOf (W := 1) (rm20 l Z a0 hw [] a cs h0 n0 Z0 O0 P2 P4 OP0) hZ (hw _ (own_w 116 rfl)) (hw _ (own_w 21 rfl)) (by decide) (by decide)) q3a q3c (g := (mkF m 6 #[rv a] [(.ref a), (.int cn)])) rfl (by rw [hml]; rfl) (Steps.refl _) (argsL := []) (rest := [(.int cn)]) (lenOf pd_11 rfl) rfl (Nat.le_of_eq rfl) (hb hby d19_6) (fun _ _ => ⟨rfl, e1, (by decide : 0 + 0 ≤ _), (by decide : 0 + 0 ≤ _)⟩)
  dsimp only [Pt.U, Pt.locs, Pt.cells, Pt.slots] at X3 l3 y3 z3 st3 hQ3
  subst l3 y3 z3
  obtain ⟨rfl, Nq3, e3⟩ := hQ3
  have N3 := Fr.app N0 Nq3
  refine OE.v (fun t k => st3.trans k) ?_
  show OE _ _ _ _ (T3.setTop (mkF m 9 #[rv a] [(.int 0), (.int cn)]))
  refine OE.v (fun t k => XS.ishr X3.here hx rfl (hb hby d19_9) rfl k) ?_
  show OE _ _ _ _ (T3.setTop (mkF m 10 #[rv a] [(.int (cn >>> ((0 : Int32) &&& 31)))]))
  obtain ⟨fs, hr, hrun, hended, hW, hsame⟩ := X3.leave (v := some (.int (cn >>> ((0 : Int32) &&& 31)))) (fun h => by rw [Bd.returns] at h; cases h)
  refine ⟨_, _, ?_, hrun, hended, _, _, rfl, ?_, ⟨_, rfl⟩, hW, hsame.mono (by decide) (by decide)⟩
  · exact retI X3 hx Bd.returns (hb hby d19_10) hr
  · show Q19 Z a sv ks cn us cs h0 n0 _ T3.heap _
    rw [e3]
    exact ⟨(by rw [own_s0 cn]), N3, rfl⟩

theorem d22_0 : decode jdk_42_method_154_code 0 = .ok (.getstatic 38, 3) := by decide +kernel
theorem d22_3 : decode jdk_42_method_154_code 3 = .ok (.ifCond .eq 14, 3) := by decide +kernel
theorem d22_6 : decode jdk_42_method_154_code 6 = .ok (.aload_n 0, 1) := by decide +kernel
theorem d22_7 : decode jdk_42_method_154_code 7 = .ok (.getfield 15, 3) := by decide +kernel
theorem d22_10 : decode jdk_42_method_154_code 10 = .ok (.ifCond .ne 7, 3) := by decide +kernel
theorem d22_13 : decode jdk_42_method_154_code 13 = .ok (.iconst 1, 1) := by decide +kernel
theorem d22_14 : decode jdk_42_method_154_code 14 = .ok (.goto 4, 3) := by decide +kernel
theorem d22_18 : decode jdk_42_method_154_code 18 = .ok (.ireturn, 1) := by decide +kernel
theorem pn_rm22 : plainName "java/lang/String" = true := by first | (simp [plainName, overriddenIn]; done) | decide +kernel
theorem ef_rm22 (m : MethodId) (a : Addr) : entryFrame m #[(.ref a)] 1 = mkF m 0 #[rv a] [] := by first | (simp [entryFrame, mkF, argsToLocals, Value.category]; done) | rfl
def Q22 (Z : State) (a : Addr) (cs : Int32) (h0 : Heap) (n0 : Nat) (v : Option Value) (h : Heap) (L : List Loc) : Prop := v = some (.int 1) ∧ Fr n0 L ∧ h = h0
set_option maxRecDepth 65536 in
set_option maxHeartbeats 40000000 in
theorem rm22 (l : Launch) (Z : State) (a0 : Array Value) (hw : ∀ d ∈ tables_1, d.before a0 Z = true) (ws : List Jvm.Cond) (a : Addr) (cs : Int32) (h0 : Heap) (n0 : Nat) (Z0 : n0 ≤ h0.size) (O0 : Old Z n0 h0) (P0 : Fld Z h0 a "java/lang/String" "coder" "B" (.int 0)) (P1 : ¬ cs = (0 : Int32)) (OP0 : Sta Z Z.heap "java/lang/String" "COMPACT_STRINGS" "Z" (.int cs)) :
    MetFree l (⟨"java/lang/String", "isLatin1", "()Z"⟩ : MethodName) (head1 (Jvm.Cond.code (⟨"java/lang/String", "isLatin1", "()Z"⟩ : MethodName) jdk_42_method_154_code 1 (some .boolean) :: ws) ({ frames := 0, cells := 0, slots := 0, locals := 0 } : Room)) (fun aa U => aa = #[(.ref a)] ∧ Z.Warmed39 U.vm ∧ U.heap = h0) (fun _ _ _ _ _ => True) (fun _ U o U' => ∃ v L, o = .returned v ∧ Q22 Z a cs h0 n0 v U'.heap L ∧ FrameEnd U o U' L ({ frames := 0, cells := 0, slots := 0, locals := 0 } : Room).cells ({ frames := 0, cells := 0, slots := 0, locals := 0 } : Room).slots) := by
  refine MetFree.of_bodySF (plainFor_of_name pn_rm22) hisR ?_
  intro p e s m args below meth c s₁ Bd hml0 hP hK
  obtain ⟨rfl, hZ, hh⟩ := hP
  have hx := Bd.exec
  have hby := Bd.bytes
  have hml : c.maxLocals = 1 := hml0
  have hown : s.vm.findClass "java/lang/String" = some m.cls := findClass_of_methodNamed Bd.named
  have hnm := (name_of_methodNamed Bd.named Bd.method).1
  have X0 : Stand p l e ({ frames := 0, cells := 0, slots := 0, locals := 0 } : Room) s m #[(.ref a)] below meth c s₁ [] 0 0 := Stand.of_body Bd
  have e0 : s₁.heap = h0 := by rw [← hh, Bd.state]; rfl
  have N0 := Fr.nil n0
  change OE p.tables e below _ _
  refine OE.v (fun t k => castTop (ef_rm22 m a) k) ?_
  show OE _ _ _ _ (s₁.setTop (mkF m 0 #[rv a] []))
  obtain ⟨T1, X1, e1, st1⟩ := getS2 X0 hx hZ hown (host := "") (Or.inl (hw _ (own_w 117 rfl))) Via.refl e0 (OP0.ext O0.2) (g := (mkF m 0 #[rv a] [])) rfl (hb hby d22_0)
  refine OE.v st1 ?_
  show OE _ _ _ _ (T1.setTop (mkF m 3 #[rv a] [(.int cs)]))
  refine OE.v (fun t k => XS.ifNo X1.here hx rfl (hb hby d22_3) rfl ((if0 _ _).trans (feq P1).1) k) ?_
  show OE _ _ _ _ (T1.setTop (mkF m 6 #[rv a] []))
  refine OE.v (fun t k => XS.aloadN X1.here hx rfl (hb hby d22_6) rfl rfl k) ?_
  show OE _ _ _ _ (T1.setTop (mkF m 7 #[rv a] [(.ref a)]))
  obtain ⟨T2, X2, e2, st2⟩ := getF X1 hx hZ hown (host := "") (Or.inl (hw _ (own_w 83 rfl))) Via.refl e1 P0 (g := (mkF m 7 #[rv a] [(.ref a)])) rfl rfl (hb hby d22_7)
  refine OE.v st2 ?_
  show OE _ _ _ _ (T2.setTop (mkF m 10 #[rv a] [(.int 0)]))
  refine OE.v (fun t k => XS.ifNo X2.here hx rfl (hb hby d22_10) rfl ((if0 _ _).trans (teq (by decide)).2) k) ?_
  show OE _ _ _ _ (T2.setTop (mkF m 13 #[rv a] []))
  refine OE.v (fun t k => XS.iconst X2.here hx rfl (hb hby d22_13) k) ?_
  refine OE.v (fun t k => XS.goto X2.here hx rfl (pc0 := 14) (pc' := 18) rfl (hb hby d22_14) (by decide) (by decide) k) ?_
  show OE _ _ _ _ (T2.setTop (mkF m 18 #[rv a] [(.int 1)]))
  obtain ⟨fs, hr, hrun, hended, hW, hsame⟩ := X2.leave (v := some (.int 1)) (fun h => by rw [Bd.returns] at h; cases h)
  refine ⟨_, _, ?_, hrun, hended, _, _, rfl, ?_, ⟨_, rfl⟩, hW, hsame.mono (by decide) (by decide)⟩
  · exact retN X2 hx (t := .boolean) Bd.returns (by simp) (hb hby d22_18) hr
  · show Q22 Z a cs h0 n0 _ T2.heap _
    rw [e2]
    exact ⟨rfl, N0, rfl⟩

theorem d25_0 : decode jdk_41_method_11_code 0 = .ok (.iload_n 0, 1) := by decide +kernel
theorem d25_1 : decode jdk_41_method_11_code 1 = .ok (.ifCond .lt 8, 3) := by decide +kernel
theorem d25_4 : decode jdk_41_method_11_code 4 = .ok (.iload_n 0, 1) := by decide +kernel
theorem d25_5 : decode jdk_41_method_11_code 5 = .ok (.iload_n 1, 1) := by decide +kernel
theorem d25_6 : decode jdk_41_method_11_code 6 = .ok (.if_icmp .lt 10, 3) := by decide +kernel
theorem d25_16 : decode jdk_41_method_11_code 16 = .ok (.iload_n 0, 1) := by decide +kernel
theorem d25_17 : decode jdk_41_method_11_code 17 = .ok (.ireturn, 1) := by decide +kernel
theorem pn_rmPN : plainName "jdk/internal/util/Preconditions" = true := by first | (simp [plainName, overriddenIn]; done) | decide +kernel
theorem ef_rmPN (m : MethodId) (ix : Int32) (cn : Int32) : entryFrame m #[(.int ix), (.int cn), .null] 3 = mkF m 0 #[iv ix, iv cn, .val .null] [] := by first | (simp [entryFrame, mkF, argsToLocals, Value.category]; done) | rfl
def QPN (Z : State) (ix : Int32) (cn : Int32) (h0 : Heap) (n0 : Nat) (v : Option Value) (h : Heap) (L : List Loc) : Prop := v = some (.int ix) ∧ Fr n0 L ∧ h = h0
set_option maxRecDepth 65536 in
set_option maxHeartbeats 40000000 in
theorem rmPN (l : Launch) (Z : State) (a0 : Array Value) (hw : ∀ d ∈ tables_1, d.before a0 Z = true) (ws : List Jvm.Cond) (ix : Int32) (cn : Int32) (h0 : Heap) (n0 : Nat) (Z0 : n0 ≤ h0.size) (P0 : ¬ ix < (0 : Int32)) (P1 : ix < cn) :
    MetFree l (⟨"jdk/internal/util/Preconditions", "checkIndex", "(IILjava/util/function/BiFunction;)I"⟩ : MethodName) (head1 (Jvm.Cond.code (⟨"jdk/internal/util/Preconditions", "checkIndex", "(IILjava/util/function/BiFunction;)I"⟩ : MethodName) jdk_41_method_11_code 3 (some .int) :: ws) ({ frames := 0, cells := 0, slots := 0, locals := 0 } : Room)) (fun aa U => aa = #[(.int ix), (.int cn), .null] ∧ Z.Warmed39 U.vm ∧ U.heap = h0) (fun _ _ _ _ _ => True) (fun _ U o U' => ∃ v L, o = .returned v ∧ QPN Z ix cn h0 n0 v U'.heap L ∧ FrameEnd U o U' L ({ frames := 0, cells := 0, slots := 0, locals := 0 } : Room).cells ({ frames := 0, cells := 0, slots := 0, locals := 0 } : Room).slots) := by
  refine MetFree.of_bodySF (plainFor_of_name pn_rmPN) hisR ?_
  intro p e s m args below meth c s₁ Bd hml0 hP hK
  obtain ⟨rfl, hZ, hh⟩ := hP
  have hx := Bd.exec
  have hby := Bd.bytes
  have hml : c.maxLocals = 3 := hml0
  have hown : s.vm.findClass "jdk/internal/util/Preconditions" = some m.cls := findClass_of_methodNamed Bd.named
  have hnm := (name_of_methodNamed Bd.named Bd.method).1
  have X0 : Stand p l e ({ frames := 0, cells := 0, slots := 0, locals := 0 } : Room) s m #[(.int ix), (.int cn), .null] below meth c s₁ [] 0 0 := Stand.of_body Bd
  have e0 : s₁.heap = h0 := by rw [← hh, Bd.state]; rfl
  have N0 := Fr.nil n0
  change OE p.tables e below _ _
  refine OE.v (fun t k => castTop (ef_rmPN m ix cn) k) ?_
  show OE _ _ _ _ (s₁.setTop (mkF m 0 #[iv ix, iv cn, .val .null] []))
  refine OE.v (fun t k => XS.iloadN X0.here hx rfl (hb hby d25_0) rfl k) ?_
  show OE _ _ _ _ (s₁.setTop (mkF m 1 #[iv ix, iv cn, .val .null] [(.int ix)]))
  refine OE.v (fun t k => XS.ifNo X0.here hx rfl (hb hby d25_1) rfl ((if0 _ _).trans (flt P0).1) k) ?_
  show OE _ _ _ _ (s₁.setTop (mkF m 4 #[iv ix, iv cn, .val .null] []))
  refine OE.v (fun t k => XS.iloadN X0.here hx rfl (hb hby d25_4) rfl k) ?_
  refine OE.v (fun t k => XS.iloadN X0.here hx rfl (hb hby d25_5) rfl k) ?_
  show OE _ _ _ _ (s₁.setTop (mkF m 6 #[iv ix, iv cn, .val .null] [(.int cn), (.int ix)]))
  refine OE.v (fun t k => XS.icmpYes X0.here hx rfl (pc0 := 6) (pc' := 16) rfl (hb hby d25_6) rfl (tlt P1).1 (by decide) (by decide) k) ?_
  show OE _ _ _ _ (s₁.setTop (mkF m 16 #[iv ix, iv cn, .val .null] []))
  refine OE.v (fun t k => XS.iloadN X0.here hx rfl (hb hby d25_16) rfl k) ?_
  show OE _ _ _ _ (s₁.setTop (mkF m 17 #[iv ix, iv cn, .val .null] [(.int ix)]))
  obtain ⟨fs, hr, hrun, hended, hW, hsame⟩ := X0.leave (v := some (.int ix)) (fun h => by rw [Bd.returns] at h; cases h)
  refine ⟨_, _, ?_, hrun, hended, _, _, rfl, ?_, ⟨_, rfl⟩, hW, hsame.mono (by decide) (by decide)⟩
  · exact retI X0 hx Bd.returns (hb hby d25_17) hr
  · show QPN Z ix cn h0 n0 _ s₁.heap _
    rw [e0]
    exact ⟨rfl, N0, rfl⟩

theorem pn_rmPR : plainName "jdk/internal/util/Preconditions" = true := by first | (simp [plainName, overriddenIn]; done) | decide +kernel
theorem ef_rmPR (m : MethodId) (ix : Int32) (cn : Int32) (fo : Addr) : entryFrame m #[(.int ix), (.int cn), (.ref fo)] 3 = mkF m 0 #[iv ix, iv cn, rv fo] [] := by first | (simp [entryFrame, mkF, argsToLocals, Value.category]; done) | rfl
def QPR (Z : State) (ix : Int32) (cn : Int32) (fo : Addr) (h0 : Heap) (n0 : Nat) (v : Option Value) (h : Heap) (L : List Loc) : Prop := v = some (.int ix) ∧ Fr n0 L ∧ h = h0
set_option maxRecDepth 65536 in
set_option maxHeartbeats 40000000 in
theorem rmPR (l : Launch) (Z : State) (a0 : Array Value) (hw : ∀ d ∈ tables_1, d.before a0 Z = true) (ws : List Jvm.Cond) (ix : Int32) (cn : Int32) (fo : Addr) (h0 : Heap) (n0 : Nat) (Z0 : n0 ≤ h0.size) (P0 : ¬ ix < (0 : Int32)) (P1 : ix < cn) :
    MetFree l (⟨"jdk/internal/util/Preconditions", "checkIndex", "(IILjava/util/function/BiFunction;)I"⟩ : MethodName) (head1 (Jvm.Cond.code (⟨"jdk/internal/util/Preconditions", "checkIndex", "(IILjava/util/function/BiFunction;)I"⟩ : MethodName) jdk_41_method_11_code 3 (some .int) :: ws) ({ frames := 0, cells := 0, slots := 0, locals := 0 } : Room)) (fun aa U => aa = #[(.int ix), (.int cn), (.ref fo)] ∧ Z.Warmed39 U.vm ∧ U.heap = h0) (fun _ _ _ _ _ => True) (fun _ U o U' => ∃ v L, o = .returned v ∧ QPR Z ix cn fo h0 n0 v U'.heap L ∧ FrameEnd U o U' L ({ frames := 0, cells := 0, slots := 0, locals := 0 } : Room).cells ({ frames := 0, cells := 0, slots := 0, locals := 0 } : Room).slots) := by
  refine MetFree.of_bodySF (plainFor_of_name pn_rmPR) hisR ?_
  intro p e s m args below meth c s₁ Bd hml0 hP hK
  obtain ⟨rfl, hZ, hh⟩ := hP
  have hx := Bd.exec
  have hby := Bd.bytes
  have hml : c.maxLocals = 3 := hml0
  have hown : s.vm.findClass "jdk/internal/util/Preconditions" = some m.cls := findClass_of_methodNamed Bd.named
  have hnm := (name_of_methodNamed Bd.named Bd.method).1
  have X0 : Stand p l e ({ frames := 0, cells := 0, slots := 0, locals := 0 } : Room) s m #[(.int ix), (.int cn), (.ref fo)] below meth c s₁ [] 0 0 := Stand.of_body Bd
  have e0 : s₁.heap = h0 := by rw [← hh, Bd.state]; rfl
  have N0 := Fr.nil n0
  change OE p.tables e below _ _
  refine OE.v (fun t k => castTop (ef_rmPR m ix cn fo) k) ?_
  show OE _ _ _ _ (s₁.setTop (mkF m 0 #[iv ix, iv cn, rv fo] []))
  refine OE.v (fun t k => XS.iloadN X0.here hx rfl (hb hby d25_0) rfl k) ?_
  show OE _ _ _ _ (s₁.setTop (mkF m 1 #[iv ix, iv cn, rv fo] [(.int ix)]))
  refine OE.v (fun t k => XS.ifNo X0.here hx rfl (hb hby d25_1) rfl ((if0 _ _).trans (flt P0).1) k) ?_
  show OE _ _ _ _ (s₁.setTop (mkF m 4 #[iv ix, iv cn, rv fo] []))
  refine OE.v (fun t k => XS.iloadN X0.here hx rfl (hb hby d25_4) rfl k) ?_
  refine OE.v (fun t k => XS.iloadN X0.here hx rfl (hb hby d25_5) rfl k) ?_
  show OE _ _ _ _ (s₁.setTop (mkF m 6 #[iv ix, iv cn, rv fo] [(.int cn), (.int ix)]))
  refine OE.v (fun t k => XS.icmpYes X0.here hx rfl (pc0 := 6) (pc' := 16) rfl (hb hby d25_6) rfl (tlt P1).1 (by decide) (by decide) k) ?_
  show OE _ _ _ _ (s₁.setTop (mkF m 16 #[iv ix, iv cn, rv fo] []))
  refine OE.v (fun t k => XS.iloadN X0.here hx rfl (hb hby d25_16) rfl k) ?_
  show OE _ _ _ _ (s₁.setTop (mkF m 17 #[iv ix, iv cn, rv fo] [(.int ix)]))
  obtain ⟨fs, hr, hrun, hended, hW, hsame⟩ := X0.leave (v := some (.int ix)) (fun h => by rw [Bd.returns] at h; cases h)
  refine ⟨_, _, ?_, hrun, hended, _, _, rfl, ?_, ⟨_, rfl⟩, hW, hsame.mono (by decide) (by decide)⟩
  · exact retI X0 hx Bd.returns (hb hby d25_17) hr
  · show QPR Z ix cn fo h0 n0 _ s₁.heap _
    rw [e0]
    exact ⟨rfl, N0, rfl⟩

theorem d24_0 : decode jdk_42_method_155_code 0 = .ok (.iload_n 0, 1) := by decide +kernel
theorem d24_1 : decode jdk_42_method_155_code 1 = .ok (.iload_n 1, 1) := by decide +kernel
theorem d24_2 : decode jdk_42_method_155_code 2 = .ok (.getstatic 1053, 3) := by decide +kernel
theorem d24_5 : decode jdk_42_method_155_code 5 = .ok (.invokestatic 1059, 3) := by decide +kernel
theorem d24_8 : decode jdk_42_method_155_code 8 = .ok (.pop, 1) := by decide +kernel
theorem d24_9 : decode jdk_42_method_155_code 9 = .ok (.return_, 1) := by decide +kernel
theorem pn_rm24 : plainName "java/lang/String" = true := by first | (simp [plainName, overriddenIn]; done) | decide +kernel
theorem pd_12 : parseMethodDescriptor "(IILjava/util/function/BiFunction;)I" = some ⟨[.int, .int, (.object "java/util/function/BiFunction")], some .int⟩ := by decide +kernel
theorem ef_rm24 (m : MethodId) (ix : Int32) (cn : Int32) : entryFrame m #[(.int ix), (.int cn)] 2 = mkF m 0 #[iv ix, iv cn] [] := by first | (simp [entryFrame, mkF, argsToLocals, Value.category]; done) | rfl
def Q24 (Z : State) (ix : Int32) (cn : Int32) (h0 : Heap) (n0 : Nat) (v : Option Value) (h : Heap) (L : List Loc) : Prop := v = none ∧ Fr n0 L ∧ h = h0
set_option maxRecDepth 65536 in
set_option maxHeartbeats 40000000 in
theorem rm24 (l : Launch) (Z : State) (a0 : Array Value) (hw : ∀ d ∈ tables_1, d.before a0 Z = true) (ws : List Jvm.Cond) (ix : Int32) (cn : Int32) (h0 : Heap) (n0 : Nat) (Z0 : n0 ≤ h0.size) (O0 : Old Z n0 h0) (P0 : ¬ ix < (0 : Int32)) (P1 : ix < cn) (P2 : own_SI Z) :
    MetFree l (⟨"java/lang/String", "checkIndex", "(II)V"⟩ : MethodName) (head1 (Jvm.Cond.code (⟨"java/lang/String", "checkIndex", "(II)V"⟩ : MethodName) jdk_42_method_155_code 2 none :: ws) ({ frames := 1, cells := 0, slots := 0, locals := 14 } : Room)) (fun aa U => aa = #[(.int ix), (.int cn)] ∧ Z.Warmed39 U.vm ∧ U.heap = h0) (fun _ _ _ _ _ => True) (fun _ U o U' => ∃ v L, o = .returned v ∧ Q24 Z ix cn h0 n0 v U'.heap L ∧ FrameEnd U o U' L ({ frames := 1, cells := 0, slots := 0, locals := 14 } : Room).cells ({ frames := 1, cells := 0, slots := 0, locals := 14 } : Room).slots) := by
  refine MetFree.of_bodySF (plainFor_of_name pn_rm24) hisR ?_
  intro p e s m args below meth c s₁ Bd hml0 hP hK
  obtain ⟨rfl, hZ, hh⟩ := hP
  have hx := Bd.exec
  have hby := Bd.bytes
  have hml : c.maxLocals = 2 := hml0
  have hown : s.vm.findClass "java/lang/String" = some m.cls := findClass_of_methodNamed Bd.named
  have hnm := (name_of_methodNamed Bd.named Bd.method).1
  have X0 : Stand p l e ({ frames := 1, cells := 0, slots := 0, locals := 14 } : Room) s m #[(.int ix), (.int cn)] below meth c s₁ [] 0 0 := Stand.of_body Bd
  have e0 : s₁.heap = h0 := by rw [← hh, Bd.state]; rfl
  have N0 := Fr.nil n0
  change OE p.tables e below _ _
  refine OE.v (fun t k => castTop (ef_rm24 m ix cn) k) ?_
  rcases P2 with hSI | ⟨fo, hSI⟩
  ·
    show OE _ _ _ _ (s₁.setTop (mkF m 0 #[iv ix, iv cn] []))
    refine OE.v (fun t k => XS.iloadN X0.here hx rfl (hb hby d24_0) rfl k) ?_
    refine OE.v (fun t k => XS.iloadN X0.here hx rfl (hb hby d24_1) rfl k) ?_
    show OE _ _ _ _ (s₁.setTop (mkF m 2 #[iv ix, iv cn] [(.int cn), (.int ix)]))
    obtain ⟨T1, X1, e1, st1⟩ := getS2 X0 hx hZ hown (host := "") (Or.inl (hw _ (own_w 134 rfl))) Via.refl e0 (hSI.ext O0.2) (g := (mkF m 2 #[iv ix, iv cn] [(.int cn), (.int ix)])) rfl (hb hby d24_2)
    refine OE.v st1 ?_
    show OE _ _ _ _ (T1.setTop (mkF m 5 #[iv ix, iv cn] [.null, (.int cn), (.int ix)]))
    obtain ⟨_, _, ⟨T2, L2, k2, n2⟩, -, X2, ⟨Lc2, hQ2, l2, y2, z2⟩, st2⟩ := Jvm.LawKit.callS X1 hx (y := (⟨"jdk/internal/util/Preconditions", "checkIndex", "(IILjava/util/function/BiFunction;)I"⟩ : MethodName)) hown (mvT hZ (hw _ (own_w 136 rfl))) (mvT hZ (hw _ (own_w 137 rfl))) (mvT hZ (hw _ (own_w 135 rfl))) (mvT hZ (hw _ (own_w 138 rfl))) (by decide) (backOf (W := 0) (rmPN l Z a0 hw [] ix cn h0 n0 Z0 P0 P1) hZ (hw _ (own_w 138 rfl)) (hw _ (own_w 135 rfl)) (by decide) (by decide)) (g := (mkF m 5 #[iv ix, iv cn] [.null, (.int cn), (.int ix)])) rfl (by rw [hml]; rfl) (argsL := [(.int ix), (.int cn), .null]) (rest := []) (lenOf pd_12 rfl) rfl (Nat.le_of_eq rfl) (hb hby d24_5) (fun _ _ => ⟨rfl, e1, (by decide : 0 + 0 ≤ _), (by decide : 0 + 0 ≤ _)⟩)
    dsimp only [Pt.U, Pt.locs, Pt.cells, Pt.slots] at X2 l2 y2 z2 st2 hQ2
    subst l2 y2 z2
    obtain ⟨rfl, Nq2, e2⟩ := hQ2
    have N2 := Fr.app N0 Nq2
    refine OE.v st2 ?_
    show OE _ _ _ _ (T2.setTop (mkF m 8 #[iv ix, iv cn] [(.int ix)]))
    refine OE.v (fun t k => XS.pop X2.here hx rfl (hb hby d24_8) rfl rfl k) ?_
    show OE _ _ _ _ (T2.setTop (mkF m 9 #[iv ix, iv cn] []))
    obtain ⟨fs, hr, hrun, hended, hW, hsame⟩ := X2.leave (v := none) (fun _ => rfl)
    refine ⟨_, _, ?_, hrun, hended, _, _, rfl, ?_, ⟨_, rfl⟩, hW, hsame.mono (by decide) (by decide)⟩
    · exact X2.returnOut hx Bd.returns (hb hby d24_9) hr
    · show Q24 Z ix cn h0 n0 _ T2.heap _
      rw [e2]
      exact ⟨rfl, N2, rfl⟩
  ·
    show OE _ _ _ _ (s₁.setTop (mkF m 0 #[iv ix, iv cn] []))
    refine OE.v (fun t k => XS.iloadN X0.here hx rfl (hb hby d24_0) rfl k) ?_
    refine OE.v (fun t k => XS.iloadN X0.here hx rfl (hb hby d24_1) rfl k) ?_
    show OE _ _ _ _ (s₁.setTop (mkF m 2 #[iv ix, iv cn] [(.int cn), (.int ix)]))
    obtain ⟨T3, X3, e3, st3⟩ := getS2 X0 hx hZ hown (host := "") (Or.inl (hw _ (own_w 134 rfl))) Via.refl e0 (hSI.ext O0.2) (g := (mkF m 2 #[iv ix, iv cn] [(.int cn), (.int ix)])) rfl (hb hby d24_2)
    refine OE.v st3 ?_
    show OE _ _ _ _ (T3.setTop (mkF m 5 #[iv ix, iv cn] [(.ref fo), (.int cn), (.int ix)]))
    obtain ⟨_, _, ⟨T4, L4, k4, n4⟩, -, X4, ⟨Lc4, hQ4, l4, y4, z4⟩, st4⟩ := Jvm.LawKit.callS X3 hx (y := (⟨"jdk/internal/util/Preconditions", "checkIndex", "(IILjava/util/function/BiFunction;)I"⟩ : MethodName)) hown (mvT hZ (hw _ (own_w 136 rfl))) (mvT hZ (hw _ (own_w 137 rfl))) (mvT hZ (hw _ (own_w 135 rfl))) (mvT hZ (hw _ (own_w 138 rfl))) (by decide) (backOf (W := 0) (rmPR l Z a0 hw [] ix cn fo h0 n0 Z0 P0 P1) hZ (hw _ (own_w 138 rfl)) (hw _ (own_w 135 rfl)) (by decide) (by decide)) (g := (mkF m 5 #[iv ix, iv cn] [(.ref fo), (.int cn), (.int ix)])) rfl (by rw [hml]; rfl) (argsL := [(.int ix), (.int cn), (.ref fo)]) (rest := []) (lenOf pd_12 rfl) rfl (Nat.le_of_eq rfl) (hb hby d24_5) (fun _ _ => ⟨rfl, e3, (by decide : 0 + 0 ≤ _), (by decide : 0 + 0 ≤ _)⟩)
    dsimp only [Pt.U, Pt.locs, Pt.cells, Pt.slots] at X4 l4 y4 z4 st4 hQ4
    subst l4 y4 z4
    obtain ⟨rfl, Nq4, e4⟩ := hQ4
    have N4 := Fr.app N0 Nq4
    refine OE.v st4 ?_
    show OE _ _ _ _ (T4.setTop (mkF m 8 #[iv ix, iv cn] [(.int ix)]))
    refine OE.v (fun t k => XS.pop X4.here hx rfl (hb hby d24_8) rfl rfl k) ?_
    show OE _ _ _ _ (T4.setTop (mkF m 9 #[iv ix, iv cn] []))
    obtain ⟨fs, hr, hrun, hended, hW, hsame⟩ := X4.leave (v := none) (fun _ => rfl)
    refine ⟨_, _, ?_, hrun, hended, _, _, rfl, ?_, ⟨_, rfl⟩, hW, hsame.mono (by decide) (by decide)⟩
    · exact X4.returnOut hx Bd.returns (hb hby d24_9) hr
    · show Q24 Z ix cn h0 n0 _ T4.heap _
      rw [e4]
      exact ⟨rfl, N4, rfl⟩

theorem d23_0 : decode jdk_43_method_2_code 0 = .ok (.iload_n 1, 1) := by decide +kernel
theorem d23_1 : decode jdk_43_method_2_code 1 = .ok (.aload_n 0, 1) := by decide +kernel
theorem d23_2 : decode jdk_43_method_2_code 2 = .ok (.arraylength, 1) := by decide +kernel
theorem d23_3 : decode jdk_43_method_2_code 3 = .ok (.invokestatic 9, 3) := by decide +kernel
theorem d23_6 : decode jdk_43_method_2_code 6 = .ok (.aload_n 0, 1) := by decide +kernel
theorem d23_7 : decode jdk_43_method_2_code 7 = .ok (.iload_n 1, 1) := by decide +kernel
theorem d23_8 : decode jdk_43_method_2_code 8 = .ok (.baload, 1) := by decide +kernel
theorem d23_9 : decode jdk_43_method_2_code 9 = .ok (.sipush 255, 3) := by decide +kernel
theorem d23_12 : decode jdk_43_method_2_code 12 = .ok (.iand, 1) := by decide +kernel
theorem d23_13 : decode jdk_43_method_2_code 13 = .ok (.i2c, 1) := by decide +kernel
theorem d23_14 : decode jdk_43_method_2_code 14 = .ok (.ireturn, 1) := by decide +kernel
theorem pn_rm23 : plainName "java/lang/StringLatin1" = true := by first | (simp [plainName, overriddenIn]; done) | decide +kernel
theorem ef_rm23 (m : MethodId) (sv : Addr) (ix : Int32) : entryFrame m #[(.ref sv), (.int ix)] 2 = mkF m 0 #[rv sv, iv ix] [] := by first | (simp [entryFrame, mkF, argsToLocals, Value.category]; done) | rfl
def Q23 (Z : State) (sv : Addr) (ix : Int32) (ks : ClassId) (cn : Int32) (us : List Value) (bb : Int32) (h0 : Heap) (n0 : Nat) (v : Option Value) (h : Heap) (L : List Loc) : Prop := v = some (.int bb) ∧ Fr n0 L ∧ h = h0
set_option maxRecDepth 65536 in
set_option maxHeartbeats 40000000 in
theorem rm23 (l : Launch) (Z : State) (a0 : Array Value) (hw : ∀ d ∈ tables_1, d.before a0 Z = true) (ws : List Jvm.Cond) (sv : Addr) (ix : Int32) (ks : ClassId) (cn : Int32) (us : List Value) (bb : Int32) (h0 : Heap) (n0 : Nat) (Z0 : n0 ≤ h0.size) (O0 : Old Z n0 h0) (P0 : Arv Z h0 sv ks .byte cn us (.int 0)) (P1 : ¬ ix < (0 : Int32)) (P2 : ix < cn) (P3 : us.getD ix.toNatClampNeg (.int 0) = (.int bb)) (P4 : 0 ≤ bb.toInt ∧ bb.toInt < 128) (P5 : own_SI Z) :
    MetFree l (⟨"java/lang/StringLatin1", "charAt", "([BI)C"⟩ : MethodName) (head1 (Jvm.Cond.code (⟨"java/lang/StringLatin1", "charAt", "([BI)C"⟩ : MethodName) jdk_43_method_2_code 2 (some .char) :: ws) ({ frames := 2, cells := 0, slots := 0, locals := 27 } : Room)) (fun aa U => aa = #[(.ref sv), (.int ix)] ∧ Z.Warmed39 U.vm ∧ U.heap = h0) (fun _ _ _ _ _ => True) (fun _ U o U' => ∃ v L, o = .returned v ∧ Q23 Z sv ix ks cn us bb h0 n0 v U'.heap L ∧ FrameEnd U o U' L ({ frames := 2, cells := 0, slots := 0, locals := 27 } : Room).cells ({ frames := 2, cells := 0, slots := 0, locals := 27 } : Room).slots) := by
  refine MetFree.of_bodySF (plainFor_of_name pn_rm23) hisR ?_
  intro p e s m args below meth c s₁ Bd hml0 hP hK
  obtain ⟨rfl, hZ, hh⟩ := hP
  have hx := Bd.exec
  have hby := Bd.bytes
  have hml : c.maxLocals = 2 := hml0
  have hown : s.vm.findClass "java/lang/StringLatin1" = some m.cls := findClass_of_methodNamed Bd.named
  have hnm := (name_of_methodNamed Bd.named Bd.method).1
  have X0 : Stand p l e ({ frames := 2, cells := 0, slots := 0, locals := 27 } : Room) s m #[(.ref sv), (.int ix)] below meth c s₁ [] 0 0 := Stand.of_body Bd
  have e0 : s₁.heap = h0 := by rw [← hh, Bd.state]; rfl
  have N0 := Fr.nil n0
  change OE p.tables e below _ _
  refine OE.v (fun t k => castTop (ef_rm23 m sv ix) k) ?_
  show OE _ _ _ _ (s₁.setTop (mkF m 0 #[rv sv, iv ix] []))
  refine OE.v (fun t k => XS.iloadN X0.here hx rfl (hb hby d23_0) rfl k) ?_
  refine OE.v (fun t k => XS.aloadN X0.here hx rfl (hb hby d23_1) rfl rfl k) ?_
  show OE _ _ _ _ (s₁.setTop (mkF m 2 #[rv sv, iv ix] [(.ref sv), (.int ix)]))
  obtain ⟨cl1, Ar1, q1, S1, M1, H1, G1⟩ := id P0
  refine OE.v (X0.arraylength hx (by rw [e0]; exact Ar1.1) (State.isArrayOf_alike hZ.alike Ar1.2.1) (g := (mkF m 2 #[rv sv, iv ix] [(.ref sv), (.int ix)])) rfl rfl (hb hby d23_2)) ?_
  rw [len_of S1 M1]
  show OE _ _ _ _ (s₁.setTop (mkF m 3 #[rv sv, iv ix] [(.int cn), (.int ix)]))
  obtain ⟨_, _, ⟨T2, L2, k2, n2⟩, -, X2, ⟨Lc2, hQ2, l2, y2, z2⟩, st2⟩ := Jvm.LawKit.callS X0 hx (y := (⟨"java/lang/String", "checkIndex", "(II)V"⟩ : MethodName)) hown (mvT hZ (hw _ (own_w 131 rfl))) (mvT hZ (hw _ (own_w 132 rfl))) (mvT hZ (hw _ (own_w 21 rfl))) (mvT hZ (hw _ (own_w 133 rfl))) (by decide) (backOf (W := 0) (rm24 l Z a0 hw [] ix cn h0 n0 Z0 O0 P1 P2 P5) hZ (hw _ (own_w 133 rfl)) (hw _ (own_w 21 rfl)) (by decide) (by decide)) (g := (mkF m 3 #[rv sv, iv ix] [(.int cn), (.int ix)])) rfl (by rw [hml]; rfl) (argsL := [(.int ix), (.int cn)]) (rest := []) (lenOf pd_5 rfl) rfl (Nat.le_of_eq rfl) (hb hby d23_3) (fun _ _ => ⟨rfl, e0, (by decide : 0 + 0 ≤ _), (by decide : 0 + 0 ≤ _)⟩)
  dsimp only [Pt.U, Pt.locs, Pt.cells, Pt.slots] at X2 l2 y2 z2 st2 hQ2
  subst l2 y2 z2
  obtain ⟨rfl, Nq2, e2⟩ := hQ2
  have N2 := Fr.app N0 Nq2
  refine OE.v st2 ?_
  show OE _ _ _ _ (T2.setTop (mkF m 6 #[rv sv, iv ix] []))
  refine OE.v (fun t k => XS.aloadN X2.here hx rfl (hb hby d23_6) rfl rfl k) ?_
  refine OE.v (fun t k => XS.iloadN X2.here hx rfl (hb hby d23_7) rfl k) ?_
  show OE _ _ _ _ (T2.setTop (mkF m 8 #[rv sv, iv ix] [(.int ix), (.ref sv)]))
  obtain ⟨cl3, Ar3, q3, S3, M3, H3, G3⟩ := id P0
  have hin3 : ¬ (ix < 0 ∨ cl3.slots.size ≤ (ix).toNatClampNeg) := inb_of S3 ⟨P1, P2⟩
  have hat3 : cl3.slots[(ix).toNatClampNeg]? = some (.int bb) := H3.at hin3 P3
  refine OE.v (X2.baloadBytes hx (j := ix) (v := (.int bb)) (by rw [e2]; exact Ar3.1) (State.isArrayOf_alike hZ.alike Ar3.2.1) Ar3.2.2 hin3 hat3 (g := (mkF m 8 #[rv sv, iv ix] [(.int ix), (.ref sv)])) rfl rfl (hb hby d23_8)) ?_
  show OE _ _ _ _ (T2.setTop (mkF m 9 #[rv sv, iv ix] [(.int bb)]))
  refine OE.v (fun t k => XS.sipush X2.here hx rfl (hb hby d23_9) k) ?_
  refine OE.v (fun t k => XS.iand X2.here hx rfl (hb hby d23_12) rfl k) ?_
  refine OE.v (fun t k => XS.i2c X2.here hx rfl (hb hby d23_13) rfl k) ?_
  show OE _ _ _ _ (T2.setTop (mkF m 14 #[rv sv, iv ix] [(.int ((bb &&& (255 : Int32)).toUInt32.toUInt16.toUInt32.toInt32))]))
  obtain ⟨fs, hr, hrun, hended, hW, hsame⟩ := X2.leave (v := some (.int (nar .char ((bb &&& (255 : Int32)).toUInt32.toUInt16.toUInt32.toInt32)))) (fun h => by rw [Bd.returns] at h; cases h)
  refine ⟨_, _, ?_, hrun, hended, _, _, rfl, ?_, ⟨_, rfl⟩, hW, hsame.mono (by decide) (by decide)⟩
  · exact retN X2 hx (t := .char) Bd.returns (by simp) (hb hby d23_14) hr
  · show Q23 Z sv ix ks cn us bb h0 n0 _ T2.heap _
    rw [e2]
    exact ⟨(by rw [own_ch P4]), N2, rfl⟩

theorem d21_0 : decode jdk_42_method_56_code 0 = .ok (.aload_n 0, 1) := by decide +kernel
theorem d21_1 : decode jdk_42_method_56_code 1 = .ok (.invokevirtual 492, 3) := by decide +kernel
theorem d21_4 : decode jdk_42_method_56_code 4 = .ok (.ifCond .eq 12, 3) := by decide +kernel
theorem d21_7 : decode jdk_42_method_56_code 7 = .ok (.aload_n 0, 1) := by decide +kernel
theorem d21_8 : decode jdk_42_method_56_code 8 = .ok (.getfield 9, 3) := by decide +kernel
theorem d21_11 : decode jdk_42_method_56_code 11 = .ok (.iload_n 1, 1) := by decide +kernel
theorem d21_12 : decode jdk_42_method_56_code 12 = .ok (.invokestatic 495, 3) := by decide +kernel
theorem d21_15 : decode jdk_42_method_56_code 15 = .ok (.ireturn, 1) := by decide +kernel
theorem pn_rm21 : plainName "java/lang/String" = true := by first | (simp [plainName, overriddenIn]; done) | decide +kernel
theorem pd_13 : parseMethodDescriptor "([BI)C" = some ⟨[(.array .byte), .int], some .char⟩ := by decide +kernel
theorem ef_rm21 (m : MethodId) (a : Addr) (ix : Int32) : entryFrame m #[(.ref a), (.int ix)] 2 = mkF m 0 #[rv a, iv ix] [] := by first | (simp [entryFrame, mkF, argsToLocals, Value.category]; done) | rfl
def Q21 (Z : State) (a : Addr) (sv : Addr) (ks : ClassId) (cn : Int32) (us : List Value) (cs : Int32) (ix : Int32) (bb : Int32) (h0 : Heap) (n0 : Nat) (v : Option Value) (h : Heap) (L : List Loc) : Prop := v = some (.int bb) ∧ Fr n0 L ∧ h = h0
set_option maxRecDepth 65536 in
set_option maxHeartbeats 40000000 in
theorem rm21 (l : Launch) (Z : State) (a0 : Array Value) (hw : ∀ d ∈ tables_1, d.before a0 Z = true) (ws : List Jvm.Cond) (a : Addr) (sv : Addr) (ks : ClassId) (cn : Int32) (us : List Value) (cs : Int32) (ix : Int32) (bb : Int32) (h0 : Heap) (n0 : Nat) (Z0 : n0 ≤ h0.size) (O0 : Old Z n0 h0) (P0 : Exa Z h0 a "java/lang/String") (P1 : Fld Z h0 a "java/lang/String" "value" "[B" (.ref sv)) (P2 : Fld Z h0 a "java/lang/String" "coder" "B" (.int 0)) (P3 : Arv Z h0 sv ks .byte cn us (.int 0)) (P4 : ¬ ix < (0 : Int32)) (P5 : ix < cn) (P6 : us.getD ix.toNatClampNeg (.int 0) = (.int bb)) (P7 : 0 ≤ bb.toInt ∧ bb.toInt < 128) (P8 : own_SI Z) (P9 : ¬ cs = (0 : Int32)) (OP0 : Sta Z Z.heap "java/lang/String" "COMPACT_STRINGS" "Z" (.int cs)) :
    MetFree l (⟨"java/lang/String", "charAt", "(I)C"⟩ : MethodName) (head1 (Jvm.Cond.code (⟨"java/lang/String", "charAt", "(I)C"⟩ : MethodName) jdk_42_method_56_code 2 (some .char) :: ws) ({ frames := 3, cells := 0, slots := 0, locals := 40 } : Room)) (fun aa U => aa = #[(.ref a), (.int ix)] ∧ Z.Warmed39 U.vm ∧ U.heap = h0) (fun _ _ _ _ _ => True) (fun _ U o U' => ∃ v L, o = .returned v ∧ Q21 Z a sv ks cn us cs ix bb h0 n0 v U'.heap L ∧ FrameEnd U o U' L ({ frames := 3, cells := 0, slots := 0, locals := 40 } : Room).cells ({ frames := 3, cells := 0, slots := 0, locals := 40 } : Room).slots) := by
  refine MetFree.of_bodySF (plainFor_of_name pn_rm21) hisR ?_
  intro p e s m args below meth c s₁ Bd hml0 hP hK
  obtain ⟨rfl, hZ, hh⟩ := hP
  have hx := Bd.exec
  have hby := Bd.bytes
  have hml : c.maxLocals = 2 := hml0
  have hown : s.vm.findClass "java/lang/String" = some m.cls := findClass_of_methodNamed Bd.named
  have hnm := (name_of_methodNamed Bd.named Bd.method).1
  have X0 : Stand p l e ({ frames := 3, cells := 0, slots := 0, locals := 40 } : Room) s m #[(.ref a), (.int ix)] below meth c s₁ [] 0 0 := Stand.of_body Bd
  have e0 : s₁.heap = h0 := by rw [← hh, Bd.state]; rfl
  have N0 := Fr.nil n0
  change OE p.tables e below _ _
  refine OE.v (fun t k => castTop (ef_rm21 m a ix) k) ?_
  show OE _ _ _ _ (s₁.setTop (mkF m 0 #[rv a, iv ix] []))
  refine OE.v (fun t k => XS.aloadN X0.here hx rfl (hb hby d21_0) rfl rfl k) ?_
  show OE _ _ _ _ (s₁.setTop (mkF m 1 #[rv a, iv ix] [(.ref a)]))
  obtain ⟨cq1, kq1, q1a, q1b, q1c⟩ := isOf hZ e0 P0
  obtain ⟨_, _, ⟨T1, L1, k1, n1⟩, -, X1, ⟨Lc1, hQ1, l1, y1, z1⟩, st1⟩ := X0.virtualBack hx (y := (⟨"java/lang/String", "isLatin1", "()Z"⟩ : MethodName)) (z := (⟨"java/lang/String", "isLatin1", "()Z"⟩ : MethodName)) hown (mvT hZ (hw _ (own_w 123 rfl))) (mvT hZ (hw _ (own_w 124 rfl))) (notFace_of_selects (args := #[]) (mvT hZ (hw _ (own_w 126 rfl)))) (mvT hZ (hw _ (own_w 126 rfl))) (mvT hZ (hw _ (own_w 125 rfl))) (by decide) (backOf (W := 0) (rm22 l Z a0 hw [] a cs h0 n0 Z0 O0 P2 P9 OP0) hZ (hw _ (own_w 127 rfl)) (hw _ (own_w 21 rfl)) (by decide) (by decide)) q1a q1c (g := (mkF m 1 #[rv a, iv ix] [(.ref a)])) rfl (by rw [hml]; rfl) (Steps.refl _) (argsL := []) (rest := []) (lenOf pd_1 rfl) rfl (Nat.le_of_eq rfl) (hb hby d21_1) (fun _ _ => ⟨rfl, e0, (by decide : 0 + 0 ≤ _), (by decide : 0 + 0 ≤ _)⟩)
  dsimp only [Pt.U, Pt.locs, Pt.cells, Pt.slots] at X1 l1 y1 z1 st1 hQ1
  subst l1 y1 z1
  obtain ⟨rfl, Nq1, e1⟩ := hQ1
  have N1 := Fr.app N0 Nq1
  refine OE.v (fun t k => st1.trans k) ?_
  show OE _ _ _ _ (T1.setTop (mkF m 4 #[rv a, iv ix] [(.int 1)]))
  refine OE.v (fun t k => XS.ifNo X1.here hx rfl (hb hby d21_4) rfl ((if0 _ _).trans (feq (by decide)).1) k) ?_
  show OE _ _ _ _ (T1.setTop (mkF m 7 #[rv a, iv ix] []))
  refine OE.v (fun t k => XS.aloadN X1.here hx rfl (hb hby d21_7) rfl rfl k) ?_
  show OE _ _ _ _ (T1.setTop (mkF m 8 #[rv a, iv ix] [(.ref a)]))
  obtain ⟨T2, X2, e2, st2⟩ := getF X1 hx hZ hown (host := "") (Or.inl (hw _ (own_w 98 rfl))) Via.refl e1 P1 (g := (mkF m 8 #[rv a, iv ix] [(.ref a)])) rfl rfl (hb hby d21_8)
  refine OE.v st2 ?_
  show OE _ _ _ _ (T2.setTop (mkF m 11 #[rv a, iv ix] [(.ref sv)]))
  refine OE.v (fun t k => XS.iloadN X2.here hx rfl (hb hby d21_11) rfl k) ?_
  show OE _ _ _ _ (T2.setTop (mkF m 12 #[rv a, iv ix] [(.int ix), (.ref sv)]))
  obtain ⟨_, _, ⟨T3, L3, k3, n3⟩, -, X3, ⟨Lc3, hQ3, l3, y3, z3⟩, st3⟩ := Jvm.LawKit.callS X2 hx (y := (⟨"java/lang/StringLatin1", "charAt", "([BI)C"⟩ : MethodName)) hown (mvT hZ (hw _ (own_w 128 rfl))) (mvT hZ (hw _ (own_w 129 rfl))) (mvT hZ (hw _ (own_w 50 rfl))) (mvT hZ (hw _ (own_w 130 rfl))) (by decide) (backOf (W := 0) (rm23 l Z a0 hw [] sv ix ks cn us bb h0 n0 Z0 O0 P3 P4 P5 P6 P7 P8) hZ (hw _ (own_w 130 rfl)) (hw _ (own_w 50 rfl)) (by decide) (by decide)) (g := (mkF m 12 #[rv a, iv ix] [(.int ix), (.ref sv)])) rfl (by rw [hml]; rfl) (argsL := [(.ref sv), (.int ix)]) (rest := []) (lenOf pd_13 rfl) rfl (Nat.le_of_eq rfl) (hb hby d21_12) (fun _ _ => ⟨rfl, e2, (by decide : 0 + 0 ≤ _), (by decide : 0 + 0 ≤ _)⟩)
  dsimp only [Pt.U, Pt.locs, Pt.cells, Pt.slots] at X3 l3 y3 z3 st3 hQ3
  subst l3 y3 z3
  obtain ⟨rfl, Nq3, e3⟩ := hQ3
  have N3 := Fr.app N1 Nq3
  refine OE.v st3 ?_
  show OE _ _ _ _ (T3.setTop (mkF m 15 #[rv a, iv ix] [(.int bb)]))
  obtain ⟨fs, hr, hrun, hended, hW, hsame⟩ := X3.leave (v := some (.int (nar .char bb))) (fun h => by rw [Bd.returns] at h; cases h)
  refine ⟨_, _, ?_, hrun, hended, _, _, rfl, ?_, ⟨_, rfl⟩, hW, hsame.mono (by decide) (by decide)⟩
  · exact retN X3 hx (t := .char) Bd.returns (by simp) (hb hby d21_15) hr
  · show Q21 Z a sv ks cn us cs ix bb h0 n0 _ T3.heap _
    rw [e3]
    exact ⟨(by rw [own_nc ⟨P7.1, by have := P7.2; omega⟩]), N3, rfl⟩

def own_has (us : List Value) (cn ps vv : Int32) : Prop := 0 ≤ ps.toInt ∧ ps.toInt + (own_enc vv).length ≤ cn.toInt ∧ cn.toInt ≤ 9 ∧ ∀ i, i < (own_enc vv).length → us.getD (ps.toNatClampNeg + i) (.int 0) = (.int ((own_enc vv).getD i (0 : Int32)))
theorem own_e1 {v : Int32} (h : own_U v) : own_enc v = [v] := by rw [own_enc, if_pos h]
theorem own_e3 {v : Int32} (h : ¬ own_U v) : own_enc v = [37, own_hx (v >>> ((4 : Int32) &&& 31)), own_hx (v &&& (15 : Int32))] := by rw [own_enc, if_neg h]
theorem own_p {us : List Value} {cn ps vv : Int32} (H : own_has us cn ps vv) : ¬ ps < (0 : Int32) := by
  rw [Int32.lt_iff_toInt_lt]
  have z : (0 : Int32).toInt = 0 := by decide
  have := H.1
  omega
theorem own_add {cn ps k : Int32} {n : Nat} (hk : k.toInt = n) (h0 : 0 ≤ ps.toInt) (h1 : ps.toInt + n ≤ cn.toInt) (h2 : cn.toInt ≤ 9) : (ps + k).toInt = ps.toInt + n := by
  have a := c_iadd ps k
  have r := rng32 (ps + k)
  omega
theorem own_l {cn ps k : Int32} {n : Nat} (hk : k.toInt = n) (h0 : 0 ≤ ps.toInt) (h1 : ps.toInt + n ≤ cn.toInt) (h2 : cn.toInt ≤ 9) : ¬ cn < ps + k := by
  rw [Int32.lt_iff_toInt_lt, own_add hk h0 h1 h2]
  omega
theorem own_ix {cn ps k : Int32} {n : Nat} (hk : k.toInt = n) (h0 : 0 ≤ ps.toInt) (h1 : ps.toInt + n < cn.toInt) (h2 : cn.toInt ≤ 9) : ¬ ps + k < (0 : Int32) ∧ ps + k < cn ∧ (ps + k).toNatClampNeg = ps.toNatClampNeg + n := by
  have e := own_add hk h0 (by omega : ps.toInt + n ≤ cn.toInt) h2
  have z : (0 : Int32).toInt = 0 := by decide
  have a : ¬ ps + k < (0 : Int32) := by rw [Int32.lt_iff_toInt_lt]; omega
  have a0 : ¬ ps < (0 : Int32) := by rw [Int32.lt_iff_toInt_lt]; omega
  refine ⟨a, by rw [Int32.lt_iff_toInt_lt]; omega, ?_⟩
  have b := nat_of a
  have c := nat_of a0
  omega
theorem own_i0 {cn ps : Int32} (h0 : 0 ≤ ps.toInt) (h1 : ps.toInt < cn.toInt) : ¬ ps < (0 : Int32) ∧ ps < cn := by
  have z : (0 : Int32).toInt = 0 := by decide
  rw [Int32.lt_iff_toInt_lt, Int32.lt_iff_toInt_lt]
  omega
theorem own_ur {v : Int32} (h : own_U v) : 0 ≤ v.toInt ∧ v.toInt < 128 := by unfold own_U at h; omega

theorem d17_0 : decode method_5_code 0 = .ok (.iload_n 1, 1) := by decide +kernel
theorem d17_1 : decode method_5_code 1 = .ok (.ifCond .ge 5, 3) := by decide +kernel
theorem d17_6 : decode method_5_code 6 = .ok (.iload_n 2, 1) := by decide +kernel
theorem d17_7 : decode method_5_code 7 = .ok (.invokestatic 25, 3) := by decide +kernel
theorem d17_10 : decode method_5_code 10 = .ok (.ifCond .eq 33, 3) := by decide +kernel
theorem d17_13 : decode method_5_code 13 = .ok (.iload_n 1, 1) := by decide +kernel
theorem d17_14 : decode method_5_code 14 = .ok (.iconst 1, 1) := by decide +kernel
theorem d17_15 : decode method_5_code 15 = .ok (.iadd, 1) := by decide +kernel
theorem d17_16 : decode method_5_code 16 = .ok (.aload_n 0, 1) := by decide +kernel
theorem d17_17 : decode method_5_code 17 = .ok (.invokevirtual 19, 3) := by decide +kernel
theorem d17_20 : decode method_5_code 20 = .ok (.if_icmp .le 5, 3) := by decide +kernel
theorem d17_25 : decode method_5_code 25 = .ok (.aload_n 0, 1) := by decide +kernel
theorem d17_26 : decode method_5_code 26 = .ok (.iload_n 1, 1) := by decide +kernel
theorem d17_27 : decode method_5_code 27 = .ok (.invokevirtual 29, 3) := by decide +kernel
theorem d17_30 : decode method_5_code 30 = .ok (.iload_n 2, 1) := by decide +kernel
theorem d17_31 : decode method_5_code 31 = .ok (.i2c, 1) := by decide +kernel
theorem d17_32 : decode method_5_code 32 = .ok (.if_icmp .ne 9, 3) := by decide +kernel
theorem d17_35 : decode method_5_code 35 = .ok (.iload_n 1, 1) := by decide +kernel
theorem d17_36 : decode method_5_code 36 = .ok (.iconst 1, 1) := by decide +kernel
theorem d17_37 : decode method_5_code 37 = .ok (.iadd, 1) := by decide +kernel
theorem d17_38 : decode method_5_code 38 = .ok (.goto 4, 3) := by decide +kernel
theorem d17_42 : decode method_5_code 42 = .ok (.ireturn, 1) := by decide +kernel
theorem d17_43 : decode method_5_code 43 = .ok (.iload_n 1, 1) := by decide +kernel
theorem d17_44 : decode method_5_code 44 = .ok (.iconst 3, 1) := by decide +kernel
theorem d17_45 : decode method_5_code 45 = .ok (.iadd, 1) := by decide +kernel
theorem d17_46 : decode method_5_code 46 = .ok (.aload_n 0, 1) := by decide +kernel
theorem d17_47 : decode method_5_code 47 = .ok (.invokevirtual 19, 3) := by decide +kernel
theorem d17_50 : decode method_5_code 50 = .ok (.if_icmp .le 5, 3) := by decide +kernel
theorem d17_55 : decode method_5_code 55 = .ok (.aload_n 0, 1) := by decide +kernel
theorem d17_56 : decode method_5_code 56 = .ok (.iload_n 1, 1) := by decide +kernel
theorem d17_57 : decode method_5_code 57 = .ok (.invokevirtual 29, 3) := by decide +kernel
theorem d17_60 : decode method_5_code 60 = .ok (.bipush 37, 2) := by decide +kernel
theorem d17_62 : decode method_5_code 62 = .ok (.if_icmp .eq 5, 3) := by decide +kernel
theorem d17_67 : decode method_5_code 67 = .ok (.aload_n 0, 1) := by decide +kernel
theorem d17_68 : decode method_5_code 68 = .ok (.iload_n 1, 1) := by decide +kernel
theorem d17_69 : decode method_5_code 69 = .ok (.iconst 1, 1) := by decide +kernel
theorem d17_70 : decode method_5_code 70 = .ok (.iadd, 1) := by decide +kernel
theorem d17_71 : decode method_5_code 71 = .ok (.invokevirtual 29, 3) := by decide +kernel
theorem d17_74 : decode method_5_code 74 = .ok (.iload_n 2, 1) := by decide +kernel
theorem d17_75 : decode method_5_code 75 = .ok (.iconst 4, 1) := by decide +kernel
theorem d17_76 : decode method_5_code 76 = .ok (.ishr, 1) := by decide +kernel
theorem d17_77 : decode method_5_code 77 = .ok (.invokestatic 33, 3) := by decide +kernel
theorem d17_80 : decode method_5_code 80 = .ok (.if_icmp .eq 5, 3) := by decide +kernel
theorem d17_85 : decode method_5_code 85 = .ok (.aload_n 0, 1) := by decide +kernel
theorem d17_86 : decode method_5_code 86 = .ok (.iload_n 1, 1) := by decide +kernel
theorem d17_87 : decode method_5_code 87 = .ok (.iconst 2, 1) := by decide +kernel
theorem d17_88 : decode method_5_code 88 = .ok (.iadd, 1) := by decide +kernel
theorem d17_89 : decode method_5_code 89 = .ok (.invokevirtual 29, 3) := by decide +kernel
theorem d17_92 : decode method_5_code 92 = .ok (.iload_n 2, 1) := by decide +kernel
theorem d17_93 : decode method_5_code 93 = .ok (.bipush 15, 2) := by decide +kernel
theorem d17_95 : decode method_5_code 95 = .ok (.iand, 1) := by decide +kernel
theorem d17_96 : decode method_5_code 96 = .ok (.invokestatic 33, 3) := by decide +kernel
theorem d17_99 : decode method_5_code 99 = .ok (.if_icmp .eq 5, 3) := by decide +kernel
theorem d17_104 : decode method_5_code 104 = .ok (.iload_n 1, 1) := by decide +kernel
theorem d17_105 : decode method_5_code 105 = .ok (.iconst 3, 1) := by decide +kernel
theorem d17_106 : decode method_5_code 106 = .ok (.iadd, 1) := by decide +kernel
theorem d17_107 : decode method_5_code 107 = .ok (.ireturn, 1) := by decide +kernel
theorem pn_rm17 : plainName "com/example/plumbago/plumbago/server/EntryPathsEncodePinLaw" = true := by first | (simp [plainName, overriddenIn]; done) | decide +kernel
theorem pd_14 : parseMethodDescriptor "(I)Z" = some ⟨[.int], some .boolean⟩ := by decide +kernel
theorem pd_15 : parseMethodDescriptor "(I)C" = some ⟨[.int], some .char⟩ := by decide +kernel
theorem ef_rm17 (m : MethodId) (a : Addr) (ps : Int32) (vv : Int32) : entryFrame m #[(.ref a), (.int ps), (.int vv)] 3 = mkF m 0 #[rv a, iv ps, iv vv] [] := by first | (simp [entryFrame, mkF, argsToLocals, Value.category]; done) | rfl
def Q17 (Z : State) (a : Addr) (sv : Addr) (ks : ClassId) (cn : Int32) (us : List Value) (cs : Int32) (ps : Int32) (vv : Int32) (h0 : Heap) (n0 : Nat) (v : Option Value) (h : Heap) (L : List Loc) : Prop := v = some (.int (ps + (if own_U vv then (1 : Int32) else (3 : Int32)))) ∧ Fr n0 L ∧ h = h0
set_option maxRecDepth 65536 in
set_option maxHeartbeats 40000000 in
theorem rm17 (l : Launch) (Z : State) (a0 : Array Value) (hw : ∀ d ∈ tables_1, d.before a0 Z = true) (ws : List Jvm.Cond) (a : Addr) (sv : Addr) (ks : ClassId) (cn : Int32) (us : List Value) (cs : Int32) (ps : Int32) (vv : Int32) (h0 : Heap) (n0 : Nat) (Z0 : n0 ≤ h0.size) (O0 : Old Z n0 h0) (P0 : Exa Z h0 a "java/lang/String") (P1 : Fld Z h0 a "java/lang/String" "value" "[B" (.ref sv)) (P2 : Fld Z h0 a "java/lang/String" "coder" "B" (.int 0)) (P3 : Arv Z h0 sv ks .byte cn us (.int 0)) (P4 : own_has us cn ps vv) (P5 : 0 ≤ vv.toInt ∧ vv.toInt ≤ 255) (P6 : own_SI Z) (P7 : ¬ cs = (0 : Int32)) (OP0 : Sta Z Z.heap "java/lang/String" "COMPACT_STRINGS" "Z" (.int cs)) :
    MetFree l (⟨"com/example/plumbago/plumbago/server/EntryPathsEncodePinLaw", "match", "(Ljava/lang/String;II)I"⟩ : MethodName) (head1 (Jvm.Cond.code (⟨"com/example/plumbago/plumbago/server/EntryPathsEncodePinLaw", "match", "(Ljava/lang/String;II)I"⟩ : MethodName) method_5_code 3 (some .int) :: ws) ({ frames := 4, cells := 0, slots := 0, locals := 53 } : Room)) (fun aa U => aa = #[(.ref a), (.int ps), (.int vv)] ∧ Z.Warmed39 U.vm ∧ U.heap = h0) (fun _ _ _ _ _ => True) (fun _ U o U' => ∃ v L, o = .returned v ∧ Q17 Z a sv ks cn us cs ps vv h0 n0 v U'.heap L ∧ FrameEnd U o U' L ({ frames := 4, cells := 0, slots := 0, locals := 53 } : Room).cells ({ frames := 4, cells := 0, slots := 0, locals := 53 } : Room).slots) := by
  refine MetFree.of_bodySF (plainFor_of_name pn_rm17) hisR ?_
  intro p e s m args below meth c s₁ Bd hml0 hP hK
  obtain ⟨rfl, hZ, hh⟩ := hP
  have hx := Bd.exec
  have hby := Bd.bytes
  have hml : c.maxLocals = 3 := hml0
  have hown : s.vm.findClass "com/example/plumbago/plumbago/server/EntryPathsEncodePinLaw" = some m.cls := findClass_of_methodNamed Bd.named
  have hnm := (name_of_methodNamed Bd.named Bd.method).1
  have X0 : Stand p l e ({ frames := 4, cells := 0, slots := 0, locals := 53 } : Room) s m #[(.ref a), (.int ps), (.int vv)] below meth c s₁ [] 0 0 := Stand.of_body Bd
  have e0 : s₁.heap = h0 := by rw [← hh, Bd.state]; rfl
  have N0 := Fr.nil n0
  change OE p.tables e below _ _
  refine OE.v (fun t k => castTop (ef_rm17 m a ps vv) k) ?_
  show OE _ _ _ _ (s₁.setTop (mkF m 0 #[rv a, iv ps, iv vv] []))
  refine OE.v (fun t k => XS.iloadN X0.here hx rfl (hb hby d17_0) rfl k) ?_
  show OE _ _ _ _ (s₁.setTop (mkF m 1 #[rv a, iv ps, iv vv] [(.int ps)]))
  refine OE.v (fun t k => XS.ifYes X0.here hx rfl (pc0 := 1) (pc' := 6) rfl (hb hby d17_1) rfl ((if0 _ _).trans (flt (own_p P4)).2.1) (by decide) (by decide) k) ?_
  show OE _ _ _ _ (s₁.setTop (mkF m 6 #[rv a, iv ps, iv vv] []))
  refine OE.v (fun t k => XS.iloadN X0.here hx rfl (hb hby d17_6) rfl k) ?_
  show OE _ _ _ _ (s₁.setTop (mkF m 7 #[rv a, iv ps, iv vv] [(.int vv)]))
  obtain ⟨_, _, ⟨T1, L1, k1, n1⟩, -, X1, ⟨Lc1, hQ1, l1, y1, z1⟩, st1⟩ := Jvm.LawKit.callS X0 hx (y := (⟨"com/example/plumbago/plumbago/server/EntryPathsEncodePinLaw", "unreserved", "(I)Z"⟩ : MethodName)) hown (mvT hZ (hw _ (own_w 104 rfl))) (mvT hZ (hw _ (own_w 105 rfl))) (mvT hZ (hw _ (own_w 102 rfl))) (mvT hZ (hw _ (own_w 106 rfl))) (by decide) (backOf (W := 0) (rm18 l Z a0 hw [] vv h0 n0 Z0 ) hZ (hw _ (own_w 106 rfl)) (hw _ (own_w 102 rfl)) (by decide) (by decide)) (g := (mkF m 7 #[rv a, iv ps, iv vv] [(.int vv)])) rfl (by rw [hml]; rfl) (argsL := [(.int vv)]) (rest := []) (lenOf pd_14 rfl) rfl (Nat.le_of_eq rfl) (hb hby d17_7) (fun _ _ => ⟨rfl, e0, (by decide : 0 + 0 ≤ _), (by decide : 0 + 0 ≤ _)⟩)
  dsimp only [Pt.U, Pt.locs, Pt.cells, Pt.slots] at X1 l1 y1 z1 st1 hQ1
  subst l1 y1 z1
  obtain ⟨rfl, Nq1, e1⟩ := hQ1
  have N1 := Fr.app N0 Nq1
  refine OE.v st1 ?_
  show OE _ _ _ _ (T1.setTop (mkF m 10 #[rv a, iv ps, iv vv] [(.int (if own_U vv then (1 : Int32) else (0 : Int32)))]))
  by_cases hc10_2 : (if own_U vv then (1 : Int32) else (0 : Int32)) = (0 : Int32)
  ·
    refine OE.v (fun t k => XS.ifYes X1.here hx rfl (pc0 := 10) (pc' := 43) rfl (hb hby d17_10) rfl ((if0 _ _).trans (teq hc10_2).1) (by decide) (by decide) k) ?_
    have hU : ¬ own_U vv := fun q => by rw [if_pos q] at hc10_2; revert hc10_2; decide
    obtain ⟨g0, g1, g2, g3⟩ := id P4
    rw [own_e3 hU] at g1 g3
    have g1 : ps.toInt + 3 ≤ cn.toInt := g1
    have c0 := g3 0 (by simp)
    have c1 := g3 1 (by simp)
    have c2 := g3 2 (by simp)
    have i0 := own_i0 g0 (by omega : ps.toInt < cn.toInt)
    have i1 := own_ix (k := (1 : Int32)) (n := 1) (by decide) g0 (by omega) g2
    have i2 := own_ix (k := (2 : Int32)) (n := 2) (by decide) g0 (by omega) g2
    rw [← i1.2.2] at c1
    rw [← i2.2.2] at c2
    show OE _ _ _ _ (T1.setTop (mkF m 43 #[rv a, iv ps, iv vv] []))
    refine OE.v (fun t k => XS.iloadN X1.here hx rfl (hb hby d17_43) rfl k) ?_
    refine OE.v (fun t k => XS.iconst X1.here hx rfl (hb hby d17_44) k) ?_
    refine OE.v (fun t k => XS.iadd X1.here hx rfl (hb hby d17_45) rfl k) ?_
    refine OE.v (fun t k => XS.aloadN X1.here hx rfl (hb hby d17_46) rfl rfl k) ?_
    show OE _ _ _ _ (T1.setTop (mkF m 47 #[rv a, iv ps, iv vv] [(.ref a), (.int (ps + (3 : Int32)))]))
    obtain ⟨cq3, kq3, q3a, q3b, q3c⟩ := isOf hZ e1 P0
    obtain ⟨_, _, ⟨T3, L3, k3, n3⟩, -, X3, ⟨Lc3, hQ3, l3, y3, z3⟩, st3⟩ := X1.virtualBack hx (y := (⟨"java/lang/String", "length", "()I"⟩ : MethodName)) (z := (⟨"java/lang/String", "length", "()I"⟩ : MethodName)) hown (mvT hZ (hw _ (own_w 107 rfl))) (mvT hZ (hw _ (own_w 108 rfl))) (notFace_of_selects (args := #[]) (mvT hZ (hw _ (own_w 110 rfl)))) (mvT hZ (hw _ (own_w 110 rfl))) (mvT hZ (hw _ (own_w 109 rfl))) (by decide) (backOf (W := 1) (rm19 l Z a0 hw [] a sv ks cn us cs h0 n0 Z0 O0 P0 P1 P2 P3 P7 OP0) hZ (hw _ (own_w 111 rfl)) (hw _ (own_w 21 rfl)) (by decide) (by decide)) q3a q3c (g := (mkF m 47 #[rv a, iv ps, iv vv] [(.ref a), (.int (ps + (3 : Int32)))])) rfl (by rw [hml]; rfl) (Steps.refl _) (argsL := []) (rest := [(.int (ps + (3 : Int32)))]) (lenOf pd_4 rfl) rfl (Nat.le_of_eq rfl) (hb hby d17_47) (fun _ _ => ⟨rfl, e1, (by decide : 0 + 0 ≤ _), (by decide : 0 + 0 ≤ _)⟩)
    dsimp only [Pt.U, Pt.locs, Pt.cells, Pt.slots] at X3 l3 y3 z3 st3 hQ3
    subst l3 y3 z3
    obtain ⟨rfl, Nq3, e3⟩ := hQ3
    have N3 := Fr.app N1 Nq3
    refine OE.v (fun t k => st3.trans k) ?_
    show OE _ _ _ _ (T3.setTop (mkF m 50 #[rv a, iv ps, iv vv] [(.int cn), (.int (ps + (3 : Int32)))]))
    refine OE.v (fun t k => XS.icmpYes X3.here hx rfl (pc0 := 50) (pc' := 55) rfl (hb hby d17_50) rfl (flt (own_l (k := (3 : Int32)) (n := 3) (by decide) g0 g1 g2)).2.2.2 (by decide) (by decide) k) ?_
    show OE _ _ _ _ (T3.setTop (mkF m 55 #[rv a, iv ps, iv vv] []))
    refine OE.v (fun t k => XS.aloadN X3.here hx rfl (hb hby d17_55) rfl rfl k) ?_
    refine OE.v (fun t k => XS.iloadN X3.here hx rfl (hb hby d17_56) rfl k) ?_
    show OE _ _ _ _ (T3.setTop (mkF m 57 #[rv a, iv ps, iv vv] [(.int ps), (.ref a)]))
    obtain ⟨cq4, kq4, q4a, q4b, q4c⟩ := isOf hZ e3 P0
    obtain ⟨_, _, ⟨T4, L4, k4, n4⟩, -, X4, ⟨Lc4, hQ4, l4, y4, z4⟩, st4⟩ := X3.virtualBack hx (y := (⟨"java/lang/String", "charAt", "(I)C"⟩ : MethodName)) (z := (⟨"java/lang/String", "charAt", "(I)C"⟩ : MethodName)) hown (mvT hZ (hw _ (own_w 118 rfl))) (mvT hZ (hw _ (own_w 119 rfl))) (notFace_of_selects (args := #[]) (mvT hZ (hw _ (own_w 121 rfl)))) (mvT hZ (hw _ (own_w 121 rfl))) (mvT hZ (hw _ (own_w 120 rfl))) (by decide) (backOf (W := 0) (rm21 l Z a0 hw [] a sv ks cn us cs ps (37 : Int32) h0 n0 Z0 O0 P0 P1 P2 P3 i0.1 i0.2 c0 (by decide) P6 P7 OP0) hZ (hw _ (own_w 122 rfl)) (hw _ (own_w 21 rfl)) (by decide) (by decide)) q4a q4c (g := (mkF m 57 #[rv a, iv ps, iv vv] [(.int ps), (.ref a)])) rfl (by rw [hml]; rfl) (Steps.refl _) (argsL := [(.int ps)]) (rest := []) (lenOf pd_15 rfl) rfl (Nat.le_of_eq rfl) (hb hby d17_57) (fun _ _ => ⟨rfl, e3, (by decide : 0 + 0 ≤ _), (by decide : 0 + 0 ≤ _)⟩)
    dsimp only [Pt.U, Pt.locs, Pt.cells, Pt.slots] at X4 l4 y4 z4 st4 hQ4
    subst l4 y4 z4
    obtain ⟨rfl, Nq4, e4⟩ := hQ4
    have N4 := Fr.app N3 Nq4
    refine OE.v (fun t k => st4.trans k) ?_
    show OE _ _ _ _ (T4.setTop (mkF m 60 #[rv a, iv ps, iv vv] [(.int 37)]))
    refine OE.v (fun t k => XS.bipush X4.here hx rfl (hb hby d17_60) k) ?_
    show OE _ _ _ _ (T4.setTop (mkF m 62 #[rv a, iv ps, iv vv] [(.int 37), (.int 37)]))
    refine OE.v (fun t k => XS.icmpYes X4.here hx rfl (pc0 := 62) (pc' := 67) rfl (hb hby d17_62) rfl (teq rfl).1 (by decide) (by decide) k) ?_
    show OE _ _ _ _ (T4.setTop (mkF m 67 #[rv a, iv ps, iv vv] []))
    refine OE.v (fun t k => XS.aloadN X4.here hx rfl (hb hby d17_67) rfl rfl k) ?_
    refine OE.v (fun t k => XS.iloadN X4.here hx rfl (hb hby d17_68) rfl k) ?_
    refine OE.v (fun t k => XS.iconst X4.here hx rfl (hb hby d17_69) k) ?_
    refine OE.v (fun t k => XS.iadd X4.here hx rfl (hb hby d17_70) rfl k) ?_
    show OE _ _ _ _ (T4.setTop (mkF m 71 #[rv a, iv ps, iv vv] [(.int (ps + (1 : Int32))), (.ref a)]))
    obtain ⟨cq5, kq5, q5a, q5b, q5c⟩ := isOf hZ e4 P0
    obtain ⟨_, _, ⟨T5, L5, k5, n5⟩, -, X5, ⟨Lc5, hQ5, l5, y5, z5⟩, st5⟩ := X4.virtualBack hx (y := (⟨"java/lang/String", "charAt", "(I)C"⟩ : MethodName)) (z := (⟨"java/lang/String", "charAt", "(I)C"⟩ : MethodName)) hown (mvT hZ (hw _ (own_w 118 rfl))) (mvT hZ (hw _ (own_w 119 rfl))) (notFace_of_selects (args := #[]) (mvT hZ (hw _ (own_w 121 rfl)))) (mvT hZ (hw _ (own_w 121 rfl))) (mvT hZ (hw _ (own_w 120 rfl))) (by decide) (backOf (W := 0) (rm21 l Z a0 hw [] a sv ks cn us cs (ps + (1 : Int32)) (own_hx (vv >>> ((4 : Int32) &&& 31))) h0 n0 Z0 O0 P0 P1 P2 P3 i1.1 i1.2.1 c1 (own_hr (own_hi P5)) P6 P7 OP0) hZ (hw _ (own_w 122 rfl)) (hw _ (own_w 21 rfl)) (by decide) (by decide)) q5a q5c (g := (mkF m 71 #[rv a, iv ps, iv vv] [(.int (ps + (1 : Int32))), (.ref a)])) rfl (by rw [hml]; rfl) (Steps.refl _) (argsL := [(.int (ps + (1 : Int32)))]) (rest := []) (lenOf pd_15 rfl) rfl (Nat.le_of_eq rfl) (hb hby d17_71) (fun _ _ => ⟨rfl, e4, (by decide : 0 + 0 ≤ _), (by decide : 0 + 0 ≤ _)⟩)
    dsimp only [Pt.U, Pt.locs, Pt.cells, Pt.slots] at X5 l5 y5 z5 st5 hQ5
    subst l5 y5 z5
    obtain ⟨rfl, Nq5, e5⟩ := hQ5
    have N5 := Fr.app N4 Nq5
    refine OE.v (fun t k => st5.trans k) ?_
    show OE _ _ _ _ (T5.setTop (mkF m 74 #[rv a, iv ps, iv vv] [(.int (own_hx (vv >>> ((4 : Int32) &&& 31))))]))
    refine OE.v (fun t k => XS.iloadN X5.here hx rfl (hb hby d17_74) rfl k) ?_
    refine OE.v (fun t k => XS.iconst X5.here hx rfl (hb hby d17_75) k) ?_
    refine OE.v (fun t k => XS.ishr X5.here hx rfl (hb hby d17_76) rfl k) ?_
    show OE _ _ _ _ (T5.setTop (mkF m 77 #[rv a, iv ps, iv vv] [(.int (vv >>> ((4 : Int32) &&& 31))), (.int (own_hx (vv >>> ((4 : Int32) &&& 31))))]))
    obtain ⟨_, _, ⟨T6, L6, k6, n6⟩, -, X6, ⟨Lc6, hQ6, l6, y6, z6⟩, st6⟩ := Jvm.LawKit.callS X5 hx (y := (⟨"com/example/plumbago/plumbago/server/EntryPathsEncodePinLaw", "hex", "(I)C"⟩ : MethodName)) hown (mvT hZ (hw _ (own_w 139 rfl))) (mvT hZ (hw _ (own_w 140 rfl))) (mvT hZ (hw _ (own_w 102 rfl))) (mvT hZ (hw _ (own_w 141 rfl))) (by decide) (backOf (W := 1) (rm26 l Z a0 hw [] (vv >>> ((4 : Int32) &&& 31)) h0 n0 Z0 (own_hi P5)) hZ (hw _ (own_w 141 rfl)) (hw _ (own_w 102 rfl)) (by decide) (by decide)) (g := (mkF m 77 #[rv a, iv ps, iv vv] [(.int (vv >>> ((4 : Int32) &&& 31))), (.int (own_hx (vv >>> ((4 : Int32) &&& 31))))])) rfl (by rw [hml]; rfl) (argsL := [(.int (vv >>> ((4 : Int32) &&& 31)))]) (rest := [(.int (own_hx (vv >>> ((4 : Int32) &&& 31))))]) (lenOf pd_15 rfl) rfl (Nat.le_of_eq rfl) (hb hby d17_77) (fun _ _ => ⟨rfl, e5, (by decide : 0 + 0 ≤ _), (by decide : 0 + 0 ≤ _)⟩)
    dsimp only [Pt.U, Pt.locs, Pt.cells, Pt.slots] at X6 l6 y6 z6 st6 hQ6
    subst l6 y6 z6
    obtain ⟨rfl, Nq6, e6⟩ := hQ6
    have N6 := Fr.app N5 Nq6
    refine OE.v st6 ?_
    show OE _ _ _ _ (T6.setTop (mkF m 80 #[rv a, iv ps, iv vv] [(.int (own_hx (vv >>> ((4 : Int32) &&& 31)))), (.int (own_hx (vv >>> ((4 : Int32) &&& 31))))]))
    refine OE.v (fun t k => XS.icmpYes X6.here hx rfl (pc0 := 80) (pc' := 85) rfl (hb hby d17_80) rfl (teq rfl).1 (by decide) (by decide) k) ?_
    show OE _ _ _ _ (T6.setTop (mkF m 85 #[rv a, iv ps, iv vv] []))
    refine OE.v (fun t k => XS.aloadN X6.here hx rfl (hb hby d17_85) rfl rfl k) ?_
    refine OE.v (fun t k => XS.iloadN X6.here hx rfl (hb hby d17_86) rfl k) ?_
    refine OE.v (fun t k => XS.iconst X6.here hx rfl (hb hby d17_87) k) ?_
    refine OE.v (fun t k => XS.iadd X6.here hx rfl (hb hby d17_88) rfl k) ?_
    show OE _ _ _ _ (T6.setTop (mkF m 89 #[rv a, iv ps, iv vv] [(.int (ps + (2 : Int32))), (.ref a)]))
    obtain ⟨cq7, kq7, q7a, q7b, q7c⟩ := isOf hZ e6 P0
    obtain ⟨_, _, ⟨T7, L7, k7, n7⟩, -, X7, ⟨Lc7, hQ7, l7, y7, z7⟩, st7⟩ := X6.virtualBack hx (y := (⟨"java/lang/String", "charAt", "(I)C"⟩ : MethodName)) (z := (⟨"java/lang/String", "charAt", "(I)C"⟩ : MethodName)) hown (mvT hZ (hw _ (own_w 118 rfl))) (mvT hZ (hw _ (own_w 119 rfl))) (notFace_of_selects (args := #[]) (mvT hZ (hw _ (own_w 121 rfl)))) (mvT hZ (hw _ (own_w 121 rfl))) (mvT hZ (hw _ (own_w 120 rfl))) (by decide) (backOf (W := 0) (rm21 l Z a0 hw [] a sv ks cn us cs (ps + (2 : Int32)) (own_hx (vv &&& (15 : Int32))) h0 n0 Z0 O0 P0 P1 P2 P3 i2.1 i2.2.1 c2 (own_hr (own_lo vv)) P6 P7 OP0) hZ (hw _ (own_w 122 rfl)) (hw _ (own_w 21 rfl)) (by decide) (by decide)) q7a q7c (g := (mkF m 89 #[rv a, iv ps, iv vv] [(.int (ps + (2 : Int32))), (.ref a)])) rfl (by rw [hml]; rfl) (Steps.refl _) (argsL := [(.int (ps + (2 : Int32)))]) (rest := []) (lenOf pd_15 rfl) rfl (Nat.le_of_eq rfl) (hb hby d17_89) (fun _ _ => ⟨rfl, e6, (by decide : 0 + 0 ≤ _), (by decide : 0 + 0 ≤ _)⟩)
    dsimp only [Pt.U, Pt.locs, Pt.cells, Pt.slots] at X7 l7 y7 z7 st7 hQ7
    subst l7 y7 z7
    obtain ⟨rfl, Nq7, e7⟩ := hQ7
    have N7 := Fr.app N6 Nq7
    refine OE.v (fun t k => st7.trans k) ?_
    show OE _ _ _ _ (T7.setTop (mkF m 92 #[rv a, iv ps, iv vv] [(.int (own_hx (vv &&& (15 : Int32))))]))
    refine OE.v (fun t k => XS.iloadN X7.here hx rfl (hb hby d17_92) rfl k) ?_
    refine OE.v (fun t k => XS.bipush X7.here hx rfl (hb hby d17_93) k) ?_
    refine OE.v (fun t k => XS.iand X7.here hx rfl (hb hby d17_95) rfl k) ?_
    show OE _ _ _ _ (T7.setTop (mkF m 96 #[rv a, iv ps, iv vv] [(.int (vv &&& (15 : Int32))), (.int (own_hx (vv &&& (15 : Int32))))]))
    obtain ⟨_, _, ⟨T8, L8, k8, n8⟩, -, X8, ⟨Lc8, hQ8, l8, y8, z8⟩, st8⟩ := Jvm.LawKit.callS X7 hx (y := (⟨"com/example/plumbago/plumbago/server/EntryPathsEncodePinLaw", "hex", "(I)C"⟩ : MethodName)) hown (mvT hZ (hw _ (own_w 139 rfl))) (mvT hZ (hw _ (own_w 140 rfl))) (mvT hZ (hw _ (own_w 102 rfl))) (mvT hZ (hw _ (own_w 141 rfl))) (by decide) (backOf (W := 1) (rm26 l Z a0 hw [] (vv &&& (15 : Int32)) h0 n0 Z0 (own_lo vv)) hZ (hw _ (own_w 141 rfl)) (hw _ (own_w 102 rfl)) (by decide) (by decide)) (g := (mkF m 96 #[rv a, iv ps, iv vv] [(.int (vv &&& (15 : Int32))), (.int (own_hx (vv &&& (15 : Int32))))])) rfl (by rw [hml]; rfl) (argsL := [(.int (vv &&& (15 : Int32)))]) (rest := [(.int (own_hx (vv &&& (15 : Int32))))]) (lenOf pd_15 rfl) rfl (Nat.le_of_eq rfl) (hb hby d17_96) (fun _ _ => ⟨rfl, e7, (by decide : 0 + 0 ≤ _), (by decide : 0 + 0 ≤ _)⟩)
    dsimp only [Pt.U, Pt.locs, Pt.cells, Pt.slots] at X8 l8 y8 z8 st8 hQ8
    subst l8 y8 z8
    obtain ⟨rfl, Nq8, e8⟩ := hQ8
    have N8 := Fr.app N7 Nq8
    refine OE.v st8 ?_
    show OE _ _ _ _ (T8.setTop (mkF m 99 #[rv a, iv ps, iv vv] [(.int (own_hx (vv &&& (15 : Int32)))), (.int (own_hx (vv &&& (15 : Int32))))]))
    refine OE.v (fun t k => XS.icmpYes X8.here hx rfl (pc0 := 99) (pc' := 104) rfl (hb hby d17_99) rfl (teq rfl).1 (by decide) (by decide) k) ?_
    show OE _ _ _ _ (T8.setTop (mkF m 104 #[rv a, iv ps, iv vv] []))
    refine OE.v (fun t k => XS.iloadN X8.here hx rfl (hb hby d17_104) rfl k) ?_
    refine OE.v (fun t k => XS.iconst X8.here hx rfl (hb hby d17_105) k) ?_
    refine OE.v (fun t k => XS.iadd X8.here hx rfl (hb hby d17_106) rfl k) ?_
    show OE _ _ _ _ (T8.setTop (mkF m 107 #[rv a, iv ps, iv vv] [(.int (ps + (3 : Int32)))]))
    obtain ⟨fs, hr, hrun, hended, hW, hsame⟩ := X8.leave (v := some (.int (ps + (3 : Int32)))) (fun h => by rw [Bd.returns] at h; cases h)
    refine ⟨_, _, ?_, hrun, hended, _, _, rfl, ?_, ⟨_, rfl⟩, hW, hsame.mono (by decide) (by decide)⟩
    · exact retI X8 hx Bd.returns (hb hby d17_107) hr
    · show Q17 Z a sv ks cn us cs ps vv h0 n0 _ T8.heap _
      rw [e8]
      exact ⟨(by rw [if_neg hU]), N8, rfl⟩
  ·
    refine OE.v (fun t k => XS.ifNo X1.here hx rfl (hb hby d17_10) rfl ((if0 _ _).trans (feq hc10_2).1) k) ?_
    have hU : own_U vv := Decidable.byContradiction fun q => hc10_2 (if_neg q)
    obtain ⟨g0, g1, g2, g3⟩ := id P4
    rw [own_e1 hU] at g1 g3
    have g1 : ps.toInt + 1 ≤ cn.toInt := g1
    have c0 := g3 0 (by simp)
    have i0 := own_i0 g0 (by omega : ps.toInt < cn.toInt)
    show OE _ _ _ _ (T1.setTop (mkF m 13 #[rv a, iv ps, iv vv] []))
    refine OE.v (fun t k => XS.iloadN X1.here hx rfl (hb hby d17_13) rfl k) ?_
    refine OE.v (fun t k => XS.iconst X1.here hx rfl (hb hby d17_14) k) ?_
    refine OE.v (fun t k => XS.iadd X1.here hx rfl (hb hby d17_15) rfl k) ?_
    refine OE.v (fun t k => XS.aloadN X1.here hx rfl (hb hby d17_16) rfl rfl k) ?_
    show OE _ _ _ _ (T1.setTop (mkF m 17 #[rv a, iv ps, iv vv] [(.ref a), (.int (ps + (1 : Int32)))]))
    obtain ⟨cq9, kq9, q9a, q9b, q9c⟩ := isOf hZ e1 P0
    obtain ⟨_, _, ⟨T9, L9, k9, n9⟩, -, X9, ⟨Lc9, hQ9, l9, y9, z9⟩, st9⟩ := X1.virtualBack hx (y := (⟨"java/lang/String", "length", "()I"⟩ : MethodName)) (z := (⟨"java/lang/String", "length", "()I"⟩ : MethodName)) hown (mvT hZ (hw _ (own_w 107 rfl))) (mvT hZ (hw _ (own_w 108 rfl))) (notFace_of_selects (args := #[]) (mvT hZ (hw _ (own_w 110 rfl)))) (mvT hZ (hw _ (own_w 110 rfl))) (mvT hZ (hw _ (own_w 109 rfl))) (by decide) (backOf (W := 1) (rm19 l Z a0 hw [] a sv ks cn us cs h0 n0 Z0 O0 P0 P1 P2 P3 P7 OP0) hZ (hw _ (own_w 111 rfl)) (hw _ (own_w 21 rfl)) (by decide) (by decide)) q9a q9c (g := (mkF m 17 #[rv a, iv ps, iv vv] [(.ref a), (.int (ps + (1 : Int32)))])) rfl (by rw [hml]; rfl) (Steps.refl _) (argsL := []) (rest := [(.int (ps + (1 : Int32)))]) (lenOf pd_4 rfl) rfl (Nat.le_of_eq rfl) (hb hby d17_17) (fun _ _ => ⟨rfl, e1, (by decide : 0 + 0 ≤ _), (by decide : 0 + 0 ≤ _)⟩)
    dsimp only [Pt.U, Pt.locs, Pt.cells, Pt.slots] at X9 l9 y9 z9 st9 hQ9
    subst l9 y9 z9
    obtain ⟨rfl, Nq9, e9⟩ := hQ9
    have N9 := Fr.app N1 Nq9
    refine OE.v (fun t k => st9.trans k) ?_
    show OE _ _ _ _ (T9.setTop (mkF m 20 #[rv a, iv ps, iv vv] [(.int cn), (.int (ps + (1 : Int32)))]))
    refine OE.v (fun t k => XS.icmpYes X9.here hx rfl (pc0 := 20) (pc' := 25) rfl (hb hby d17_20) rfl (flt (own_l (k := (1 : Int32)) (n := 1) (by decide) g0 g1 g2)).2.2.2 (by decide) (by decide) k) ?_
    show OE _ _ _ _ (T9.setTop (mkF m 25 #[rv a, iv ps, iv vv] []))
    refine OE.v (fun t k => XS.aloadN X9.here hx rfl (hb hby d17_25) rfl rfl k) ?_
    refine OE.v (fun t k => XS.iloadN X9.here hx rfl (hb hby d17_26) rfl k) ?_
    show OE _ _ _ _ (T9.setTop (mkF m 27 #[rv a, iv ps, iv vv] [(.int ps), (.ref a)]))
    obtain ⟨cq10, kq10, q10a, q10b, q10c⟩ := isOf hZ e9 P0
    obtain ⟨_, _, ⟨T10, L10, k10, n10⟩, -, X10, ⟨Lc10, hQ10, l10, y10, z10⟩, st10⟩ := X9.virtualBack hx (y := (⟨"java/lang/String", "charAt", "(I)C"⟩ : MethodName)) (z := (⟨"java/lang/String", "charAt", "(I)C"⟩ : MethodName)) hown (mvT hZ (hw _ (own_w 118 rfl))) (mvT hZ (hw _ (own_w 119 rfl))) (notFace_of_selects (args := #[]) (mvT hZ (hw _ (own_w 121 rfl)))) (mvT hZ (hw _ (own_w 121 rfl))) (mvT hZ (hw _ (own_w 120 rfl))) (by decide) (backOf (W := 0) (rm21 l Z a0 hw [] a sv ks cn us cs ps vv h0 n0 Z0 O0 P0 P1 P2 P3 i0.1 i0.2 c0 (own_ur hU) P6 P7 OP0) hZ (hw _ (own_w 122 rfl)) (hw _ (own_w 21 rfl)) (by decide) (by decide)) q10a q10c (g := (mkF m 27 #[rv a, iv ps, iv vv] [(.int ps), (.ref a)])) rfl (by rw [hml]; rfl) (Steps.refl _) (argsL := [(.int ps)]) (rest := []) (lenOf pd_15 rfl) rfl (Nat.le_of_eq rfl) (hb hby d17_27) (fun _ _ => ⟨rfl, e9, (by decide : 0 + 0 ≤ _), (by decide : 0 + 0 ≤ _)⟩)
    dsimp only [Pt.U, Pt.locs, Pt.cells, Pt.slots] at X10 l10 y10 z10 st10 hQ10
    subst l10 y10 z10
    obtain ⟨rfl, Nq10, e10⟩ := hQ10
    have N10 := Fr.app N9 Nq10
    refine OE.v (fun t k => st10.trans k) ?_
    show OE _ _ _ _ (T10.setTop (mkF m 30 #[rv a, iv ps, iv vv] [(.int vv)]))
    refine OE.v (fun t k => XS.iloadN X10.here hx rfl (hb hby d17_30) rfl k) ?_
    refine OE.v (fun t k => XS.i2c X10.here hx rfl (hb hby d17_31) rfl k) ?_
    show OE _ _ _ _ (T10.setTop (mkF m 32 #[rv a, iv ps, iv vv] [(.int (vv.toUInt32.toUInt16.toUInt32.toInt32)), (.int vv)]))
    refine OE.v (fun t k => XS.icmpNo X10.here hx rfl (hb hby d17_32) rfl (teq (own_cc ⟨P5.1, by have := P5.2; omega⟩).symm).2 k) ?_
    show OE _ _ _ _ (T10.setTop (mkF m 35 #[rv a, iv ps, iv vv] []))
    refine OE.v (fun t k => XS.iloadN X10.here hx rfl (hb hby d17_35) rfl k) ?_
    refine OE.v (fun t k => XS.iconst X10.here hx rfl (hb hby d17_36) k) ?_
    refine OE.v (fun t k => XS.iadd X10.here hx rfl (hb hby d17_37) rfl k) ?_
    refine OE.v (fun t k => XS.goto X10.here hx rfl (pc0 := 38) (pc' := 42) rfl (hb hby d17_38) (by decide) (by decide) k) ?_
    show OE _ _ _ _ (T10.setTop (mkF m 42 #[rv a, iv ps, iv vv] [(.int (ps + (1 : Int32)))]))
    obtain ⟨fs, hr, hrun, hended, hW, hsame⟩ := X10.leave (v := some (.int (ps + (1 : Int32)))) (fun h => by rw [Bd.returns] at h; cases h)
    refine ⟨_, _, ?_, hrun, hended, _, _, rfl, ?_, ⟨_, rfl⟩, hW, hsame.mono (by decide) (by decide)⟩
    · exact retI X10 hx Bd.returns (hb hby d17_42) hr
    · show Q17 Z a sv ks cn us cs ps vv h0 n0 _ T10.heap _
      rw [e10]
      exact ⟨(by rw [if_pos hU]), N10, rfl⟩

def own_HX (Z : State) (a : Addr) (c : Cell) : Prop := Arr Z Z.heap a c .char ∧ c.slots.size = (16 : Int32).toNatClampNeg ∧ ∀ j : Int32, ¬ j < 0 → j < (16 : Int32) → c.slots[j.toNatClampNeg]? = some (.int (own_hx j))
def own_str (us : List Value) (cn : Int32) (l : List Int32) : Prop := cn.toInt = l.length ∧ ∀ i, i < l.length → us.getD i (.int 0) = (.int (l.getD i (0 : Int32)))
theorem own_made {us vs : List Value} (r : List Value) {cn : Int32} {l : List Int32} (hl : own_like us vs cn.toNatClampNeg) (hv : vs = l.map Value.int ++ r) (hn : cn.toNatClampNeg = l.length) (h0 : ¬ cn < 0) : own_str us cn l := by
  refine ⟨?_, fun i hi => ?_⟩
  · have := nat_of h0
    omega
  · rw [hl i (by omega), hv]
    simp [List.getD, List.getElem?_append, hi]
theorem own_r8 (x : Int32) : 0 ≤ (x &&& (255 : Int32)).toInt ∧ (x &&& (255 : Int32)).toInt ≤ 255 := by
  have hm := c_mask x (255 : Int32) 8 (by decide) (by decide)
  rw [hm]
  omega
theorem own_cx (x : Int32) : (x &&& (255 : Int32)).toUInt32.toUInt16.toUInt32.toInt32 = x &&& (255 : Int32) := own_cc ⟨(own_r8 x).1, by have := (own_r8 x).2; omega⟩
theorem own_ab (a : Int32) : (nar .byte (a.toInt8.toInt32)) &&& (255 : Int32) = a &&& (255 : Int32) := by
  obtain ⟨c1, c2, c3⟩ := c_i2b a
  obtain ⟨d1, d2, d3⟩ := c_i2b a.toInt8.toInt32
  show a.toInt8.toInt32.toInt8.toInt32 &&& (255 : Int32) = _
  rw [← Int32.toInt_inj, c_mask _ (255 : Int32) 8 (by decide) (by decide), c_mask _ (255 : Int32) 8 (by decide) (by decide)]
  omega
theorem own_16 {j : Int32} (h : 0 ≤ j.toInt ∧ j.toInt < 16) : ¬ j < 0 ∧ j < (16 : Int32) := by
  rw [Int32.lt_iff_toInt_lt, Int32.lt_iff_toInt_lt]
  have z : (0 : Int32).toInt = 0 := by decide
  have z2 : (16 : Int32).toInt = 16 := by decide
  omega

theorem d1_41 : decode prog_50_method_7_code 41 = .ok (.iload 6, 2) := by decide +kernel
theorem d1_43 : decode prog_50_method_7_code 43 = .ok (.bipush 65, 2) := by decide +kernel
theorem d1_45 : decode prog_50_method_7_code 45 = .ok (.if_icmp .lt 10, 3) := by decide +kernel
theorem d1_48 : decode prog_50_method_7_code 48 = .ok (.iload 6, 2) := by decide +kernel
theorem d1_50 : decode prog_50_method_7_code 50 = .ok (.bipush 90, 2) := by decide +kernel
theorem d1_52 : decode prog_50_method_7_code 52 = .ok (.if_icmp .le 59, 3) := by decide +kernel
theorem d1_55 : decode prog_50_method_7_code 55 = .ok (.iload 6, 2) := by decide +kernel
theorem d1_57 : decode prog_50_method_7_code 57 = .ok (.bipush 97, 2) := by decide +kernel
theorem d1_59 : decode prog_50_method_7_code 59 = .ok (.if_icmp .lt 10, 3) := by decide +kernel
theorem d1_62 : decode prog_50_method_7_code 62 = .ok (.iload 6, 2) := by decide +kernel
theorem d1_64 : decode prog_50_method_7_code 64 = .ok (.bipush 122, 2) := by decide +kernel
theorem d1_66 : decode prog_50_method_7_code 66 = .ok (.if_icmp .le 45, 3) := by decide +kernel
theorem d1_69 : decode prog_50_method_7_code 69 = .ok (.iload 6, 2) := by decide +kernel
theorem d1_71 : decode prog_50_method_7_code 71 = .ok (.bipush 48, 2) := by decide +kernel
theorem d1_73 : decode prog_50_method_7_code 73 = .ok (.if_icmp .lt 10, 3) := by decide +kernel
theorem d1_76 : decode prog_50_method_7_code 76 = .ok (.iload 6, 2) := by decide +kernel
theorem d1_78 : decode prog_50_method_7_code 78 = .ok (.bipush 57, 2) := by decide +kernel
theorem d1_80 : decode prog_50_method_7_code 80 = .ok (.if_icmp .le 31, 3) := by decide +kernel
theorem d1_83 : decode prog_50_method_7_code 83 = .ok (.iload 6, 2) := by decide +kernel
theorem d1_85 : decode prog_50_method_7_code 85 = .ok (.bipush 45, 2) := by decide +kernel
theorem d1_87 : decode prog_50_method_7_code 87 = .ok (.if_icmp .eq 24, 3) := by decide +kernel
theorem d1_90 : decode prog_50_method_7_code 90 = .ok (.iload 6, 2) := by decide +kernel
theorem d1_92 : decode prog_50_method_7_code 92 = .ok (.bipush 46, 2) := by decide +kernel
theorem d1_94 : decode prog_50_method_7_code 94 = .ok (.if_icmp .eq 17, 3) := by decide +kernel
theorem d1_97 : decode prog_50_method_7_code 97 = .ok (.iload 6, 2) := by decide +kernel
theorem d1_99 : decode prog_50_method_7_code 99 = .ok (.bipush 95, 2) := by decide +kernel
theorem d1_101 : decode prog_50_method_7_code 101 = .ok (.if_icmp .eq 10, 3) := by decide +kernel
theorem d1_104 : decode prog_50_method_7_code 104 = .ok (.iload 6, 2) := by decide +kernel
theorem d1_106 : decode prog_50_method_7_code 106 = .ok (.bipush 126, 2) := by decide +kernel
theorem d1_108 : decode prog_50_method_7_code 108 = .ok (.if_icmp .ne 13, 3) := by decide +kernel
set_option maxRecDepth 65536 in
set_option maxHeartbeats 40000000 in
theorem own_chain {p : Program} {l : Launch} {e : Env} {Rm : Room} {s : State} {m : MethodId} {args : Array Value} {below : List Frame} {meth : Method} {c : Code} {T0 : State} {locs : List Loc} {cells slots : Nat} {KK : State → Outcome → Prop} (X0 : Stand p l e Rm s m args below meth c T0 locs cells slots) (hx : p.tables.exec = Jvm.exec) (hby : c.code = prog_50_method_7_code) (ba sb : Addr) (ln ii xx ce : Int32)
    (j1 : own_U ce → OE p.tables e below KK (T0.setTop (mkF m 111 #[rv ba, rv sb, rv ba, iv ln, iv ii, iv xx, iv ce] []))) (j2 : ¬ own_U ce → OE p.tables e below KK (T0.setTop (mkF m 121 #[rv ba, rv sb, rv ba, iv ln, iv ii, iv xx, iv ce] []))) : OE p.tables e below KK (T0.setTop (mkF m 41 #[rv ba, rv sb, rv ba, iv ln, iv ii, iv xx, iv ce] [])) := by
  show OE _ _ _ _ (T0.setTop (mkF m 41 #[rv ba, rv sb, rv ba, iv ln, iv ii, iv xx, iv ce] []))
  refine OE.v (fun t k => XS.iload X0.here hx rfl (hb hby d1_41) rfl k) ?_
  refine OE.v (fun t k => XS.bipush X0.here hx rfl (hb hby d1_43) k) ?_
  show OE _ _ _ _ (T0.setTop (mkF m 45 #[rv ba, rv sb, rv ba, iv ln, iv ii, iv xx, iv ce] [(.int 65), (.int ce)]))
  by_cases hc45_1 : ce < (65 : Int32)
  ·
    refine OE.v (fun t k => XS.icmpYes X0.here hx rfl (pc0 := 45) (pc' := 55) rfl (hb hby d1_45) rfl (tlt hc45_1).1 (by decide) (by decide) k) ?_
    show OE _ _ _ _ (T0.setTop (mkF m 55 #[rv ba, rv sb, rv ba, iv ln, iv ii, iv xx, iv ce] []))
    refine OE.v (fun t k => XS.iload X0.here hx rfl (hb hby d1_55) rfl k) ?_
    refine OE.v (fun t k => XS.bipush X0.here hx rfl (hb hby d1_57) k) ?_
    show OE _ _ _ _ (T0.setTop (mkF m 59 #[rv ba, rv sb, rv ba, iv ln, iv ii, iv xx, iv ce] [(.int 97), (.int ce)]))
    by_cases hc59_2 : ce < (97 : Int32)
    ·
      refine OE.v (fun t k => XS.icmpYes X0.here hx rfl (pc0 := 59) (pc' := 69) rfl (hb hby d1_59) rfl (tlt hc59_2).1 (by decide) (by decide) k) ?_
      show OE _ _ _ _ (T0.setTop (mkF m 69 #[rv ba, rv sb, rv ba, iv ln, iv ii, iv xx, iv ce] []))
      refine OE.v (fun t k => XS.iload X0.here hx rfl (hb hby d1_69) rfl k) ?_
      refine OE.v (fun t k => XS.bipush X0.here hx rfl (hb hby d1_71) k) ?_
      show OE _ _ _ _ (T0.setTop (mkF m 73 #[rv ba, rv sb, rv ba, iv ln, iv ii, iv xx, iv ce] [(.int 48), (.int ce)]))
      by_cases hc73_3 : ce < (48 : Int32)
      ·
        refine OE.v (fun t k => XS.icmpYes X0.here hx rfl (pc0 := 73) (pc' := 83) rfl (hb hby d1_73) rfl (tlt hc73_3).1 (by decide) (by decide) k) ?_
        show OE _ _ _ _ (T0.setTop (mkF m 83 #[rv ba, rv sb, rv ba, iv ln, iv ii, iv xx, iv ce] []))
        refine OE.v (fun t k => XS.iload X0.here hx rfl (hb hby d1_83) rfl k) ?_
        refine OE.v (fun t k => XS.bipush X0.here hx rfl (hb hby d1_85) k) ?_
        show OE _ _ _ _ (T0.setTop (mkF m 87 #[rv ba, rv sb, rv ba, iv ln, iv ii, iv xx, iv ce] [(.int 45), (.int ce)]))
        by_cases hc87_4 : ce = (45 : Int32)
        ·
          refine OE.v (fun t k => XS.icmpYes X0.here hx rfl (pc0 := 87) (pc' := 111) rfl (hb hby d1_87) rfl (teq hc87_4).1 (by decide) (by decide) k) ?_
          exact j1 (by simp only [← Int32.toInt_inj, Int32.lt_iff_toInt_lt, own_k65, own_k90, own_k97, own_k122, own_k48, own_k57, own_k45, own_k46, own_k95, own_k126] at hc45_1 hc59_2 hc73_3 hc87_4; unfold own_U; omega)
        ·
          refine OE.v (fun t k => XS.icmpNo X0.here hx rfl (hb hby d1_87) rfl (feq hc87_4).1 k) ?_
          show OE _ _ _ _ (T0.setTop (mkF m 90 #[rv ba, rv sb, rv ba, iv ln, iv ii, iv xx, iv ce] []))
          refine OE.v (fun t k => XS.iload X0.here hx rfl (hb hby d1_90) rfl k) ?_
          refine OE.v (fun t k => XS.bipush X0.here hx rfl (hb hby d1_92) k) ?_
          show OE _ _ _ _ (T0.setTop (mkF m 94 #[rv ba, rv sb, rv ba, iv ln, iv ii, iv xx, iv ce] [(.int 46), (.int ce)]))
          by_cases hc94_5 : ce = (46 : Int32)
          ·
            refine OE.v (fun t k => XS.icmpYes X0.here hx rfl (pc0 := 94) (pc' := 111) rfl (hb hby d1_94) rfl (teq hc94_5).1 (by decide) (by decide) k) ?_
            exact j1 (by simp only [← Int32.toInt_inj, Int32.lt_iff_toInt_lt, own_k65, own_k90, own_k97, own_k122, own_k48, own_k57, own_k45, own_k46, own_k95, own_k126] at hc45_1 hc59_2 hc73_3 hc87_4 hc94_5; unfold own_U; omega)
          ·
            refine OE.v (fun t k => XS.icmpNo X0.here hx rfl (hb hby d1_94) rfl (feq hc94_5).1 k) ?_
            show OE _ _ _ _ (T0.setTop (mkF m 97 #[rv ba, rv sb, rv ba, iv ln, iv ii, iv xx, iv ce] []))
            refine OE.v (fun t k => XS.iload X0.here hx rfl (hb hby d1_97) rfl k) ?_
            refine OE.v (fun t k => XS.bipush X0.here hx rfl (hb hby d1_99) k) ?_
            show OE _ _ _ _ (T0.setTop (mkF m 101 #[rv ba, rv sb, rv ba, iv ln, iv ii, iv xx, iv ce] [(.int 95), (.int ce)]))
            by_cases hc101_6 : ce = (95 : Int32)
            ·
              refine OE.v (fun t k => XS.icmpYes X0.here hx rfl (pc0 := 101) (pc' := 111) rfl (hb hby d1_101) rfl (teq hc101_6).1 (by decide) (by decide) k) ?_
              exact j1 (by simp only [← Int32.toInt_inj, Int32.lt_iff_toInt_lt, own_k65, own_k90, own_k97, own_k122, own_k48, own_k57, own_k45, own_k46, own_k95, own_k126] at hc45_1 hc59_2 hc73_3 hc87_4 hc94_5 hc101_6; unfold own_U; omega)
            ·
              refine OE.v (fun t k => XS.icmpNo X0.here hx rfl (hb hby d1_101) rfl (feq hc101_6).1 k) ?_
              show OE _ _ _ _ (T0.setTop (mkF m 104 #[rv ba, rv sb, rv ba, iv ln, iv ii, iv xx, iv ce] []))
              refine OE.v (fun t k => XS.iload X0.here hx rfl (hb hby d1_104) rfl k) ?_
              refine OE.v (fun t k => XS.bipush X0.here hx rfl (hb hby d1_106) k) ?_
              show OE _ _ _ _ (T0.setTop (mkF m 108 #[rv ba, rv sb, rv ba, iv ln, iv ii, iv xx, iv ce] [(.int 126), (.int ce)]))
              by_cases hc108_7 : ce = (126 : Int32)
              ·
                refine OE.v (fun t k => XS.icmpNo X0.here hx rfl (hb hby d1_108) rfl (teq hc108_7).2 k) ?_
                exact j1 (by simp only [← Int32.toInt_inj, Int32.lt_iff_toInt_lt, own_k65, own_k90, own_k97, own_k122, own_k48, own_k57, own_k45, own_k46, own_k95, own_k126] at hc45_1 hc59_2 hc73_3 hc87_4 hc94_5 hc101_6 hc108_7; unfold own_U; omega)
              ·
                refine OE.v (fun t k => XS.icmpYes X0.here hx rfl (pc0 := 108) (pc' := 121) rfl (hb hby d1_108) rfl (feq hc108_7).2 (by decide) (by decide) k) ?_
                exact j2 (by simp only [← Int32.toInt_inj, Int32.lt_iff_toInt_lt, own_k65, own_k90, own_k97, own_k122, own_k48, own_k57, own_k45, own_k46, own_k95, own_k126] at hc45_1 hc59_2 hc73_3 hc87_4 hc94_5 hc101_6 hc108_7; unfold own_U; omega)
      ·
        refine OE.v (fun t k => XS.icmpNo X0.here hx rfl (hb hby d1_73) rfl (flt hc73_3).1 k) ?_
        show OE _ _ _ _ (T0.setTop (mkF m 76 #[rv ba, rv sb, rv ba, iv ln, iv ii, iv xx, iv ce] []))
        refine OE.v (fun t k => XS.iload X0.here hx rfl (hb hby d1_76) rfl k) ?_
        refine OE.v (fun t k => XS.bipush X0.here hx rfl (hb hby d1_78) k) ?_
        show OE _ _ _ _ (T0.setTop (mkF m 80 #[rv ba, rv sb, rv ba, iv ln, iv ii, iv xx, iv ce] [(.int 57), (.int ce)]))
        by_cases hc80_8 : (57 : Int32) < ce
        ·
          refine OE.v (fun t k => XS.icmpNo X0.here hx rfl (hb hby d1_80) rfl (tlt hc80_8).2.2.2 k) ?_
          show OE _ _ _ _ (T0.setTop (mkF m 83 #[rv ba, rv sb, rv ba, iv ln, iv ii, iv xx, iv ce] []))
          refine OE.v (fun t k => XS.iload X0.here hx rfl (hb hby d1_83) rfl k) ?_
          refine OE.v (fun t k => XS.bipush X0.here hx rfl (hb hby d1_85) k) ?_
          show OE _ _ _ _ (T0.setTop (mkF m 87 #[rv ba, rv sb, rv ba, iv ln, iv ii, iv xx, iv ce] [(.int 45), (.int ce)]))
          by_cases hc87_9 : ce = (45 : Int32)
          ·
            refine OE.v (fun t k => XS.icmpYes X0.here hx rfl (pc0 := 87) (pc' := 111) rfl (hb hby d1_87) rfl (teq hc87_9).1 (by decide) (by decide) k) ?_
            exact j1 (by simp only [← Int32.toInt_inj, Int32.lt_iff_toInt_lt, own_k65, own_k90, own_k97, own_k122, own_k48, own_k57, own_k45, own_k46, own_k95, own_k126] at hc45_1 hc59_2 hc73_3 hc80_8 hc87_9; unfold own_U; omega)
          ·
            refine OE.v (fun t k => XS.icmpNo X0.here hx rfl (hb hby d1_87) rfl (feq hc87_9).1 k) ?_
            show OE _ _ _ _ (T0.setTop (mkF m 90 #[rv ba, rv sb, rv ba, iv ln, iv ii, iv xx, iv ce] []))
            refine OE.v (fun t k => XS.iload X0.here hx rfl (hb hby d1_90) rfl k) ?_
            refine OE.v (fun t k => XS.bipush X0.here hx rfl (hb hby d1_92) k) ?_
            show OE _ _ _ _ (T0.setTop (mkF m 94 #[rv ba, rv sb, rv ba, iv ln, iv ii, iv xx, iv ce] [(.int 46), (.int ce)]))
            by_cases hc94_10 : ce = (46 : Int32)
            ·
              refine OE.v (fun t k => XS.icmpYes X0.here hx rfl (pc0 := 94) (pc' := 111) rfl (hb hby d1_94) rfl (teq hc94_10).1 (by decide) (by decide) k) ?_
              exact j1 (by simp only [← Int32.toInt_inj, Int32.lt_iff_toInt_lt, own_k65, own_k90, own_k97, own_k122, own_k48, own_k57, own_k45, own_k46, own_k95, own_k126] at hc45_1 hc59_2 hc73_3 hc80_8 hc87_9 hc94_10; unfold own_U; omega)
            ·
              refine OE.v (fun t k => XS.icmpNo X0.here hx rfl (hb hby d1_94) rfl (feq hc94_10).1 k) ?_
              show OE _ _ _ _ (T0.setTop (mkF m 97 #[rv ba, rv sb, rv ba, iv ln, iv ii, iv xx, iv ce] []))
              refine OE.v (fun t k => XS.iload X0.here hx rfl (hb hby d1_97) rfl k) ?_
              refine OE.v (fun t k => XS.bipush X0.here hx rfl (hb hby d1_99) k) ?_
              show OE _ _ _ _ (T0.setTop (mkF m 101 #[rv ba, rv sb, rv ba, iv ln, iv ii, iv xx, iv ce] [(.int 95), (.int ce)]))
              by_cases hc101_11 : ce = (95 : Int32)
              ·
                refine OE.v (fun t k => XS.icmpYes X0.here hx rfl (pc0 := 101) (pc' := 111) rfl (hb hby d1_101) rfl (teq hc101_11).1 (by decide) (by decide) k) ?_
                exact j1 (by simp only [← Int32.toInt_inj, Int32.lt_iff_toInt_lt, own_k65, own_k90, own_k97, own_k122, own_k48, own_k57, own_k45, own_k46, own_k95, own_k126] at hc45_1 hc59_2 hc73_3 hc80_8 hc87_9 hc94_10 hc101_11; unfold own_U; omega)
              ·
                refine OE.v (fun t k => XS.icmpNo X0.here hx rfl (hb hby d1_101) rfl (feq hc101_11).1 k) ?_
                show OE _ _ _ _ (T0.setTop (mkF m 104 #[rv ba, rv sb, rv ba, iv ln, iv ii, iv xx, iv ce] []))
                refine OE.v (fun t k => XS.iload X0.here hx rfl (hb hby d1_104) rfl k) ?_
                refine OE.v (fun t k => XS.bipush X0.here hx rfl (hb hby d1_106) k) ?_
                show OE _ _ _ _ (T0.setTop (mkF m 108 #[rv ba, rv sb, rv ba, iv ln, iv ii, iv xx, iv ce] [(.int 126), (.int ce)]))
                by_cases hc108_12 : ce = (126 : Int32)
                ·
                  refine OE.v (fun t k => XS.icmpNo X0.here hx rfl (hb hby d1_108) rfl (teq hc108_12).2 k) ?_
                  exact j1 (by simp only [← Int32.toInt_inj, Int32.lt_iff_toInt_lt, own_k65, own_k90, own_k97, own_k122, own_k48, own_k57, own_k45, own_k46, own_k95, own_k126] at hc45_1 hc59_2 hc73_3 hc80_8 hc87_9 hc94_10 hc101_11 hc108_12; unfold own_U; omega)
                ·
                  refine OE.v (fun t k => XS.icmpYes X0.here hx rfl (pc0 := 108) (pc' := 121) rfl (hb hby d1_108) rfl (feq hc108_12).2 (by decide) (by decide) k) ?_
                  exact j2 (by simp only [← Int32.toInt_inj, Int32.lt_iff_toInt_lt, own_k65, own_k90, own_k97, own_k122, own_k48, own_k57, own_k45, own_k46, own_k95, own_k126] at hc45_1 hc59_2 hc73_3 hc80_8 hc87_9 hc94_10 hc101_11 hc108_12; unfold own_U; omega)
        ·
          refine OE.v (fun t k => XS.icmpYes X0.here hx rfl (pc0 := 80) (pc' := 111) rfl (hb hby d1_80) rfl (flt hc80_8).2.2.2 (by decide) (by decide) k) ?_
          exact j1 (by simp only [← Int32.toInt_inj, Int32.lt_iff_toInt_lt, own_k65, own_k90, own_k97, own_k122, own_k48, own_k57, own_k45, own_k46, own_k95, own_k126] at hc45_1 hc59_2 hc73_3 hc80_8; unfold own_U; omega)
    ·
      refine OE.v (fun t k => XS.icmpNo X0.here hx rfl (hb hby d1_59) rfl (flt hc59_2).1 k) ?_
      show OE _ _ _ _ (T0.setTop (mkF m 62 #[rv ba, rv sb, rv ba, iv ln, iv ii, iv xx, iv ce] []))
      refine OE.v (fun t k => XS.iload X0.here hx rfl (hb hby d1_62) rfl k) ?_
      refine OE.v (fun t k => XS.bipush X0.here hx rfl (hb hby d1_64) k) ?_
      show OE _ _ _ _ (T0.setTop (mkF m 66 #[rv ba, rv sb, rv ba, iv ln, iv ii, iv xx, iv ce] [(.int 122), (.int ce)]))
      by_cases hc66_13 : (122 : Int32) < ce
      ·
        refine OE.v (fun t k => XS.icmpNo X0.here hx rfl (hb hby d1_66) rfl (tlt hc66_13).2.2.2 k) ?_
        show OE _ _ _ _ (T0.setTop (mkF m 69 #[rv ba, rv sb, rv ba, iv ln, iv ii, iv xx, iv ce] []))
        refine OE.v (fun t k => XS.iload X0.here hx rfl (hb hby d1_69) rfl k) ?_
        refine OE.v (fun t k => XS.bipush X0.here hx rfl (hb hby d1_71) k) ?_
        show OE _ _ _ _ (T0.setTop (mkF m 73 #[rv ba, rv sb, rv ba, iv ln, iv ii, iv xx, iv ce] [(.int 48), (.int ce)]))
        by_cases hc73_14 : ce < (48 : Int32)
        ·
          refine OE.v (fun t k => XS.icmpYes X0.here hx rfl (pc0 := 73) (pc' := 83) rfl (hb hby d1_73) rfl (tlt hc73_14).1 (by decide) (by decide) k) ?_
          show OE _ _ _ _ (T0.setTop (mkF m 83 #[rv ba, rv sb, rv ba, iv ln, iv ii, iv xx, iv ce] []))
          refine OE.v (fun t k => XS.iload X0.here hx rfl (hb hby d1_83) rfl k) ?_
          refine OE.v (fun t k => XS.bipush X0.here hx rfl (hb hby d1_85) k) ?_
          show OE _ _ _ _ (T0.setTop (mkF m 87 #[rv ba, rv sb, rv ba, iv ln, iv ii, iv xx, iv ce] [(.int 45), (.int ce)]))
          by_cases hc87_15 : ce = (45 : Int32)
          ·
            refine OE.v (fun t k => XS.icmpYes X0.here hx rfl (pc0 := 87) (pc' := 111) rfl (hb hby d1_87) rfl (teq hc87_15).1 (by decide) (by decide) k) ?_
            exact j1 (by simp only [← Int32.toInt_inj, Int32.lt_iff_toInt_lt, own_k65, own_k90, own_k97, own_k122, own_k48, own_k57, own_k45, own_k46, own_k95, own_k126] at hc45_1 hc59_2 hc66_13 hc73_14 hc87_15; unfold own_U; omega)
          ·
            refine OE.v (fun t k => XS.icmpNo X0.here hx rfl (hb hby d1_87) rfl (feq hc87_15).1 k) ?_
            show OE _ _ _ _ (T0.setTop (mkF m 90 #[rv ba, rv sb, rv ba, iv ln, iv ii, iv xx, iv ce] []))
            refine OE.v (fun t k => XS.iload X0.here hx rfl (hb hby d1_90) rfl k) ?_
            refine OE.v (fun t k => XS.bipush X0.here hx rfl (hb hby d1_92) k) ?_
            show OE _ _ _ _ (T0.setTop (mkF m 94 #[rv ba, rv sb, rv ba, iv ln, iv ii, iv xx, iv ce] [(.int 46), (.int ce)]))
            by_cases hc94_16 : ce = (46 : Int32)
            ·
              refine OE.v (fun t k => XS.icmpYes X0.here hx rfl (pc0 := 94) (pc' := 111) rfl (hb hby d1_94) rfl (teq hc94_16).1 (by decide) (by decide) k) ?_
              exact j1 (by simp only [← Int32.toInt_inj, Int32.lt_iff_toInt_lt, own_k65, own_k90, own_k97, own_k122, own_k48, own_k57, own_k45, own_k46, own_k95, own_k126] at hc45_1 hc59_2 hc66_13 hc73_14 hc87_15 hc94_16; unfold own_U; omega)
            ·
              refine OE.v (fun t k => XS.icmpNo X0.here hx rfl (hb hby d1_94) rfl (feq hc94_16).1 k) ?_
              show OE _ _ _ _ (T0.setTop (mkF m 97 #[rv ba, rv sb, rv ba, iv ln, iv ii, iv xx, iv ce] []))
              refine OE.v (fun t k => XS.iload X0.here hx rfl (hb hby d1_97) rfl k) ?_
              refine OE.v (fun t k => XS.bipush X0.here hx rfl (hb hby d1_99) k) ?_
              show OE _ _ _ _ (T0.setTop (mkF m 101 #[rv ba, rv sb, rv ba, iv ln, iv ii, iv xx, iv ce] [(.int 95), (.int ce)]))
              by_cases hc101_17 : ce = (95 : Int32)
              ·
                refine OE.v (fun t k => XS.icmpYes X0.here hx rfl (pc0 := 101) (pc' := 111) rfl (hb hby d1_101) rfl (teq hc101_17).1 (by decide) (by decide) k) ?_
                exact j1 (by simp only [← Int32.toInt_inj, Int32.lt_iff_toInt_lt, own_k65, own_k90, own_k97, own_k122, own_k48, own_k57, own_k45, own_k46, own_k95, own_k126] at hc45_1 hc59_2 hc66_13 hc73_14 hc87_15 hc94_16 hc101_17; unfold own_U; omega)
              ·
                refine OE.v (fun t k => XS.icmpNo X0.here hx rfl (hb hby d1_101) rfl (feq hc101_17).1 k) ?_
                show OE _ _ _ _ (T0.setTop (mkF m 104 #[rv ba, rv sb, rv ba, iv ln, iv ii, iv xx, iv ce] []))
                refine OE.v (fun t k => XS.iload X0.here hx rfl (hb hby d1_104) rfl k) ?_
                refine OE.v (fun t k => XS.bipush X0.here hx rfl (hb hby d1_106) k) ?_
                show OE _ _ _ _ (T0.setTop (mkF m 108 #[rv ba, rv sb, rv ba, iv ln, iv ii, iv xx, iv ce] [(.int 126), (.int ce)]))
                by_cases hc108_18 : ce = (126 : Int32)
                ·
                  refine OE.v (fun t k => XS.icmpNo X0.here hx rfl (hb hby d1_108) rfl (teq hc108_18).2 k) ?_
                  exact j1 (by simp only [← Int32.toInt_inj, Int32.lt_iff_toInt_lt, own_k65, own_k90, own_k97, own_k122, own_k48, own_k57, own_k45, own_k46, own_k95, own_k126] at hc45_1 hc59_2 hc66_13 hc73_14 hc87_15 hc94_16 hc101_17 hc108_18; unfold own_U; omega)
                ·
                  refine OE.v (fun t k => XS.icmpYes X0.here hx rfl (pc0 := 108) (pc' := 121) rfl (hb hby d1_108) rfl (feq hc108_18).2 (by decide) (by decide) k) ?_
                  exact j2 (by simp only [← Int32.toInt_inj, Int32.lt_iff_toInt_lt, own_k65, own_k90, own_k97, own_k122, own_k48, own_k57, own_k45, own_k46, own_k95, own_k126] at hc45_1 hc59_2 hc66_13 hc73_14 hc87_15 hc94_16 hc101_17 hc108_18; unfold own_U; omega)
        ·
          refine OE.v (fun t k => XS.icmpNo X0.here hx rfl (hb hby d1_73) rfl (flt hc73_14).1 k) ?_
          show OE _ _ _ _ (T0.setTop (mkF m 76 #[rv ba, rv sb, rv ba, iv ln, iv ii, iv xx, iv ce] []))
          refine OE.v (fun t k => XS.iload X0.here hx rfl (hb hby d1_76) rfl k) ?_
          refine OE.v (fun t k => XS.bipush X0.here hx rfl (hb hby d1_78) k) ?_
          show OE _ _ _ _ (T0.setTop (mkF m 80 #[rv ba, rv sb, rv ba, iv ln, iv ii, iv xx, iv ce] [(.int 57), (.int ce)]))
          by_cases hc80_19 : (57 : Int32) < ce
          ·
            refine OE.v (fun t k => XS.icmpNo X0.here hx rfl (hb hby d1_80) rfl (tlt hc80_19).2.2.2 k) ?_
            show OE _ _ _ _ (T0.setTop (mkF m 83 #[rv ba, rv sb, rv ba, iv ln, iv ii, iv xx, iv ce] []))
            refine OE.v (fun t k => XS.iload X0.here hx rfl (hb hby d1_83) rfl k) ?_
            refine OE.v (fun t k => XS.bipush X0.here hx rfl (hb hby d1_85) k) ?_
            show OE _ _ _ _ (T0.setTop (mkF m 87 #[rv ba, rv sb, rv ba, iv ln, iv ii, iv xx, iv ce] [(.int 45), (.int ce)]))
            by_cases hc87_20 : ce = (45 : Int32)
            ·
              refine OE.v (fun t k => XS.icmpYes X0.here hx rfl (pc0 := 87) (pc' := 111) rfl (hb hby d1_87) rfl (teq hc87_20).1 (by decide) (by decide) k) ?_
              exact j1 (by simp only [← Int32.toInt_inj, Int32.lt_iff_toInt_lt, own_k65, own_k90, own_k97, own_k122, own_k48, own_k57, own_k45, own_k46, own_k95, own_k126] at hc45_1 hc59_2 hc66_13 hc73_14 hc80_19 hc87_20; unfold own_U; omega)
            ·
              refine OE.v (fun t k => XS.icmpNo X0.here hx rfl (hb hby d1_87) rfl (feq hc87_20).1 k) ?_
              show OE _ _ _ _ (T0.setTop (mkF m 90 #[rv ba, rv sb, rv ba, iv ln, iv ii, iv xx, iv ce] []))
              refine OE.v (fun t k => XS.iload X0.here hx rfl (hb hby d1_90) rfl k) ?_
              refine OE.v (fun t k => XS.bipush X0.here hx rfl (hb hby d1_92) k) ?_
              show OE _ _ _ _ (T0.setTop (mkF m 94 #[rv ba, rv sb, rv ba, iv ln, iv ii, iv xx, iv ce] [(.int 46), (.int ce)]))
              by_cases hc94_21 : ce = (46 : Int32)
              ·
                refine OE.v (fun t k => XS.icmpYes X0.here hx rfl (pc0 := 94) (pc' := 111) rfl (hb hby d1_94) rfl (teq hc94_21).1 (by decide) (by decide) k) ?_
                exact j1 (by simp only [← Int32.toInt_inj, Int32.lt_iff_toInt_lt, own_k65, own_k90, own_k97, own_k122, own_k48, own_k57, own_k45, own_k46, own_k95, own_k126] at hc45_1 hc59_2 hc66_13 hc73_14 hc80_19 hc87_20 hc94_21; unfold own_U; omega)
              ·
                refine OE.v (fun t k => XS.icmpNo X0.here hx rfl (hb hby d1_94) rfl (feq hc94_21).1 k) ?_
                show OE _ _ _ _ (T0.setTop (mkF m 97 #[rv ba, rv sb, rv ba, iv ln, iv ii, iv xx, iv ce] []))
                refine OE.v (fun t k => XS.iload X0.here hx rfl (hb hby d1_97) rfl k) ?_
                refine OE.v (fun t k => XS.bipush X0.here hx rfl (hb hby d1_99) k) ?_
                show OE _ _ _ _ (T0.setTop (mkF m 101 #[rv ba, rv sb, rv ba, iv ln, iv ii, iv xx, iv ce] [(.int 95), (.int ce)]))
                by_cases hc101_22 : ce = (95 : Int32)
                ·
                  refine OE.v (fun t k => XS.icmpYes X0.here hx rfl (pc0 := 101) (pc' := 111) rfl (hb hby d1_101) rfl (teq hc101_22).1 (by decide) (by decide) k) ?_
                  exact j1 (by simp only [← Int32.toInt_inj, Int32.lt_iff_toInt_lt, own_k65, own_k90, own_k97, own_k122, own_k48, own_k57, own_k45, own_k46, own_k95, own_k126] at hc45_1 hc59_2 hc66_13 hc73_14 hc80_19 hc87_20 hc94_21 hc101_22; unfold own_U; omega)
                ·
                  refine OE.v (fun t k => XS.icmpNo X0.here hx rfl (hb hby d1_101) rfl (feq hc101_22).1 k) ?_
                  show OE _ _ _ _ (T0.setTop (mkF m 104 #[rv ba, rv sb, rv ba, iv ln, iv ii, iv xx, iv ce] []))
                  refine OE.v (fun t k => XS.iload X0.here hx rfl (hb hby d1_104) rfl k) ?_
                  refine OE.v (fun t k => XS.bipush X0.here hx rfl (hb hby d1_106) k) ?_
                  show OE _ _ _ _ (T0.setTop (mkF m 108 #[rv ba, rv sb, rv ba, iv ln, iv ii, iv xx, iv ce] [(.int 126), (.int ce)]))
                  by_cases hc108_23 : ce = (126 : Int32)
                  ·
                    refine OE.v (fun t k => XS.icmpNo X0.here hx rfl (hb hby d1_108) rfl (teq hc108_23).2 k) ?_
                    exact j1 (by simp only [← Int32.toInt_inj, Int32.lt_iff_toInt_lt, own_k65, own_k90, own_k97, own_k122, own_k48, own_k57, own_k45, own_k46, own_k95, own_k126] at hc45_1 hc59_2 hc66_13 hc73_14 hc80_19 hc87_20 hc94_21 hc101_22 hc108_23; unfold own_U; omega)
                  ·
                    refine OE.v (fun t k => XS.icmpYes X0.here hx rfl (pc0 := 108) (pc' := 121) rfl (hb hby d1_108) rfl (feq hc108_23).2 (by decide) (by decide) k) ?_
                    exact j2 (by simp only [← Int32.toInt_inj, Int32.lt_iff_toInt_lt, own_k65, own_k90, own_k97, own_k122, own_k48, own_k57, own_k45, own_k46, own_k95, own_k126] at hc45_1 hc59_2 hc66_13 hc73_14 hc80_19 hc87_20 hc94_21 hc101_22 hc108_23; unfold own_U; omega)
          ·
            refine OE.v (fun t k => XS.icmpYes X0.here hx rfl (pc0 := 80) (pc' := 111) rfl (hb hby d1_80) rfl (flt hc80_19).2.2.2 (by decide) (by decide) k) ?_
            exact j1 (by simp only [← Int32.toInt_inj, Int32.lt_iff_toInt_lt, own_k65, own_k90, own_k97, own_k122, own_k48, own_k57, own_k45, own_k46, own_k95, own_k126] at hc45_1 hc59_2 hc66_13 hc73_14 hc80_19; unfold own_U; omega)
      ·
        refine OE.v (fun t k => XS.icmpYes X0.here hx rfl (pc0 := 66) (pc' := 111) rfl (hb hby d1_66) rfl (flt hc66_13).2.2.2 (by decide) (by decide) k) ?_
        exact j1 (by simp only [← Int32.toInt_inj, Int32.lt_iff_toInt_lt, own_k65, own_k90, own_k97, own_k122, own_k48, own_k57, own_k45, own_k46, own_k95, own_k126] at hc45_1 hc59_2 hc66_13; unfold own_U; omega)
  ·
    refine OE.v (fun t k => XS.icmpNo X0.here hx rfl (hb hby d1_45) rfl (flt hc45_1).1 k) ?_
    show OE _ _ _ _ (T0.setTop (mkF m 48 #[rv ba, rv sb, rv ba, iv ln, iv ii, iv xx, iv ce] []))
    refine OE.v (fun t k => XS.iload X0.here hx rfl (hb hby d1_48) rfl k) ?_
    refine OE.v (fun t k => XS.bipush X0.here hx rfl (hb hby d1_50) k) ?_
    show OE _ _ _ _ (T0.setTop (mkF m 52 #[rv ba, rv sb, rv ba, iv ln, iv ii, iv xx, iv ce] [(.int 90), (.int ce)]))
    by_cases hc52_24 : (90 : Int32) < ce
    ·
      refine OE.v (fun t k => XS.icmpNo X0.here hx rfl (hb hby d1_52) rfl (tlt hc52_24).2.2.2 k) ?_
      show OE _ _ _ _ (T0.setTop (mkF m 55 #[rv ba, rv sb, rv ba, iv ln, iv ii, iv xx, iv ce] []))
      refine OE.v (fun t k => XS.iload X0.here hx rfl (hb hby d1_55) rfl k) ?_
      refine OE.v (fun t k => XS.bipush X0.here hx rfl (hb hby d1_57) k) ?_
      show OE _ _ _ _ (T0.setTop (mkF m 59 #[rv ba, rv sb, rv ba, iv ln, iv ii, iv xx, iv ce] [(.int 97), (.int ce)]))
      by_cases hc59_25 : ce < (97 : Int32)
      ·
        refine OE.v (fun t k => XS.icmpYes X0.here hx rfl (pc0 := 59) (pc' := 69) rfl (hb hby d1_59) rfl (tlt hc59_25).1 (by decide) (by decide) k) ?_
        show OE _ _ _ _ (T0.setTop (mkF m 69 #[rv ba, rv sb, rv ba, iv ln, iv ii, iv xx, iv ce] []))
        refine OE.v (fun t k => XS.iload X0.here hx rfl (hb hby d1_69) rfl k) ?_
        refine OE.v (fun t k => XS.bipush X0.here hx rfl (hb hby d1_71) k) ?_
        show OE _ _ _ _ (T0.setTop (mkF m 73 #[rv ba, rv sb, rv ba, iv ln, iv ii, iv xx, iv ce] [(.int 48), (.int ce)]))
        by_cases hc73_26 : ce < (48 : Int32)
        ·
          refine OE.v (fun t k => XS.icmpYes X0.here hx rfl (pc0 := 73) (pc' := 83) rfl (hb hby d1_73) rfl (tlt hc73_26).1 (by decide) (by decide) k) ?_
          show OE _ _ _ _ (T0.setTop (mkF m 83 #[rv ba, rv sb, rv ba, iv ln, iv ii, iv xx, iv ce] []))
          refine OE.v (fun t k => XS.iload X0.here hx rfl (hb hby d1_83) rfl k) ?_
          refine OE.v (fun t k => XS.bipush X0.here hx rfl (hb hby d1_85) k) ?_
          show OE _ _ _ _ (T0.setTop (mkF m 87 #[rv ba, rv sb, rv ba, iv ln, iv ii, iv xx, iv ce] [(.int 45), (.int ce)]))
          by_cases hc87_27 : ce = (45 : Int32)
          ·
            refine OE.v (fun t k => XS.icmpYes X0.here hx rfl (pc0 := 87) (pc' := 111) rfl (hb hby d1_87) rfl (teq hc87_27).1 (by decide) (by decide) k) ?_
            exact j1 (by simp only [← Int32.toInt_inj, Int32.lt_iff_toInt_lt, own_k65, own_k90, own_k97, own_k122, own_k48, own_k57, own_k45, own_k46, own_k95, own_k126] at hc45_1 hc52_24 hc59_25 hc73_26 hc87_27; unfold own_U; omega)
          ·
            refine OE.v (fun t k => XS.icmpNo X0.here hx rfl (hb hby d1_87) rfl (feq hc87_27).1 k) ?_
            show OE _ _ _ _ (T0.setTop (mkF m 90 #[rv ba, rv sb, rv ba, iv ln, iv ii, iv xx, iv ce] []))
            refine OE.v (fun t k => XS.iload X0.here hx rfl (hb hby d1_90) rfl k) ?_
            refine OE.v (fun t k => XS.bipush X0.here hx rfl (hb hby d1_92) k) ?_
            show OE _ _ _ _ (T0.setTop (mkF m 94 #[rv ba, rv sb, rv ba, iv ln, iv ii, iv xx, iv ce] [(.int 46), (.int ce)]))
            by_cases hc94_28 : ce = (46 : Int32)
            ·
              refine OE.v (fun t k => XS.icmpYes X0.here hx rfl (pc0 := 94) (pc' := 111) rfl (hb hby d1_94) rfl (teq hc94_28).1 (by decide) (by decide) k) ?_
              exact j1 (by simp only [← Int32.toInt_inj, Int32.lt_iff_toInt_lt, own_k65, own_k90, own_k97, own_k122, own_k48, own_k57, own_k45, own_k46, own_k95, own_k126] at hc45_1 hc52_24 hc59_25 hc73_26 hc87_27 hc94_28; unfold own_U; omega)
            ·
              refine OE.v (fun t k => XS.icmpNo X0.here hx rfl (hb hby d1_94) rfl (feq hc94_28).1 k) ?_
              show OE _ _ _ _ (T0.setTop (mkF m 97 #[rv ba, rv sb, rv ba, iv ln, iv ii, iv xx, iv ce] []))
              refine OE.v (fun t k => XS.iload X0.here hx rfl (hb hby d1_97) rfl k) ?_
              refine OE.v (fun t k => XS.bipush X0.here hx rfl (hb hby d1_99) k) ?_
              show OE _ _ _ _ (T0.setTop (mkF m 101 #[rv ba, rv sb, rv ba, iv ln, iv ii, iv xx, iv ce] [(.int 95), (.int ce)]))
              by_cases hc101_29 : ce = (95 : Int32)
              ·
                refine OE.v (fun t k => XS.icmpYes X0.here hx rfl (pc0 := 101) (pc' := 111) rfl (hb hby d1_101) rfl (teq hc101_29).1 (by decide) (by decide) k) ?_
                exact j1 (by simp only [← Int32.toInt_inj, Int32.lt_iff_toInt_lt, own_k65, own_k90, own_k97, own_k122, own_k48, own_k57, own_k45, own_k46, own_k95, own_k126] at hc45_1 hc52_24 hc59_25 hc73_26 hc87_27 hc94_28 hc101_29; unfold own_U; omega)
              ·
                refine OE.v (fun t k => XS.icmpNo X0.here hx rfl (hb hby d1_101) rfl (feq hc101_29).1 k) ?_
                show OE _ _ _ _ (T0.setTop (mkF m 104 #[rv ba, rv sb, rv ba, iv ln, iv ii, iv xx, iv ce] []))
                refine OE.v (fun t k => XS.iload X0.here hx rfl (hb hby d1_104) rfl k) ?_
                refine OE.v (fun t k => XS.bipush X0.here hx rfl (hb hby d1_106) k) ?_
                show OE _ _ _ _ (T0.setTop (mkF m 108 #[rv ba, rv sb, rv ba, iv ln, iv ii, iv xx, iv ce] [(.int 126), (.int ce)]))
                by_cases hc108_30 : ce = (126 : Int32)
                ·
                  refine OE.v (fun t k => XS.icmpNo X0.here hx rfl (hb hby d1_108) rfl (teq hc108_30).2 k) ?_
                  exact j1 (by simp only [← Int32.toInt_inj, Int32.lt_iff_toInt_lt, own_k65, own_k90, own_k97, own_k122, own_k48, own_k57, own_k45, own_k46, own_k95, own_k126] at hc45_1 hc52_24 hc59_25 hc73_26 hc87_27 hc94_28 hc101_29 hc108_30; unfold own_U; omega)
                ·
                  refine OE.v (fun t k => XS.icmpYes X0.here hx rfl (pc0 := 108) (pc' := 121) rfl (hb hby d1_108) rfl (feq hc108_30).2 (by decide) (by decide) k) ?_
                  exact j2 (by simp only [← Int32.toInt_inj, Int32.lt_iff_toInt_lt, own_k65, own_k90, own_k97, own_k122, own_k48, own_k57, own_k45, own_k46, own_k95, own_k126] at hc45_1 hc52_24 hc59_25 hc73_26 hc87_27 hc94_28 hc101_29 hc108_30; unfold own_U; omega)
        ·
          refine OE.v (fun t k => XS.icmpNo X0.here hx rfl (hb hby d1_73) rfl (flt hc73_26).1 k) ?_
          show OE _ _ _ _ (T0.setTop (mkF m 76 #[rv ba, rv sb, rv ba, iv ln, iv ii, iv xx, iv ce] []))
          refine OE.v (fun t k => XS.iload X0.here hx rfl (hb hby d1_76) rfl k) ?_
          refine OE.v (fun t k => XS.bipush X0.here hx rfl (hb hby d1_78) k) ?_
          show OE _ _ _ _ (T0.setTop (mkF m 80 #[rv ba, rv sb, rv ba, iv ln, iv ii, iv xx, iv ce] [(.int 57), (.int ce)]))
          by_cases hc80_31 : (57 : Int32) < ce
          ·
            refine OE.v (fun t k => XS.icmpNo X0.here hx rfl (hb hby d1_80) rfl (tlt hc80_31).2.2.2 k) ?_
            show OE _ _ _ _ (T0.setTop (mkF m 83 #[rv ba, rv sb, rv ba, iv ln, iv ii, iv xx, iv ce] []))
            refine OE.v (fun t k => XS.iload X0.here hx rfl (hb hby d1_83) rfl k) ?_
            refine OE.v (fun t k => XS.bipush X0.here hx rfl (hb hby d1_85) k) ?_
            show OE _ _ _ _ (T0.setTop (mkF m 87 #[rv ba, rv sb, rv ba, iv ln, iv ii, iv xx, iv ce] [(.int 45), (.int ce)]))
            by_cases hc87_32 : ce = (45 : Int32)
            ·
              refine OE.v (fun t k => XS.icmpYes X0.here hx rfl (pc0 := 87) (pc' := 111) rfl (hb hby d1_87) rfl (teq hc87_32).1 (by decide) (by decide) k) ?_
              exact j1 (by simp only [← Int32.toInt_inj, Int32.lt_iff_toInt_lt, own_k65, own_k90, own_k97, own_k122, own_k48, own_k57, own_k45, own_k46, own_k95, own_k126] at hc45_1 hc52_24 hc59_25 hc73_26 hc80_31 hc87_32; unfold own_U; omega)
            ·
              refine OE.v (fun t k => XS.icmpNo X0.here hx rfl (hb hby d1_87) rfl (feq hc87_32).1 k) ?_
              show OE _ _ _ _ (T0.setTop (mkF m 90 #[rv ba, rv sb, rv ba, iv ln, iv ii, iv xx, iv ce] []))
              refine OE.v (fun t k => XS.iload X0.here hx rfl (hb hby d1_90) rfl k) ?_
              refine OE.v (fun t k => XS.bipush X0.here hx rfl (hb hby d1_92) k) ?_
              show OE _ _ _ _ (T0.setTop (mkF m 94 #[rv ba, rv sb, rv ba, iv ln, iv ii, iv xx, iv ce] [(.int 46), (.int ce)]))
              by_cases hc94_33 : ce = (46 : Int32)
              ·
                refine OE.v (fun t k => XS.icmpYes X0.here hx rfl (pc0 := 94) (pc' := 111) rfl (hb hby d1_94) rfl (teq hc94_33).1 (by decide) (by decide) k) ?_
                exact j1 (by simp only [← Int32.toInt_inj, Int32.lt_iff_toInt_lt, own_k65, own_k90, own_k97, own_k122, own_k48, own_k57, own_k45, own_k46, own_k95, own_k126] at hc45_1 hc52_24 hc59_25 hc73_26 hc80_31 hc87_32 hc94_33; unfold own_U; omega)
              ·
                refine OE.v (fun t k => XS.icmpNo X0.here hx rfl (hb hby d1_94) rfl (feq hc94_33).1 k) ?_
                show OE _ _ _ _ (T0.setTop (mkF m 97 #[rv ba, rv sb, rv ba, iv ln, iv ii, iv xx, iv ce] []))
                refine OE.v (fun t k => XS.iload X0.here hx rfl (hb hby d1_97) rfl k) ?_
                refine OE.v (fun t k => XS.bipush X0.here hx rfl (hb hby d1_99) k) ?_
                show OE _ _ _ _ (T0.setTop (mkF m 101 #[rv ba, rv sb, rv ba, iv ln, iv ii, iv xx, iv ce] [(.int 95), (.int ce)]))
                by_cases hc101_34 : ce = (95 : Int32)
                ·
                  refine OE.v (fun t k => XS.icmpYes X0.here hx rfl (pc0 := 101) (pc' := 111) rfl (hb hby d1_101) rfl (teq hc101_34).1 (by decide) (by decide) k) ?_
                  exact j1 (by simp only [← Int32.toInt_inj, Int32.lt_iff_toInt_lt, own_k65, own_k90, own_k97, own_k122, own_k48, own_k57, own_k45, own_k46, own_k95, own_k126] at hc45_1 hc52_24 hc59_25 hc73_26 hc80_31 hc87_32 hc94_33 hc101_34; unfold own_U; omega)
                ·
                  refine OE.v (fun t k => XS.icmpNo X0.here hx rfl (hb hby d1_101) rfl (feq hc101_34).1 k) ?_
                  show OE _ _ _ _ (T0.setTop (mkF m 104 #[rv ba, rv sb, rv ba, iv ln, iv ii, iv xx, iv ce] []))
                  refine OE.v (fun t k => XS.iload X0.here hx rfl (hb hby d1_104) rfl k) ?_
                  refine OE.v (fun t k => XS.bipush X0.here hx rfl (hb hby d1_106) k) ?_
                  show OE _ _ _ _ (T0.setTop (mkF m 108 #[rv ba, rv sb, rv ba, iv ln, iv ii, iv xx, iv ce] [(.int 126), (.int ce)]))
                  by_cases hc108_35 : ce = (126 : Int32)
                  ·
                    refine OE.v (fun t k => XS.icmpNo X0.here hx rfl (hb hby d1_108) rfl (teq hc108_35).2 k) ?_
                    exact j1 (by simp only [← Int32.toInt_inj, Int32.lt_iff_toInt_lt, own_k65, own_k90, own_k97, own_k122, own_k48, own_k57, own_k45, own_k46, own_k95, own_k126] at hc45_1 hc52_24 hc59_25 hc73_26 hc80_31 hc87_32 hc94_33 hc101_34 hc108_35; unfold own_U; omega)
                  ·
                    refine OE.v (fun t k => XS.icmpYes X0.here hx rfl (pc0 := 108) (pc' := 121) rfl (hb hby d1_108) rfl (feq hc108_35).2 (by decide) (by decide) k) ?_
                    exact j2 (by simp only [← Int32.toInt_inj, Int32.lt_iff_toInt_lt, own_k65, own_k90, own_k97, own_k122, own_k48, own_k57, own_k45, own_k46, own_k95, own_k126] at hc45_1 hc52_24 hc59_25 hc73_26 hc80_31 hc87_32 hc94_33 hc101_34 hc108_35; unfold own_U; omega)
          ·
            refine OE.v (fun t k => XS.icmpYes X0.here hx rfl (pc0 := 80) (pc' := 111) rfl (hb hby d1_80) rfl (flt hc80_31).2.2.2 (by decide) (by decide) k) ?_
            exact j1 (by simp only [← Int32.toInt_inj, Int32.lt_iff_toInt_lt, own_k65, own_k90, own_k97, own_k122, own_k48, own_k57, own_k45, own_k46, own_k95, own_k126] at hc45_1 hc52_24 hc59_25 hc73_26 hc80_31; unfold own_U; omega)
      ·
        refine OE.v (fun t k => XS.icmpNo X0.here hx rfl (hb hby d1_59) rfl (flt hc59_25).1 k) ?_
        show OE _ _ _ _ (T0.setTop (mkF m 62 #[rv ba, rv sb, rv ba, iv ln, iv ii, iv xx, iv ce] []))
        refine OE.v (fun t k => XS.iload X0.here hx rfl (hb hby d1_62) rfl k) ?_
        refine OE.v (fun t k => XS.bipush X0.here hx rfl (hb hby d1_64) k) ?_
        show OE _ _ _ _ (T0.setTop (mkF m 66 #[rv ba, rv sb, rv ba, iv ln, iv ii, iv xx, iv ce] [(.int 122), (.int ce)]))
        by_cases hc66_36 : (122 : Int32) < ce
        ·
          refine OE.v (fun t k => XS.icmpNo X0.here hx rfl (hb hby d1_66) rfl (tlt hc66_36).2.2.2 k) ?_
          show OE _ _ _ _ (T0.setTop (mkF m 69 #[rv ba, rv sb, rv ba, iv ln, iv ii, iv xx, iv ce] []))
          refine OE.v (fun t k => XS.iload X0.here hx rfl (hb hby d1_69) rfl k) ?_
          refine OE.v (fun t k => XS.bipush X0.here hx rfl (hb hby d1_71) k) ?_
          show OE _ _ _ _ (T0.setTop (mkF m 73 #[rv ba, rv sb, rv ba, iv ln, iv ii, iv xx, iv ce] [(.int 48), (.int ce)]))
          by_cases hc73_37 : ce < (48 : Int32)
          ·
            refine OE.v (fun t k => XS.icmpYes X0.here hx rfl (pc0 := 73) (pc' := 83) rfl (hb hby d1_73) rfl (tlt hc73_37).1 (by decide) (by decide) k) ?_
            show OE _ _ _ _ (T0.setTop (mkF m 83 #[rv ba, rv sb, rv ba, iv ln, iv ii, iv xx, iv ce] []))
            refine OE.v (fun t k => XS.iload X0.here hx rfl (hb hby d1_83) rfl k) ?_
            refine OE.v (fun t k => XS.bipush X0.here hx rfl (hb hby d1_85) k) ?_
            show OE _ _ _ _ (T0.setTop (mkF m 87 #[rv ba, rv sb, rv ba, iv ln, iv ii, iv xx, iv ce] [(.int 45), (.int ce)]))
            by_cases hc87_38 : ce = (45 : Int32)
            ·
              refine OE.v (fun t k => XS.icmpYes X0.here hx rfl (pc0 := 87) (pc' := 111) rfl (hb hby d1_87) rfl (teq hc87_38).1 (by decide) (by decide) k) ?_
              exact j1 (by simp only [← Int32.toInt_inj, Int32.lt_iff_toInt_lt, own_k65, own_k90, own_k97, own_k122, own_k48, own_k57, own_k45, own_k46, own_k95, own_k126] at hc45_1 hc52_24 hc59_25 hc66_36 hc73_37 hc87_38; unfold own_U; omega)
            ·
              refine OE.v (fun t k => XS.icmpNo X0.here hx rfl (hb hby d1_87) rfl (feq hc87_38).1 k) ?_
              show OE _ _ _ _ (T0.setTop (mkF m 90 #[rv ba, rv sb, rv ba, iv ln, iv ii, iv xx, iv ce] []))
              refine OE.v (fun t k => XS.iload X0.here hx rfl (hb hby d1_90) rfl k) ?_
              refine OE.v (fun t k => XS.bipush X0.here hx rfl (hb hby d1_92) k) ?_
              show OE _ _ _ _ (T0.setTop (mkF m 94 #[rv ba, rv sb, rv ba, iv ln, iv ii, iv xx, iv ce] [(.int 46), (.int ce)]))
              by_cases hc94_39 : ce = (46 : Int32)
              ·
                refine OE.v (fun t k => XS.icmpYes X0.here hx rfl (pc0 := 94) (pc' := 111) rfl (hb hby d1_94) rfl (teq hc94_39).1 (by decide) (by decide) k) ?_
                exact j1 (by simp only [← Int32.toInt_inj, Int32.lt_iff_toInt_lt, own_k65, own_k90, own_k97, own_k122, own_k48, own_k57, own_k45, own_k46, own_k95, own_k126] at hc45_1 hc52_24 hc59_25 hc66_36 hc73_37 hc87_38 hc94_39; unfold own_U; omega)
              ·
                refine OE.v (fun t k => XS.icmpNo X0.here hx rfl (hb hby d1_94) rfl (feq hc94_39).1 k) ?_
                show OE _ _ _ _ (T0.setTop (mkF m 97 #[rv ba, rv sb, rv ba, iv ln, iv ii, iv xx, iv ce] []))
                refine OE.v (fun t k => XS.iload X0.here hx rfl (hb hby d1_97) rfl k) ?_
                refine OE.v (fun t k => XS.bipush X0.here hx rfl (hb hby d1_99) k) ?_
                show OE _ _ _ _ (T0.setTop (mkF m 101 #[rv ba, rv sb, rv ba, iv ln, iv ii, iv xx, iv ce] [(.int 95), (.int ce)]))
                by_cases hc101_40 : ce = (95 : Int32)
                ·
                  refine OE.v (fun t k => XS.icmpYes X0.here hx rfl (pc0 := 101) (pc' := 111) rfl (hb hby d1_101) rfl (teq hc101_40).1 (by decide) (by decide) k) ?_
                  exact j1 (by simp only [← Int32.toInt_inj, Int32.lt_iff_toInt_lt, own_k65, own_k90, own_k97, own_k122, own_k48, own_k57, own_k45, own_k46, own_k95, own_k126] at hc45_1 hc52_24 hc59_25 hc66_36 hc73_37 hc87_38 hc94_39 hc101_40; unfold own_U; omega)
                ·
                  refine OE.v (fun t k => XS.icmpNo X0.here hx rfl (hb hby d1_101) rfl (feq hc101_40).1 k) ?_
                  show OE _ _ _ _ (T0.setTop (mkF m 104 #[rv ba, rv sb, rv ba, iv ln, iv ii, iv xx, iv ce] []))
                  refine OE.v (fun t k => XS.iload X0.here hx rfl (hb hby d1_104) rfl k) ?_
                  refine OE.v (fun t k => XS.bipush X0.here hx rfl (hb hby d1_106) k) ?_
                  show OE _ _ _ _ (T0.setTop (mkF m 108 #[rv ba, rv sb, rv ba, iv ln, iv ii, iv xx, iv ce] [(.int 126), (.int ce)]))
                  by_cases hc108_41 : ce = (126 : Int32)
                  ·
                    refine OE.v (fun t k => XS.icmpNo X0.here hx rfl (hb hby d1_108) rfl (teq hc108_41).2 k) ?_
                    exact j1 (by simp only [← Int32.toInt_inj, Int32.lt_iff_toInt_lt, own_k65, own_k90, own_k97, own_k122, own_k48, own_k57, own_k45, own_k46, own_k95, own_k126] at hc45_1 hc52_24 hc59_25 hc66_36 hc73_37 hc87_38 hc94_39 hc101_40 hc108_41; unfold own_U; omega)
                  ·
                    refine OE.v (fun t k => XS.icmpYes X0.here hx rfl (pc0 := 108) (pc' := 121) rfl (hb hby d1_108) rfl (feq hc108_41).2 (by decide) (by decide) k) ?_
                    exact j2 (by simp only [← Int32.toInt_inj, Int32.lt_iff_toInt_lt, own_k65, own_k90, own_k97, own_k122, own_k48, own_k57, own_k45, own_k46, own_k95, own_k126] at hc45_1 hc52_24 hc59_25 hc66_36 hc73_37 hc87_38 hc94_39 hc101_40 hc108_41; unfold own_U; omega)
          ·
            refine OE.v (fun t k => XS.icmpNo X0.here hx rfl (hb hby d1_73) rfl (flt hc73_37).1 k) ?_
            show OE _ _ _ _ (T0.setTop (mkF m 76 #[rv ba, rv sb, rv ba, iv ln, iv ii, iv xx, iv ce] []))
            refine OE.v (fun t k => XS.iload X0.here hx rfl (hb hby d1_76) rfl k) ?_
            refine OE.v (fun t k => XS.bipush X0.here hx rfl (hb hby d1_78) k) ?_
            show OE _ _ _ _ (T0.setTop (mkF m 80 #[rv ba, rv sb, rv ba, iv ln, iv ii, iv xx, iv ce] [(.int 57), (.int ce)]))
            by_cases hc80_42 : (57 : Int32) < ce
            ·
              refine OE.v (fun t k => XS.icmpNo X0.here hx rfl (hb hby d1_80) rfl (tlt hc80_42).2.2.2 k) ?_
              show OE _ _ _ _ (T0.setTop (mkF m 83 #[rv ba, rv sb, rv ba, iv ln, iv ii, iv xx, iv ce] []))
              refine OE.v (fun t k => XS.iload X0.here hx rfl (hb hby d1_83) rfl k) ?_
              refine OE.v (fun t k => XS.bipush X0.here hx rfl (hb hby d1_85) k) ?_
              show OE _ _ _ _ (T0.setTop (mkF m 87 #[rv ba, rv sb, rv ba, iv ln, iv ii, iv xx, iv ce] [(.int 45), (.int ce)]))
              by_cases hc87_43 : ce = (45 : Int32)
              ·
                refine OE.v (fun t k => XS.icmpYes X0.here hx rfl (pc0 := 87) (pc' := 111) rfl (hb hby d1_87) rfl (teq hc87_43).1 (by decide) (by decide) k) ?_
                exact j1 (by simp only [← Int32.toInt_inj, Int32.lt_iff_toInt_lt, own_k65, own_k90, own_k97, own_k122, own_k48, own_k57, own_k45, own_k46, own_k95, own_k126] at hc45_1 hc52_24 hc59_25 hc66_36 hc73_37 hc80_42 hc87_43; unfold own_U; omega)
              ·
                refine OE.v (fun t k => XS.icmpNo X0.here hx rfl (hb hby d1_87) rfl (feq hc87_43).1 k) ?_
                show OE _ _ _ _ (T0.setTop (mkF m 90 #[rv ba, rv sb, rv ba, iv ln, iv ii, iv xx, iv ce] []))
                refine OE.v (fun t k => XS.iload X0.here hx rfl (hb hby d1_90) rfl k) ?_
                refine OE.v (fun t k => XS.bipush X0.here hx rfl (hb hby d1_92) k) ?_
                show OE _ _ _ _ (T0.setTop (mkF m 94 #[rv ba, rv sb, rv ba, iv ln, iv ii, iv xx, iv ce] [(.int 46), (.int ce)]))
                by_cases hc94_44 : ce = (46 : Int32)
                ·
                  refine OE.v (fun t k => XS.icmpYes X0.here hx rfl (pc0 := 94) (pc' := 111) rfl (hb hby d1_94) rfl (teq hc94_44).1 (by decide) (by decide) k) ?_
                  exact j1 (by simp only [← Int32.toInt_inj, Int32.lt_iff_toInt_lt, own_k65, own_k90, own_k97, own_k122, own_k48, own_k57, own_k45, own_k46, own_k95, own_k126] at hc45_1 hc52_24 hc59_25 hc66_36 hc73_37 hc80_42 hc87_43 hc94_44; unfold own_U; omega)
                ·
                  refine OE.v (fun t k => XS.icmpNo X0.here hx rfl (hb hby d1_94) rfl (feq hc94_44).1 k) ?_
                  show OE _ _ _ _ (T0.setTop (mkF m 97 #[rv ba, rv sb, rv ba, iv ln, iv ii, iv xx, iv ce] []))
                  refine OE.v (fun t k => XS.iload X0.here hx rfl (hb hby d1_97) rfl k) ?_
                  refine OE.v (fun t k => XS.bipush X0.here hx rfl (hb hby d1_99) k) ?_
                  show OE _ _ _ _ (T0.setTop (mkF m 101 #[rv ba, rv sb, rv ba, iv ln, iv ii, iv xx, iv ce] [(.int 95), (.int ce)]))
                  by_cases hc101_45 : ce = (95 : Int32)
                  ·
                    refine OE.v (fun t k => XS.icmpYes X0.here hx rfl (pc0 := 101) (pc' := 111) rfl (hb hby d1_101) rfl (teq hc101_45).1 (by decide) (by decide) k) ?_
                    exact j1 (by simp only [← Int32.toInt_inj, Int32.lt_iff_toInt_lt, own_k65, own_k90, own_k97, own_k122, own_k48, own_k57, own_k45, own_k46, own_k95, own_k126] at hc45_1 hc52_24 hc59_25 hc66_36 hc73_37 hc80_42 hc87_43 hc94_44 hc101_45; unfold own_U; omega)
                  ·
                    refine OE.v (fun t k => XS.icmpNo X0.here hx rfl (hb hby d1_101) rfl (feq hc101_45).1 k) ?_
                    show OE _ _ _ _ (T0.setTop (mkF m 104 #[rv ba, rv sb, rv ba, iv ln, iv ii, iv xx, iv ce] []))
                    refine OE.v (fun t k => XS.iload X0.here hx rfl (hb hby d1_104) rfl k) ?_
                    refine OE.v (fun t k => XS.bipush X0.here hx rfl (hb hby d1_106) k) ?_
                    show OE _ _ _ _ (T0.setTop (mkF m 108 #[rv ba, rv sb, rv ba, iv ln, iv ii, iv xx, iv ce] [(.int 126), (.int ce)]))
                    by_cases hc108_46 : ce = (126 : Int32)
                    ·
                      refine OE.v (fun t k => XS.icmpNo X0.here hx rfl (hb hby d1_108) rfl (teq hc108_46).2 k) ?_
                      exact j1 (by simp only [← Int32.toInt_inj, Int32.lt_iff_toInt_lt, own_k65, own_k90, own_k97, own_k122, own_k48, own_k57, own_k45, own_k46, own_k95, own_k126] at hc45_1 hc52_24 hc59_25 hc66_36 hc73_37 hc80_42 hc87_43 hc94_44 hc101_45 hc108_46; unfold own_U; omega)
                    ·
                      refine OE.v (fun t k => XS.icmpYes X0.here hx rfl (pc0 := 108) (pc' := 121) rfl (hb hby d1_108) rfl (feq hc108_46).2 (by decide) (by decide) k) ?_
                      exact j2 (by simp only [← Int32.toInt_inj, Int32.lt_iff_toInt_lt, own_k65, own_k90, own_k97, own_k122, own_k48, own_k57, own_k45, own_k46, own_k95, own_k126] at hc45_1 hc52_24 hc59_25 hc66_36 hc73_37 hc80_42 hc87_43 hc94_44 hc101_45 hc108_46; unfold own_U; omega)
            ·
              refine OE.v (fun t k => XS.icmpYes X0.here hx rfl (pc0 := 80) (pc' := 111) rfl (hb hby d1_80) rfl (flt hc80_42).2.2.2 (by decide) (by decide) k) ?_
              exact j1 (by simp only [← Int32.toInt_inj, Int32.lt_iff_toInt_lt, own_k65, own_k90, own_k97, own_k122, own_k48, own_k57, own_k45, own_k46, own_k95, own_k126] at hc45_1 hc52_24 hc59_25 hc66_36 hc73_37 hc80_42; unfold own_U; omega)
        ·
          refine OE.v (fun t k => XS.icmpYes X0.here hx rfl (pc0 := 66) (pc' := 111) rfl (hb hby d1_66) rfl (flt hc66_36).2.2.2 (by decide) (by decide) k) ?_
          exact j1 (by simp only [← Int32.toInt_inj, Int32.lt_iff_toInt_lt, own_k65, own_k90, own_k97, own_k122, own_k48, own_k57, own_k45, own_k46, own_k95, own_k126] at hc45_1 hc52_24 hc59_25 hc66_36; unfold own_U; omega)
    ·
      refine OE.v (fun t k => XS.icmpYes X0.here hx rfl (pc0 := 52) (pc' := 111) rfl (hb hby d1_52) rfl (flt hc52_24).2.2.2 (by decide) (by decide) k) ?_
      exact j1 (by simp only [← Int32.toInt_inj, Int32.lt_iff_toInt_lt, own_k65, own_k90, own_k97, own_k122, own_k48, own_k57, own_k45, own_k46, own_k95, own_k126] at hc45_1 hc52_24; unfold own_U; omega)

theorem d1_0 : decode prog_50_method_7_code 0 = .ok (.new 40, 3) := by decide +kernel
theorem d1_3 : decode prog_50_method_7_code 3 = .ok (.dup, 1) := by decide +kernel
theorem d1_4 : decode prog_50_method_7_code 4 = .ok (.aload_n 0, 1) := by decide +kernel
theorem d1_5 : decode prog_50_method_7_code 5 = .ok (.arraylength, 1) := by decide +kernel
theorem d1_6 : decode prog_50_method_7_code 6 = .ok (.iconst 3, 1) := by decide +kernel
theorem d1_7 : decode prog_50_method_7_code 7 = .ok (.imul, 1) := by decide +kernel
theorem d1_8 : decode prog_50_method_7_code 8 = .ok (.invokespecial 42, 3) := by decide +kernel
theorem d1_11 : decode prog_50_method_7_code 11 = .ok (.astore_n 1, 1) := by decide +kernel
theorem d1_12 : decode prog_50_method_7_code 12 = .ok (.aload_n 0, 1) := by decide +kernel
theorem d1_13 : decode prog_50_method_7_code 13 = .ok (.astore_n 2, 1) := by decide +kernel
theorem d1_14 : decode prog_50_method_7_code 14 = .ok (.aload_n 2, 1) := by decide +kernel
theorem d1_15 : decode prog_50_method_7_code 15 = .ok (.arraylength, 1) := by decide +kernel
theorem d1_16 : decode prog_50_method_7_code 16 = .ok (.istore_n 3, 1) := by decide +kernel
theorem d1_17 : decode prog_50_method_7_code 17 = .ok (.iconst 0, 1) := by decide +kernel
theorem d1_18 : decode prog_50_method_7_code 18 = .ok (.istore 4, 2) := by decide +kernel
theorem d1_20 : decode prog_50_method_7_code 20 = .ok (.iload 4, 2) := by decide +kernel
theorem d1_22 : decode prog_50_method_7_code 22 = .ok (.iload_n 3, 1) := by decide +kernel
theorem d1_23 : decode prog_50_method_7_code 23 = .ok (.if_icmp .ge 134, 3) := by decide +kernel
theorem d1_157 : decode prog_50_method_7_code 157 = .ok (.aload_n 1, 1) := by decide +kernel
theorem d1_158 : decode prog_50_method_7_code 158 = .ok (.invokevirtual 53, 3) := by decide +kernel
theorem d1_161 : decode prog_50_method_7_code 161 = .ok (.areturn, 1) := by decide +kernel
theorem pn_rmE0 : plainName "com/example/plumbago/plumbago/server/EntryPaths" = true := by first | (simp [plainName, overriddenIn]; done) | decide +kernel
theorem pd_16 : parseMethodDescriptor "()Ljava/lang/String;" = some ⟨[], some (.object "java/lang/String")⟩ := by decide +kernel
theorem ef_rmE0 (m : MethodId) (ba : Addr) : entryFrame m #[(.ref ba)] 7 = mkF m 0 #[rv ba, .unset, .unset, .unset, .unset, .unset, .unset] [] := by first | (simp [entryFrame, mkF, argsToLocals, Value.category]; done) | rfl
def QE0 (Z : State) (ba : Addr) (kb : ClassId) (hxa : Addr) (hc : Cell) (cs : Int32) (h0 : Heap) (n0 : Nat) (v : Option Value) (h : Heap) (L : List Loc) : Prop := ∃ a : Addr, ∃ sv : Addr, ∃ ks : ClassId, ∃ us : List Value, ∃ cn : Int32, v = some (.ref a) ∧ Fr n0 L ∧ Keep h0 h [] ∧ Exa Z h a "java/lang/String" ∧ Fld Z h a "java/lang/String" "value" "[B" (.ref sv) ∧ Fld Z h a "java/lang/String" "coder" "B" (.int 0) ∧ Arv Z h sv ks .byte cn us (.int 0) ∧ own_str us cn (([] : List Int32))
set_option maxRecDepth 65536 in
set_option maxHeartbeats 40000000 in
theorem rmE0 (l : Launch) (Z : State) (a0 : Array Value) (hw : ∀ d ∈ tables_1, d.before a0 Z = true) (ws : List Jvm.Cond) (ba : Addr) (kb : ClassId) (hxa : Addr) (hc : Cell) (cs : Int32) (h0 : Heap) (n0 : Nat) (Z0 : n0 ≤ h0.size) (O0 : Old Z n0 h0) (P0 : Arv Z h0 ba kb .byte (0 : Int32) [] (.int 0)) (P1 : own_HX Z hxa hc) (P2 : ¬ cs = (0 : Int32)) (OP0 : Sta Z Z.heap "java/lang/String" "COMPACT_STRINGS" "Z" (.int cs)) (OP1 : Sta Z Z.heap "com/example/plumbago/plumbago/server/EntryPaths" "HEX" "[C" (.ref hxa)) :
    MetFree l (⟨"com/example/plumbago/plumbago/server/EntryPaths", "encode", "([B)Ljava/lang/String;"⟩ : MethodName) (head1 (Jvm.Cond.code (⟨"com/example/plumbago/plumbago/server/EntryPaths", "encode", "([B)Ljava/lang/String;"⟩ : MethodName) prog_50_method_7_code 7 (some (.object "java/lang/String")) :: ws) ({ frames := 6, cells := 4, slots := 26, locals := 91 } : Room)) (fun aa U => aa = #[(.ref ba)] ∧ Z.Warmed39 U.vm ∧ U.heap = h0) (fun _ _ _ _ _ => True) (fun _ U o U' => ∃ v L, o = .returned v ∧ QE0 Z ba kb hxa hc cs h0 n0 v U'.heap L ∧ FrameEnd U o U' L ({ frames := 6, cells := 4, slots := 26, locals := 91 } : Room).cells ({ frames := 6, cells := 4, slots := 26, locals := 91 } : Room).slots) := by
  refine MetFree.of_bodySF (plainFor_of_name pn_rmE0) hisR ?_
  intro p e s m args below meth c s₁ Bd hml0 hP hK
  obtain ⟨rfl, hZ, hh⟩ := hP
  have hx := Bd.exec
  have hby := Bd.bytes
  have hml : c.maxLocals = 7 := hml0
  have hown : s.vm.findClass "com/example/plumbago/plumbago/server/EntryPaths" = some m.cls := findClass_of_methodNamed Bd.named
  have hnm := (name_of_methodNamed Bd.named Bd.method).1
  have X0 : Stand p l e ({ frames := 6, cells := 4, slots := 26, locals := 91 } : Room) s m #[(.ref ba)] below meth c s₁ [] 0 0 := Stand.of_body Bd
  have e0 : s₁.heap = h0 := by rw [← hh, Bd.state]; rfl
  have N0 := Fr.nil n0
  change OE p.tables e below _ _
  refine OE.v (fun t k => castTop (ef_rmE0 m ba) k) ?_
  show OE _ _ _ _ (s₁.setTop (mkF m 0 #[rv ba, .unset, .unset, .unset, .unset, .unset, .unset] []))
  obtain ⟨T1, h1, X1, e1, E1, A1, D1, -, st1⟩ := newO X0 hx hZ hown (hw _ (own_w 5 rfl)) (hw _ (own_w 6 rfl)) (hw _ (own_w 7 rfl)) e0 (g := (mkF m 0 #[rv ba, .unset, .unset, .unset, .unset, .unset, .unset] [])) rfl (hb hby d1_0) (by decide) (by decide)
  obtain ⟨b1, g1⟩ : ∃ z, z = h0.size := ⟨_, rfl⟩
  have ne_ba_b1 : ba ≠ b1 := Nat.ne_of_lt (Nat.lt_of_lt_of_le P0.lt (Nat.le_of_eq g1.symm))
  have ge_b1 : n0 ≤ b1 := Nat.le_trans Z0 (Nat.le_of_eq g1.symm)
  have sz_b1 : h0.size ≤ b1 := Nat.le_trans (Keep.refl h0 []).1 (Nat.le_of_eq g1.symm)
  have Z1 : n0 ≤ h1.size := Nat.le_trans Z0 E1.1
  have K1 : Keep h0 h1 [] := (Keep.refl h0 []).ext E1
  have O1 : Old Z n0 h1 := O0.ext E1
  rw [← g1] at A1 D1 st1
  have F1_value : Fld Z h1 b1 "java/lang/AbstractStringBuilder" "value" "[B" .null := D1 (Or.inl (hw _ (own_w 23 rfl))) (ty := (.array .byte)) (by decide)
  have F1_coder : Fld Z h1 b1 "java/lang/AbstractStringBuilder" "coder" "B" (.int 0) := D1 (Or.inl (hw _ (own_w 25 rfl))) (ty := .byte) (by decide)
  have F1_count : Fld Z h1 b1 "java/lang/AbstractStringBuilder" "count" "I" (.int 0) := D1 (Or.inl (hw _ (own_w 37 rfl))) (ty := .int) (by decide)
  refine OE.v st1 ?_
  show OE _ _ _ _ (T1.setTop (mkF m 3 #[rv ba, .unset, .unset, .unset, .unset, .unset, .unset] [(.ref b1)]))
  refine OE.v (fun t k => XS.dup X1.here hx rfl (hb hby d1_3) rfl rfl k) ?_
  refine OE.v (fun t k => XS.aloadN X1.here hx rfl (hb hby d1_4) rfl rfl k) ?_
  show OE _ _ _ _ (T1.setTop (mkF m 5 #[rv ba, .unset, .unset, .unset, .unset, .unset, .unset] [(.ref ba), (.ref b1), (.ref b1)]))
  obtain ⟨cl2, Ar2, q2, S2, M2, H2, G2⟩ := id (P0.ext E1)
  refine OE.v (X1.arraylength hx (by rw [e1]; exact Ar2.1) (State.isArrayOf_alike hZ.alike Ar2.2.1) (g := (mkF m 5 #[rv ba, .unset, .unset, .unset, .unset, .unset, .unset] [(.ref ba), (.ref b1), (.ref b1)])) rfl rfl (hb hby d1_5)) ?_
  rw [len_of S2 M2]
  show OE _ _ _ _ (T1.setTop (mkF m 6 #[rv ba, .unset, .unset, .unset, .unset, .unset, .unset] [(.int 0), (.ref b1), (.ref b1)]))
  refine OE.v (fun t k => XS.iconst X1.here hx rfl (hb hby d1_6) k) ?_
  refine OE.v (fun t k => XS.imul X1.here hx rfl (hb hby d1_7) rfl k) ?_
  show OE _ _ _ _ (T1.setTop (mkF m 8 #[rv ba, .unset, .unset, .unset, .unset, .unset, .unset] [(.int 0), (.ref b1), (.ref b1)]))
  obtain ⟨_, _, ⟨T3, L3, k3, n3⟩, -, X3, ⟨Lc3, hQ3, l3, y3, z3⟩, st3⟩ := X1.specialBack hx (y := (⟨"java/lang/StringBuilder", "<init>", "(I)V"⟩ : MethodName)) rfl hown (mvT hZ (hw _ (own_w 8 rfl))) (mvT hZ (hw _ (own_w 9 rfl))) (mvT hZ (hw _ (own_w 10 rfl))) (by decide) (backOf (W := 1) (rm2 l Z a0 hw [] b1 (0 : Int32) cs h1 n0 Z1 O1 A1 F1_value F1_coder F1_count ge_b1 (by decide) (by decide) P2 OP0) hZ (hw _ (own_w 10 rfl)) (hw _ (own_w 7 rfl)) (by decide) (by decide)) (g := (mkF m 8 #[rv ba, .unset, .unset, .unset, .unset, .unset, .unset] [(.int 0), (.ref b1), (.ref b1)])) rfl (by rw [hml]; rfl) (Steps.refl _) (a := b1) (argsL := [(.int 0)]) (rest := [(.ref b1)]) (lenOf pd_0 rfl) rfl (Nat.le_of_eq rfl) (hb hby d1_8) (fun _ _ => ⟨rfl, e1, (by decide : 1 + 1 ≤ _), (by decide : 4 + 9 ≤ _)⟩)
  dsimp only [Pt.U, Pt.locs, Pt.cells, Pt.slots] at X3 l3 y3 z3 st3 hQ3
  subst l3 y3 z3
  obtain ⟨h3, e3⟩ : ∃ z, T3.heap = z := ⟨_, rfl⟩
  rw [e3] at hQ3
  obtain ⟨vb_3, kv_3, rfl, Nq3, Kq3, q3_0, q3_1, q3_2, q3_3, q3_4, q3_5, q3_6, q3_7⟩ := hQ3
  have Z3 : n0 ≤ h3.size := Nat.le_trans Z1 Kq3.1
  have K3 : Keep h0 h3 [] := K1.trans Kq3 (allS (Or.inr sz_b1) all0)
  have O3 : Old Z n0 h3 := O1.keep Kq3 (allS ge_b1 all0)
  have sz_vb_3 : h0.size ≤ vb_3 := Nat.le_trans K1.1 q3_6
  have ne_ba_vb_3 : ba ≠ vb_3 := Nat.ne_of_lt (Nat.lt_of_lt_of_le (P0.ext E1).lt q3_6)
  have ne_b1_vb_3 : b1 ≠ vb_3 := Nat.ne_of_lt (Nat.lt_of_lt_of_le A1.lt q3_6)
  have N3 := Fr.app N0 Nq3
  refine OE.v (fun t k => st3.trans k) ?_
  show OE _ _ _ _ (T3.setTop (mkF m 11 #[rv ba, .unset, .unset, .unset, .unset, .unset, .unset] [(.ref b1)]))
  refine OE.v (fun t k => XS.astoreN X3.here hx rfl (hb hby d1_11) rfl rfl (l' := #[rv ba, rv b1, .unset, .unset, .unset, .unset, .unset]) rfl k) ?_
  refine OE.v (fun t k => XS.aloadN X3.here hx rfl (hb hby d1_12) rfl rfl k) ?_
  refine OE.v (fun t k => XS.astoreN X3.here hx rfl (hb hby d1_13) rfl rfl (l' := #[rv ba, rv b1, rv ba, .unset, .unset, .unset, .unset]) rfl k) ?_
  refine OE.v (fun t k => XS.aloadN X3.here hx rfl (hb hby d1_14) rfl rfl k) ?_
  show OE _ _ _ _ (T3.setTop (mkF m 15 #[rv ba, rv b1, rv ba, .unset, .unset, .unset, .unset] [(.ref ba)]))
  obtain ⟨cl4, Ar4, q4, S4, M4, H4, G4⟩ := id ((P0.ext E1).keep Kq3 (ninS ne_ba_b1 nin0))
  refine OE.v (X3.arraylength hx (by rw [e3]; exact Ar4.1) (State.isArrayOf_alike hZ.alike Ar4.2.1) (g := (mkF m 15 #[rv ba, rv b1, rv ba, .unset, .unset, .unset, .unset] [(.ref ba)])) rfl rfl (hb hby d1_15)) ?_
  rw [len_of S4 M4]
  show OE _ _ _ _ (T3.setTop (mkF m 16 #[rv ba, rv b1, rv ba, .unset, .unset, .unset, .unset] [(.int 0)]))
  refine OE.v (fun t k => XS.istoreN X3.here hx rfl (hb hby d1_16) rfl (l' := #[rv ba, rv b1, rv ba, iv 0, .unset, .unset, .unset]) rfl k) ?_
  refine OE.v (fun t k => XS.iconst X3.here hx rfl (hb hby d1_17) k) ?_
  refine OE.v (fun t k => XS.istore X3.here hx rfl (hb hby d1_18) rfl (l' := #[rv ba, rv b1, rv ba, iv 0, iv 0, .unset, .unset]) rfl k) ?_
  refine OE.v (fun t k => XS.iload X3.here hx rfl (hb hby d1_20) rfl k) ?_
  refine OE.v (fun t k => XS.iloadN X3.here hx rfl (hb hby d1_22) rfl k) ?_
  show OE _ _ _ _ (T3.setTop (mkF m 23 #[rv ba, rv b1, rv ba, iv 0, iv 0, .unset, .unset] [(.int 0), (.int 0)]))
  refine OE.v (fun t k => XS.icmpYes X3.here hx rfl (pc0 := 23) (pc' := 157) rfl (hb hby d1_23) rfl (flt (by decide)).2.1 (by decide) (by decide) k) ?_
  show OE _ _ _ _ (T3.setTop (mkF m 157 #[rv ba, rv b1, rv ba, iv 0, iv 0, .unset, .unset] []))
  refine OE.v (fun t k => XS.aloadN X3.here hx rfl (hb hby d1_157) rfl rfl k) ?_
  show OE _ _ _ _ (T3.setTop (mkF m 158 #[rv ba, rv b1, rv ba, iv 0, iv 0, .unset, .unset] [(.ref b1)]))
  obtain ⟨cq5, kq5, q5a, q5b, q5c⟩ := isOf hZ e3 q3_0
  obtain ⟨_, _, ⟨T5, L5, k5, n5⟩, -, X5, ⟨Lc5, hQ5, l5, y5, z5⟩, st5⟩ := X3.virtualBack hx (y := (⟨"java/lang/StringBuilder", "toString", "()Ljava/lang/String;"⟩ : MethodName)) (z := (⟨"java/lang/StringBuilder", "toString", "()Ljava/lang/String;"⟩ : MethodName)) hown (mvT hZ (hw _ (own_w 54 rfl))) (mvT hZ (hw _ (own_w 55 rfl))) (notFace_of_selects (args := #[]) (mvT hZ (hw _ (own_w 57 rfl)))) (mvT hZ (hw _ (own_w 57 rfl))) (mvT hZ (hw _ (own_w 56 rfl))) (by decide) (backOf (W := 0) (rm10 l Z a0 hw [] b1 (0 : Int32) vb_3 kv_3 (0 : Int32) [(.int 0), (.int 0), (.int 0), (.int 0), (.int 0), (.int 0), (.int 0), (.int 0), (.int 0)] cs h3 n0 Z3 O3 q3_0 q3_1 q3_2 q3_3 q3_4 q3_5 (by decide) P2 OP0) hZ (hw _ (own_w 58 rfl)) (hw _ (own_w 7 rfl)) (by decide) (by decide)) q5a q5c (g := (mkF m 158 #[rv ba, rv b1, rv ba, iv 0, iv 0, .unset, .unset] [(.ref b1)])) rfl (by rw [hml]; rfl) (Steps.refl _) (argsL := []) (rest := []) (lenOf pd_16 rfl) rfl (Nat.le_of_eq rfl) (hb hby d1_158) (fun _ _ => ⟨rfl, e3, (by decide : 2 + 2 ≤ _), (by decide : 13 + 13 ≤ _)⟩)
  dsimp only [Pt.U, Pt.locs, Pt.cells, Pt.slots] at X5 l5 y5 z5 st5 hQ5
  subst l5 y5 z5
  obtain ⟨h5, e5⟩ : ∃ z, T5.heap = z := ⟨_, rfl⟩
  rw [e5] at hQ5
  obtain ⟨a_5, sv_5, ks_5, us_5, rfl, Nq5, Kq5, q5_0, q5_1, q5_2, q5_3, q5_4⟩ := hQ5
  have Z5 : n0 ≤ h5.size := Nat.le_trans Z3 Kq5.1
  have K5 : Keep h0 h5 [] := K3.trans Kq5 all0
  have O5 : Old Z n0 h5 := O3.keep Kq5 all0
  have N5 := Fr.app N3 Nq5
  refine OE.v (fun t k => st5.trans k) ?_
  show OE _ _ _ _ (T5.setTop (mkF m 161 #[rv ba, rv b1, rv ba, iv 0, iv 0, .unset, .unset] [(.ref a_5)]))
  obtain ⟨fs, hr, hrun, hended, hW, hsame⟩ := X5.leave (v := some (.ref a_5)) (fun h => by rw [Bd.returns] at h; cases h)
  refine ⟨_, _, ?_, hrun, hended, _, _, rfl, ?_, ⟨_, rfl⟩, hW, hsame.mono (by decide) (by decide)⟩
  · jvm_step X5.here [X5.here.top, hx, (hb hby d1_161), X5.method', Bd.returns, Value.isRef, FieldType.isReference]
    first | (intro acts; rw [hr _ acts rfl rfl rfl]) | rw [hr _ _ rfl rfl rfl]
    exact Steps.refl _
  · show QE0 Z ba kb hxa hc cs h0 n0 _ T5.heap _
    rw [e5]
    exact ⟨a_5, sv_5, ks_5, us_5, (0 : Int32), rfl, N5, K5, q5_0, q5_1, q5_2, q5_3, (by exact own_made [(.int 0), (.int 0), (.int 0), (.int 0), (.int 0), (.int 0), (.int 0), (.int 0), (.int 0)] q5_4 rfl rfl (by decide))⟩

theorem d1_26 : decode prog_50_method_7_code 26 = .ok (.aload_n 2, 1) := by decide +kernel
theorem d1_27 : decode prog_50_method_7_code 27 = .ok (.iload 4, 2) := by decide +kernel
theorem d1_29 : decode prog_50_method_7_code 29 = .ok (.baload, 1) := by decide +kernel
theorem d1_30 : decode prog_50_method_7_code 30 = .ok (.istore 5, 2) := by decide +kernel
theorem d1_32 : decode prog_50_method_7_code 32 = .ok (.iload 5, 2) := by decide +kernel
theorem d1_34 : decode prog_50_method_7_code 34 = .ok (.sipush 255, 3) := by decide +kernel
theorem d1_37 : decode prog_50_method_7_code 37 = .ok (.iand, 1) := by decide +kernel
theorem d1_38 : decode prog_50_method_7_code 38 = .ok (.i2c, 1) := by decide +kernel
theorem d1_39 : decode prog_50_method_7_code 39 = .ok (.istore 6, 2) := by decide +kernel
theorem d1_111 : decode prog_50_method_7_code 111 = .ok (.aload_n 1, 1) := by decide +kernel
theorem d1_112 : decode prog_50_method_7_code 112 = .ok (.iload 6, 2) := by decide +kernel
theorem d1_114 : decode prog_50_method_7_code 114 = .ok (.invokevirtual 45, 3) := by decide +kernel
theorem d1_117 : decode prog_50_method_7_code 117 = .ok (.pop, 1) := by decide +kernel
theorem d1_118 : decode prog_50_method_7_code 118 = .ok (.goto 33, 3) := by decide +kernel
theorem d1_121 : decode prog_50_method_7_code 121 = .ok (.aload_n 1, 1) := by decide +kernel
theorem d1_122 : decode prog_50_method_7_code 122 = .ok (.bipush 37, 2) := by decide +kernel
theorem d1_124 : decode prog_50_method_7_code 124 = .ok (.invokevirtual 45, 3) := by decide +kernel
theorem d1_127 : decode prog_50_method_7_code 127 = .ok (.getstatic 49, 3) := by decide +kernel
theorem d1_130 : decode prog_50_method_7_code 130 = .ok (.iload 6, 2) := by decide +kernel
theorem d1_132 : decode prog_50_method_7_code 132 = .ok (.iconst 4, 1) := by decide +kernel
theorem d1_133 : decode prog_50_method_7_code 133 = .ok (.ishr, 1) := by decide +kernel
theorem d1_134 : decode prog_50_method_7_code 134 = .ok (.caload, 1) := by decide +kernel
theorem d1_135 : decode prog_50_method_7_code 135 = .ok (.invokevirtual 45, 3) := by decide +kernel
theorem d1_138 : decode prog_50_method_7_code 138 = .ok (.getstatic 49, 3) := by decide +kernel
theorem d1_141 : decode prog_50_method_7_code 141 = .ok (.iload 6, 2) := by decide +kernel
theorem d1_143 : decode prog_50_method_7_code 143 = .ok (.bipush 15, 2) := by decide +kernel
theorem d1_145 : decode prog_50_method_7_code 145 = .ok (.iand, 1) := by decide +kernel
theorem d1_146 : decode prog_50_method_7_code 146 = .ok (.caload, 1) := by decide +kernel
theorem d1_147 : decode prog_50_method_7_code 147 = .ok (.invokevirtual 45, 3) := by decide +kernel
theorem d1_150 : decode prog_50_method_7_code 150 = .ok (.pop, 1) := by decide +kernel
theorem d1_151 : decode prog_50_method_7_code 151 = .ok (.iinc 4 1, 3) := by decide +kernel
theorem d1_154 : decode prog_50_method_7_code 154 = .ok (.goto (-134), 3) := by decide +kernel
theorem pn_rmE1 : plainName "com/example/plumbago/plumbago/server/EntryPaths" = true := by first | (simp [plainName, overriddenIn]; done) | decide +kernel
theorem pd_17 : parseMethodDescriptor "(C)Ljava/lang/StringBuilder;" = some ⟨[.char], some (.object "java/lang/StringBuilder")⟩ := by decide +kernel
theorem ef_rmE1 (m : MethodId) (ba : Addr) : entryFrame m #[(.ref ba)] 7 = mkF m 0 #[rv ba, .unset, .unset, .unset, .unset, .unset, .unset] [] := by first | (simp [entryFrame, mkF, argsToLocals, Value.category]; done) | rfl
def QE1 (Z : State) (ba : Addr) (kb : ClassId) (x0 : Int32) (hxa : Addr) (hc : Cell) (cs : Int32) (h0 : Heap) (n0 : Nat) (v : Option Value) (h : Heap) (L : List Loc) : Prop := ∃ a : Addr, ∃ sv : Addr, ∃ ks : ClassId, ∃ us : List Value, ∃ cn : Int32, v = some (.ref a) ∧ Fr n0 L ∧ Keep h0 h [] ∧ Exa Z h a "java/lang/String" ∧ Fld Z h a "java/lang/String" "value" "[B" (.ref sv) ∧ Fld Z h a "java/lang/String" "coder" "B" (.int 0) ∧ Arv Z h sv ks .byte cn us (.int 0) ∧ own_str us cn (own_enc (x0 &&& (255 : Int32)))
set_option maxRecDepth 65536 in
set_option maxHeartbeats 40000000 in
theorem rmE1 (l : Launch) (Z : State) (a0 : Array Value) (hw : ∀ d ∈ tables_1, d.before a0 Z = true) (ws : List Jvm.Cond) (ba : Addr) (kb : ClassId) (x0 : Int32) (hxa : Addr) (hc : Cell) (cs : Int32) (h0 : Heap) (n0 : Nat) (Z0 : n0 ≤ h0.size) (O0 : Old Z n0 h0) (P0 : Arv Z h0 ba kb .byte (1 : Int32) [(.int x0)] (.int 0)) (P1 : own_HX Z hxa hc) (P2 : ¬ cs = (0 : Int32)) (OP0 : Sta Z Z.heap "java/lang/String" "COMPACT_STRINGS" "Z" (.int cs)) (OP1 : Sta Z Z.heap "com/example/plumbago/plumbago/server/EntryPaths" "HEX" "[C" (.ref hxa)) :
    MetFree l (⟨"com/example/plumbago/plumbago/server/EntryPaths", "encode", "([B)Ljava/lang/String;"⟩ : MethodName) (head1 (Jvm.Cond.code (⟨"com/example/plumbago/plumbago/server/EntryPaths", "encode", "([B)Ljava/lang/String;"⟩ : MethodName) prog_50_method_7_code 7 (some (.object "java/lang/String")) :: ws) ({ frames := 6, cells := 4, slots := 26, locals := 91 } : Room)) (fun aa U => aa = #[(.ref ba)] ∧ Z.Warmed39 U.vm ∧ U.heap = h0) (fun _ _ _ _ _ => True) (fun _ U o U' => ∃ v L, o = .returned v ∧ QE1 Z ba kb x0 hxa hc cs h0 n0 v U'.heap L ∧ FrameEnd U o U' L ({ frames := 6, cells := 4, slots := 26, locals := 91 } : Room).cells ({ frames := 6, cells := 4, slots := 26, locals := 91 } : Room).slots) := by
  refine MetFree.of_bodySF (plainFor_of_name pn_rmE1) hisR ?_
  intro p e s m args below meth c s₁ Bd hml0 hP hK
  obtain ⟨rfl, hZ, hh⟩ := hP
  have hx := Bd.exec
  have hby := Bd.bytes
  have hml : c.maxLocals = 7 := hml0
  have hown : s.vm.findClass "com/example/plumbago/plumbago/server/EntryPaths" = some m.cls := findClass_of_methodNamed Bd.named
  have hnm := (name_of_methodNamed Bd.named Bd.method).1
  have X0 : Stand p l e ({ frames := 6, cells := 4, slots := 26, locals := 91 } : Room) s m #[(.ref ba)] below meth c s₁ [] 0 0 := Stand.of_body Bd
  have e0 : s₁.heap = h0 := by rw [← hh, Bd.state]; rfl
  have N0 := Fr.nil n0
  change OE p.tables e below _ _
  refine OE.v (fun t k => castTop (ef_rmE1 m ba) k) ?_
  show OE _ _ _ _ (s₁.setTop (mkF m 0 #[rv ba, .unset, .unset, .unset, .unset, .unset, .unset] []))
  obtain ⟨T1, h1, X1, e1, E1, A1, D1, -, st1⟩ := newO X0 hx hZ hown (hw _ (own_w 5 rfl)) (hw _ (own_w 6 rfl)) (hw _ (own_w 7 rfl)) e0 (g := (mkF m 0 #[rv ba, .unset, .unset, .unset, .unset, .unset, .unset] [])) rfl (hb hby d1_0) (by decide) (by decide)
  obtain ⟨b1, g1⟩ : ∃ z, z = h0.size := ⟨_, rfl⟩
  have ne_ba_b1 : ba ≠ b1 := Nat.ne_of_lt (Nat.lt_of_lt_of_le P0.lt (Nat.le_of_eq g1.symm))
  have ge_b1 : n0 ≤ b1 := Nat.le_trans Z0 (Nat.le_of_eq g1.symm)
  have sz_b1 : h0.size ≤ b1 := Nat.le_trans (Keep.refl h0 []).1 (Nat.le_of_eq g1.symm)
  have Z1 : n0 ≤ h1.size := Nat.le_trans Z0 E1.1
  have K1 : Keep h0 h1 [] := (Keep.refl h0 []).ext E1
  have O1 : Old Z n0 h1 := O0.ext E1
  rw [← g1] at A1 D1 st1
  have F1_value : Fld Z h1 b1 "java/lang/AbstractStringBuilder" "value" "[B" .null := D1 (Or.inl (hw _ (own_w 23 rfl))) (ty := (.array .byte)) (by decide)
  have F1_coder : Fld Z h1 b1 "java/lang/AbstractStringBuilder" "coder" "B" (.int 0) := D1 (Or.inl (hw _ (own_w 25 rfl))) (ty := .byte) (by decide)
  have F1_count : Fld Z h1 b1 "java/lang/AbstractStringBuilder" "count" "I" (.int 0) := D1 (Or.inl (hw _ (own_w 37 rfl))) (ty := .int) (by decide)
  refine OE.v st1 ?_
  show OE _ _ _ _ (T1.setTop (mkF m 3 #[rv ba, .unset, .unset, .unset, .unset, .unset, .unset] [(.ref b1)]))
  refine OE.v (fun t k => XS.dup X1.here hx rfl (hb hby d1_3) rfl rfl k) ?_
  refine OE.v (fun t k => XS.aloadN X1.here hx rfl (hb hby d1_4) rfl rfl k) ?_
  show OE _ _ _ _ (T1.setTop (mkF m 5 #[rv ba, .unset, .unset, .unset, .unset, .unset, .unset] [(.ref ba), (.ref b1), (.ref b1)]))
  obtain ⟨cl2, Ar2, q2, S2, M2, H2, G2⟩ := id (P0.ext E1)
  refine OE.v (X1.arraylength hx (by rw [e1]; exact Ar2.1) (State.isArrayOf_alike hZ.alike Ar2.2.1) (g := (mkF m 5 #[rv ba, .unset, .unset, .unset, .unset, .unset, .unset] [(.ref ba), (.ref b1), (.ref b1)])) rfl rfl (hb hby d1_5)) ?_
  rw [len_of S2 M2]
  show OE _ _ _ _ (T1.setTop (mkF m 6 #[rv ba, .unset, .unset, .unset, .unset, .unset, .unset] [(.int 1), (.ref b1), (.ref b1)]))
  refine OE.v (fun t k => XS.iconst X1.here hx rfl (hb hby d1_6) k) ?_
  refine OE.v (fun t k => XS.imul X1.here hx rfl (hb hby d1_7) rfl k) ?_
  show OE _ _ _ _ (T1.setTop (mkF m 8 #[rv ba, .unset, .unset, .unset, .unset, .unset, .unset] [(.int 3), (.ref b1), (.ref b1)]))
  obtain ⟨_, _, ⟨T3, L3, k3, n3⟩, -, X3, ⟨Lc3, hQ3, l3, y3, z3⟩, st3⟩ := X1.specialBack hx (y := (⟨"java/lang/StringBuilder", "<init>", "(I)V"⟩ : MethodName)) rfl hown (mvT hZ (hw _ (own_w 8 rfl))) (mvT hZ (hw _ (own_w 9 rfl))) (mvT hZ (hw _ (own_w 10 rfl))) (by decide) (backOf (W := 1) (rm2 l Z a0 hw [] b1 (3 : Int32) cs h1 n0 Z1 O1 A1 F1_value F1_coder F1_count ge_b1 (by decide) (by decide) P2 OP0) hZ (hw _ (own_w 10 rfl)) (hw _ (own_w 7 rfl)) (by decide) (by decide)) (g := (mkF m 8 #[rv ba, .unset, .unset, .unset, .unset, .unset, .unset] [(.int 3), (.ref b1), (.ref b1)])) rfl (by rw [hml]; rfl) (Steps.refl _) (a := b1) (argsL := [(.int 3)]) (rest := [(.ref b1)]) (lenOf pd_0 rfl) rfl (Nat.le_of_eq rfl) (hb hby d1_8) (fun _ _ => ⟨rfl, e1, (by decide : 1 + 1 ≤ _), (by decide : 4 + 9 ≤ _)⟩)
  dsimp only [Pt.U, Pt.locs, Pt.cells, Pt.slots] at X3 l3 y3 z3 st3 hQ3
  subst l3 y3 z3
  obtain ⟨h3, e3⟩ : ∃ z, T3.heap = z := ⟨_, rfl⟩
  rw [e3] at hQ3
  obtain ⟨vb_3, kv_3, rfl, Nq3, Kq3, q3_0, q3_1, q3_2, q3_3, q3_4, q3_5, q3_6, q3_7⟩ := hQ3
  have Z3 : n0 ≤ h3.size := Nat.le_trans Z1 Kq3.1
  have K3 : Keep h0 h3 [] := K1.trans Kq3 (allS (Or.inr sz_b1) all0)
  have O3 : Old Z n0 h3 := O1.keep Kq3 (allS ge_b1 all0)
  have sz_vb_3 : h0.size ≤ vb_3 := Nat.le_trans K1.1 q3_6
  have ne_ba_vb_3 : ba ≠ vb_3 := Nat.ne_of_lt (Nat.lt_of_lt_of_le (P0.ext E1).lt q3_6)
  have ne_b1_vb_3 : b1 ≠ vb_3 := Nat.ne_of_lt (Nat.lt_of_lt_of_le A1.lt q3_6)
  have N3 := Fr.app N0 Nq3
  refine OE.v (fun t k => st3.trans k) ?_
  show OE _ _ _ _ (T3.setTop (mkF m 11 #[rv ba, .unset, .unset, .unset, .unset, .unset, .unset] [(.ref b1)]))
  refine OE.v (fun t k => XS.astoreN X3.here hx rfl (hb hby d1_11) rfl rfl (l' := #[rv ba, rv b1, .unset, .unset, .unset, .unset, .unset]) rfl k) ?_
  refine OE.v (fun t k => XS.aloadN X3.here hx rfl (hb hby d1_12) rfl rfl k) ?_
  refine OE.v (fun t k => XS.astoreN X3.here hx rfl (hb hby d1_13) rfl rfl (l' := #[rv ba, rv b1, rv ba, .unset, .unset, .unset, .unset]) rfl k) ?_
  refine OE.v (fun t k => XS.aloadN X3.here hx rfl (hb hby d1_14) rfl rfl k) ?_
  show OE _ _ _ _ (T3.setTop (mkF m 15 #[rv ba, rv b1, rv ba, .unset, .unset, .unset, .unset] [(.ref ba)]))
  obtain ⟨cl4, Ar4, q4, S4, M4, H4, G4⟩ := id ((P0.ext E1).keep Kq3 (ninS ne_ba_b1 nin0))
  refine OE.v (X3.arraylength hx (by rw [e3]; exact Ar4.1) (State.isArrayOf_alike hZ.alike Ar4.2.1) (g := (mkF m 15 #[rv ba, rv b1, rv ba, .unset, .unset, .unset, .unset] [(.ref ba)])) rfl rfl (hb hby d1_15)) ?_
  rw [len_of S4 M4]
  show OE _ _ _ _ (T3.setTop (mkF m 16 #[rv ba, rv b1, rv ba, .unset, .unset, .unset, .unset] [(.int 1)]))
  refine OE.v (fun t k => XS.istoreN X3.here hx rfl (hb hby d1_16) rfl (l' := #[rv ba, rv b1, rv ba, iv 1, .unset, .unset, .unset]) rfl k) ?_
  refine OE.v (fun t k => XS.iconst X3.here hx rfl (hb hby d1_17) k) ?_
  refine OE.v (fun t k => XS.istore X3.here hx rfl (hb hby d1_18) rfl (l' := #[rv ba, rv b1, rv ba, iv 1, iv 0, .unset, .unset]) rfl k) ?_
  refine OE.v (fun t k => XS.iload X3.here hx rfl (hb hby d1_20) rfl k) ?_
  refine OE.v (fun t k => XS.iloadN X3.here hx rfl (hb hby d1_22) rfl k) ?_
  show OE _ _ _ _ (T3.setTop (mkF m 23 #[rv ba, rv b1, rv ba, iv 1, iv 0, .unset, .unset] [(.int 1), (.int 0)]))
  refine OE.v (fun t k => XS.icmpNo X3.here hx rfl (hb hby d1_23) rfl (tlt (by decide)).2.1 k) ?_
  show OE _ _ _ _ (T3.setTop (mkF m 26 #[rv ba, rv b1, rv ba, iv 1, iv 0, .unset, .unset] []))
  refine OE.v (fun t k => XS.aloadN X3.here hx rfl (hb hby d1_26) rfl rfl k) ?_
  refine OE.v (fun t k => XS.iload X3.here hx rfl (hb hby d1_27) rfl k) ?_
  show OE _ _ _ _ (T3.setTop (mkF m 29 #[rv ba, rv b1, rv ba, iv 1, iv 0, .unset, .unset] [(.int 0), (.ref ba)]))
  obtain ⟨cl5, Ar5, q5, S5, M5, H5, G5⟩ := id ((P0.ext E1).keep Kq3 (ninS ne_ba_b1 nin0))
  have hin5 : ¬ ((0 : Int32) < 0 ∨ cl5.slots.size ≤ ((0 : Int32)).toNatClampNeg) := inb_of S5 ⟨by decide, by decide⟩
  have hat5 : cl5.slots[((0 : Int32)).toNatClampNeg]? = some (.int x0) := H5.at hin5 rfl
  refine OE.v (X3.baloadBytes hx (j := (0 : Int32)) (v := (.int x0)) (by rw [e3]; exact Ar5.1) (State.isArrayOf_alike hZ.alike Ar5.2.1) Ar5.2.2 hin5 hat5 (g := (mkF m 29 #[rv ba, rv b1, rv ba, iv 1, iv 0, .unset, .unset] [(.int 0), (.ref ba)])) rfl rfl (hb hby d1_29)) ?_
  show OE _ _ _ _ (T3.setTop (mkF m 30 #[rv ba, rv b1, rv ba, iv 1, iv 0, .unset, .unset] [(.int x0)]))
  refine OE.v (fun t k => XS.istore X3.here hx rfl (hb hby d1_30) rfl (l' := #[rv ba, rv b1, rv ba, iv 1, iv 0, iv x0, .unset]) rfl k) ?_
  refine OE.v (fun t k => XS.iload X3.here hx rfl (hb hby d1_32) rfl k) ?_
  refine OE.v (fun t k => XS.sipush X3.here hx rfl (hb hby d1_34) k) ?_
  refine OE.v (fun t k => XS.iand X3.here hx rfl (hb hby d1_37) rfl k) ?_
  refine OE.v (fun t k => XS.i2c X3.here hx rfl (hb hby d1_38) rfl k) ?_
  show OE _ _ _ _ (T3.setTop (mkF m 39 #[rv ba, rv b1, rv ba, iv 1, iv 0, iv x0, .unset] [(.int ((x0 &&& (255 : Int32)).toUInt32.toUInt16.toUInt32.toInt32))]))
  rw [own_cx x0]
  refine OE.v (fun t k => XS.istore X3.here hx rfl (hb hby d1_39) rfl (l' := #[rv ba, rv b1, rv ba, iv 1, iv 0, iv x0, iv (x0 &&& (255 : Int32))]) rfl k) ?_
  show OE _ _ _ _ (T3.setTop (mkF m 41 #[rv ba, rv b1, rv ba, iv 1, iv 0, iv x0, iv (x0 &&& (255 : Int32))] []))
  refine own_chain X3 hx hby ba b1 (1 : Int32) (0 : Int32) x0 (x0 &&& (255 : Int32)) (fun hU6 => ?_) (fun hU6 => ?_)
  ·
    show OE _ _ _ _ (T3.setTop (mkF m 111 #[rv ba, rv b1, rv ba, iv 1, iv 0, iv x0, iv (x0 &&& (255 : Int32))] []))
    refine OE.v (fun t k => XS.aloadN X3.here hx rfl (hb hby d1_111) rfl rfl k) ?_
    refine OE.v (fun t k => XS.iload X3.here hx rfl (hb hby d1_112) rfl k) ?_
    show OE _ _ _ _ (T3.setTop (mkF m 114 #[rv ba, rv b1, rv ba, iv 1, iv 0, iv x0, iv (x0 &&& (255 : Int32))] [(.int (x0 &&& (255 : Int32))), (.ref b1)]))
    obtain ⟨cq7, kq7, q7a, q7b, q7c⟩ := isOf hZ e3 q3_0
    obtain ⟨_, _, ⟨T7, L7, k7, n7⟩, -, X7, ⟨Lc7, hQ7, l7, y7, z7⟩, st7⟩ := X3.virtualBack hx (y := (⟨"java/lang/StringBuilder", "append", "(C)Ljava/lang/StringBuilder;"⟩ : MethodName)) (z := (⟨"java/lang/StringBuilder", "append", "(C)Ljava/lang/StringBuilder;"⟩ : MethodName)) hown (mvT hZ (hw _ (own_w 26 rfl))) (mvT hZ (hw _ (own_w 27 rfl))) (notFace_of_selects (args := #[]) (mvT hZ (hw _ (own_w 29 rfl)))) (mvT hZ (hw _ (own_w 29 rfl))) (mvT hZ (hw _ (own_w 28 rfl))) (by decide) (backOf (W := 0) (rm5 l Z a0 hw [] b1 (x0 &&& (255 : Int32)) (0 : Int32) vb_3 kv_3 (3 : Int32) [(.int 0), (.int 0), (.int 0), (.int 0), (.int 0), (.int 0), (.int 0), (.int 0), (.int 0)] cs h3 n0 Z3 O3 q3_0 q3_1 q3_2 q3_3 q3_4 ge_b1 q3_7 (Ne.symm ne_b1_vb_3) (own_ur hU6) (by decide) ⟨by decide, by decide⟩ (by show (0 : Int32).toNatClampNeg < 9; decide) P2 OP0) hZ (hw _ (own_w 30 rfl)) (hw _ (own_w 7 rfl)) (by decide) (by decide)) q7a q7c (g := (mkF m 114 #[rv ba, rv b1, rv ba, iv 1, iv 0, iv x0, iv (x0 &&& (255 : Int32))] [(.int (x0 &&& (255 : Int32))), (.ref b1)])) rfl (by rw [hml]; rfl) (Steps.refl _) (argsL := [(.int (x0 &&& (255 : Int32)))]) (rest := []) (lenOf pd_17 rfl) rfl (Nat.le_of_eq rfl) (hb hby d1_114) (fun _ _ => ⟨rfl, e3, (by decide : 2 + 0 ≤ _), (by decide : 13 + 0 ≤ _)⟩)
    dsimp only [Pt.U, Pt.locs, Pt.cells, Pt.slots] at X7 l7 y7 z7 st7 hQ7
    subst l7 y7 z7
    obtain ⟨h7, e7⟩ : ∃ z, T7.heap = z := ⟨_, rfl⟩
    rw [e7] at hQ7
    obtain ⟨rfl, Nq7, Kq7, q7_0, q7_1, q7_2, q7_3, q7_4⟩ := hQ7
    have Z7 : n0 ≤ h7.size := Nat.le_trans Z3 Kq7.1
    have K7 : Keep h0 h7 [] := K3.trans Kq7 (allS (Or.inr sz_b1) (allS (Or.inr sz_vb_3) all0))
    have O7 : Old Z n0 h7 := O3.keep Kq7 (allS ge_b1 (allS q3_7 all0))
    have N7 := Fr.app N3 Nq7
    refine OE.v (fun t k => st7.trans k) ?_
    have Fc7 : Fld Z h7 b1 "java/lang/AbstractStringBuilder" "count" "I" (.int 1) := q7_3
    have Vc7 : Arv Z h7 vb_3 kv_3 .byte (3 : Int32) [(.int (x0 &&& (255 : Int32))), (.int 0), (.int 0), (.int 0), (.int 0), (.int 0), (.int 0), (.int 0), (.int 0)] (.int 0) := q7_4
    show OE _ _ _ _ (T7.setTop (mkF m 117 #[rv ba, rv b1, rv ba, iv 1, iv 0, iv x0, iv (x0 &&& (255 : Int32))] [(.ref b1)]))
    refine OE.v (fun t k => XS.pop X7.here hx rfl (hb hby d1_117) rfl rfl k) ?_
    refine OE.v (fun t k => XS.goto X7.here hx rfl (pc0 := 118) (pc' := 151) rfl (hb hby d1_118) (by decide) (by decide) k) ?_
    refine OE.v (fun t k => XS.iinc X7.here hx rfl (hb hby d1_151) rfl (l' := #[rv ba, rv b1, rv ba, iv 1, iv 1, iv x0, iv (x0 &&& (255 : Int32))]) rfl k) ?_
    refine OE.v (fun t k => XS.goto X7.here hx rfl (pc0 := 154) (pc' := 20) rfl (hb hby d1_154) (by decide) (by decide) k) ?_
    refine OE.v (fun t k => XS.iload X7.here hx rfl (hb hby d1_20) rfl k) ?_
    refine OE.v (fun t k => XS.iloadN X7.here hx rfl (hb hby d1_22) rfl k) ?_
    show OE _ _ _ _ (T7.setTop (mkF m 23 #[rv ba, rv b1, rv ba, iv 1, iv 1, iv x0, iv (x0 &&& (255 : Int32))] [(.int 1), (.int 1)]))
    refine OE.v (fun t k => XS.icmpYes X7.here hx rfl (pc0 := 23) (pc' := 157) rfl (hb hby d1_23) rfl (flt (by decide)).2.1 (by decide) (by decide) k) ?_
    show OE _ _ _ _ (T7.setTop (mkF m 157 #[rv ba, rv b1, rv ba, iv 1, iv 1, iv x0, iv (x0 &&& (255 : Int32))] []))
    refine OE.v (fun t k => XS.aloadN X7.here hx rfl (hb hby d1_157) rfl rfl k) ?_
    show OE _ _ _ _ (T7.setTop (mkF m 158 #[rv ba, rv b1, rv ba, iv 1, iv 1, iv x0, iv (x0 &&& (255 : Int32))] [(.ref b1)]))
    obtain ⟨cq8, kq8, q8a, q8b, q8c⟩ := isOf hZ e7 q7_0
    obtain ⟨_, _, ⟨T8, L8, k8, n8⟩, -, X8, ⟨Lc8, hQ8, l8, y8, z8⟩, st8⟩ := X7.virtualBack hx (y := (⟨"java/lang/StringBuilder", "toString", "()Ljava/lang/String;"⟩ : MethodName)) (z := (⟨"java/lang/StringBuilder", "toString", "()Ljava/lang/String;"⟩ : MethodName)) hown (mvT hZ (hw _ (own_w 54 rfl))) (mvT hZ (hw _ (own_w 55 rfl))) (notFace_of_selects (args := #[]) (mvT hZ (hw _ (own_w 57 rfl)))) (mvT hZ (hw _ (own_w 57 rfl))) (mvT hZ (hw _ (own_w 56 rfl))) (by decide) (backOf (W := 0) (rm10 l Z a0 hw [] b1 (1 : Int32) vb_3 kv_3 (3 : Int32) [(.int (x0 &&& (255 : Int32))), (.int 0), (.int 0), (.int 0), (.int 0), (.int 0), (.int 0), (.int 0), (.int 0)] cs h7 n0 Z7 O7 q7_0 q7_1 q7_2 Fc7 Vc7 (q3_5.keep Kq7) (by decide) P2 OP0) hZ (hw _ (own_w 58 rfl)) (hw _ (own_w 7 rfl)) (by decide) (by decide)) q8a q8c (g := (mkF m 158 #[rv ba, rv b1, rv ba, iv 1, iv 1, iv x0, iv (x0 &&& (255 : Int32))] [(.ref b1)])) rfl (by rw [hml]; rfl) (Steps.refl _) (argsL := []) (rest := []) (lenOf pd_16 rfl) rfl (Nat.le_of_eq rfl) (hb hby d1_158) (fun _ _ => ⟨rfl, e7, (by decide : 2 + 2 ≤ _), (by decide : 13 + 13 ≤ _)⟩)
    dsimp only [Pt.U, Pt.locs, Pt.cells, Pt.slots] at X8 l8 y8 z8 st8 hQ8
    subst l8 y8 z8
    obtain ⟨h8, e8⟩ : ∃ z, T8.heap = z := ⟨_, rfl⟩
    rw [e8] at hQ8
    obtain ⟨a_8, sv_8, ks_8, us_8, rfl, Nq8, Kq8, q8_0, q8_1, q8_2, q8_3, q8_4⟩ := hQ8
    have Z8 : n0 ≤ h8.size := Nat.le_trans Z7 Kq8.1
    have K8 : Keep h0 h8 [] := K7.trans Kq8 all0
    have O8 : Old Z n0 h8 := O7.keep Kq8 all0
    have N8 := Fr.app N7 Nq8
    refine OE.v (fun t k => st8.trans k) ?_
    show OE _ _ _ _ (T8.setTop (mkF m 161 #[rv ba, rv b1, rv ba, iv 1, iv 1, iv x0, iv (x0 &&& (255 : Int32))] [(.ref a_8)]))
    obtain ⟨fs, hr, hrun, hended, hW, hsame⟩ := X8.leave (v := some (.ref a_8)) (fun h => by rw [Bd.returns] at h; cases h)
    refine ⟨_, _, ?_, hrun, hended, _, _, rfl, ?_, ⟨_, rfl⟩, hW, hsame.mono (by decide) (by decide)⟩
    · jvm_step X8.here [X8.here.top, hx, (hb hby d1_161), X8.method', Bd.returns, Value.isRef, FieldType.isReference]
      first | (intro acts; rw [hr _ acts rfl rfl rfl]) | rw [hr _ _ rfl rfl rfl]
      exact Steps.refl _
    · show QE1 Z ba kb x0 hxa hc cs h0 n0 _ T8.heap _
      rw [e8]
      exact ⟨a_8, sv_8, ks_8, us_8, (1 : Int32), rfl, N8, K8, q8_0, q8_1, q8_2, q8_3, (by rw [own_e1 hU6]; exact own_made [(.int 0), (.int 0), (.int 0), (.int 0), (.int 0), (.int 0), (.int 0), (.int 0)] q8_4 rfl rfl (by decide))⟩
  ·
    show OE _ _ _ _ (T3.setTop (mkF m 121 #[rv ba, rv b1, rv ba, iv 1, iv 0, iv x0, iv (x0 &&& (255 : Int32))] []))
    refine OE.v (fun t k => XS.aloadN X3.here hx rfl (hb hby d1_121) rfl rfl k) ?_
    refine OE.v (fun t k => XS.bipush X3.here hx rfl (hb hby d1_122) k) ?_
    show OE _ _ _ _ (T3.setTop (mkF m 124 #[rv ba, rv b1, rv ba, iv 1, iv 0, iv x0, iv (x0 &&& (255 : Int32))] [(.int 37), (.ref b1)]))
    obtain ⟨cq9, kq9, q9a, q9b, q9c⟩ := isOf hZ e3 q3_0
    obtain ⟨_, _, ⟨T9, L9, k9, n9⟩, -, X9, ⟨Lc9, hQ9, l9, y9, z9⟩, st9⟩ := X3.virtualBack hx (y := (⟨"java/lang/StringBuilder", "append", "(C)Ljava/lang/StringBuilder;"⟩ : MethodName)) (z := (⟨"java/lang/StringBuilder", "append", "(C)Ljava/lang/StringBuilder;"⟩ : MethodName)) hown (mvT hZ (hw _ (own_w 26 rfl))) (mvT hZ (hw _ (own_w 27 rfl))) (notFace_of_selects (args := #[]) (mvT hZ (hw _ (own_w 29 rfl)))) (mvT hZ (hw _ (own_w 29 rfl))) (mvT hZ (hw _ (own_w 28 rfl))) (by decide) (backOf (W := 0) (rm5 l Z a0 hw [] b1 (37 : Int32) (0 : Int32) vb_3 kv_3 (3 : Int32) [(.int 0), (.int 0), (.int 0), (.int 0), (.int 0), (.int 0), (.int 0), (.int 0), (.int 0)] cs h3 n0 Z3 O3 q3_0 q3_1 q3_2 q3_3 q3_4 ge_b1 q3_7 (Ne.symm ne_b1_vb_3) (by decide) (by decide) ⟨by decide, by decide⟩ (by show (0 : Int32).toNatClampNeg < 9; decide) P2 OP0) hZ (hw _ (own_w 30 rfl)) (hw _ (own_w 7 rfl)) (by decide) (by decide)) q9a q9c (g := (mkF m 124 #[rv ba, rv b1, rv ba, iv 1, iv 0, iv x0, iv (x0 &&& (255 : Int32))] [(.int 37), (.ref b1)])) rfl (by rw [hml]; rfl) (Steps.refl _) (argsL := [(.int 37)]) (rest := []) (lenOf pd_17 rfl) rfl (Nat.le_of_eq rfl) (hb hby d1_124) (fun _ _ => ⟨rfl, e3, (by decide : 2 + 0 ≤ _), (by decide : 13 + 0 ≤ _)⟩)
    dsimp only [Pt.U, Pt.locs, Pt.cells, Pt.slots] at X9 l9 y9 z9 st9 hQ9
    subst l9 y9 z9
    obtain ⟨h9, e9⟩ : ∃ z, T9.heap = z := ⟨_, rfl⟩
    rw [e9] at hQ9
    obtain ⟨rfl, Nq9, Kq9, q9_0, q9_1, q9_2, q9_3, q9_4⟩ := hQ9
    have Z9 : n0 ≤ h9.size := Nat.le_trans Z3 Kq9.1
    have K9 : Keep h0 h9 [] := K3.trans Kq9 (allS (Or.inr sz_b1) (allS (Or.inr sz_vb_3) all0))
    have O9 : Old Z n0 h9 := O3.keep Kq9 (allS ge_b1 (allS q3_7 all0))
    have N9 := Fr.app N3 Nq9
    refine OE.v (fun t k => st9.trans k) ?_
    have Fc9 : Fld Z h9 b1 "java/lang/AbstractStringBuilder" "count" "I" (.int 1) := q9_3
    have Vc9 : Arv Z h9 vb_3 kv_3 .byte (3 : Int32) [(.int 37), (.int 0), (.int 0), (.int 0), (.int 0), (.int 0), (.int 0), (.int 0), (.int 0)] (.int 0) := q9_4
    show OE _ _ _ _ (T9.setTop (mkF m 127 #[rv ba, rv b1, rv ba, iv 1, iv 0, iv x0, iv (x0 &&& (255 : Int32))] [(.ref b1)]))
    obtain ⟨T10, X10, e10, st10⟩ := getS2 X9 hx hZ hown (host := "") (Or.inl (hw _ (own_w 52 rfl))) Via.refl e9 (OP1.ext O9.2) (g := (mkF m 127 #[rv ba, rv b1, rv ba, iv 1, iv 0, iv x0, iv (x0 &&& (255 : Int32))] [(.ref b1)])) rfl (hb hby d1_127)
    refine OE.v st10 ?_
    show OE _ _ _ _ (T10.setTop (mkF m 130 #[rv ba, rv b1, rv ba, iv 1, iv 0, iv x0, iv (x0 &&& (255 : Int32))] [(.ref hxa), (.ref b1)]))
    refine OE.v (fun t k => XS.iload X10.here hx rfl (hb hby d1_130) rfl k) ?_
    refine OE.v (fun t k => XS.iconst X10.here hx rfl (hb hby d1_132) k) ?_
    refine OE.v (fun t k => XS.ishr X10.here hx rfl (hb hby d1_133) rfl k) ?_
    have rg11 := own_16 (own_hi (own_r8 x0))
    have hin11 := inb_of P1.2.1 rg11
    refine OE.v (X10.caload hx (j := ((x0 &&& (255 : Int32)) >>> ((4 : Int32) &&& 31))) (v := .int (own_hx ((x0 &&& (255 : Int32)) >>> ((4 : Int32) &&& 31)))) (by rw [e10]; exact (P1.1.ext O9.2).1) (State.isArrayOf_alike hZ.alike P1.1.2.1) P1.1.2.2 hin11 (P1.2.2 _ rg11.1 rg11.2) (g := (mkF m 134 #[rv ba, rv b1, rv ba, iv 1, iv 0, iv x0, iv (x0 &&& (255 : Int32))] [(.int ((x0 &&& (255 : Int32)) >>> ((4 : Int32) &&& 31))), (.ref hxa), (.ref b1)])) rfl rfl (hb hby d1_134)) ?_
    show OE _ _ _ _ (T10.setTop (mkF m 135 #[rv ba, rv b1, rv ba, iv 1, iv 0, iv x0, iv (x0 &&& (255 : Int32))] [(.int (own_hx ((x0 &&& (255 : Int32)) >>> ((4 : Int32) &&& 31)))), (.ref b1)]))
    obtain ⟨cq12, kq12, q12a, q12b, q12c⟩ := isOf hZ e10 q9_0
    obtain ⟨_, _, ⟨T12, L12, k12, n12⟩, -, X12, ⟨Lc12, hQ12, l12, y12, z12⟩, st12⟩ := X10.virtualBack hx (y := (⟨"java/lang/StringBuilder", "append", "(C)Ljava/lang/StringBuilder;"⟩ : MethodName)) (z := (⟨"java/lang/StringBuilder", "append", "(C)Ljava/lang/StringBuilder;"⟩ : MethodName)) hown (mvT hZ (hw _ (own_w 26 rfl))) (mvT hZ (hw _ (own_w 27 rfl))) (notFace_of_selects (args := #[]) (mvT hZ (hw _ (own_w 29 rfl)))) (mvT hZ (hw _ (own_w 29 rfl))) (mvT hZ (hw _ (own_w 28 rfl))) (by decide) (backOf (W := 0) (rm5 l Z a0 hw [] b1 (own_hx ((x0 &&& (255 : Int32)) >>> ((4 : Int32) &&& 31))) (1 : Int32) vb_3 kv_3 (3 : Int32) [(.int 37), (.int 0), (.int 0), (.int 0), (.int 0), (.int 0), (.int 0), (.int 0), (.int 0)] cs h9 n0 Z9 O9 q9_0 q9_1 q9_2 Fc9 Vc9 ge_b1 q3_7 (Ne.symm ne_b1_vb_3) (own_hr (own_hi (own_r8 x0))) (by decide) ⟨by decide, by decide⟩ (by show (1 : Int32).toNatClampNeg < 9; decide) P2 OP0) hZ (hw _ (own_w 30 rfl)) (hw _ (own_w 7 rfl)) (by decide) (by decide)) q12a q12c (g := (mkF m 135 #[rv ba, rv b1, rv ba, iv 1, iv 0, iv x0, iv (x0 &&& (255 : Int32))] [(.int (own_hx ((x0 &&& (255 : Int32)) >>> ((4 : Int32) &&& 31)))), (.ref b1)])) rfl (by rw [hml]; rfl) (Steps.refl _) (argsL := [(.int (own_hx ((x0 &&& (255 : Int32)) >>> ((4 : Int32) &&& 31))))]) (rest := []) (lenOf pd_17 rfl) rfl (Nat.le_of_eq rfl) (hb hby d1_135) (fun _ _ => ⟨rfl, e10, (by decide : 2 + 0 ≤ _), (by decide : 13 + 0 ≤ _)⟩)
    dsimp only [Pt.U, Pt.locs, Pt.cells, Pt.slots] at X12 l12 y12 z12 st12 hQ12
    subst l12 y12 z12
    obtain ⟨h12, e12⟩ : ∃ z, T12.heap = z := ⟨_, rfl⟩
    rw [e12] at hQ12
    obtain ⟨rfl, Nq12, Kq12, q12_0, q12_1, q12_2, q12_3, q12_4⟩ := hQ12
    have Z12 : n0 ≤ h12.size := Nat.le_trans Z9 Kq12.1
    have K12 : Keep h0 h12 [] := K9.trans Kq12 (allS (Or.inr sz_b1) (allS (Or.inr sz_vb_3) all0))
    have O12 : Old Z n0 h12 := O9.keep Kq12 (allS ge_b1 (allS q3_7 all0))
    have N12 := Fr.app N9 Nq12
    refine OE.v (fun t k => st12.trans k) ?_
    have Fc12 : Fld Z h12 b1 "java/lang/AbstractStringBuilder" "count" "I" (.int 2) := q12_3
    have Vc12 : Arv Z h12 vb_3 kv_3 .byte (3 : Int32) [(.int 37), (.int (own_hx ((x0 &&& (255 : Int32)) >>> ((4 : Int32) &&& 31)))), (.int 0), (.int 0), (.int 0), (.int 0), (.int 0), (.int 0), (.int 0)] (.int 0) := q12_4
    show OE _ _ _ _ (T12.setTop (mkF m 138 #[rv ba, rv b1, rv ba, iv 1, iv 0, iv x0, iv (x0 &&& (255 : Int32))] [(.ref b1)]))
    obtain ⟨T13, X13, e13, st13⟩ := getS2 X12 hx hZ hown (host := "") (Or.inl (hw _ (own_w 52 rfl))) Via.refl e12 (OP1.ext O12.2) (g := (mkF m 138 #[rv ba, rv b1, rv ba, iv 1, iv 0, iv x0, iv (x0 &&& (255 : Int32))] [(.ref b1)])) rfl (hb hby d1_138)
    refine OE.v st13 ?_
    show OE _ _ _ _ (T13.setTop (mkF m 141 #[rv ba, rv b1, rv ba, iv 1, iv 0, iv x0, iv (x0 &&& (255 : Int32))] [(.ref hxa), (.ref b1)]))
    refine OE.v (fun t k => XS.iload X13.here hx rfl (hb hby d1_141) rfl k) ?_
    refine OE.v (fun t k => XS.bipush X13.here hx rfl (hb hby d1_143) k) ?_
    refine OE.v (fun t k => XS.iand X13.here hx rfl (hb hby d1_145) rfl k) ?_
    have rg14 := own_16 (own_lo (x0 &&& (255 : Int32)))
    have hin14 := inb_of P1.2.1 rg14
    refine OE.v (X13.caload hx (j := ((x0 &&& (255 : Int32)) &&& (15 : Int32))) (v := .int (own_hx ((x0 &&& (255 : Int32)) &&& (15 : Int32)))) (by rw [e13]; exact (P1.1.ext O12.2).1) (State.isArrayOf_alike hZ.alike P1.1.2.1) P1.1.2.2 hin14 (P1.2.2 _ rg14.1 rg14.2) (g := (mkF m 146 #[rv ba, rv b1, rv ba, iv 1, iv 0, iv x0, iv (x0 &&& (255 : Int32))] [(.int ((x0 &&& (255 : Int32)) &&& (15 : Int32))), (.ref hxa), (.ref b1)])) rfl rfl (hb hby d1_146)) ?_
    show OE _ _ _ _ (T13.setTop (mkF m 147 #[rv ba, rv b1, rv ba, iv 1, iv 0, iv x0, iv (x0 &&& (255 : Int32))] [(.int (own_hx ((x0 &&& (255 : Int32)) &&& (15 : Int32)))), (.ref b1)]))
    obtain ⟨cq15, kq15, q15a, q15b, q15c⟩ := isOf hZ e13 q12_0
    obtain ⟨_, _, ⟨T15, L15, k15, n15⟩, -, X15, ⟨Lc15, hQ15, l15, y15, z15⟩, st15⟩ := X13.virtualBack hx (y := (⟨"java/lang/StringBuilder", "append", "(C)Ljava/lang/StringBuilder;"⟩ : MethodName)) (z := (⟨"java/lang/StringBuilder", "append", "(C)Ljava/lang/StringBuilder;"⟩ : MethodName)) hown (mvT hZ (hw _ (own_w 26 rfl))) (mvT hZ (hw _ (own_w 27 rfl))) (notFace_of_selects (args := #[]) (mvT hZ (hw _ (own_w 29 rfl)))) (mvT hZ (hw _ (own_w 29 rfl))) (mvT hZ (hw _ (own_w 28 rfl))) (by decide) (backOf (W := 0) (rm5 l Z a0 hw [] b1 (own_hx ((x0 &&& (255 : Int32)) &&& (15 : Int32))) (2 : Int32) vb_3 kv_3 (3 : Int32) [(.int 37), (.int (own_hx ((x0 &&& (255 : Int32)) >>> ((4 : Int32) &&& 31)))), (.int 0), (.int 0), (.int 0), (.int 0), (.int 0), (.int 0), (.int 0)] cs h12 n0 Z12 O12 q12_0 q12_1 q12_2 Fc12 Vc12 ge_b1 q3_7 (Ne.symm ne_b1_vb_3) (own_hr (own_lo (x0 &&& (255 : Int32)))) (by decide) ⟨by decide, by decide⟩ (by show (2 : Int32).toNatClampNeg < 9; decide) P2 OP0) hZ (hw _ (own_w 30 rfl)) (hw _ (own_w 7 rfl)) (by decide) (by decide)) q15a q15c (g := (mkF m 147 #[rv ba, rv b1, rv ba, iv 1, iv 0, iv x0, iv (x0 &&& (255 : Int32))] [(.int (own_hx ((x0 &&& (255 : Int32)) &&& (15 : Int32)))), (.ref b1)])) rfl (by rw [hml]; rfl) (Steps.refl _) (argsL := [(.int (own_hx ((x0 &&& (255 : Int32)) &&& (15 : Int32))))]) (rest := []) (lenOf pd_17 rfl) rfl (Nat.le_of_eq rfl) (hb hby d1_147) (fun _ _ => ⟨rfl, e13, (by decide : 2 + 0 ≤ _), (by decide : 13 + 0 ≤ _)⟩)
    dsimp only [Pt.U, Pt.locs, Pt.cells, Pt.slots] at X15 l15 y15 z15 st15 hQ15
    subst l15 y15 z15
    obtain ⟨h15, e15⟩ : ∃ z, T15.heap = z := ⟨_, rfl⟩
    rw [e15] at hQ15
    obtain ⟨rfl, Nq15, Kq15, q15_0, q15_1, q15_2, q15_3, q15_4⟩ := hQ15
    have Z15 : n0 ≤ h15.size := Nat.le_trans Z12 Kq15.1
    have K15 : Keep h0 h15 [] := K12.trans Kq15 (allS (Or.inr sz_b1) (allS (Or.inr sz_vb_3) all0))
    have O15 : Old Z n0 h15 := O12.keep Kq15 (allS ge_b1 (allS q3_7 all0))
    have N15 := Fr.app N12 Nq15
    refine OE.v (fun t k => st15.trans k) ?_
    have Fc15 : Fld Z h15 b1 "java/lang/AbstractStringBuilder" "count" "I" (.int 3) := q15_3
    have Vc15 : Arv Z h15 vb_3 kv_3 .byte (3 : Int32) [(.int 37), (.int (own_hx ((x0 &&& (255 : Int32)) >>> ((4 : Int32) &&& 31)))), (.int (own_hx ((x0 &&& (255 : Int32)) &&& (15 : Int32)))), (.int 0), (.int 0), (.int 0), (.int 0), (.int 0), (.int 0)] (.int 0) := q15_4
    show OE _ _ _ _ (T15.setTop (mkF m 150 #[rv ba, rv b1, rv ba, iv 1, iv 0, iv x0, iv (x0 &&& (255 : Int32))] [(.ref b1)]))
    refine OE.v (fun t k => XS.pop X15.here hx rfl (hb hby d1_150) rfl rfl k) ?_
    refine OE.v (fun t k => XS.iinc X15.here hx rfl (hb hby d1_151) rfl (l' := #[rv ba, rv b1, rv ba, iv 1, iv 1, iv x0, iv (x0 &&& (255 : Int32))]) rfl k) ?_
    refine OE.v (fun t k => XS.goto X15.here hx rfl (pc0 := 154) (pc' := 20) rfl (hb hby d1_154) (by decide) (by decide) k) ?_
    refine OE.v (fun t k => XS.iload X15.here hx rfl (hb hby d1_20) rfl k) ?_
    refine OE.v (fun t k => XS.iloadN X15.here hx rfl (hb hby d1_22) rfl k) ?_
    show OE _ _ _ _ (T15.setTop (mkF m 23 #[rv ba, rv b1, rv ba, iv 1, iv 1, iv x0, iv (x0 &&& (255 : Int32))] [(.int 1), (.int 1)]))
    refine OE.v (fun t k => XS.icmpYes X15.here hx rfl (pc0 := 23) (pc' := 157) rfl (hb hby d1_23) rfl (flt (by decide)).2.1 (by decide) (by decide) k) ?_
    show OE _ _ _ _ (T15.setTop (mkF m 157 #[rv ba, rv b1, rv ba, iv 1, iv 1, iv x0, iv (x0 &&& (255 : Int32))] []))
    refine OE.v (fun t k => XS.aloadN X15.here hx rfl (hb hby d1_157) rfl rfl k) ?_
    show OE _ _ _ _ (T15.setTop (mkF m 158 #[rv ba, rv b1, rv ba, iv 1, iv 1, iv x0, iv (x0 &&& (255 : Int32))] [(.ref b1)]))
    obtain ⟨cq16, kq16, q16a, q16b, q16c⟩ := isOf hZ e15 q15_0
    obtain ⟨_, _, ⟨T16, L16, k16, n16⟩, -, X16, ⟨Lc16, hQ16, l16, y16, z16⟩, st16⟩ := X15.virtualBack hx (y := (⟨"java/lang/StringBuilder", "toString", "()Ljava/lang/String;"⟩ : MethodName)) (z := (⟨"java/lang/StringBuilder", "toString", "()Ljava/lang/String;"⟩ : MethodName)) hown (mvT hZ (hw _ (own_w 54 rfl))) (mvT hZ (hw _ (own_w 55 rfl))) (notFace_of_selects (args := #[]) (mvT hZ (hw _ (own_w 57 rfl)))) (mvT hZ (hw _ (own_w 57 rfl))) (mvT hZ (hw _ (own_w 56 rfl))) (by decide) (backOf (W := 0) (rm10 l Z a0 hw [] b1 (3 : Int32) vb_3 kv_3 (3 : Int32) [(.int 37), (.int (own_hx ((x0 &&& (255 : Int32)) >>> ((4 : Int32) &&& 31)))), (.int (own_hx ((x0 &&& (255 : Int32)) &&& (15 : Int32)))), (.int 0), (.int 0), (.int 0), (.int 0), (.int 0), (.int 0)] cs h15 n0 Z15 O15 q15_0 q15_1 q15_2 Fc15 Vc15 (((q3_5.keep Kq9).keep Kq12).keep Kq15) (by decide) P2 OP0) hZ (hw _ (own_w 58 rfl)) (hw _ (own_w 7 rfl)) (by decide) (by decide)) q16a q16c (g := (mkF m 158 #[rv ba, rv b1, rv ba, iv 1, iv 1, iv x0, iv (x0 &&& (255 : Int32))] [(.ref b1)])) rfl (by rw [hml]; rfl) (Steps.refl _) (argsL := []) (rest := []) (lenOf pd_16 rfl) rfl (Nat.le_of_eq rfl) (hb hby d1_158) (fun _ _ => ⟨rfl, e15, (by decide : 2 + 2 ≤ _), (by decide : 13 + 13 ≤ _)⟩)
    dsimp only [Pt.U, Pt.locs, Pt.cells, Pt.slots] at X16 l16 y16 z16 st16 hQ16
    subst l16 y16 z16
    obtain ⟨h16, e16⟩ : ∃ z, T16.heap = z := ⟨_, rfl⟩
    rw [e16] at hQ16
    obtain ⟨a_16, sv_16, ks_16, us_16, rfl, Nq16, Kq16, q16_0, q16_1, q16_2, q16_3, q16_4⟩ := hQ16
    have Z16 : n0 ≤ h16.size := Nat.le_trans Z15 Kq16.1
    have K16 : Keep h0 h16 [] := K15.trans Kq16 all0
    have O16 : Old Z n0 h16 := O15.keep Kq16 all0
    have N16 := Fr.app N15 Nq16
    refine OE.v (fun t k => st16.trans k) ?_
    show OE _ _ _ _ (T16.setTop (mkF m 161 #[rv ba, rv b1, rv ba, iv 1, iv 1, iv x0, iv (x0 &&& (255 : Int32))] [(.ref a_16)]))
    obtain ⟨fs, hr, hrun, hended, hW, hsame⟩ := X16.leave (v := some (.ref a_16)) (fun h => by rw [Bd.returns] at h; cases h)
    refine ⟨_, _, ?_, hrun, hended, _, _, rfl, ?_, ⟨_, rfl⟩, hW, hsame.mono (by decide) (by decide)⟩
    · jvm_step X16.here [X16.here.top, hx, (hb hby d1_161), X16.method', Bd.returns, Value.isRef, FieldType.isReference]
      first | (intro acts; rw [hr _ acts rfl rfl rfl]) | rw [hr _ _ rfl rfl rfl]
      exact Steps.refl _
    · show QE1 Z ba kb x0 hxa hc cs h0 n0 _ T16.heap _
      rw [e16]
      exact ⟨a_16, sv_16, ks_16, us_16, (3 : Int32), rfl, N16, K16, q16_0, q16_1, q16_2, q16_3, (by rw [own_e3 hU6]; exact own_made [(.int 0), (.int 0), (.int 0), (.int 0), (.int 0), (.int 0)] q16_4 rfl rfl (by decide))⟩

theorem pn_rmE2 : plainName "com/example/plumbago/plumbago/server/EntryPaths" = true := by first | (simp [plainName, overriddenIn]; done) | decide +kernel
theorem ef_rmE2 (m : MethodId) (ba : Addr) : entryFrame m #[(.ref ba)] 7 = mkF m 0 #[rv ba, .unset, .unset, .unset, .unset, .unset, .unset] [] := by first | (simp [entryFrame, mkF, argsToLocals, Value.category]; done) | rfl
def QE2 (Z : State) (ba : Addr) (kb : ClassId) (x0 : Int32) (x1 : Int32) (hxa : Addr) (hc : Cell) (cs : Int32) (h0 : Heap) (n0 : Nat) (v : Option Value) (h : Heap) (L : List Loc) : Prop := ∃ a : Addr, ∃ sv : Addr, ∃ ks : ClassId, ∃ us : List Value, ∃ cn : Int32, v = some (.ref a) ∧ Fr n0 L ∧ Keep h0 h [] ∧ Exa Z h a "java/lang/String" ∧ Fld Z h a "java/lang/String" "value" "[B" (.ref sv) ∧ Fld Z h a "java/lang/String" "coder" "B" (.int 0) ∧ Arv Z h sv ks .byte cn us (.int 0) ∧ own_str us cn (own_enc (x0 &&& (255 : Int32)) ++ (own_enc (x1 &&& (255 : Int32))))
set_option maxRecDepth 65536 in
set_option maxHeartbeats 40000000 in
theorem rmE2 (l : Launch) (Z : State) (a0 : Array Value) (hw : ∀ d ∈ tables_1, d.before a0 Z = true) (ws : List Jvm.Cond) (ba : Addr) (kb : ClassId) (x0 : Int32) (x1 : Int32) (hxa : Addr) (hc : Cell) (cs : Int32) (h0 : Heap) (n0 : Nat) (Z0 : n0 ≤ h0.size) (O0 : Old Z n0 h0) (P0 : Arv Z h0 ba kb .byte (2 : Int32) [(.int x0), (.int x1)] (.int 0)) (P1 : own_HX Z hxa hc) (P2 : ¬ cs = (0 : Int32)) (OP0 : Sta Z Z.heap "java/lang/String" "COMPACT_STRINGS" "Z" (.int cs)) (OP1 : Sta Z Z.heap "com/example/plumbago/plumbago/server/EntryPaths" "HEX" "[C" (.ref hxa)) :
    MetFree l (⟨"com/example/plumbago/plumbago/server/EntryPaths", "encode", "([B)Ljava/lang/String;"⟩ : MethodName) (head1 (Jvm.Cond.code (⟨"com/example/plumbago/plumbago/server/EntryPaths", "encode", "([B)Ljava/lang/String;"⟩ : MethodName) prog_50_method_7_code 7 (some (.object "java/lang/String")) :: ws) ({ frames := 6, cells := 4, slots := 26, locals := 91 } : Room)) (fun aa U => aa = #[(.ref ba)] ∧ Z.Warmed39 U.vm ∧ U.heap = h0) (fun _ _ _ _ _ => True) (fun _ U o U' => ∃ v L, o = .returned v ∧ QE2 Z ba kb x0 x1 hxa hc cs h0 n0 v U'.heap L ∧ FrameEnd U o U' L ({ frames := 6, cells := 4, slots := 26, locals := 91 } : Room).cells ({ frames := 6, cells := 4, slots := 26, locals := 91 } : Room).slots) := by
  refine MetFree.of_bodySF (plainFor_of_name pn_rmE2) hisR ?_
  intro p e s m args below meth c s₁ Bd hml0 hP hK
  obtain ⟨rfl, hZ, hh⟩ := hP
  have hx := Bd.exec
  have hby := Bd.bytes
  have hml : c.maxLocals = 7 := hml0
  have hown : s.vm.findClass "com/example/plumbago/plumbago/server/EntryPaths" = some m.cls := findClass_of_methodNamed Bd.named
  have hnm := (name_of_methodNamed Bd.named Bd.method).1
  have X0 : Stand p l e ({ frames := 6, cells := 4, slots := 26, locals := 91 } : Room) s m #[(.ref ba)] below meth c s₁ [] 0 0 := Stand.of_body Bd
  have e0 : s₁.heap = h0 := by rw [← hh, Bd.state]; rfl
  have N0 := Fr.nil n0
  change OE p.tables e below _ _
  refine OE.v (fun t k => castTop (ef_rmE2 m ba) k) ?_
  show OE _ _ _ _ (s₁.setTop (mkF m 0 #[rv ba, .unset, .unset, .unset, .unset, .unset, .unset] []))
  obtain ⟨T1, h1, X1, e1, E1, A1, D1, -, st1⟩ := newO X0 hx hZ hown (hw _ (own_w 5 rfl)) (hw _ (own_w 6 rfl)) (hw _ (own_w 7 rfl)) e0 (g := (mkF m 0 #[rv ba, .unset, .unset, .unset, .unset, .unset, .unset] [])) rfl (hb hby d1_0) (by decide) (by decide)
  obtain ⟨b1, g1⟩ : ∃ z, z = h0.size := ⟨_, rfl⟩
  have ne_ba_b1 : ba ≠ b1 := Nat.ne_of_lt (Nat.lt_of_lt_of_le P0.lt (Nat.le_of_eq g1.symm))
  have ge_b1 : n0 ≤ b1 := Nat.le_trans Z0 (Nat.le_of_eq g1.symm)
  have sz_b1 : h0.size ≤ b1 := Nat.le_trans (Keep.refl h0 []).1 (Nat.le_of_eq g1.symm)
  have Z1 : n0 ≤ h1.size := Nat.le_trans Z0 E1.1
  have K1 : Keep h0 h1 [] := (Keep.refl h0 []).ext E1
  have O1 : Old Z n0 h1 := O0.ext E1
  rw [← g1] at A1 D1 st1
  have F1_value : Fld Z h1 b1 "java/lang/AbstractStringBuilder" "value" "[B" .null := D1 (Or.inl (hw _ (own_w 23 rfl))) (ty := (.array .byte)) (by decide)
  have F1_coder : Fld Z h1 b1 "java/lang/AbstractStringBuilder" "coder" "B" (.int 0) := D1 (Or.inl (hw _ (own_w 25 rfl))) (ty := .byte) (by decide)
  have F1_count : Fld Z h1 b1 "java/lang/AbstractStringBuilder" "count" "I" (.int 0) := D1 (Or.inl (hw _ (own_w 37 rfl))) (ty := .int) (by decide)
  refine OE.v st1 ?_
  show OE _ _ _ _ (T1.setTop (mkF m 3 #[rv ba, .unset, .unset, .unset, .unset, .unset, .unset] [(.ref b1)]))
  refine OE.v (fun t k => XS.dup X1.here hx rfl (hb hby d1_3) rfl rfl k) ?_
  refine OE.v (fun t k => XS.aloadN X1.here hx rfl (hb hby d1_4) rfl rfl k) ?_
  show OE _ _ _ _ (T1.setTop (mkF m 5 #[rv ba, .unset, .unset, .unset, .unset, .unset, .unset] [(.ref ba), (.ref b1), (.ref b1)]))
  obtain ⟨cl2, Ar2, q2, S2, M2, H2, G2⟩ := id (P0.ext E1)
  refine OE.v (X1.arraylength hx (by rw [e1]; exact Ar2.1) (State.isArrayOf_alike hZ.alike Ar2.2.1) (g := (mkF m 5 #[rv ba, .unset, .unset, .unset, .unset, .unset, .unset] [(.ref ba), (.ref b1), (.ref b1)])) rfl rfl (hb hby d1_5)) ?_
  rw [len_of S2 M2]
  show OE _ _ _ _ (T1.setTop (mkF m 6 #[rv ba, .unset, .unset, .unset, .unset, .unset, .unset] [(.int 2), (.ref b1), (.ref b1)]))
  refine OE.v (fun t k => XS.iconst X1.here hx rfl (hb hby d1_6) k) ?_
  refine OE.v (fun t k => XS.imul X1.here hx rfl (hb hby d1_7) rfl k) ?_
  show OE _ _ _ _ (T1.setTop (mkF m 8 #[rv ba, .unset, .unset, .unset, .unset, .unset, .unset] [(.int 6), (.ref b1), (.ref b1)]))
  obtain ⟨_, _, ⟨T3, L3, k3, n3⟩, -, X3, ⟨Lc3, hQ3, l3, y3, z3⟩, st3⟩ := X1.specialBack hx (y := (⟨"java/lang/StringBuilder", "<init>", "(I)V"⟩ : MethodName)) rfl hown (mvT hZ (hw _ (own_w 8 rfl))) (mvT hZ (hw _ (own_w 9 rfl))) (mvT hZ (hw _ (own_w 10 rfl))) (by decide) (backOf (W := 1) (rm2 l Z a0 hw [] b1 (6 : Int32) cs h1 n0 Z1 O1 A1 F1_value F1_coder F1_count ge_b1 (by decide) (by decide) P2 OP0) hZ (hw _ (own_w 10 rfl)) (hw _ (own_w 7 rfl)) (by decide) (by decide)) (g := (mkF m 8 #[rv ba, .unset, .unset, .unset, .unset, .unset, .unset] [(.int 6), (.ref b1), (.ref b1)])) rfl (by rw [hml]; rfl) (Steps.refl _) (a := b1) (argsL := [(.int 6)]) (rest := [(.ref b1)]) (lenOf pd_0 rfl) rfl (Nat.le_of_eq rfl) (hb hby d1_8) (fun _ _ => ⟨rfl, e1, (by decide : 1 + 1 ≤ _), (by decide : 4 + 9 ≤ _)⟩)
  dsimp only [Pt.U, Pt.locs, Pt.cells, Pt.slots] at X3 l3 y3 z3 st3 hQ3
  subst l3 y3 z3
  obtain ⟨h3, e3⟩ : ∃ z, T3.heap = z := ⟨_, rfl⟩
  rw [e3] at hQ3
  obtain ⟨vb_3, kv_3, rfl, Nq3, Kq3, q3_0, q3_1, q3_2, q3_3, q3_4, q3_5, q3_6, q3_7⟩ := hQ3
  have Z3 : n0 ≤ h3.size := Nat.le_trans Z1 Kq3.1
  have K3 : Keep h0 h3 [] := K1.trans Kq3 (allS (Or.inr sz_b1) all0)
  have O3 : Old Z n0 h3 := O1.keep Kq3 (allS ge_b1 all0)
  have sz_vb_3 : h0.size ≤ vb_3 := Nat.le_trans K1.1 q3_6
  have ne_ba_vb_3 : ba ≠ vb_3 := Nat.ne_of_lt (Nat.lt_of_lt_of_le (P0.ext E1).lt q3_6)
  have ne_b1_vb_3 : b1 ≠ vb_3 := Nat.ne_of_lt (Nat.lt_of_lt_of_le A1.lt q3_6)
  have N3 := Fr.app N0 Nq3
  refine OE.v (fun t k => st3.trans k) ?_
  show OE _ _ _ _ (T3.setTop (mkF m 11 #[rv ba, .unset, .unset, .unset, .unset, .unset, .unset] [(.ref b1)]))
  refine OE.v (fun t k => XS.astoreN X3.here hx rfl (hb hby d1_11) rfl rfl (l' := #[rv ba, rv b1, .unset, .unset, .unset, .unset, .unset]) rfl k) ?_
  refine OE.v (fun t k => XS.aloadN X3.here hx rfl (hb hby d1_12) rfl rfl k) ?_
  refine OE.v (fun t k => XS.astoreN X3.here hx rfl (hb hby d1_13) rfl rfl (l' := #[rv ba, rv b1, rv ba, .unset, .unset, .unset, .unset]) rfl k) ?_
  refine OE.v (fun t k => XS.aloadN X3.here hx rfl (hb hby d1_14) rfl rfl k) ?_
  show OE _ _ _ _ (T3.setTop (mkF m 15 #[rv ba, rv b1, rv ba, .unset, .unset, .unset, .unset] [(.ref ba)]))
  obtain ⟨cl4, Ar4, q4, S4, M4, H4, G4⟩ := id ((P0.ext E1).keep Kq3 (ninS ne_ba_b1 nin0))
  refine OE.v (X3.arraylength hx (by rw [e3]; exact Ar4.1) (State.isArrayOf_alike hZ.alike Ar4.2.1) (g := (mkF m 15 #[rv ba, rv b1, rv ba, .unset, .unset, .unset, .unset] [(.ref ba)])) rfl rfl (hb hby d1_15)) ?_
  rw [len_of S4 M4]
  show OE _ _ _ _ (T3.setTop (mkF m 16 #[rv ba, rv b1, rv ba, .unset, .unset, .unset, .unset] [(.int 2)]))
  refine OE.v (fun t k => XS.istoreN X3.here hx rfl (hb hby d1_16) rfl (l' := #[rv ba, rv b1, rv ba, iv 2, .unset, .unset, .unset]) rfl k) ?_
  refine OE.v (fun t k => XS.iconst X3.here hx rfl (hb hby d1_17) k) ?_
  refine OE.v (fun t k => XS.istore X3.here hx rfl (hb hby d1_18) rfl (l' := #[rv ba, rv b1, rv ba, iv 2, iv 0, .unset, .unset]) rfl k) ?_
  refine OE.v (fun t k => XS.iload X3.here hx rfl (hb hby d1_20) rfl k) ?_
  refine OE.v (fun t k => XS.iloadN X3.here hx rfl (hb hby d1_22) rfl k) ?_
  show OE _ _ _ _ (T3.setTop (mkF m 23 #[rv ba, rv b1, rv ba, iv 2, iv 0, .unset, .unset] [(.int 2), (.int 0)]))
  refine OE.v (fun t k => XS.icmpNo X3.here hx rfl (hb hby d1_23) rfl (tlt (by decide)).2.1 k) ?_
  show OE _ _ _ _ (T3.setTop (mkF m 26 #[rv ba, rv b1, rv ba, iv 2, iv 0, .unset, .unset] []))
  refine OE.v (fun t k => XS.aloadN X3.here hx rfl (hb hby d1_26) rfl rfl k) ?_
  refine OE.v (fun t k => XS.iload X3.here hx rfl (hb hby d1_27) rfl k) ?_
  show OE _ _ _ _ (T3.setTop (mkF m 29 #[rv ba, rv b1, rv ba, iv 2, iv 0, .unset, .unset] [(.int 0), (.ref ba)]))
  obtain ⟨cl5, Ar5, q5, S5, M5, H5, G5⟩ := id ((P0.ext E1).keep Kq3 (ninS ne_ba_b1 nin0))
  have hin5 : ¬ ((0 : Int32) < 0 ∨ cl5.slots.size ≤ ((0 : Int32)).toNatClampNeg) := inb_of S5 ⟨by decide, by decide⟩
  have hat5 : cl5.slots[((0 : Int32)).toNatClampNeg]? = some (.int x0) := H5.at hin5 rfl
  refine OE.v (X3.baloadBytes hx (j := (0 : Int32)) (v := (.int x0)) (by rw [e3]; exact Ar5.1) (State.isArrayOf_alike hZ.alike Ar5.2.1) Ar5.2.2 hin5 hat5 (g := (mkF m 29 #[rv ba, rv b1, rv ba, iv 2, iv 0, .unset, .unset] [(.int 0), (.ref ba)])) rfl rfl (hb hby d1_29)) ?_
  show OE _ _ _ _ (T3.setTop (mkF m 30 #[rv ba, rv b1, rv ba, iv 2, iv 0, .unset, .unset] [(.int x0)]))
  refine OE.v (fun t k => XS.istore X3.here hx rfl (hb hby d1_30) rfl (l' := #[rv ba, rv b1, rv ba, iv 2, iv 0, iv x0, .unset]) rfl k) ?_
  refine OE.v (fun t k => XS.iload X3.here hx rfl (hb hby d1_32) rfl k) ?_
  refine OE.v (fun t k => XS.sipush X3.here hx rfl (hb hby d1_34) k) ?_
  refine OE.v (fun t k => XS.iand X3.here hx rfl (hb hby d1_37) rfl k) ?_
  refine OE.v (fun t k => XS.i2c X3.here hx rfl (hb hby d1_38) rfl k) ?_
  show OE _ _ _ _ (T3.setTop (mkF m 39 #[rv ba, rv b1, rv ba, iv 2, iv 0, iv x0, .unset] [(.int ((x0 &&& (255 : Int32)).toUInt32.toUInt16.toUInt32.toInt32))]))
  rw [own_cx x0]
  refine OE.v (fun t k => XS.istore X3.here hx rfl (hb hby d1_39) rfl (l' := #[rv ba, rv b1, rv ba, iv 2, iv 0, iv x0, iv (x0 &&& (255 : Int32))]) rfl k) ?_
  show OE _ _ _ _ (T3.setTop (mkF m 41 #[rv ba, rv b1, rv ba, iv 2, iv 0, iv x0, iv (x0 &&& (255 : Int32))] []))
  refine own_chain X3 hx hby ba b1 (2 : Int32) (0 : Int32) x0 (x0 &&& (255 : Int32)) (fun hU6 => ?_) (fun hU6 => ?_)
  ·
    show OE _ _ _ _ (T3.setTop (mkF m 111 #[rv ba, rv b1, rv ba, iv 2, iv 0, iv x0, iv (x0 &&& (255 : Int32))] []))
    refine OE.v (fun t k => XS.aloadN X3.here hx rfl (hb hby d1_111) rfl rfl k) ?_
    refine OE.v (fun t k => XS.iload X3.here hx rfl (hb hby d1_112) rfl k) ?_
    show OE _ _ _ _ (T3.setTop (mkF m 114 #[rv ba, rv b1, rv ba, iv 2, iv 0, iv x0, iv (x0 &&& (255 : Int32))] [(.int (x0 &&& (255 : Int32))), (.ref b1)]))
    obtain ⟨cq7, kq7, q7a, q7b, q7c⟩ := isOf hZ e3 q3_0
    obtain ⟨_, _, ⟨T7, L7, k7, n7⟩, -, X7, ⟨Lc7, hQ7, l7, y7, z7⟩, st7⟩ := X3.virtualBack hx (y := (⟨"java/lang/StringBuilder", "append", "(C)Ljava/lang/StringBuilder;"⟩ : MethodName)) (z := (⟨"java/lang/StringBuilder", "append", "(C)Ljava/lang/StringBuilder;"⟩ : MethodName)) hown (mvT hZ (hw _ (own_w 26 rfl))) (mvT hZ (hw _ (own_w 27 rfl))) (notFace_of_selects (args := #[]) (mvT hZ (hw _ (own_w 29 rfl)))) (mvT hZ (hw _ (own_w 29 rfl))) (mvT hZ (hw _ (own_w 28 rfl))) (by decide) (backOf (W := 0) (rm5 l Z a0 hw [] b1 (x0 &&& (255 : Int32)) (0 : Int32) vb_3 kv_3 (6 : Int32) [(.int 0), (.int 0), (.int 0), (.int 0), (.int 0), (.int 0), (.int 0), (.int 0), (.int 0)] cs h3 n0 Z3 O3 q3_0 q3_1 q3_2 q3_3 q3_4 ge_b1 q3_7 (Ne.symm ne_b1_vb_3) (own_ur hU6) (by decide) ⟨by decide, by decide⟩ (by show (0 : Int32).toNatClampNeg < 9; decide) P2 OP0) hZ (hw _ (own_w 30 rfl)) (hw _ (own_w 7 rfl)) (by decide) (by decide)) q7a q7c (g := (mkF m 114 #[rv ba, rv b1, rv ba, iv 2, iv 0, iv x0, iv (x0 &&& (255 : Int32))] [(.int (x0 &&& (255 : Int32))), (.ref b1)])) rfl (by rw [hml]; rfl) (Steps.refl _) (argsL := [(.int (x0 &&& (255 : Int32)))]) (rest := []) (lenOf pd_17 rfl) rfl (Nat.le_of_eq rfl) (hb hby d1_114) (fun _ _ => ⟨rfl, e3, (by decide : 2 + 0 ≤ _), (by decide : 13 + 0 ≤ _)⟩)
    dsimp only [Pt.U, Pt.locs, Pt.cells, Pt.slots] at X7 l7 y7 z7 st7 hQ7
    subst l7 y7 z7
    obtain ⟨h7, e7⟩ : ∃ z, T7.heap = z := ⟨_, rfl⟩
    rw [e7] at hQ7
    obtain ⟨rfl, Nq7, Kq7, q7_0, q7_1, q7_2, q7_3, q7_4⟩ := hQ7
    have Z7 : n0 ≤ h7.size := Nat.le_trans Z3 Kq7.1
    have K7 : Keep h0 h7 [] := K3.trans Kq7 (allS (Or.inr sz_b1) (allS (Or.inr sz_vb_3) all0))
    have O7 : Old Z n0 h7 := O3.keep Kq7 (allS ge_b1 (allS q3_7 all0))
    have N7 := Fr.app N3 Nq7
    refine OE.v (fun t k => st7.trans k) ?_
    have Fc7 : Fld Z h7 b1 "java/lang/AbstractStringBuilder" "count" "I" (.int 1) := q7_3
    have Vc7 : Arv Z h7 vb_3 kv_3 .byte (6 : Int32) [(.int (x0 &&& (255 : Int32))), (.int 0), (.int 0), (.int 0), (.int 0), (.int 0), (.int 0), (.int 0), (.int 0)] (.int 0) := q7_4
    show OE _ _ _ _ (T7.setTop (mkF m 117 #[rv ba, rv b1, rv ba, iv 2, iv 0, iv x0, iv (x0 &&& (255 : Int32))] [(.ref b1)]))
    refine OE.v (fun t k => XS.pop X7.here hx rfl (hb hby d1_117) rfl rfl k) ?_
    refine OE.v (fun t k => XS.goto X7.here hx rfl (pc0 := 118) (pc' := 151) rfl (hb hby d1_118) (by decide) (by decide) k) ?_
    refine OE.v (fun t k => XS.iinc X7.here hx rfl (hb hby d1_151) rfl (l' := #[rv ba, rv b1, rv ba, iv 2, iv 1, iv x0, iv (x0 &&& (255 : Int32))]) rfl k) ?_
    refine OE.v (fun t k => XS.goto X7.here hx rfl (pc0 := 154) (pc' := 20) rfl (hb hby d1_154) (by decide) (by decide) k) ?_
    refine OE.v (fun t k => XS.iload X7.here hx rfl (hb hby d1_20) rfl k) ?_
    refine OE.v (fun t k => XS.iloadN X7.here hx rfl (hb hby d1_22) rfl k) ?_
    show OE _ _ _ _ (T7.setTop (mkF m 23 #[rv ba, rv b1, rv ba, iv 2, iv 1, iv x0, iv (x0 &&& (255 : Int32))] [(.int 2), (.int 1)]))
    refine OE.v (fun t k => XS.icmpNo X7.here hx rfl (hb hby d1_23) rfl (tlt (by decide)).2.1 k) ?_
    show OE _ _ _ _ (T7.setTop (mkF m 26 #[rv ba, rv b1, rv ba, iv 2, iv 1, iv x0, iv (x0 &&& (255 : Int32))] []))
    refine OE.v (fun t k => XS.aloadN X7.here hx rfl (hb hby d1_26) rfl rfl k) ?_
    refine OE.v (fun t k => XS.iload X7.here hx rfl (hb hby d1_27) rfl k) ?_
    show OE _ _ _ _ (T7.setTop (mkF m 29 #[rv ba, rv b1, rv ba, iv 2, iv 1, iv x0, iv (x0 &&& (255 : Int32))] [(.int 1), (.ref ba)]))
    obtain ⟨cl8, Ar8, q8, S8, M8, H8, G8⟩ := id (((P0.ext E1).keep Kq3 (ninS ne_ba_b1 nin0)).keep Kq7 (ninS ne_ba_b1 (ninS ne_ba_vb_3 nin0)))
    have hin8 : ¬ ((1 : Int32) < 0 ∨ cl8.slots.size ≤ ((1 : Int32)).toNatClampNeg) := inb_of S8 ⟨by decide, by decide⟩
    have hat8 : cl8.slots[((1 : Int32)).toNatClampNeg]? = some (.int x1) := H8.at hin8 rfl
    refine OE.v (X7.baloadBytes hx (j := (1 : Int32)) (v := (.int x1)) (by rw [e7]; exact Ar8.1) (State.isArrayOf_alike hZ.alike Ar8.2.1) Ar8.2.2 hin8 hat8 (g := (mkF m 29 #[rv ba, rv b1, rv ba, iv 2, iv 1, iv x0, iv (x0 &&& (255 : Int32))] [(.int 1), (.ref ba)])) rfl rfl (hb hby d1_29)) ?_
    show OE _ _ _ _ (T7.setTop (mkF m 30 #[rv ba, rv b1, rv ba, iv 2, iv 1, iv x0, iv (x0 &&& (255 : Int32))] [(.int x1)]))
    refine OE.v (fun t k => XS.istore X7.here hx rfl (hb hby d1_30) rfl (l' := #[rv ba, rv b1, rv ba, iv 2, iv 1, iv x1, iv (x0 &&& (255 : Int32))]) rfl k) ?_
    refine OE.v (fun t k => XS.iload X7.here hx rfl (hb hby d1_32) rfl k) ?_
    refine OE.v (fun t k => XS.sipush X7.here hx rfl (hb hby d1_34) k) ?_
    refine OE.v (fun t k => XS.iand X7.here hx rfl (hb hby d1_37) rfl k) ?_
    refine OE.v (fun t k => XS.i2c X7.here hx rfl (hb hby d1_38) rfl k) ?_
    show OE _ _ _ _ (T7.setTop (mkF m 39 #[rv ba, rv b1, rv ba, iv 2, iv 1, iv x1, iv (x0 &&& (255 : Int32))] [(.int ((x1 &&& (255 : Int32)).toUInt32.toUInt16.toUInt32.toInt32))]))
    rw [own_cx x1]
    refine OE.v (fun t k => XS.istore X7.here hx rfl (hb hby d1_39) rfl (l' := #[rv ba, rv b1, rv ba, iv 2, iv 1, iv x1, iv (x1 &&& (255 : Int32))]) rfl k) ?_
    show OE _ _ _ _ (T7.setTop (mkF m 41 #[rv ba, rv b1, rv ba, iv 2, iv 1, iv x1, iv (x1 &&& (255 : Int32))] []))
    refine own_chain X7 hx hby ba b1 (2 : Int32) (1 : Int32) x1 (x1 &&& (255 : Int32)) (fun hU9 => ?_) (fun hU9 => ?_)
    ·
      show OE _ _ _ _ (T7.setTop (mkF m 111 #[rv ba, rv b1, rv ba, iv 2, iv 1, iv x1, iv (x1 &&& (255 : Int32))] []))
      refine OE.v (fun t k => XS.aloadN X7.here hx rfl (hb hby d1_111) rfl rfl k) ?_
      refine OE.v (fun t k => XS.iload X7.here hx rfl (hb hby d1_112) rfl k) ?_
      show OE _ _ _ _ (T7.setTop (mkF m 114 #[rv ba, rv b1, rv ba, iv 2, iv 1, iv x1, iv (x1 &&& (255 : Int32))] [(.int (x1 &&& (255 : Int32))), (.ref b1)]))
      obtain ⟨cq10, kq10, q10a, q10b, q10c⟩ := isOf hZ e7 q7_0
      obtain ⟨_, _, ⟨T10, L10, k10, n10⟩, -, X10, ⟨Lc10, hQ10, l10, y10, z10⟩, st10⟩ := X7.virtualBack hx (y := (⟨"java/lang/StringBuilder", "append", "(C)Ljava/lang/StringBuilder;"⟩ : MethodName)) (z := (⟨"java/lang/StringBuilder", "append", "(C)Ljava/lang/StringBuilder;"⟩ : MethodName)) hown (mvT hZ (hw _ (own_w 26 rfl))) (mvT hZ (hw _ (own_w 27 rfl))) (notFace_of_selects (args := #[]) (mvT hZ (hw _ (own_w 29 rfl)))) (mvT hZ (hw _ (own_w 29 rfl))) (mvT hZ (hw _ (own_w 28 rfl))) (by decide) (backOf (W := 0) (rm5 l Z a0 hw [] b1 (x1 &&& (255 : Int32)) (1 : Int32) vb_3 kv_3 (6 : Int32) [(.int (x0 &&& (255 : Int32))), (.int 0), (.int 0), (.int 0), (.int 0), (.int 0), (.int 0), (.int 0), (.int 0)] cs h7 n0 Z7 O7 q7_0 q7_1 q7_2 Fc7 Vc7 ge_b1 q3_7 (Ne.symm ne_b1_vb_3) (own_ur hU9) (by decide) ⟨by decide, by decide⟩ (by show (1 : Int32).toNatClampNeg < 9; decide) P2 OP0) hZ (hw _ (own_w 30 rfl)) (hw _ (own_w 7 rfl)) (by decide) (by decide)) q10a q10c (g := (mkF m 114 #[rv ba, rv b1, rv ba, iv 2, iv 1, iv x1, iv (x1 &&& (255 : Int32))] [(.int (x1 &&& (255 : Int32))), (.ref b1)])) rfl (by rw [hml]; rfl) (Steps.refl _) (argsL := [(.int (x1 &&& (255 : Int32)))]) (rest := []) (lenOf pd_17 rfl) rfl (Nat.le_of_eq rfl) (hb hby d1_114) (fun _ _ => ⟨rfl, e7, (by decide : 2 + 0 ≤ _), (by decide : 13 + 0 ≤ _)⟩)
      dsimp only [Pt.U, Pt.locs, Pt.cells, Pt.slots] at X10 l10 y10 z10 st10 hQ10
      subst l10 y10 z10
      obtain ⟨h10, e10⟩ : ∃ z, T10.heap = z := ⟨_, rfl⟩
      rw [e10] at hQ10
      obtain ⟨rfl, Nq10, Kq10, q10_0, q10_1, q10_2, q10_3, q10_4⟩ := hQ10
      have Z10 : n0 ≤ h10.size := Nat.le_trans Z7 Kq10.1
      have K10 : Keep h0 h10 [] := K7.trans Kq10 (allS (Or.inr sz_b1) (allS (Or.inr sz_vb_3) all0))
      have O10 : Old Z n0 h10 := O7.keep Kq10 (allS ge_b1 (allS q3_7 all0))
      have N10 := Fr.app N7 Nq10
      refine OE.v (fun t k => st10.trans k) ?_
      have Fc10 : Fld Z h10 b1 "java/lang/AbstractStringBuilder" "count" "I" (.int 2) := q10_3
      have Vc10 : Arv Z h10 vb_3 kv_3 .byte (6 : Int32) [(.int (x0 &&& (255 : Int32))), (.int (x1 &&& (255 : Int32))), (.int 0), (.int 0), (.int 0), (.int 0), (.int 0), (.int 0), (.int 0)] (.int 0) := q10_4
      show OE _ _ _ _ (T10.setTop (mkF m 117 #[rv ba, rv b1, rv ba, iv 2, iv 1, iv x1, iv (x1 &&& (255 : Int32))] [(.ref b1)]))
      refine OE.v (fun t k => XS.pop X10.here hx rfl (hb hby d1_117) rfl rfl k) ?_
      refine OE.v (fun t k => XS.goto X10.here hx rfl (pc0 := 118) (pc' := 151) rfl (hb hby d1_118) (by decide) (by decide) k) ?_
      refine OE.v (fun t k => XS.iinc X10.here hx rfl (hb hby d1_151) rfl (l' := #[rv ba, rv b1, rv ba, iv 2, iv 2, iv x1, iv (x1 &&& (255 : Int32))]) rfl k) ?_
      refine OE.v (fun t k => XS.goto X10.here hx rfl (pc0 := 154) (pc' := 20) rfl (hb hby d1_154) (by decide) (by decide) k) ?_
      refine OE.v (fun t k => XS.iload X10.here hx rfl (hb hby d1_20) rfl k) ?_
      refine OE.v (fun t k => XS.iloadN X10.here hx rfl (hb hby d1_22) rfl k) ?_
      show OE _ _ _ _ (T10.setTop (mkF m 23 #[rv ba, rv b1, rv ba, iv 2, iv 2, iv x1, iv (x1 &&& (255 : Int32))] [(.int 2), (.int 2)]))
      refine OE.v (fun t k => XS.icmpYes X10.here hx rfl (pc0 := 23) (pc' := 157) rfl (hb hby d1_23) rfl (flt (by decide)).2.1 (by decide) (by decide) k) ?_
      show OE _ _ _ _ (T10.setTop (mkF m 157 #[rv ba, rv b1, rv ba, iv 2, iv 2, iv x1, iv (x1 &&& (255 : Int32))] []))
      refine OE.v (fun t k => XS.aloadN X10.here hx rfl (hb hby d1_157) rfl rfl k) ?_
      show OE _ _ _ _ (T10.setTop (mkF m 158 #[rv ba, rv b1, rv ba, iv 2, iv 2, iv x1, iv (x1 &&& (255 : Int32))] [(.ref b1)]))
      obtain ⟨cq11, kq11, q11a, q11b, q11c⟩ := isOf hZ e10 q10_0
      obtain ⟨_, _, ⟨T11, L11, k11, n11⟩, -, X11, ⟨Lc11, hQ11, l11, y11, z11⟩, st11⟩ := X10.virtualBack hx (y := (⟨"java/lang/StringBuilder", "toString", "()Ljava/lang/String;"⟩ : MethodName)) (z := (⟨"java/lang/StringBuilder", "toString", "()Ljava/lang/String;"⟩ : MethodName)) hown (mvT hZ (hw _ (own_w 54 rfl))) (mvT hZ (hw _ (own_w 55 rfl))) (notFace_of_selects (args := #[]) (mvT hZ (hw _ (own_w 57 rfl)))) (mvT hZ (hw _ (own_w 57 rfl))) (mvT hZ (hw _ (own_w 56 rfl))) (by decide) (backOf (W := 0) (rm10 l Z a0 hw [] b1 (2 : Int32) vb_3 kv_3 (6 : Int32) [(.int (x0 &&& (255 : Int32))), (.int (x1 &&& (255 : Int32))), (.int 0), (.int 0), (.int 0), (.int 0), (.int 0), (.int 0), (.int 0)] cs h10 n0 Z10 O10 q10_0 q10_1 q10_2 Fc10 Vc10 ((q3_5.keep Kq7).keep Kq10) (by decide) P2 OP0) hZ (hw _ (own_w 58 rfl)) (hw _ (own_w 7 rfl)) (by decide) (by decide)) q11a q11c (g := (mkF m 158 #[rv ba, rv b1, rv ba, iv 2, iv 2, iv x1, iv (x1 &&& (255 : Int32))] [(.ref b1)])) rfl (by rw [hml]; rfl) (Steps.refl _) (argsL := []) (rest := []) (lenOf pd_16 rfl) rfl (Nat.le_of_eq rfl) (hb hby d1_158) (fun _ _ => ⟨rfl, e10, (by decide : 2 + 2 ≤ _), (by decide : 13 + 13 ≤ _)⟩)
      dsimp only [Pt.U, Pt.locs, Pt.cells, Pt.slots] at X11 l11 y11 z11 st11 hQ11
      subst l11 y11 z11
      obtain ⟨h11, e11⟩ : ∃ z, T11.heap = z := ⟨_, rfl⟩
      rw [e11] at hQ11
      obtain ⟨a_11, sv_11, ks_11, us_11, rfl, Nq11, Kq11, q11_0, q11_1, q11_2, q11_3, q11_4⟩ := hQ11
      have Z11 : n0 ≤ h11.size := Nat.le_trans Z10 Kq11.1
      have K11 : Keep h0 h11 [] := K10.trans Kq11 all0
      have O11 : Old Z n0 h11 := O10.keep Kq11 all0
      have N11 := Fr.app N10 Nq11
      refine OE.v (fun t k => st11.trans k) ?_
      show OE _ _ _ _ (T11.setTop (mkF m 161 #[rv ba, rv b1, rv ba, iv 2, iv 2, iv x1, iv (x1 &&& (255 : Int32))] [(.ref a_11)]))
      obtain ⟨fs, hr, hrun, hended, hW, hsame⟩ := X11.leave (v := some (.ref a_11)) (fun h => by rw [Bd.returns] at h; cases h)
      refine ⟨_, _, ?_, hrun, hended, _, _, rfl, ?_, ⟨_, rfl⟩, hW, hsame.mono (by decide) (by decide)⟩
      · jvm_step X11.here [X11.here.top, hx, (hb hby d1_161), X11.method', Bd.returns, Value.isRef, FieldType.isReference]
        first | (intro acts; rw [hr _ acts rfl rfl rfl]) | rw [hr _ _ rfl rfl rfl]
        exact Steps.refl _
      · show QE2 Z ba kb x0 x1 hxa hc cs h0 n0 _ T11.heap _
        rw [e11]
        exact ⟨a_11, sv_11, ks_11, us_11, (2 : Int32), rfl, N11, K11, q11_0, q11_1, q11_2, q11_3, (by rw [own_e1 hU6, own_e1 hU9]; exact own_made [(.int 0), (.int 0), (.int 0), (.int 0), (.int 0), (.int 0), (.int 0)] q11_4 rfl rfl (by decide))⟩
    ·
      show OE _ _ _ _ (T7.setTop (mkF m 121 #[rv ba, rv b1, rv ba, iv 2, iv 1, iv x1, iv (x1 &&& (255 : Int32))] []))
      refine OE.v (fun t k => XS.aloadN X7.here hx rfl (hb hby d1_121) rfl rfl k) ?_
      refine OE.v (fun t k => XS.bipush X7.here hx rfl (hb hby d1_122) k) ?_
      show OE _ _ _ _ (T7.setTop (mkF m 124 #[rv ba, rv b1, rv ba, iv 2, iv 1, iv x1, iv (x1 &&& (255 : Int32))] [(.int 37), (.ref b1)]))
      obtain ⟨cq12, kq12, q12a, q12b, q12c⟩ := isOf hZ e7 q7_0
      obtain ⟨_, _, ⟨T12, L12, k12, n12⟩, -, X12, ⟨Lc12, hQ12, l12, y12, z12⟩, st12⟩ := X7.virtualBack hx (y := (⟨"java/lang/StringBuilder", "append", "(C)Ljava/lang/StringBuilder;"⟩ : MethodName)) (z := (⟨"java/lang/StringBuilder", "append", "(C)Ljava/lang/StringBuilder;"⟩ : MethodName)) hown (mvT hZ (hw _ (own_w 26 rfl))) (mvT hZ (hw _ (own_w 27 rfl))) (notFace_of_selects (args := #[]) (mvT hZ (hw _ (own_w 29 rfl)))) (mvT hZ (hw _ (own_w 29 rfl))) (mvT hZ (hw _ (own_w 28 rfl))) (by decide) (backOf (W := 0) (rm5 l Z a0 hw [] b1 (37 : Int32) (1 : Int32) vb_3 kv_3 (6 : Int32) [(.int (x0 &&& (255 : Int32))), (.int 0), (.int 0), (.int 0), (.int 0), (.int 0), (.int 0), (.int 0), (.int 0)] cs h7 n0 Z7 O7 q7_0 q7_1 q7_2 Fc7 Vc7 ge_b1 q3_7 (Ne.symm ne_b1_vb_3) (by decide) (by decide) ⟨by decide, by decide⟩ (by show (1 : Int32).toNatClampNeg < 9; decide) P2 OP0) hZ (hw _ (own_w 30 rfl)) (hw _ (own_w 7 rfl)) (by decide) (by decide)) q12a q12c (g := (mkF m 124 #[rv ba, rv b1, rv ba, iv 2, iv 1, iv x1, iv (x1 &&& (255 : Int32))] [(.int 37), (.ref b1)])) rfl (by rw [hml]; rfl) (Steps.refl _) (argsL := [(.int 37)]) (rest := []) (lenOf pd_17 rfl) rfl (Nat.le_of_eq rfl) (hb hby d1_124) (fun _ _ => ⟨rfl, e7, (by decide : 2 + 0 ≤ _), (by decide : 13 + 0 ≤ _)⟩)
      dsimp only [Pt.U, Pt.locs, Pt.cells, Pt.slots] at X12 l12 y12 z12 st12 hQ12
      subst l12 y12 z12
      obtain ⟨h12, e12⟩ : ∃ z, T12.heap = z := ⟨_, rfl⟩
      rw [e12] at hQ12
      obtain ⟨rfl, Nq12, Kq12, q12_0, q12_1, q12_2, q12_3, q12_4⟩ := hQ12
      have Z12 : n0 ≤ h12.size := Nat.le_trans Z7 Kq12.1
      have K12 : Keep h0 h12 [] := K7.trans Kq12 (allS (Or.inr sz_b1) (allS (Or.inr sz_vb_3) all0))
      have O12 : Old Z n0 h12 := O7.keep Kq12 (allS ge_b1 (allS q3_7 all0))
      have N12 := Fr.app N7 Nq12
      refine OE.v (fun t k => st12.trans k) ?_
      have Fc12 : Fld Z h12 b1 "java/lang/AbstractStringBuilder" "count" "I" (.int 2) := q12_3
      have Vc12 : Arv Z h12 vb_3 kv_3 .byte (6 : Int32) [(.int (x0 &&& (255 : Int32))), (.int 37), (.int 0), (.int 0), (.int 0), (.int 0), (.int 0), (.int 0), (.int 0)] (.int 0) := q12_4
      show OE _ _ _ _ (T12.setTop (mkF m 127 #[rv ba, rv b1, rv ba, iv 2, iv 1, iv x1, iv (x1 &&& (255 : Int32))] [(.ref b1)]))
      obtain ⟨T13, X13, e13, st13⟩ := getS2 X12 hx hZ hown (host := "") (Or.inl (hw _ (own_w 52 rfl))) Via.refl e12 (OP1.ext O12.2) (g := (mkF m 127 #[rv ba, rv b1, rv ba, iv 2, iv 1, iv x1, iv (x1 &&& (255 : Int32))] [(.ref b1)])) rfl (hb hby d1_127)
      refine OE.v st13 ?_
      show OE _ _ _ _ (T13.setTop (mkF m 130 #[rv ba, rv b1, rv ba, iv 2, iv 1, iv x1, iv (x1 &&& (255 : Int32))] [(.ref hxa), (.ref b1)]))
      refine OE.v (fun t k => XS.iload X13.here hx rfl (hb hby d1_130) rfl k) ?_
      refine OE.v (fun t k => XS.iconst X13.here hx rfl (hb hby d1_132) k) ?_
      refine OE.v (fun t k => XS.ishr X13.here hx rfl (hb hby d1_133) rfl k) ?_
      have rg14 := own_16 (own_hi (own_r8 x1))
      have hin14 := inb_of P1.2.1 rg14
      refine OE.v (X13.caload hx (j := ((x1 &&& (255 : Int32)) >>> ((4 : Int32) &&& 31))) (v := .int (own_hx ((x1 &&& (255 : Int32)) >>> ((4 : Int32) &&& 31)))) (by rw [e13]; exact (P1.1.ext O12.2).1) (State.isArrayOf_alike hZ.alike P1.1.2.1) P1.1.2.2 hin14 (P1.2.2 _ rg14.1 rg14.2) (g := (mkF m 134 #[rv ba, rv b1, rv ba, iv 2, iv 1, iv x1, iv (x1 &&& (255 : Int32))] [(.int ((x1 &&& (255 : Int32)) >>> ((4 : Int32) &&& 31))), (.ref hxa), (.ref b1)])) rfl rfl (hb hby d1_134)) ?_
      show OE _ _ _ _ (T13.setTop (mkF m 135 #[rv ba, rv b1, rv ba, iv 2, iv 1, iv x1, iv (x1 &&& (255 : Int32))] [(.int (own_hx ((x1 &&& (255 : Int32)) >>> ((4 : Int32) &&& 31)))), (.ref b1)]))
      obtain ⟨cq15, kq15, q15a, q15b, q15c⟩ := isOf hZ e13 q12_0
      obtain ⟨_, _, ⟨T15, L15, k15, n15⟩, -, X15, ⟨Lc15, hQ15, l15, y15, z15⟩, st15⟩ := X13.virtualBack hx (y := (⟨"java/lang/StringBuilder", "append", "(C)Ljava/lang/StringBuilder;"⟩ : MethodName)) (z := (⟨"java/lang/StringBuilder", "append", "(C)Ljava/lang/StringBuilder;"⟩ : MethodName)) hown (mvT hZ (hw _ (own_w 26 rfl))) (mvT hZ (hw _ (own_w 27 rfl))) (notFace_of_selects (args := #[]) (mvT hZ (hw _ (own_w 29 rfl)))) (mvT hZ (hw _ (own_w 29 rfl))) (mvT hZ (hw _ (own_w 28 rfl))) (by decide) (backOf (W := 0) (rm5 l Z a0 hw [] b1 (own_hx ((x1 &&& (255 : Int32)) >>> ((4 : Int32) &&& 31))) (2 : Int32) vb_3 kv_3 (6 : Int32) [(.int (x0 &&& (255 : Int32))), (.int 37), (.int 0), (.int 0), (.int 0), (.int 0), (.int 0), (.int 0), (.int 0)] cs h12 n0 Z12 O12 q12_0 q12_1 q12_2 Fc12 Vc12 ge_b1 q3_7 (Ne.symm ne_b1_vb_3) (own_hr (own_hi (own_r8 x1))) (by decide) ⟨by decide, by decide⟩ (by show (2 : Int32).toNatClampNeg < 9; decide) P2 OP0) hZ (hw _ (own_w 30 rfl)) (hw _ (own_w 7 rfl)) (by decide) (by decide)) q15a q15c (g := (mkF m 135 #[rv ba, rv b1, rv ba, iv 2, iv 1, iv x1, iv (x1 &&& (255 : Int32))] [(.int (own_hx ((x1 &&& (255 : Int32)) >>> ((4 : Int32) &&& 31)))), (.ref b1)])) rfl (by rw [hml]; rfl) (Steps.refl _) (argsL := [(.int (own_hx ((x1 &&& (255 : Int32)) >>> ((4 : Int32) &&& 31))))]) (rest := []) (lenOf pd_17 rfl) rfl (Nat.le_of_eq rfl) (hb hby d1_135) (fun _ _ => ⟨rfl, e13, (by decide : 2 + 0 ≤ _), (by decide : 13 + 0 ≤ _)⟩)
      dsimp only [Pt.U, Pt.locs, Pt.cells, Pt.slots] at X15 l15 y15 z15 st15 hQ15
      subst l15 y15 z15
      obtain ⟨h15, e15⟩ : ∃ z, T15.heap = z := ⟨_, rfl⟩
      rw [e15] at hQ15
      obtain ⟨rfl, Nq15, Kq15, q15_0, q15_1, q15_2, q15_3, q15_4⟩ := hQ15
      have Z15 : n0 ≤ h15.size := Nat.le_trans Z12 Kq15.1
      have K15 : Keep h0 h15 [] := K12.trans Kq15 (allS (Or.inr sz_b1) (allS (Or.inr sz_vb_3) all0))
      have O15 : Old Z n0 h15 := O12.keep Kq15 (allS ge_b1 (allS q3_7 all0))
      have N15 := Fr.app N12 Nq15
      refine OE.v (fun t k => st15.trans k) ?_
      have Fc15 : Fld Z h15 b1 "java/lang/AbstractStringBuilder" "count" "I" (.int 3) := q15_3
      have Vc15 : Arv Z h15 vb_3 kv_3 .byte (6 : Int32) [(.int (x0 &&& (255 : Int32))), (.int 37), (.int (own_hx ((x1 &&& (255 : Int32)) >>> ((4 : Int32) &&& 31)))), (.int 0), (.int 0), (.int 0), (.int 0), (.int 0), (.int 0)] (.int 0) := q15_4
      show OE _ _ _ _ (T15.setTop (mkF m 138 #[rv ba, rv b1, rv ba, iv 2, iv 1, iv x1, iv (x1 &&& (255 : Int32))] [(.ref b1)]))
      obtain ⟨T16, X16, e16, st16⟩ := getS2 X15 hx hZ hown (host := "") (Or.inl (hw _ (own_w 52 rfl))) Via.refl e15 (OP1.ext O15.2) (g := (mkF m 138 #[rv ba, rv b1, rv ba, iv 2, iv 1, iv x1, iv (x1 &&& (255 : Int32))] [(.ref b1)])) rfl (hb hby d1_138)
      refine OE.v st16 ?_
      show OE _ _ _ _ (T16.setTop (mkF m 141 #[rv ba, rv b1, rv ba, iv 2, iv 1, iv x1, iv (x1 &&& (255 : Int32))] [(.ref hxa), (.ref b1)]))
      refine OE.v (fun t k => XS.iload X16.here hx rfl (hb hby d1_141) rfl k) ?_
      refine OE.v (fun t k => XS.bipush X16.here hx rfl (hb hby d1_143) k) ?_
      refine OE.v (fun t k => XS.iand X16.here hx rfl (hb hby d1_145) rfl k) ?_
      have rg17 := own_16 (own_lo (x1 &&& (255 : Int32)))
      have hin17 := inb_of P1.2.1 rg17
      refine OE.v (X16.caload hx (j := ((x1 &&& (255 : Int32)) &&& (15 : Int32))) (v := .int (own_hx ((x1 &&& (255 : Int32)) &&& (15 : Int32)))) (by rw [e16]; exact (P1.1.ext O15.2).1) (State.isArrayOf_alike hZ.alike P1.1.2.1) P1.1.2.2 hin17 (P1.2.2 _ rg17.1 rg17.2) (g := (mkF m 146 #[rv ba, rv b1, rv ba, iv 2, iv 1, iv x1, iv (x1 &&& (255 : Int32))] [(.int ((x1 &&& (255 : Int32)) &&& (15 : Int32))), (.ref hxa), (.ref b1)])) rfl rfl (hb hby d1_146)) ?_
      show OE _ _ _ _ (T16.setTop (mkF m 147 #[rv ba, rv b1, rv ba, iv 2, iv 1, iv x1, iv (x1 &&& (255 : Int32))] [(.int (own_hx ((x1 &&& (255 : Int32)) &&& (15 : Int32)))), (.ref b1)]))
      obtain ⟨cq18, kq18, q18a, q18b, q18c⟩ := isOf hZ e16 q15_0
      obtain ⟨_, _, ⟨T18, L18, k18, n18⟩, -, X18, ⟨Lc18, hQ18, l18, y18, z18⟩, st18⟩ := X16.virtualBack hx (y := (⟨"java/lang/StringBuilder", "append", "(C)Ljava/lang/StringBuilder;"⟩ : MethodName)) (z := (⟨"java/lang/StringBuilder", "append", "(C)Ljava/lang/StringBuilder;"⟩ : MethodName)) hown (mvT hZ (hw _ (own_w 26 rfl))) (mvT hZ (hw _ (own_w 27 rfl))) (notFace_of_selects (args := #[]) (mvT hZ (hw _ (own_w 29 rfl)))) (mvT hZ (hw _ (own_w 29 rfl))) (mvT hZ (hw _ (own_w 28 rfl))) (by decide) (backOf (W := 0) (rm5 l Z a0 hw [] b1 (own_hx ((x1 &&& (255 : Int32)) &&& (15 : Int32))) (3 : Int32) vb_3 kv_3 (6 : Int32) [(.int (x0 &&& (255 : Int32))), (.int 37), (.int (own_hx ((x1 &&& (255 : Int32)) >>> ((4 : Int32) &&& 31)))), (.int 0), (.int 0), (.int 0), (.int 0), (.int 0), (.int 0)] cs h15 n0 Z15 O15 q15_0 q15_1 q15_2 Fc15 Vc15 ge_b1 q3_7 (Ne.symm ne_b1_vb_3) (own_hr (own_lo (x1 &&& (255 : Int32)))) (by decide) ⟨by decide, by decide⟩ (by show (3 : Int32).toNatClampNeg < 9; decide) P2 OP0) hZ (hw _ (own_w 30 rfl)) (hw _ (own_w 7 rfl)) (by decide) (by decide)) q18a q18c (g := (mkF m 147 #[rv ba, rv b1, rv ba, iv 2, iv 1, iv x1, iv (x1 &&& (255 : Int32))] [(.int (own_hx ((x1 &&& (255 : Int32)) &&& (15 : Int32)))), (.ref b1)])) rfl (by rw [hml]; rfl) (Steps.refl _) (argsL := [(.int (own_hx ((x1 &&& (255 : Int32)) &&& (15 : Int32))))]) (rest := []) (lenOf pd_17 rfl) rfl (Nat.le_of_eq rfl) (hb hby d1_147) (fun _ _ => ⟨rfl, e16, (by decide : 2 + 0 ≤ _), (by decide : 13 + 0 ≤ _)⟩)
      dsimp only [Pt.U, Pt.locs, Pt.cells, Pt.slots] at X18 l18 y18 z18 st18 hQ18
      subst l18 y18 z18
      obtain ⟨h18, e18⟩ : ∃ z, T18.heap = z := ⟨_, rfl⟩
      rw [e18] at hQ18
      obtain ⟨rfl, Nq18, Kq18, q18_0, q18_1, q18_2, q18_3, q18_4⟩ := hQ18
      have Z18 : n0 ≤ h18.size := Nat.le_trans Z15 Kq18.1
      have K18 : Keep h0 h18 [] := K15.trans Kq18 (allS (Or.inr sz_b1) (allS (Or.inr sz_vb_3) all0))
      have O18 : Old Z n0 h18 := O15.keep Kq18 (allS ge_b1 (allS q3_7 all0))
      have N18 := Fr.app N15 Nq18
      refine OE.v (fun t k => st18.trans k) ?_
      have Fc18 : Fld Z h18 b1 "java/lang/AbstractStringBuilder" "count" "I" (.int 4) := q18_3
      have Vc18 : Arv Z h18 vb_3 kv_3 .byte (6 : Int32) [(.int (x0 &&& (255 : Int32))), (.int 37), (.int (own_hx ((x1 &&& (255 : Int32)) >>> ((4 : Int32) &&& 31)))), (.int (own_hx ((x1 &&& (255 : Int32)) &&& (15 : Int32)))), (.int 0), (.int 0), (.int 0), (.int 0), (.int 0)] (.int 0) := q18_4
      show OE _ _ _ _ (T18.setTop (mkF m 150 #[rv ba, rv b1, rv ba, iv 2, iv 1, iv x1, iv (x1 &&& (255 : Int32))] [(.ref b1)]))
      refine OE.v (fun t k => XS.pop X18.here hx rfl (hb hby d1_150) rfl rfl k) ?_
      refine OE.v (fun t k => XS.iinc X18.here hx rfl (hb hby d1_151) rfl (l' := #[rv ba, rv b1, rv ba, iv 2, iv 2, iv x1, iv (x1 &&& (255 : Int32))]) rfl k) ?_
      refine OE.v (fun t k => XS.goto X18.here hx rfl (pc0 := 154) (pc' := 20) rfl (hb hby d1_154) (by decide) (by decide) k) ?_
      refine OE.v (fun t k => XS.iload X18.here hx rfl (hb hby d1_20) rfl k) ?_
      refine OE.v (fun t k => XS.iloadN X18.here hx rfl (hb hby d1_22) rfl k) ?_
      show OE _ _ _ _ (T18.setTop (mkF m 23 #[rv ba, rv b1, rv ba, iv 2, iv 2, iv x1, iv (x1 &&& (255 : Int32))] [(.int 2), (.int 2)]))
      refine OE.v (fun t k => XS.icmpYes X18.here hx rfl (pc0 := 23) (pc' := 157) rfl (hb hby d1_23) rfl (flt (by decide)).2.1 (by decide) (by decide) k) ?_
      show OE _ _ _ _ (T18.setTop (mkF m 157 #[rv ba, rv b1, rv ba, iv 2, iv 2, iv x1, iv (x1 &&& (255 : Int32))] []))
      refine OE.v (fun t k => XS.aloadN X18.here hx rfl (hb hby d1_157) rfl rfl k) ?_
      show OE _ _ _ _ (T18.setTop (mkF m 158 #[rv ba, rv b1, rv ba, iv 2, iv 2, iv x1, iv (x1 &&& (255 : Int32))] [(.ref b1)]))
      obtain ⟨cq19, kq19, q19a, q19b, q19c⟩ := isOf hZ e18 q18_0
      obtain ⟨_, _, ⟨T19, L19, k19, n19⟩, -, X19, ⟨Lc19, hQ19, l19, y19, z19⟩, st19⟩ := X18.virtualBack hx (y := (⟨"java/lang/StringBuilder", "toString", "()Ljava/lang/String;"⟩ : MethodName)) (z := (⟨"java/lang/StringBuilder", "toString", "()Ljava/lang/String;"⟩ : MethodName)) hown (mvT hZ (hw _ (own_w 54 rfl))) (mvT hZ (hw _ (own_w 55 rfl))) (notFace_of_selects (args := #[]) (mvT hZ (hw _ (own_w 57 rfl)))) (mvT hZ (hw _ (own_w 57 rfl))) (mvT hZ (hw _ (own_w 56 rfl))) (by decide) (backOf (W := 0) (rm10 l Z a0 hw [] b1 (4 : Int32) vb_3 kv_3 (6 : Int32) [(.int (x0 &&& (255 : Int32))), (.int 37), (.int (own_hx ((x1 &&& (255 : Int32)) >>> ((4 : Int32) &&& 31)))), (.int (own_hx ((x1 &&& (255 : Int32)) &&& (15 : Int32)))), (.int 0), (.int 0), (.int 0), (.int 0), (.int 0)] cs h18 n0 Z18 O18 q18_0 q18_1 q18_2 Fc18 Vc18 ((((q3_5.keep Kq7).keep Kq12).keep Kq15).keep Kq18) (by decide) P2 OP0) hZ (hw _ (own_w 58 rfl)) (hw _ (own_w 7 rfl)) (by decide) (by decide)) q19a q19c (g := (mkF m 158 #[rv ba, rv b1, rv ba, iv 2, iv 2, iv x1, iv (x1 &&& (255 : Int32))] [(.ref b1)])) rfl (by rw [hml]; rfl) (Steps.refl _) (argsL := []) (rest := []) (lenOf pd_16 rfl) rfl (Nat.le_of_eq rfl) (hb hby d1_158) (fun _ _ => ⟨rfl, e18, (by decide : 2 + 2 ≤ _), (by decide : 13 + 13 ≤ _)⟩)
      dsimp only [Pt.U, Pt.locs, Pt.cells, Pt.slots] at X19 l19 y19 z19 st19 hQ19
      subst l19 y19 z19
      obtain ⟨h19, e19⟩ : ∃ z, T19.heap = z := ⟨_, rfl⟩
      rw [e19] at hQ19
      obtain ⟨a_19, sv_19, ks_19, us_19, rfl, Nq19, Kq19, q19_0, q19_1, q19_2, q19_3, q19_4⟩ := hQ19
      have Z19 : n0 ≤ h19.size := Nat.le_trans Z18 Kq19.1
      have K19 : Keep h0 h19 [] := K18.trans Kq19 all0
      have O19 : Old Z n0 h19 := O18.keep Kq19 all0
      have N19 := Fr.app N18 Nq19
      refine OE.v (fun t k => st19.trans k) ?_
      show OE _ _ _ _ (T19.setTop (mkF m 161 #[rv ba, rv b1, rv ba, iv 2, iv 2, iv x1, iv (x1 &&& (255 : Int32))] [(.ref a_19)]))
      obtain ⟨fs, hr, hrun, hended, hW, hsame⟩ := X19.leave (v := some (.ref a_19)) (fun h => by rw [Bd.returns] at h; cases h)
      refine ⟨_, _, ?_, hrun, hended, _, _, rfl, ?_, ⟨_, rfl⟩, hW, hsame.mono (by decide) (by decide)⟩
      · jvm_step X19.here [X19.here.top, hx, (hb hby d1_161), X19.method', Bd.returns, Value.isRef, FieldType.isReference]
        first | (intro acts; rw [hr _ acts rfl rfl rfl]) | rw [hr _ _ rfl rfl rfl]
        exact Steps.refl _
      · show QE2 Z ba kb x0 x1 hxa hc cs h0 n0 _ T19.heap _
        rw [e19]
        exact ⟨a_19, sv_19, ks_19, us_19, (4 : Int32), rfl, N19, K19, q19_0, q19_1, q19_2, q19_3, (by rw [own_e1 hU6, own_e3 hU9]; exact own_made [(.int 0), (.int 0), (.int 0), (.int 0), (.int 0)] q19_4 rfl rfl (by decide))⟩
  ·
    show OE _ _ _ _ (T3.setTop (mkF m 121 #[rv ba, rv b1, rv ba, iv 2, iv 0, iv x0, iv (x0 &&& (255 : Int32))] []))
    refine OE.v (fun t k => XS.aloadN X3.here hx rfl (hb hby d1_121) rfl rfl k) ?_
    refine OE.v (fun t k => XS.bipush X3.here hx rfl (hb hby d1_122) k) ?_
    show OE _ _ _ _ (T3.setTop (mkF m 124 #[rv ba, rv b1, rv ba, iv 2, iv 0, iv x0, iv (x0 &&& (255 : Int32))] [(.int 37), (.ref b1)]))
    obtain ⟨cq20, kq20, q20a, q20b, q20c⟩ := isOf hZ e3 q3_0
    obtain ⟨_, _, ⟨T20, L20, k20, n20⟩, -, X20, ⟨Lc20, hQ20, l20, y20, z20⟩, st20⟩ := X3.virtualBack hx (y := (⟨"java/lang/StringBuilder", "append", "(C)Ljava/lang/StringBuilder;"⟩ : MethodName)) (z := (⟨"java/lang/StringBuilder", "append", "(C)Ljava/lang/StringBuilder;"⟩ : MethodName)) hown (mvT hZ (hw _ (own_w 26 rfl))) (mvT hZ (hw _ (own_w 27 rfl))) (notFace_of_selects (args := #[]) (mvT hZ (hw _ (own_w 29 rfl)))) (mvT hZ (hw _ (own_w 29 rfl))) (mvT hZ (hw _ (own_w 28 rfl))) (by decide) (backOf (W := 0) (rm5 l Z a0 hw [] b1 (37 : Int32) (0 : Int32) vb_3 kv_3 (6 : Int32) [(.int 0), (.int 0), (.int 0), (.int 0), (.int 0), (.int 0), (.int 0), (.int 0), (.int 0)] cs h3 n0 Z3 O3 q3_0 q3_1 q3_2 q3_3 q3_4 ge_b1 q3_7 (Ne.symm ne_b1_vb_3) (by decide) (by decide) ⟨by decide, by decide⟩ (by show (0 : Int32).toNatClampNeg < 9; decide) P2 OP0) hZ (hw _ (own_w 30 rfl)) (hw _ (own_w 7 rfl)) (by decide) (by decide)) q20a q20c (g := (mkF m 124 #[rv ba, rv b1, rv ba, iv 2, iv 0, iv x0, iv (x0 &&& (255 : Int32))] [(.int 37), (.ref b1)])) rfl (by rw [hml]; rfl) (Steps.refl _) (argsL := [(.int 37)]) (rest := []) (lenOf pd_17 rfl) rfl (Nat.le_of_eq rfl) (hb hby d1_124) (fun _ _ => ⟨rfl, e3, (by decide : 2 + 0 ≤ _), (by decide : 13 + 0 ≤ _)⟩)
    dsimp only [Pt.U, Pt.locs, Pt.cells, Pt.slots] at X20 l20 y20 z20 st20 hQ20
    subst l20 y20 z20
    obtain ⟨h20, e20⟩ : ∃ z, T20.heap = z := ⟨_, rfl⟩
    rw [e20] at hQ20
    obtain ⟨rfl, Nq20, Kq20, q20_0, q20_1, q20_2, q20_3, q20_4⟩ := hQ20
    have Z20 : n0 ≤ h20.size := Nat.le_trans Z3 Kq20.1
    have K20 : Keep h0 h20 [] := K3.trans Kq20 (allS (Or.inr sz_b1) (allS (Or.inr sz_vb_3) all0))
    have O20 : Old Z n0 h20 := O3.keep Kq20 (allS ge_b1 (allS q3_7 all0))
    have N20 := Fr.app N3 Nq20
    refine OE.v (fun t k => st20.trans k) ?_
    have Fc20 : Fld Z h20 b1 "java/lang/AbstractStringBuilder" "count" "I" (.int 1) := q20_3
    have Vc20 : Arv Z h20 vb_3 kv_3 .byte (6 : Int32) [(.int 37), (.int 0), (.int 0), (.int 0), (.int 0), (.int 0), (.int 0), (.int 0), (.int 0)] (.int 0) := q20_4
    show OE _ _ _ _ (T20.setTop (mkF m 127 #[rv ba, rv b1, rv ba, iv 2, iv 0, iv x0, iv (x0 &&& (255 : Int32))] [(.ref b1)]))
    obtain ⟨T21, X21, e21, st21⟩ := getS2 X20 hx hZ hown (host := "") (Or.inl (hw _ (own_w 52 rfl))) Via.refl e20 (OP1.ext O20.2) (g := (mkF m 127 #[rv ba, rv b1, rv ba, iv 2, iv 0, iv x0, iv (x0 &&& (255 : Int32))] [(.ref b1)])) rfl (hb hby d1_127)
    refine OE.v st21 ?_
    show OE _ _ _ _ (T21.setTop (mkF m 130 #[rv ba, rv b1, rv ba, iv 2, iv 0, iv x0, iv (x0 &&& (255 : Int32))] [(.ref hxa), (.ref b1)]))
    refine OE.v (fun t k => XS.iload X21.here hx rfl (hb hby d1_130) rfl k) ?_
    refine OE.v (fun t k => XS.iconst X21.here hx rfl (hb hby d1_132) k) ?_
    refine OE.v (fun t k => XS.ishr X21.here hx rfl (hb hby d1_133) rfl k) ?_
    have rg22 := own_16 (own_hi (own_r8 x0))
    have hin22 := inb_of P1.2.1 rg22
    refine OE.v (X21.caload hx (j := ((x0 &&& (255 : Int32)) >>> ((4 : Int32) &&& 31))) (v := .int (own_hx ((x0 &&& (255 : Int32)) >>> ((4 : Int32) &&& 31)))) (by rw [e21]; exact (P1.1.ext O20.2).1) (State.isArrayOf_alike hZ.alike P1.1.2.1) P1.1.2.2 hin22 (P1.2.2 _ rg22.1 rg22.2) (g := (mkF m 134 #[rv ba, rv b1, rv ba, iv 2, iv 0, iv x0, iv (x0 &&& (255 : Int32))] [(.int ((x0 &&& (255 : Int32)) >>> ((4 : Int32) &&& 31))), (.ref hxa), (.ref b1)])) rfl rfl (hb hby d1_134)) ?_
    show OE _ _ _ _ (T21.setTop (mkF m 135 #[rv ba, rv b1, rv ba, iv 2, iv 0, iv x0, iv (x0 &&& (255 : Int32))] [(.int (own_hx ((x0 &&& (255 : Int32)) >>> ((4 : Int32) &&& 31)))), (.ref b1)]))
    obtain ⟨cq23, kq23, q23a, q23b, q23c⟩ := isOf hZ e21 q20_0
    obtain ⟨_, _, ⟨T23, L23, k23, n23⟩, -, X23, ⟨Lc23, hQ23, l23, y23, z23⟩, st23⟩ := X21.virtualBack hx (y := (⟨"java/lang/StringBuilder", "append", "(C)Ljava/lang/StringBuilder;"⟩ : MethodName)) (z := (⟨"java/lang/StringBuilder", "append", "(C)Ljava/lang/StringBuilder;"⟩ : MethodName)) hown (mvT hZ (hw _ (own_w 26 rfl))) (mvT hZ (hw _ (own_w 27 rfl))) (notFace_of_selects (args := #[]) (mvT hZ (hw _ (own_w 29 rfl)))) (mvT hZ (hw _ (own_w 29 rfl))) (mvT hZ (hw _ (own_w 28 rfl))) (by decide) (backOf (W := 0) (rm5 l Z a0 hw [] b1 (own_hx ((x0 &&& (255 : Int32)) >>> ((4 : Int32) &&& 31))) (1 : Int32) vb_3 kv_3 (6 : Int32) [(.int 37), (.int 0), (.int 0), (.int 0), (.int 0), (.int 0), (.int 0), (.int 0), (.int 0)] cs h20 n0 Z20 O20 q20_0 q20_1 q20_2 Fc20 Vc20 ge_b1 q3_7 (Ne.symm ne_b1_vb_3) (own_hr (own_hi (own_r8 x0))) (by decide) ⟨by decide, by decide⟩ (by show (1 : Int32).toNatClampNeg < 9; decide) P2 OP0) hZ (hw _ (own_w 30 rfl)) (hw _ (own_w 7 rfl)) (by decide) (by decide)) q23a q23c (g := (mkF m 135 #[rv ba, rv b1, rv ba, iv 2, iv 0, iv x0, iv (x0 &&& (255 : Int32))] [(.int (own_hx ((x0 &&& (255 : Int32)) >>> ((4 : Int32) &&& 31)))), (.ref b1)])) rfl (by rw [hml]; rfl) (Steps.refl _) (argsL := [(.int (own_hx ((x0 &&& (255 : Int32)) >>> ((4 : Int32) &&& 31))))]) (rest := []) (lenOf pd_17 rfl) rfl (Nat.le_of_eq rfl) (hb hby d1_135) (fun _ _ => ⟨rfl, e21, (by decide : 2 + 0 ≤ _), (by decide : 13 + 0 ≤ _)⟩)
    dsimp only [Pt.U, Pt.locs, Pt.cells, Pt.slots] at X23 l23 y23 z23 st23 hQ23
    subst l23 y23 z23
    obtain ⟨h23, e23⟩ : ∃ z, T23.heap = z := ⟨_, rfl⟩
    rw [e23] at hQ23
    obtain ⟨rfl, Nq23, Kq23, q23_0, q23_1, q23_2, q23_3, q23_4⟩ := hQ23
    have Z23 : n0 ≤ h23.size := Nat.le_trans Z20 Kq23.1
    have K23 : Keep h0 h23 [] := K20.trans Kq23 (allS (Or.inr sz_b1) (allS (Or.inr sz_vb_3) all0))
    have O23 : Old Z n0 h23 := O20.keep Kq23 (allS ge_b1 (allS q3_7 all0))
    have N23 := Fr.app N20 Nq23
    refine OE.v (fun t k => st23.trans k) ?_
    have Fc23 : Fld Z h23 b1 "java/lang/AbstractStringBuilder" "count" "I" (.int 2) := q23_3
    have Vc23 : Arv Z h23 vb_3 kv_3 .byte (6 : Int32) [(.int 37), (.int (own_hx ((x0 &&& (255 : Int32)) >>> ((4 : Int32) &&& 31)))), (.int 0), (.int 0), (.int 0), (.int 0), (.int 0), (.int 0), (.int 0)] (.int 0) := q23_4
    show OE _ _ _ _ (T23.setTop (mkF m 138 #[rv ba, rv b1, rv ba, iv 2, iv 0, iv x0, iv (x0 &&& (255 : Int32))] [(.ref b1)]))
    obtain ⟨T24, X24, e24, st24⟩ := getS2 X23 hx hZ hown (host := "") (Or.inl (hw _ (own_w 52 rfl))) Via.refl e23 (OP1.ext O23.2) (g := (mkF m 138 #[rv ba, rv b1, rv ba, iv 2, iv 0, iv x0, iv (x0 &&& (255 : Int32))] [(.ref b1)])) rfl (hb hby d1_138)
    refine OE.v st24 ?_
    show OE _ _ _ _ (T24.setTop (mkF m 141 #[rv ba, rv b1, rv ba, iv 2, iv 0, iv x0, iv (x0 &&& (255 : Int32))] [(.ref hxa), (.ref b1)]))
    refine OE.v (fun t k => XS.iload X24.here hx rfl (hb hby d1_141) rfl k) ?_
    refine OE.v (fun t k => XS.bipush X24.here hx rfl (hb hby d1_143) k) ?_
    refine OE.v (fun t k => XS.iand X24.here hx rfl (hb hby d1_145) rfl k) ?_
    have rg25 := own_16 (own_lo (x0 &&& (255 : Int32)))
    have hin25 := inb_of P1.2.1 rg25
    refine OE.v (X24.caload hx (j := ((x0 &&& (255 : Int32)) &&& (15 : Int32))) (v := .int (own_hx ((x0 &&& (255 : Int32)) &&& (15 : Int32)))) (by rw [e24]; exact (P1.1.ext O23.2).1) (State.isArrayOf_alike hZ.alike P1.1.2.1) P1.1.2.2 hin25 (P1.2.2 _ rg25.1 rg25.2) (g := (mkF m 146 #[rv ba, rv b1, rv ba, iv 2, iv 0, iv x0, iv (x0 &&& (255 : Int32))] [(.int ((x0 &&& (255 : Int32)) &&& (15 : Int32))), (.ref hxa), (.ref b1)])) rfl rfl (hb hby d1_146)) ?_
    show OE _ _ _ _ (T24.setTop (mkF m 147 #[rv ba, rv b1, rv ba, iv 2, iv 0, iv x0, iv (x0 &&& (255 : Int32))] [(.int (own_hx ((x0 &&& (255 : Int32)) &&& (15 : Int32)))), (.ref b1)]))
    obtain ⟨cq26, kq26, q26a, q26b, q26c⟩ := isOf hZ e24 q23_0
    obtain ⟨_, _, ⟨T26, L26, k26, n26⟩, -, X26, ⟨Lc26, hQ26, l26, y26, z26⟩, st26⟩ := X24.virtualBack hx (y := (⟨"java/lang/StringBuilder", "append", "(C)Ljava/lang/StringBuilder;"⟩ : MethodName)) (z := (⟨"java/lang/StringBuilder", "append", "(C)Ljava/lang/StringBuilder;"⟩ : MethodName)) hown (mvT hZ (hw _ (own_w 26 rfl))) (mvT hZ (hw _ (own_w 27 rfl))) (notFace_of_selects (args := #[]) (mvT hZ (hw _ (own_w 29 rfl)))) (mvT hZ (hw _ (own_w 29 rfl))) (mvT hZ (hw _ (own_w 28 rfl))) (by decide) (backOf (W := 0) (rm5 l Z a0 hw [] b1 (own_hx ((x0 &&& (255 : Int32)) &&& (15 : Int32))) (2 : Int32) vb_3 kv_3 (6 : Int32) [(.int 37), (.int (own_hx ((x0 &&& (255 : Int32)) >>> ((4 : Int32) &&& 31)))), (.int 0), (.int 0), (.int 0), (.int 0), (.int 0), (.int 0), (.int 0)] cs h23 n0 Z23 O23 q23_0 q23_1 q23_2 Fc23 Vc23 ge_b1 q3_7 (Ne.symm ne_b1_vb_3) (own_hr (own_lo (x0 &&& (255 : Int32)))) (by decide) ⟨by decide, by decide⟩ (by show (2 : Int32).toNatClampNeg < 9; decide) P2 OP0) hZ (hw _ (own_w 30 rfl)) (hw _ (own_w 7 rfl)) (by decide) (by decide)) q26a q26c (g := (mkF m 147 #[rv ba, rv b1, rv ba, iv 2, iv 0, iv x0, iv (x0 &&& (255 : Int32))] [(.int (own_hx ((x0 &&& (255 : Int32)) &&& (15 : Int32)))), (.ref b1)])) rfl (by rw [hml]; rfl) (Steps.refl _) (argsL := [(.int (own_hx ((x0 &&& (255 : Int32)) &&& (15 : Int32))))]) (rest := []) (lenOf pd_17 rfl) rfl (Nat.le_of_eq rfl) (hb hby d1_147) (fun _ _ => ⟨rfl, e24, (by decide : 2 + 0 ≤ _), (by decide : 13 + 0 ≤ _)⟩)
    dsimp only [Pt.U, Pt.locs, Pt.cells, Pt.slots] at X26 l26 y26 z26 st26 hQ26
    subst l26 y26 z26
    obtain ⟨h26, e26⟩ : ∃ z, T26.heap = z := ⟨_, rfl⟩
    rw [e26] at hQ26
    obtain ⟨rfl, Nq26, Kq26, q26_0, q26_1, q26_2, q26_3, q26_4⟩ := hQ26
    have Z26 : n0 ≤ h26.size := Nat.le_trans Z23 Kq26.1
    have K26 : Keep h0 h26 [] := K23.trans Kq26 (allS (Or.inr sz_b1) (allS (Or.inr sz_vb_3) all0))
    have O26 : Old Z n0 h26 := O23.keep Kq26 (allS ge_b1 (allS q3_7 all0))
    have N26 := Fr.app N23 Nq26
    refine OE.v (fun t k => st26.trans k) ?_
    have Fc26 : Fld Z h26 b1 "java/lang/AbstractStringBuilder" "count" "I" (.int 3) := q26_3
    have Vc26 : Arv Z h26 vb_3 kv_3 .byte (6 : Int32) [(.int 37), (.int (own_hx ((x0 &&& (255 : Int32)) >>> ((4 : Int32) &&& 31)))), (.int (own_hx ((x0 &&& (255 : Int32)) &&& (15 : Int32)))), (.int 0), (.int 0), (.int 0), (.int 0), (.int 0), (.int 0)] (.int 0) := q26_4
    show OE _ _ _ _ (T26.setTop (mkF m 150 #[rv ba, rv b1, rv ba, iv 2, iv 0, iv x0, iv (x0 &&& (255 : Int32))] [(.ref b1)]))
    refine OE.v (fun t k => XS.pop X26.here hx rfl (hb hby d1_150) rfl rfl k) ?_
    refine OE.v (fun t k => XS.iinc X26.here hx rfl (hb hby d1_151) rfl (l' := #[rv ba, rv b1, rv ba, iv 2, iv 1, iv x0, iv (x0 &&& (255 : Int32))]) rfl k) ?_
    refine OE.v (fun t k => XS.goto X26.here hx rfl (pc0 := 154) (pc' := 20) rfl (hb hby d1_154) (by decide) (by decide) k) ?_
    refine OE.v (fun t k => XS.iload X26.here hx rfl (hb hby d1_20) rfl k) ?_
    refine OE.v (fun t k => XS.iloadN X26.here hx rfl (hb hby d1_22) rfl k) ?_
    show OE _ _ _ _ (T26.setTop (mkF m 23 #[rv ba, rv b1, rv ba, iv 2, iv 1, iv x0, iv (x0 &&& (255 : Int32))] [(.int 2), (.int 1)]))
    refine OE.v (fun t k => XS.icmpNo X26.here hx rfl (hb hby d1_23) rfl (tlt (by decide)).2.1 k) ?_
    show OE _ _ _ _ (T26.setTop (mkF m 26 #[rv ba, rv b1, rv ba, iv 2, iv 1, iv x0, iv (x0 &&& (255 : Int32))] []))
    refine OE.v (fun t k => XS.aloadN X26.here hx rfl (hb hby d1_26) rfl rfl k) ?_
    refine OE.v (fun t k => XS.iload X26.here hx rfl (hb hby d1_27) rfl k) ?_
    show OE _ _ _ _ (T26.setTop (mkF m 29 #[rv ba, rv b1, rv ba, iv 2, iv 1, iv x0, iv (x0 &&& (255 : Int32))] [(.int 1), (.ref ba)]))
    obtain ⟨cl27, Ar27, q27, S27, M27, H27, G27⟩ := id (((((P0.ext E1).keep Kq3 (ninS ne_ba_b1 nin0)).keep Kq20 (ninS ne_ba_b1 (ninS ne_ba_vb_3 nin0))).keep Kq23 (ninS ne_ba_b1 (ninS ne_ba_vb_3 nin0))).keep Kq26 (ninS ne_ba_b1 (ninS ne_ba_vb_3 nin0)))
    have hin27 : ¬ ((1 : Int32) < 0 ∨ cl27.slots.size ≤ ((1 : Int32)).toNatClampNeg) := inb_of S27 ⟨by decide, by decide⟩
    have hat27 : cl27.slots[((1 : Int32)).toNatClampNeg]? = some (.int x1) := H27.at hin27 rfl
    refine OE.v (X26.baloadBytes hx (j := (1 : Int32)) (v := (.int x1)) (by rw [e26]; exact Ar27.1) (State.isArrayOf_alike hZ.alike Ar27.2.1) Ar27.2.2 hin27 hat27 (g := (mkF m 29 #[rv ba, rv b1, rv ba, iv 2, iv 1, iv x0, iv (x0 &&& (255 : Int32))] [(.int 1), (.ref ba)])) rfl rfl (hb hby d1_29)) ?_
    show OE _ _ _ _ (T26.setTop (mkF m 30 #[rv ba, rv b1, rv ba, iv 2, iv 1, iv x0, iv (x0 &&& (255 : Int32))] [(.int x1)]))
    refine OE.v (fun t k => XS.istore X26.here hx rfl (hb hby d1_30) rfl (l' := #[rv ba, rv b1, rv ba, iv 2, iv 1, iv x1, iv (x0 &&& (255 : Int32))]) rfl k) ?_
    refine OE.v (fun t k => XS.iload X26.here hx rfl (hb hby d1_32) rfl k) ?_
    refine OE.v (fun t k => XS.sipush X26.here hx rfl (hb hby d1_34) k) ?_
    refine OE.v (fun t k => XS.iand X26.here hx rfl (hb hby d1_37) rfl k) ?_
    refine OE.v (fun t k => XS.i2c X26.here hx rfl (hb hby d1_38) rfl k) ?_
    show OE _ _ _ _ (T26.setTop (mkF m 39 #[rv ba, rv b1, rv ba, iv 2, iv 1, iv x1, iv (x0 &&& (255 : Int32))] [(.int ((x1 &&& (255 : Int32)).toUInt32.toUInt16.toUInt32.toInt32))]))
    rw [own_cx x1]
    refine OE.v (fun t k => XS.istore X26.here hx rfl (hb hby d1_39) rfl (l' := #[rv ba, rv b1, rv ba, iv 2, iv 1, iv x1, iv (x1 &&& (255 : Int32))]) rfl k) ?_
    show OE _ _ _ _ (T26.setTop (mkF m 41 #[rv ba, rv b1, rv ba, iv 2, iv 1, iv x1, iv (x1 &&& (255 : Int32))] []))
    refine own_chain X26 hx hby ba b1 (2 : Int32) (1 : Int32) x1 (x1 &&& (255 : Int32)) (fun hU28 => ?_) (fun hU28 => ?_)
    ·
      show OE _ _ _ _ (T26.setTop (mkF m 111 #[rv ba, rv b1, rv ba, iv 2, iv 1, iv x1, iv (x1 &&& (255 : Int32))] []))
      refine OE.v (fun t k => XS.aloadN X26.here hx rfl (hb hby d1_111) rfl rfl k) ?_
      refine OE.v (fun t k => XS.iload X26.here hx rfl (hb hby d1_112) rfl k) ?_
      show OE _ _ _ _ (T26.setTop (mkF m 114 #[rv ba, rv b1, rv ba, iv 2, iv 1, iv x1, iv (x1 &&& (255 : Int32))] [(.int (x1 &&& (255 : Int32))), (.ref b1)]))
      obtain ⟨cq29, kq29, q29a, q29b, q29c⟩ := isOf hZ e26 q26_0
      obtain ⟨_, _, ⟨T29, L29, k29, n29⟩, -, X29, ⟨Lc29, hQ29, l29, y29, z29⟩, st29⟩ := X26.virtualBack hx (y := (⟨"java/lang/StringBuilder", "append", "(C)Ljava/lang/StringBuilder;"⟩ : MethodName)) (z := (⟨"java/lang/StringBuilder", "append", "(C)Ljava/lang/StringBuilder;"⟩ : MethodName)) hown (mvT hZ (hw _ (own_w 26 rfl))) (mvT hZ (hw _ (own_w 27 rfl))) (notFace_of_selects (args := #[]) (mvT hZ (hw _ (own_w 29 rfl)))) (mvT hZ (hw _ (own_w 29 rfl))) (mvT hZ (hw _ (own_w 28 rfl))) (by decide) (backOf (W := 0) (rm5 l Z a0 hw [] b1 (x1 &&& (255 : Int32)) (3 : Int32) vb_3 kv_3 (6 : Int32) [(.int 37), (.int (own_hx ((x0 &&& (255 : Int32)) >>> ((4 : Int32) &&& 31)))), (.int (own_hx ((x0 &&& (255 : Int32)) &&& (15 : Int32)))), (.int 0), (.int 0), (.int 0), (.int 0), (.int 0), (.int 0)] cs h26 n0 Z26 O26 q26_0 q26_1 q26_2 Fc26 Vc26 ge_b1 q3_7 (Ne.symm ne_b1_vb_3) (own_ur hU28) (by decide) ⟨by decide, by decide⟩ (by show (3 : Int32).toNatClampNeg < 9; decide) P2 OP0) hZ (hw _ (own_w 30 rfl)) (hw _ (own_w 7 rfl)) (by decide) (by decide)) q29a q29c (g := (mkF m 114 #[rv ba, rv b1, rv ba, iv 2, iv 1, iv x1, iv (x1 &&& (255 : Int32))] [(.int (x1 &&& (255 : Int32))), (.ref b1)])) rfl (by rw [hml]; rfl) (Steps.refl _) (argsL := [(.int (x1 &&& (255 : Int32)))]) (rest := []) (lenOf pd_17 rfl) rfl (Nat.le_of_eq rfl) (hb hby d1_114) (fun _ _ => ⟨rfl, e26, (by decide : 2 + 0 ≤ _), (by decide : 13 + 0 ≤ _)⟩)
      dsimp only [Pt.U, Pt.locs, Pt.cells, Pt.slots] at X29 l29 y29 z29 st29 hQ29
      subst l29 y29 z29
      obtain ⟨h29, e29⟩ : ∃ z, T29.heap = z := ⟨_, rfl⟩
      rw [e29] at hQ29
      obtain ⟨rfl, Nq29, Kq29, q29_0, q29_1, q29_2, q29_3, q29_4⟩ := hQ29
      have Z29 : n0 ≤ h29.size := Nat.le_trans Z26 Kq29.1
      have K29 : Keep h0 h29 [] := K26.trans Kq29 (allS (Or.inr sz_b1) (allS (Or.inr sz_vb_3) all0))
      have O29 : Old Z n0 h29 := O26.keep Kq29 (allS ge_b1 (allS q3_7 all0))
      have N29 := Fr.app N26 Nq29
      refine OE.v (fun t k => st29.trans k) ?_
      have Fc29 : Fld Z h29 b1 "java/lang/AbstractStringBuilder" "count" "I" (.int 4) := q29_3
      have Vc29 : Arv Z h29 vb_3 kv_3 .byte (6 : Int32) [(.int 37), (.int (own_hx ((x0 &&& (255 : Int32)) >>> ((4 : Int32) &&& 31)))), (.int (own_hx ((x0 &&& (255 : Int32)) &&& (15 : Int32)))), (.int (x1 &&& (255 : Int32))), (.int 0), (.int 0), (.int 0), (.int 0), (.int 0)] (.int 0) := q29_4
      show OE _ _ _ _ (T29.setTop (mkF m 117 #[rv ba, rv b1, rv ba, iv 2, iv 1, iv x1, iv (x1 &&& (255 : Int32))] [(.ref b1)]))
      refine OE.v (fun t k => XS.pop X29.here hx rfl (hb hby d1_117) rfl rfl k) ?_
      refine OE.v (fun t k => XS.goto X29.here hx rfl (pc0 := 118) (pc' := 151) rfl (hb hby d1_118) (by decide) (by decide) k) ?_
      refine OE.v (fun t k => XS.iinc X29.here hx rfl (hb hby d1_151) rfl (l' := #[rv ba, rv b1, rv ba, iv 2, iv 2, iv x1, iv (x1 &&& (255 : Int32))]) rfl k) ?_
      refine OE.v (fun t k => XS.goto X29.here hx rfl (pc0 := 154) (pc' := 20) rfl (hb hby d1_154) (by decide) (by decide) k) ?_
      refine OE.v (fun t k => XS.iload X29.here hx rfl (hb hby d1_20) rfl k) ?_
      refine OE.v (fun t k => XS.iloadN X29.here hx rfl (hb hby d1_22) rfl k) ?_
      show OE _ _ _ _ (T29.setTop (mkF m 23 #[rv ba, rv b1, rv ba, iv 2, iv 2, iv x1, iv (x1 &&& (255 : Int32))] [(.int 2), (.int 2)]))
      refine OE.v (fun t k => XS.icmpYes X29.here hx rfl (pc0 := 23) (pc' := 157) rfl (hb hby d1_23) rfl (flt (by decide)).2.1 (by decide) (by decide) k) ?_
      show OE _ _ _ _ (T29.setTop (mkF m 157 #[rv ba, rv b1, rv ba, iv 2, iv 2, iv x1, iv (x1 &&& (255 : Int32))] []))
      refine OE.v (fun t k => XS.aloadN X29.here hx rfl (hb hby d1_157) rfl rfl k) ?_
      show OE _ _ _ _ (T29.setTop (mkF m 158 #[rv ba, rv b1, rv ba, iv 2, iv 2, iv x1, iv (x1 &&& (255 : Int32))] [(.ref b1)]))
      obtain ⟨cq30, kq30, q30a, q30b, q30c⟩ := isOf hZ e29 q29_0
      obtain ⟨_, _, ⟨T30, L30, k30, n30⟩, -, X30, ⟨Lc30, hQ30, l30, y30, z30⟩, st30⟩ := X29.virtualBack hx (y := (⟨"java/lang/StringBuilder", "toString", "()Ljava/lang/String;"⟩ : MethodName)) (z := (⟨"java/lang/StringBuilder", "toString", "()Ljava/lang/String;"⟩ : MethodName)) hown (mvT hZ (hw _ (own_w 54 rfl))) (mvT hZ (hw _ (own_w 55 rfl))) (notFace_of_selects (args := #[]) (mvT hZ (hw _ (own_w 57 rfl)))) (mvT hZ (hw _ (own_w 57 rfl))) (mvT hZ (hw _ (own_w 56 rfl))) (by decide) (backOf (W := 0) (rm10 l Z a0 hw [] b1 (4 : Int32) vb_3 kv_3 (6 : Int32) [(.int 37), (.int (own_hx ((x0 &&& (255 : Int32)) >>> ((4 : Int32) &&& 31)))), (.int (own_hx ((x0 &&& (255 : Int32)) &&& (15 : Int32)))), (.int (x1 &&& (255 : Int32))), (.int 0), (.int 0), (.int 0), (.int 0), (.int 0)] cs h29 n0 Z29 O29 q29_0 q29_1 q29_2 Fc29 Vc29 ((((q3_5.keep Kq20).keep Kq23).keep Kq26).keep Kq29) (by decide) P2 OP0) hZ (hw _ (own_w 58 rfl)) (hw _ (own_w 7 rfl)) (by decide) (by decide)) q30a q30c (g := (mkF m 158 #[rv ba, rv b1, rv ba, iv 2, iv 2, iv x1, iv (x1 &&& (255 : Int32))] [(.ref b1)])) rfl (by rw [hml]; rfl) (Steps.refl _) (argsL := []) (rest := []) (lenOf pd_16 rfl) rfl (Nat.le_of_eq rfl) (hb hby d1_158) (fun _ _ => ⟨rfl, e29, (by decide : 2 + 2 ≤ _), (by decide : 13 + 13 ≤ _)⟩)
      dsimp only [Pt.U, Pt.locs, Pt.cells, Pt.slots] at X30 l30 y30 z30 st30 hQ30
      subst l30 y30 z30
      obtain ⟨h30, e30⟩ : ∃ z, T30.heap = z := ⟨_, rfl⟩
      rw [e30] at hQ30
      obtain ⟨a_30, sv_30, ks_30, us_30, rfl, Nq30, Kq30, q30_0, q30_1, q30_2, q30_3, q30_4⟩ := hQ30
      have Z30 : n0 ≤ h30.size := Nat.le_trans Z29 Kq30.1
      have K30 : Keep h0 h30 [] := K29.trans Kq30 all0
      have O30 : Old Z n0 h30 := O29.keep Kq30 all0
      have N30 := Fr.app N29 Nq30
      refine OE.v (fun t k => st30.trans k) ?_
      show OE _ _ _ _ (T30.setTop (mkF m 161 #[rv ba, rv b1, rv ba, iv 2, iv 2, iv x1, iv (x1 &&& (255 : Int32))] [(.ref a_30)]))
      obtain ⟨fs, hr, hrun, hended, hW, hsame⟩ := X30.leave (v := some (.ref a_30)) (fun h => by rw [Bd.returns] at h; cases h)
      refine ⟨_, _, ?_, hrun, hended, _, _, rfl, ?_, ⟨_, rfl⟩, hW, hsame.mono (by decide) (by decide)⟩
      · jvm_step X30.here [X30.here.top, hx, (hb hby d1_161), X30.method', Bd.returns, Value.isRef, FieldType.isReference]
        first | (intro acts; rw [hr _ acts rfl rfl rfl]) | rw [hr _ _ rfl rfl rfl]
        exact Steps.refl _
      · show QE2 Z ba kb x0 x1 hxa hc cs h0 n0 _ T30.heap _
        rw [e30]
        exact ⟨a_30, sv_30, ks_30, us_30, (4 : Int32), rfl, N30, K30, q30_0, q30_1, q30_2, q30_3, (by rw [own_e3 hU6, own_e1 hU28]; exact own_made [(.int 0), (.int 0), (.int 0), (.int 0), (.int 0)] q30_4 rfl rfl (by decide))⟩
    ·
      show OE _ _ _ _ (T26.setTop (mkF m 121 #[rv ba, rv b1, rv ba, iv 2, iv 1, iv x1, iv (x1 &&& (255 : Int32))] []))
      refine OE.v (fun t k => XS.aloadN X26.here hx rfl (hb hby d1_121) rfl rfl k) ?_
      refine OE.v (fun t k => XS.bipush X26.here hx rfl (hb hby d1_122) k) ?_
      show OE _ _ _ _ (T26.setTop (mkF m 124 #[rv ba, rv b1, rv ba, iv 2, iv 1, iv x1, iv (x1 &&& (255 : Int32))] [(.int 37), (.ref b1)]))
      obtain ⟨cq31, kq31, q31a, q31b, q31c⟩ := isOf hZ e26 q26_0
      obtain ⟨_, _, ⟨T31, L31, k31, n31⟩, -, X31, ⟨Lc31, hQ31, l31, y31, z31⟩, st31⟩ := X26.virtualBack hx (y := (⟨"java/lang/StringBuilder", "append", "(C)Ljava/lang/StringBuilder;"⟩ : MethodName)) (z := (⟨"java/lang/StringBuilder", "append", "(C)Ljava/lang/StringBuilder;"⟩ : MethodName)) hown (mvT hZ (hw _ (own_w 26 rfl))) (mvT hZ (hw _ (own_w 27 rfl))) (notFace_of_selects (args := #[]) (mvT hZ (hw _ (own_w 29 rfl)))) (mvT hZ (hw _ (own_w 29 rfl))) (mvT hZ (hw _ (own_w 28 rfl))) (by decide) (backOf (W := 0) (rm5 l Z a0 hw [] b1 (37 : Int32) (3 : Int32) vb_3 kv_3 (6 : Int32) [(.int 37), (.int (own_hx ((x0 &&& (255 : Int32)) >>> ((4 : Int32) &&& 31)))), (.int (own_hx ((x0 &&& (255 : Int32)) &&& (15 : Int32)))), (.int 0), (.int 0), (.int 0), (.int 0), (.int 0), (.int 0)] cs h26 n0 Z26 O26 q26_0 q26_1 q26_2 Fc26 Vc26 ge_b1 q3_7 (Ne.symm ne_b1_vb_3) (by decide) (by decide) ⟨by decide, by decide⟩ (by show (3 : Int32).toNatClampNeg < 9; decide) P2 OP0) hZ (hw _ (own_w 30 rfl)) (hw _ (own_w 7 rfl)) (by decide) (by decide)) q31a q31c (g := (mkF m 124 #[rv ba, rv b1, rv ba, iv 2, iv 1, iv x1, iv (x1 &&& (255 : Int32))] [(.int 37), (.ref b1)])) rfl (by rw [hml]; rfl) (Steps.refl _) (argsL := [(.int 37)]) (rest := []) (lenOf pd_17 rfl) rfl (Nat.le_of_eq rfl) (hb hby d1_124) (fun _ _ => ⟨rfl, e26, (by decide : 2 + 0 ≤ _), (by decide : 13 + 0 ≤ _)⟩)
      dsimp only [Pt.U, Pt.locs, Pt.cells, Pt.slots] at X31 l31 y31 z31 st31 hQ31
      subst l31 y31 z31
      obtain ⟨h31, e31⟩ : ∃ z, T31.heap = z := ⟨_, rfl⟩
      rw [e31] at hQ31
      obtain ⟨rfl, Nq31, Kq31, q31_0, q31_1, q31_2, q31_3, q31_4⟩ := hQ31
      have Z31 : n0 ≤ h31.size := Nat.le_trans Z26 Kq31.1
      have K31 : Keep h0 h31 [] := K26.trans Kq31 (allS (Or.inr sz_b1) (allS (Or.inr sz_vb_3) all0))
      have O31 : Old Z n0 h31 := O26.keep Kq31 (allS ge_b1 (allS q3_7 all0))
      have N31 := Fr.app N26 Nq31
      refine OE.v (fun t k => st31.trans k) ?_
      have Fc31 : Fld Z h31 b1 "java/lang/AbstractStringBuilder" "count" "I" (.int 4) := q31_3
      have Vc31 : Arv Z h31 vb_3 kv_3 .byte (6 : Int32) [(.int 37), (.int (own_hx ((x0 &&& (255 : Int32)) >>> ((4 : Int32) &&& 31)))), (.int (own_hx ((x0 &&& (255 : Int32)) &&& (15 : Int32)))), (.int 37), (.int 0), (.int 0), (.int 0), (.int 0), (.int 0)] (.int 0) := q31_4
      show OE _ _ _ _ (T31.setTop (mkF m 127 #[rv ba, rv b1, rv ba, iv 2, iv 1, iv x1, iv (x1 &&& (255 : Int32))] [(.ref b1)]))
      obtain ⟨T32, X32, e32, st32⟩ := getS2 X31 hx hZ hown (host := "") (Or.inl (hw _ (own_w 52 rfl))) Via.refl e31 (OP1.ext O31.2) (g := (mkF m 127 #[rv ba, rv b1, rv ba, iv 2, iv 1, iv x1, iv (x1 &&& (255 : Int32))] [(.ref b1)])) rfl (hb hby d1_127)
      refine OE.v st32 ?_
      show OE _ _ _ _ (T32.setTop (mkF m 130 #[rv ba, rv b1, rv ba, iv 2, iv 1, iv x1, iv (x1 &&& (255 : Int32))] [(.ref hxa), (.ref b1)]))
      refine OE.v (fun t k => XS.iload X32.here hx rfl (hb hby d1_130) rfl k) ?_
      refine OE.v (fun t k => XS.iconst X32.here hx rfl (hb hby d1_132) k) ?_
      refine OE.v (fun t k => XS.ishr X32.here hx rfl (hb hby d1_133) rfl k) ?_
      have rg33 := own_16 (own_hi (own_r8 x1))
      have hin33 := inb_of P1.2.1 rg33
      refine OE.v (X32.caload hx (j := ((x1 &&& (255 : Int32)) >>> ((4 : Int32) &&& 31))) (v := .int (own_hx ((x1 &&& (255 : Int32)) >>> ((4 : Int32) &&& 31)))) (by rw [e32]; exact (P1.1.ext O31.2).1) (State.isArrayOf_alike hZ.alike P1.1.2.1) P1.1.2.2 hin33 (P1.2.2 _ rg33.1 rg33.2) (g := (mkF m 134 #[rv ba, rv b1, rv ba, iv 2, iv 1, iv x1, iv (x1 &&& (255 : Int32))] [(.int ((x1 &&& (255 : Int32)) >>> ((4 : Int32) &&& 31))), (.ref hxa), (.ref b1)])) rfl rfl (hb hby d1_134)) ?_
      show OE _ _ _ _ (T32.setTop (mkF m 135 #[rv ba, rv b1, rv ba, iv 2, iv 1, iv x1, iv (x1 &&& (255 : Int32))] [(.int (own_hx ((x1 &&& (255 : Int32)) >>> ((4 : Int32) &&& 31)))), (.ref b1)]))
      obtain ⟨cq34, kq34, q34a, q34b, q34c⟩ := isOf hZ e32 q31_0
      obtain ⟨_, _, ⟨T34, L34, k34, n34⟩, -, X34, ⟨Lc34, hQ34, l34, y34, z34⟩, st34⟩ := X32.virtualBack hx (y := (⟨"java/lang/StringBuilder", "append", "(C)Ljava/lang/StringBuilder;"⟩ : MethodName)) (z := (⟨"java/lang/StringBuilder", "append", "(C)Ljava/lang/StringBuilder;"⟩ : MethodName)) hown (mvT hZ (hw _ (own_w 26 rfl))) (mvT hZ (hw _ (own_w 27 rfl))) (notFace_of_selects (args := #[]) (mvT hZ (hw _ (own_w 29 rfl)))) (mvT hZ (hw _ (own_w 29 rfl))) (mvT hZ (hw _ (own_w 28 rfl))) (by decide) (backOf (W := 0) (rm5 l Z a0 hw [] b1 (own_hx ((x1 &&& (255 : Int32)) >>> ((4 : Int32) &&& 31))) (4 : Int32) vb_3 kv_3 (6 : Int32) [(.int 37), (.int (own_hx ((x0 &&& (255 : Int32)) >>> ((4 : Int32) &&& 31)))), (.int (own_hx ((x0 &&& (255 : Int32)) &&& (15 : Int32)))), (.int 37), (.int 0), (.int 0), (.int 0), (.int 0), (.int 0)] cs h31 n0 Z31 O31 q31_0 q31_1 q31_2 Fc31 Vc31 ge_b1 q3_7 (Ne.symm ne_b1_vb_3) (own_hr (own_hi (own_r8 x1))) (by decide) ⟨by decide, by decide⟩ (by show (4 : Int32).toNatClampNeg < 9; decide) P2 OP0) hZ (hw _ (own_w 30 rfl)) (hw _ (own_w 7 rfl)) (by decide) (by decide)) q34a q34c (g := (mkF m 135 #[rv ba, rv b1, rv ba, iv 2, iv 1, iv x1, iv (x1 &&& (255 : Int32))] [(.int (own_hx ((x1 &&& (255 : Int32)) >>> ((4 : Int32) &&& 31)))), (.ref b1)])) rfl (by rw [hml]; rfl) (Steps.refl _) (argsL := [(.int (own_hx ((x1 &&& (255 : Int32)) >>> ((4 : Int32) &&& 31))))]) (rest := []) (lenOf pd_17 rfl) rfl (Nat.le_of_eq rfl) (hb hby d1_135) (fun _ _ => ⟨rfl, e32, (by decide : 2 + 0 ≤ _), (by decide : 13 + 0 ≤ _)⟩)
      dsimp only [Pt.U, Pt.locs, Pt.cells, Pt.slots] at X34 l34 y34 z34 st34 hQ34
      subst l34 y34 z34
      obtain ⟨h34, e34⟩ : ∃ z, T34.heap = z := ⟨_, rfl⟩
      rw [e34] at hQ34
      obtain ⟨rfl, Nq34, Kq34, q34_0, q34_1, q34_2, q34_3, q34_4⟩ := hQ34
      have Z34 : n0 ≤ h34.size := Nat.le_trans Z31 Kq34.1
      have K34 : Keep h0 h34 [] := K31.trans Kq34 (allS (Or.inr sz_b1) (allS (Or.inr sz_vb_3) all0))
      have O34 : Old Z n0 h34 := O31.keep Kq34 (allS ge_b1 (allS q3_7 all0))
      have N34 := Fr.app N31 Nq34
      refine OE.v (fun t k => st34.trans k) ?_
      have Fc34 : Fld Z h34 b1 "java/lang/AbstractStringBuilder" "count" "I" (.int 5) := q34_3
      have Vc34 : Arv Z h34 vb_3 kv_3 .byte (6 : Int32) [(.int 37), (.int (own_hx ((x0 &&& (255 : Int32)) >>> ((4 : Int32) &&& 31)))), (.int (own_hx ((x0 &&& (255 : Int32)) &&& (15 : Int32)))), (.int 37), (.int (own_hx ((x1 &&& (255 : Int32)) >>> ((4 : Int32) &&& 31)))), (.int 0), (.int 0), (.int 0), (.int 0)] (.int 0) := q34_4
      show OE _ _ _ _ (T34.setTop (mkF m 138 #[rv ba, rv b1, rv ba, iv 2, iv 1, iv x1, iv (x1 &&& (255 : Int32))] [(.ref b1)]))
      obtain ⟨T35, X35, e35, st35⟩ := getS2 X34 hx hZ hown (host := "") (Or.inl (hw _ (own_w 52 rfl))) Via.refl e34 (OP1.ext O34.2) (g := (mkF m 138 #[rv ba, rv b1, rv ba, iv 2, iv 1, iv x1, iv (x1 &&& (255 : Int32))] [(.ref b1)])) rfl (hb hby d1_138)
      refine OE.v st35 ?_
      show OE _ _ _ _ (T35.setTop (mkF m 141 #[rv ba, rv b1, rv ba, iv 2, iv 1, iv x1, iv (x1 &&& (255 : Int32))] [(.ref hxa), (.ref b1)]))
      refine OE.v (fun t k => XS.iload X35.here hx rfl (hb hby d1_141) rfl k) ?_
      refine OE.v (fun t k => XS.bipush X35.here hx rfl (hb hby d1_143) k) ?_
      refine OE.v (fun t k => XS.iand X35.here hx rfl (hb hby d1_145) rfl k) ?_
      have rg36 := own_16 (own_lo (x1 &&& (255 : Int32)))
      have hin36 := inb_of P1.2.1 rg36
      refine OE.v (X35.caload hx (j := ((x1 &&& (255 : Int32)) &&& (15 : Int32))) (v := .int (own_hx ((x1 &&& (255 : Int32)) &&& (15 : Int32)))) (by rw [e35]; exact (P1.1.ext O34.2).1) (State.isArrayOf_alike hZ.alike P1.1.2.1) P1.1.2.2 hin36 (P1.2.2 _ rg36.1 rg36.2) (g := (mkF m 146 #[rv ba, rv b1, rv ba, iv 2, iv 1, iv x1, iv (x1 &&& (255 : Int32))] [(.int ((x1 &&& (255 : Int32)) &&& (15 : Int32))), (.ref hxa), (.ref b1)])) rfl rfl (hb hby d1_146)) ?_
      show OE _ _ _ _ (T35.setTop (mkF m 147 #[rv ba, rv b1, rv ba, iv 2, iv 1, iv x1, iv (x1 &&& (255 : Int32))] [(.int (own_hx ((x1 &&& (255 : Int32)) &&& (15 : Int32)))), (.ref b1)]))
      obtain ⟨cq37, kq37, q37a, q37b, q37c⟩ := isOf hZ e35 q34_0
      obtain ⟨_, _, ⟨T37, L37, k37, n37⟩, -, X37, ⟨Lc37, hQ37, l37, y37, z37⟩, st37⟩ := X35.virtualBack hx (y := (⟨"java/lang/StringBuilder", "append", "(C)Ljava/lang/StringBuilder;"⟩ : MethodName)) (z := (⟨"java/lang/StringBuilder", "append", "(C)Ljava/lang/StringBuilder;"⟩ : MethodName)) hown (mvT hZ (hw _ (own_w 26 rfl))) (mvT hZ (hw _ (own_w 27 rfl))) (notFace_of_selects (args := #[]) (mvT hZ (hw _ (own_w 29 rfl)))) (mvT hZ (hw _ (own_w 29 rfl))) (mvT hZ (hw _ (own_w 28 rfl))) (by decide) (backOf (W := 0) (rm5 l Z a0 hw [] b1 (own_hx ((x1 &&& (255 : Int32)) &&& (15 : Int32))) (5 : Int32) vb_3 kv_3 (6 : Int32) [(.int 37), (.int (own_hx ((x0 &&& (255 : Int32)) >>> ((4 : Int32) &&& 31)))), (.int (own_hx ((x0 &&& (255 : Int32)) &&& (15 : Int32)))), (.int 37), (.int (own_hx ((x1 &&& (255 : Int32)) >>> ((4 : Int32) &&& 31)))), (.int 0), (.int 0), (.int 0), (.int 0)] cs h34 n0 Z34 O34 q34_0 q34_1 q34_2 Fc34 Vc34 ge_b1 q3_7 (Ne.symm ne_b1_vb_3) (own_hr (own_lo (x1 &&& (255 : Int32)))) (by decide) ⟨by decide, by decide⟩ (by show (5 : Int32).toNatClampNeg < 9; decide) P2 OP0) hZ (hw _ (own_w 30 rfl)) (hw _ (own_w 7 rfl)) (by decide) (by decide)) q37a q37c (g := (mkF m 147 #[rv ba, rv b1, rv ba, iv 2, iv 1, iv x1, iv (x1 &&& (255 : Int32))] [(.int (own_hx ((x1 &&& (255 : Int32)) &&& (15 : Int32)))), (.ref b1)])) rfl (by rw [hml]; rfl) (Steps.refl _) (argsL := [(.int (own_hx ((x1 &&& (255 : Int32)) &&& (15 : Int32))))]) (rest := []) (lenOf pd_17 rfl) rfl (Nat.le_of_eq rfl) (hb hby d1_147) (fun _ _ => ⟨rfl, e35, (by decide : 2 + 0 ≤ _), (by decide : 13 + 0 ≤ _)⟩)
      dsimp only [Pt.U, Pt.locs, Pt.cells, Pt.slots] at X37 l37 y37 z37 st37 hQ37
      subst l37 y37 z37
      obtain ⟨h37, e37⟩ : ∃ z, T37.heap = z := ⟨_, rfl⟩
      rw [e37] at hQ37
      obtain ⟨rfl, Nq37, Kq37, q37_0, q37_1, q37_2, q37_3, q37_4⟩ := hQ37
      have Z37 : n0 ≤ h37.size := Nat.le_trans Z34 Kq37.1
      have K37 : Keep h0 h37 [] := K34.trans Kq37 (allS (Or.inr sz_b1) (allS (Or.inr sz_vb_3) all0))
      have O37 : Old Z n0 h37 := O34.keep Kq37 (allS ge_b1 (allS q3_7 all0))
      have N37 := Fr.app N34 Nq37
      refine OE.v (fun t k => st37.trans k) ?_
      have Fc37 : Fld Z h37 b1 "java/lang/AbstractStringBuilder" "count" "I" (.int 6) := q37_3
      have Vc37 : Arv Z h37 vb_3 kv_3 .byte (6 : Int32) [(.int 37), (.int (own_hx ((x0 &&& (255 : Int32)) >>> ((4 : Int32) &&& 31)))), (.int (own_hx ((x0 &&& (255 : Int32)) &&& (15 : Int32)))), (.int 37), (.int (own_hx ((x1 &&& (255 : Int32)) >>> ((4 : Int32) &&& 31)))), (.int (own_hx ((x1 &&& (255 : Int32)) &&& (15 : Int32)))), (.int 0), (.int 0), (.int 0)] (.int 0) := q37_4
      show OE _ _ _ _ (T37.setTop (mkF m 150 #[rv ba, rv b1, rv ba, iv 2, iv 1, iv x1, iv (x1 &&& (255 : Int32))] [(.ref b1)]))
      refine OE.v (fun t k => XS.pop X37.here hx rfl (hb hby d1_150) rfl rfl k) ?_
      refine OE.v (fun t k => XS.iinc X37.here hx rfl (hb hby d1_151) rfl (l' := #[rv ba, rv b1, rv ba, iv 2, iv 2, iv x1, iv (x1 &&& (255 : Int32))]) rfl k) ?_
      refine OE.v (fun t k => XS.goto X37.here hx rfl (pc0 := 154) (pc' := 20) rfl (hb hby d1_154) (by decide) (by decide) k) ?_
      refine OE.v (fun t k => XS.iload X37.here hx rfl (hb hby d1_20) rfl k) ?_
      refine OE.v (fun t k => XS.iloadN X37.here hx rfl (hb hby d1_22) rfl k) ?_
      show OE _ _ _ _ (T37.setTop (mkF m 23 #[rv ba, rv b1, rv ba, iv 2, iv 2, iv x1, iv (x1 &&& (255 : Int32))] [(.int 2), (.int 2)]))
      refine OE.v (fun t k => XS.icmpYes X37.here hx rfl (pc0 := 23) (pc' := 157) rfl (hb hby d1_23) rfl (flt (by decide)).2.1 (by decide) (by decide) k) ?_
      show OE _ _ _ _ (T37.setTop (mkF m 157 #[rv ba, rv b1, rv ba, iv 2, iv 2, iv x1, iv (x1 &&& (255 : Int32))] []))
      refine OE.v (fun t k => XS.aloadN X37.here hx rfl (hb hby d1_157) rfl rfl k) ?_
      show OE _ _ _ _ (T37.setTop (mkF m 158 #[rv ba, rv b1, rv ba, iv 2, iv 2, iv x1, iv (x1 &&& (255 : Int32))] [(.ref b1)]))
      obtain ⟨cq38, kq38, q38a, q38b, q38c⟩ := isOf hZ e37 q37_0
      obtain ⟨_, _, ⟨T38, L38, k38, n38⟩, -, X38, ⟨Lc38, hQ38, l38, y38, z38⟩, st38⟩ := X37.virtualBack hx (y := (⟨"java/lang/StringBuilder", "toString", "()Ljava/lang/String;"⟩ : MethodName)) (z := (⟨"java/lang/StringBuilder", "toString", "()Ljava/lang/String;"⟩ : MethodName)) hown (mvT hZ (hw _ (own_w 54 rfl))) (mvT hZ (hw _ (own_w 55 rfl))) (notFace_of_selects (args := #[]) (mvT hZ (hw _ (own_w 57 rfl)))) (mvT hZ (hw _ (own_w 57 rfl))) (mvT hZ (hw _ (own_w 56 rfl))) (by decide) (backOf (W := 0) (rm10 l Z a0 hw [] b1 (6 : Int32) vb_3 kv_3 (6 : Int32) [(.int 37), (.int (own_hx ((x0 &&& (255 : Int32)) >>> ((4 : Int32) &&& 31)))), (.int (own_hx ((x0 &&& (255 : Int32)) &&& (15 : Int32)))), (.int 37), (.int (own_hx ((x1 &&& (255 : Int32)) >>> ((4 : Int32) &&& 31)))), (.int (own_hx ((x1 &&& (255 : Int32)) &&& (15 : Int32)))), (.int 0), (.int 0), (.int 0)] cs h37 n0 Z37 O37 q37_0 q37_1 q37_2 Fc37 Vc37 ((((((q3_5.keep Kq20).keep Kq23).keep Kq26).keep Kq31).keep Kq34).keep Kq37) (by decide) P2 OP0) hZ (hw _ (own_w 58 rfl)) (hw _ (own_w 7 rfl)) (by decide) (by decide)) q38a q38c (g := (mkF m 158 #[rv ba, rv b1, rv ba, iv 2, iv 2, iv x1, iv (x1 &&& (255 : Int32))] [(.ref b1)])) rfl (by rw [hml]; rfl) (Steps.refl _) (argsL := []) (rest := []) (lenOf pd_16 rfl) rfl (Nat.le_of_eq rfl) (hb hby d1_158) (fun _ _ => ⟨rfl, e37, (by decide : 2 + 2 ≤ _), (by decide : 13 + 13 ≤ _)⟩)
      dsimp only [Pt.U, Pt.locs, Pt.cells, Pt.slots] at X38 l38 y38 z38 st38 hQ38
      subst l38 y38 z38
      obtain ⟨h38, e38⟩ : ∃ z, T38.heap = z := ⟨_, rfl⟩
      rw [e38] at hQ38
      obtain ⟨a_38, sv_38, ks_38, us_38, rfl, Nq38, Kq38, q38_0, q38_1, q38_2, q38_3, q38_4⟩ := hQ38
      have Z38 : n0 ≤ h38.size := Nat.le_trans Z37 Kq38.1
      have K38 : Keep h0 h38 [] := K37.trans Kq38 all0
      have O38 : Old Z n0 h38 := O37.keep Kq38 all0
      have N38 := Fr.app N37 Nq38
      refine OE.v (fun t k => st38.trans k) ?_
      show OE _ _ _ _ (T38.setTop (mkF m 161 #[rv ba, rv b1, rv ba, iv 2, iv 2, iv x1, iv (x1 &&& (255 : Int32))] [(.ref a_38)]))
      obtain ⟨fs, hr, hrun, hended, hW, hsame⟩ := X38.leave (v := some (.ref a_38)) (fun h => by rw [Bd.returns] at h; cases h)
      refine ⟨_, _, ?_, hrun, hended, _, _, rfl, ?_, ⟨_, rfl⟩, hW, hsame.mono (by decide) (by decide)⟩
      · jvm_step X38.here [X38.here.top, hx, (hb hby d1_161), X38.method', Bd.returns, Value.isRef, FieldType.isReference]
        first | (intro acts; rw [hr _ acts rfl rfl rfl]) | rw [hr _ _ rfl rfl rfl]
        exact Steps.refl _
      · show QE2 Z ba kb x0 x1 hxa hc cs h0 n0 _ T38.heap _
        rw [e38]
        exact ⟨a_38, sv_38, ks_38, us_38, (6 : Int32), rfl, N38, K38, q38_0, q38_1, q38_2, q38_3, (by rw [own_e3 hU6, own_e3 hU28]; exact own_made [(.int 0), (.int 0), (.int 0)] q38_4 rfl rfl (by decide))⟩

theorem pn_rmE3 : plainName "com/example/plumbago/plumbago/server/EntryPaths" = true := by first | (simp [plainName, overriddenIn]; done) | decide +kernel
theorem ef_rmE3 (m : MethodId) (ba : Addr) : entryFrame m #[(.ref ba)] 7 = mkF m 0 #[rv ba, .unset, .unset, .unset, .unset, .unset, .unset] [] := by first | (simp [entryFrame, mkF, argsToLocals, Value.category]; done) | rfl
def QE3 (Z : State) (ba : Addr) (kb : ClassId) (x0 : Int32) (x1 : Int32) (x2 : Int32) (hxa : Addr) (hc : Cell) (cs : Int32) (h0 : Heap) (n0 : Nat) (v : Option Value) (h : Heap) (L : List Loc) : Prop := ∃ a : Addr, ∃ sv : Addr, ∃ ks : ClassId, ∃ us : List Value, ∃ cn : Int32, v = some (.ref a) ∧ Fr n0 L ∧ Keep h0 h [] ∧ Exa Z h a "java/lang/String" ∧ Fld Z h a "java/lang/String" "value" "[B" (.ref sv) ∧ Fld Z h a "java/lang/String" "coder" "B" (.int 0) ∧ Arv Z h sv ks .byte cn us (.int 0) ∧ own_str us cn (own_enc (x0 &&& (255 : Int32)) ++ (own_enc (x1 &&& (255 : Int32)) ++ (own_enc (x2 &&& (255 : Int32)))))
set_option maxRecDepth 65536 in
set_option maxHeartbeats 40000000 in
theorem rmE3 (l : Launch) (Z : State) (a0 : Array Value) (hw : ∀ d ∈ tables_1, d.before a0 Z = true) (ws : List Jvm.Cond) (ba : Addr) (kb : ClassId) (x0 : Int32) (x1 : Int32) (x2 : Int32) (hxa : Addr) (hc : Cell) (cs : Int32) (h0 : Heap) (n0 : Nat) (Z0 : n0 ≤ h0.size) (O0 : Old Z n0 h0) (P0 : Arv Z h0 ba kb .byte (3 : Int32) [(.int x0), (.int x1), (.int x2)] (.int 0)) (P1 : own_HX Z hxa hc) (P2 : ¬ cs = (0 : Int32)) (OP0 : Sta Z Z.heap "java/lang/String" "COMPACT_STRINGS" "Z" (.int cs)) (OP1 : Sta Z Z.heap "com/example/plumbago/plumbago/server/EntryPaths" "HEX" "[C" (.ref hxa)) :
    MetFree l (⟨"com/example/plumbago/plumbago/server/EntryPaths", "encode", "([B)Ljava/lang/String;"⟩ : MethodName) (head1 (Jvm.Cond.code (⟨"com/example/plumbago/plumbago/server/EntryPaths", "encode", "([B)Ljava/lang/String;"⟩ : MethodName) prog_50_method_7_code 7 (some (.object "java/lang/String")) :: ws) ({ frames := 6, cells := 4, slots := 26, locals := 91 } : Room)) (fun aa U => aa = #[(.ref ba)] ∧ Z.Warmed39 U.vm ∧ U.heap = h0) (fun _ _ _ _ _ => True) (fun _ U o U' => ∃ v L, o = .returned v ∧ QE3 Z ba kb x0 x1 x2 hxa hc cs h0 n0 v U'.heap L ∧ FrameEnd U o U' L ({ frames := 6, cells := 4, slots := 26, locals := 91 } : Room).cells ({ frames := 6, cells := 4, slots := 26, locals := 91 } : Room).slots) := by
  refine MetFree.of_bodySF (plainFor_of_name pn_rmE3) hisR ?_
  intro p e s m args below meth c s₁ Bd hml0 hP hK
  obtain ⟨rfl, hZ, hh⟩ := hP
  have hx := Bd.exec
  have hby := Bd.bytes
  have hml : c.maxLocals = 7 := hml0
  have hown : s.vm.findClass "com/example/plumbago/plumbago/server/EntryPaths" = some m.cls := findClass_of_methodNamed Bd.named
  have hnm := (name_of_methodNamed Bd.named Bd.method).1
  have X0 : Stand p l e ({ frames := 6, cells := 4, slots := 26, locals := 91 } : Room) s m #[(.ref ba)] below meth c s₁ [] 0 0 := Stand.of_body Bd
  have e0 : s₁.heap = h0 := by rw [← hh, Bd.state]; rfl
  have N0 := Fr.nil n0
  change OE p.tables e below _ _
  refine OE.v (fun t k => castTop (ef_rmE3 m ba) k) ?_
  show OE _ _ _ _ (s₁.setTop (mkF m 0 #[rv ba, .unset, .unset, .unset, .unset, .unset, .unset] []))
  obtain ⟨T1, h1, X1, e1, E1, A1, D1, -, st1⟩ := newO X0 hx hZ hown (hw _ (own_w 5 rfl)) (hw _ (own_w 6 rfl)) (hw _ (own_w 7 rfl)) e0 (g := (mkF m 0 #[rv ba, .unset, .unset, .unset, .unset, .unset, .unset] [])) rfl (hb hby d1_0) (by decide) (by decide)
  obtain ⟨b1, g1⟩ : ∃ z, z = h0.size := ⟨_, rfl⟩
  have ne_ba_b1 : ba ≠ b1 := Nat.ne_of_lt (Nat.lt_of_lt_of_le P0.lt (Nat.le_of_eq g1.symm))
  have ge_b1 : n0 ≤ b1 := Nat.le_trans Z0 (Nat.le_of_eq g1.symm)
  have sz_b1 : h0.size ≤ b1 := Nat.le_trans (Keep.refl h0 []).1 (Nat.le_of_eq g1.symm)
  have Z1 : n0 ≤ h1.size := Nat.le_trans Z0 E1.1
  have K1 : Keep h0 h1 [] := (Keep.refl h0 []).ext E1
  have O1 : Old Z n0 h1 := O0.ext E1
  rw [← g1] at A1 D1 st1
  have F1_value : Fld Z h1 b1 "java/lang/AbstractStringBuilder" "value" "[B" .null := D1 (Or.inl (hw _ (own_w 23 rfl))) (ty := (.array .byte)) (by decide)
  have F1_coder : Fld Z h1 b1 "java/lang/AbstractStringBuilder" "coder" "B" (.int 0) := D1 (Or.inl (hw _ (own_w 25 rfl))) (ty := .byte) (by decide)
  have F1_count : Fld Z h1 b1 "java/lang/AbstractStringBuilder" "count" "I" (.int 0) := D1 (Or.inl (hw _ (own_w 37 rfl))) (ty := .int) (by decide)
  refine OE.v st1 ?_
  show OE _ _ _ _ (T1.setTop (mkF m 3 #[rv ba, .unset, .unset, .unset, .unset, .unset, .unset] [(.ref b1)]))
  refine OE.v (fun t k => XS.dup X1.here hx rfl (hb hby d1_3) rfl rfl k) ?_
  refine OE.v (fun t k => XS.aloadN X1.here hx rfl (hb hby d1_4) rfl rfl k) ?_
  show OE _ _ _ _ (T1.setTop (mkF m 5 #[rv ba, .unset, .unset, .unset, .unset, .unset, .unset] [(.ref ba), (.ref b1), (.ref b1)]))
  obtain ⟨cl2, Ar2, q2, S2, M2, H2, G2⟩ := id (P0.ext E1)
  refine OE.v (X1.arraylength hx (by rw [e1]; exact Ar2.1) (State.isArrayOf_alike hZ.alike Ar2.2.1) (g := (mkF m 5 #[rv ba, .unset, .unset, .unset, .unset, .unset, .unset] [(.ref ba), (.ref b1), (.ref b1)])) rfl rfl (hb hby d1_5)) ?_
  rw [len_of S2 M2]
  show OE _ _ _ _ (T1.setTop (mkF m 6 #[rv ba, .unset, .unset, .unset, .unset, .unset, .unset] [(.int 3), (.ref b1), (.ref b1)]))
  refine OE.v (fun t k => XS.iconst X1.here hx rfl (hb hby d1_6) k) ?_
  refine OE.v (fun t k => XS.imul X1.here hx rfl (hb hby d1_7) rfl k) ?_
  show OE _ _ _ _ (T1.setTop (mkF m 8 #[rv ba, .unset, .unset, .unset, .unset, .unset, .unset] [(.int 9), (.ref b1), (.ref b1)]))
  obtain ⟨_, _, ⟨T3, L3, k3, n3⟩, -, X3, ⟨Lc3, hQ3, l3, y3, z3⟩, st3⟩ := X1.specialBack hx (y := (⟨"java/lang/StringBuilder", "<init>", "(I)V"⟩ : MethodName)) rfl hown (mvT hZ (hw _ (own_w 8 rfl))) (mvT hZ (hw _ (own_w 9 rfl))) (mvT hZ (hw _ (own_w 10 rfl))) (by decide) (backOf (W := 1) (rm2 l Z a0 hw [] b1 (9 : Int32) cs h1 n0 Z1 O1 A1 F1_value F1_coder F1_count ge_b1 (by decide) (by decide) P2 OP0) hZ (hw _ (own_w 10 rfl)) (hw _ (own_w 7 rfl)) (by decide) (by decide)) (g := (mkF m 8 #[rv ba, .unset, .unset, .unset, .unset, .unset, .unset] [(.int 9), (.ref b1), (.ref b1)])) rfl (by rw [hml]; rfl) (Steps.refl _) (a := b1) (argsL := [(.int 9)]) (rest := [(.ref b1)]) (lenOf pd_0 rfl) rfl (Nat.le_of_eq rfl) (hb hby d1_8) (fun _ _ => ⟨rfl, e1, (by decide : 1 + 1 ≤ _), (by decide : 4 + 9 ≤ _)⟩)
  dsimp only [Pt.U, Pt.locs, Pt.cells, Pt.slots] at X3 l3 y3 z3 st3 hQ3
  subst l3 y3 z3
  obtain ⟨h3, e3⟩ : ∃ z, T3.heap = z := ⟨_, rfl⟩
  rw [e3] at hQ3
  obtain ⟨vb_3, kv_3, rfl, Nq3, Kq3, q3_0, q3_1, q3_2, q3_3, q3_4, q3_5, q3_6, q3_7⟩ := hQ3
  have Z3 : n0 ≤ h3.size := Nat.le_trans Z1 Kq3.1
  have K3 : Keep h0 h3 [] := K1.trans Kq3 (allS (Or.inr sz_b1) all0)
  have O3 : Old Z n0 h3 := O1.keep Kq3 (allS ge_b1 all0)
  have sz_vb_3 : h0.size ≤ vb_3 := Nat.le_trans K1.1 q3_6
  have ne_ba_vb_3 : ba ≠ vb_3 := Nat.ne_of_lt (Nat.lt_of_lt_of_le (P0.ext E1).lt q3_6)
  have ne_b1_vb_3 : b1 ≠ vb_3 := Nat.ne_of_lt (Nat.lt_of_lt_of_le A1.lt q3_6)
  have N3 := Fr.app N0 Nq3
  refine OE.v (fun t k => st3.trans k) ?_
  show OE _ _ _ _ (T3.setTop (mkF m 11 #[rv ba, .unset, .unset, .unset, .unset, .unset, .unset] [(.ref b1)]))
  refine OE.v (fun t k => XS.astoreN X3.here hx rfl (hb hby d1_11) rfl rfl (l' := #[rv ba, rv b1, .unset, .unset, .unset, .unset, .unset]) rfl k) ?_
  refine OE.v (fun t k => XS.aloadN X3.here hx rfl (hb hby d1_12) rfl rfl k) ?_
  refine OE.v (fun t k => XS.astoreN X3.here hx rfl (hb hby d1_13) rfl rfl (l' := #[rv ba, rv b1, rv ba, .unset, .unset, .unset, .unset]) rfl k) ?_
  refine OE.v (fun t k => XS.aloadN X3.here hx rfl (hb hby d1_14) rfl rfl k) ?_
  show OE _ _ _ _ (T3.setTop (mkF m 15 #[rv ba, rv b1, rv ba, .unset, .unset, .unset, .unset] [(.ref ba)]))
  obtain ⟨cl4, Ar4, q4, S4, M4, H4, G4⟩ := id ((P0.ext E1).keep Kq3 (ninS ne_ba_b1 nin0))
  refine OE.v (X3.arraylength hx (by rw [e3]; exact Ar4.1) (State.isArrayOf_alike hZ.alike Ar4.2.1) (g := (mkF m 15 #[rv ba, rv b1, rv ba, .unset, .unset, .unset, .unset] [(.ref ba)])) rfl rfl (hb hby d1_15)) ?_
  rw [len_of S4 M4]
  show OE _ _ _ _ (T3.setTop (mkF m 16 #[rv ba, rv b1, rv ba, .unset, .unset, .unset, .unset] [(.int 3)]))
  refine OE.v (fun t k => XS.istoreN X3.here hx rfl (hb hby d1_16) rfl (l' := #[rv ba, rv b1, rv ba, iv 3, .unset, .unset, .unset]) rfl k) ?_
  refine OE.v (fun t k => XS.iconst X3.here hx rfl (hb hby d1_17) k) ?_
  refine OE.v (fun t k => XS.istore X3.here hx rfl (hb hby d1_18) rfl (l' := #[rv ba, rv b1, rv ba, iv 3, iv 0, .unset, .unset]) rfl k) ?_
  refine OE.v (fun t k => XS.iload X3.here hx rfl (hb hby d1_20) rfl k) ?_
  refine OE.v (fun t k => XS.iloadN X3.here hx rfl (hb hby d1_22) rfl k) ?_
  show OE _ _ _ _ (T3.setTop (mkF m 23 #[rv ba, rv b1, rv ba, iv 3, iv 0, .unset, .unset] [(.int 3), (.int 0)]))
  refine OE.v (fun t k => XS.icmpNo X3.here hx rfl (hb hby d1_23) rfl (tlt (by decide)).2.1 k) ?_
  show OE _ _ _ _ (T3.setTop (mkF m 26 #[rv ba, rv b1, rv ba, iv 3, iv 0, .unset, .unset] []))
  refine OE.v (fun t k => XS.aloadN X3.here hx rfl (hb hby d1_26) rfl rfl k) ?_
  refine OE.v (fun t k => XS.iload X3.here hx rfl (hb hby d1_27) rfl k) ?_
  show OE _ _ _ _ (T3.setTop (mkF m 29 #[rv ba, rv b1, rv ba, iv 3, iv 0, .unset, .unset] [(.int 0), (.ref ba)]))
  obtain ⟨cl5, Ar5, q5, S5, M5, H5, G5⟩ := id ((P0.ext E1).keep Kq3 (ninS ne_ba_b1 nin0))
  have hin5 : ¬ ((0 : Int32) < 0 ∨ cl5.slots.size ≤ ((0 : Int32)).toNatClampNeg) := inb_of S5 ⟨by decide, by decide⟩
  have hat5 : cl5.slots[((0 : Int32)).toNatClampNeg]? = some (.int x0) := H5.at hin5 rfl
  refine OE.v (X3.baloadBytes hx (j := (0 : Int32)) (v := (.int x0)) (by rw [e3]; exact Ar5.1) (State.isArrayOf_alike hZ.alike Ar5.2.1) Ar5.2.2 hin5 hat5 (g := (mkF m 29 #[rv ba, rv b1, rv ba, iv 3, iv 0, .unset, .unset] [(.int 0), (.ref ba)])) rfl rfl (hb hby d1_29)) ?_
  show OE _ _ _ _ (T3.setTop (mkF m 30 #[rv ba, rv b1, rv ba, iv 3, iv 0, .unset, .unset] [(.int x0)]))
  refine OE.v (fun t k => XS.istore X3.here hx rfl (hb hby d1_30) rfl (l' := #[rv ba, rv b1, rv ba, iv 3, iv 0, iv x0, .unset]) rfl k) ?_
  refine OE.v (fun t k => XS.iload X3.here hx rfl (hb hby d1_32) rfl k) ?_
  refine OE.v (fun t k => XS.sipush X3.here hx rfl (hb hby d1_34) k) ?_
  refine OE.v (fun t k => XS.iand X3.here hx rfl (hb hby d1_37) rfl k) ?_
  refine OE.v (fun t k => XS.i2c X3.here hx rfl (hb hby d1_38) rfl k) ?_
  show OE _ _ _ _ (T3.setTop (mkF m 39 #[rv ba, rv b1, rv ba, iv 3, iv 0, iv x0, .unset] [(.int ((x0 &&& (255 : Int32)).toUInt32.toUInt16.toUInt32.toInt32))]))
  rw [own_cx x0]
  refine OE.v (fun t k => XS.istore X3.here hx rfl (hb hby d1_39) rfl (l' := #[rv ba, rv b1, rv ba, iv 3, iv 0, iv x0, iv (x0 &&& (255 : Int32))]) rfl k) ?_
  show OE _ _ _ _ (T3.setTop (mkF m 41 #[rv ba, rv b1, rv ba, iv 3, iv 0, iv x0, iv (x0 &&& (255 : Int32))] []))
  refine own_chain X3 hx hby ba b1 (3 : Int32) (0 : Int32) x0 (x0 &&& (255 : Int32)) (fun hU6 => ?_) (fun hU6 => ?_)
  ·
    show OE _ _ _ _ (T3.setTop (mkF m 111 #[rv ba, rv b1, rv ba, iv 3, iv 0, iv x0, iv (x0 &&& (255 : Int32))] []))
    refine OE.v (fun t k => XS.aloadN X3.here hx rfl (hb hby d1_111) rfl rfl k) ?_
    refine OE.v (fun t k => XS.iload X3.here hx rfl (hb hby d1_112) rfl k) ?_
    show OE _ _ _ _ (T3.setTop (mkF m 114 #[rv ba, rv b1, rv ba, iv 3, iv 0, iv x0, iv (x0 &&& (255 : Int32))] [(.int (x0 &&& (255 : Int32))), (.ref b1)]))
    obtain ⟨cq7, kq7, q7a, q7b, q7c⟩ := isOf hZ e3 q3_0
    obtain ⟨_, _, ⟨T7, L7, k7, n7⟩, -, X7, ⟨Lc7, hQ7, l7, y7, z7⟩, st7⟩ := X3.virtualBack hx (y := (⟨"java/lang/StringBuilder", "append", "(C)Ljava/lang/StringBuilder;"⟩ : MethodName)) (z := (⟨"java/lang/StringBuilder", "append", "(C)Ljava/lang/StringBuilder;"⟩ : MethodName)) hown (mvT hZ (hw _ (own_w 26 rfl))) (mvT hZ (hw _ (own_w 27 rfl))) (notFace_of_selects (args := #[]) (mvT hZ (hw _ (own_w 29 rfl)))) (mvT hZ (hw _ (own_w 29 rfl))) (mvT hZ (hw _ (own_w 28 rfl))) (by decide) (backOf (W := 0) (rm5 l Z a0 hw [] b1 (x0 &&& (255 : Int32)) (0 : Int32) vb_3 kv_3 (9 : Int32) [(.int 0), (.int 0), (.int 0), (.int 0), (.int 0), (.int 0), (.int 0), (.int 0), (.int 0)] cs h3 n0 Z3 O3 q3_0 q3_1 q3_2 q3_3 q3_4 ge_b1 q3_7 (Ne.symm ne_b1_vb_3) (own_ur hU6) (by decide) ⟨by decide, by decide⟩ (by show (0 : Int32).toNatClampNeg < 9; decide) P2 OP0) hZ (hw _ (own_w 30 rfl)) (hw _ (own_w 7 rfl)) (by decide) (by decide)) q7a q7c (g := (mkF m 114 #[rv ba, rv b1, rv ba, iv 3, iv 0, iv x0, iv (x0 &&& (255 : Int32))] [(.int (x0 &&& (255 : Int32))), (.ref b1)])) rfl (by rw [hml]; rfl) (Steps.refl _) (argsL := [(.int (x0 &&& (255 : Int32)))]) (rest := []) (lenOf pd_17 rfl) rfl (Nat.le_of_eq rfl) (hb hby d1_114) (fun _ _ => ⟨rfl, e3, (by decide : 2 + 0 ≤ _), (by decide : 13 + 0 ≤ _)⟩)
    dsimp only [Pt.U, Pt.locs, Pt.cells, Pt.slots] at X7 l7 y7 z7 st7 hQ7
    subst l7 y7 z7
    obtain ⟨h7, e7⟩ : ∃ z, T7.heap = z := ⟨_, rfl⟩
    rw [e7] at hQ7
    obtain ⟨rfl, Nq7, Kq7, q7_0, q7_1, q7_2, q7_3, q7_4⟩ := hQ7
    have Z7 : n0 ≤ h7.size := Nat.le_trans Z3 Kq7.1
    have K7 : Keep h0 h7 [] := K3.trans Kq7 (allS (Or.inr sz_b1) (allS (Or.inr sz_vb_3) all0))
    have O7 : Old Z n0 h7 := O3.keep Kq7 (allS ge_b1 (allS q3_7 all0))
    have N7 := Fr.app N3 Nq7
    refine OE.v (fun t k => st7.trans k) ?_
    have Fc7 : Fld Z h7 b1 "java/lang/AbstractStringBuilder" "count" "I" (.int 1) := q7_3
    have Vc7 : Arv Z h7 vb_3 kv_3 .byte (9 : Int32) [(.int (x0 &&& (255 : Int32))), (.int 0), (.int 0), (.int 0), (.int 0), (.int 0), (.int 0), (.int 0), (.int 0)] (.int 0) := q7_4
    show OE _ _ _ _ (T7.setTop (mkF m 117 #[rv ba, rv b1, rv ba, iv 3, iv 0, iv x0, iv (x0 &&& (255 : Int32))] [(.ref b1)]))
    refine OE.v (fun t k => XS.pop X7.here hx rfl (hb hby d1_117) rfl rfl k) ?_
    refine OE.v (fun t k => XS.goto X7.here hx rfl (pc0 := 118) (pc' := 151) rfl (hb hby d1_118) (by decide) (by decide) k) ?_
    refine OE.v (fun t k => XS.iinc X7.here hx rfl (hb hby d1_151) rfl (l' := #[rv ba, rv b1, rv ba, iv 3, iv 1, iv x0, iv (x0 &&& (255 : Int32))]) rfl k) ?_
    refine OE.v (fun t k => XS.goto X7.here hx rfl (pc0 := 154) (pc' := 20) rfl (hb hby d1_154) (by decide) (by decide) k) ?_
    refine OE.v (fun t k => XS.iload X7.here hx rfl (hb hby d1_20) rfl k) ?_
    refine OE.v (fun t k => XS.iloadN X7.here hx rfl (hb hby d1_22) rfl k) ?_
    show OE _ _ _ _ (T7.setTop (mkF m 23 #[rv ba, rv b1, rv ba, iv 3, iv 1, iv x0, iv (x0 &&& (255 : Int32))] [(.int 3), (.int 1)]))
    refine OE.v (fun t k => XS.icmpNo X7.here hx rfl (hb hby d1_23) rfl (tlt (by decide)).2.1 k) ?_
    show OE _ _ _ _ (T7.setTop (mkF m 26 #[rv ba, rv b1, rv ba, iv 3, iv 1, iv x0, iv (x0 &&& (255 : Int32))] []))
    refine OE.v (fun t k => XS.aloadN X7.here hx rfl (hb hby d1_26) rfl rfl k) ?_
    refine OE.v (fun t k => XS.iload X7.here hx rfl (hb hby d1_27) rfl k) ?_
    show OE _ _ _ _ (T7.setTop (mkF m 29 #[rv ba, rv b1, rv ba, iv 3, iv 1, iv x0, iv (x0 &&& (255 : Int32))] [(.int 1), (.ref ba)]))
    obtain ⟨cl8, Ar8, q8, S8, M8, H8, G8⟩ := id (((P0.ext E1).keep Kq3 (ninS ne_ba_b1 nin0)).keep Kq7 (ninS ne_ba_b1 (ninS ne_ba_vb_3 nin0)))
    have hin8 : ¬ ((1 : Int32) < 0 ∨ cl8.slots.size ≤ ((1 : Int32)).toNatClampNeg) := inb_of S8 ⟨by decide, by decide⟩
    have hat8 : cl8.slots[((1 : Int32)).toNatClampNeg]? = some (.int x1) := H8.at hin8 rfl
    refine OE.v (X7.baloadBytes hx (j := (1 : Int32)) (v := (.int x1)) (by rw [e7]; exact Ar8.1) (State.isArrayOf_alike hZ.alike Ar8.2.1) Ar8.2.2 hin8 hat8 (g := (mkF m 29 #[rv ba, rv b1, rv ba, iv 3, iv 1, iv x0, iv (x0 &&& (255 : Int32))] [(.int 1), (.ref ba)])) rfl rfl (hb hby d1_29)) ?_
    show OE _ _ _ _ (T7.setTop (mkF m 30 #[rv ba, rv b1, rv ba, iv 3, iv 1, iv x0, iv (x0 &&& (255 : Int32))] [(.int x1)]))
    refine OE.v (fun t k => XS.istore X7.here hx rfl (hb hby d1_30) rfl (l' := #[rv ba, rv b1, rv ba, iv 3, iv 1, iv x1, iv (x0 &&& (255 : Int32))]) rfl k) ?_
    refine OE.v (fun t k => XS.iload X7.here hx rfl (hb hby d1_32) rfl k) ?_
    refine OE.v (fun t k => XS.sipush X7.here hx rfl (hb hby d1_34) k) ?_
    refine OE.v (fun t k => XS.iand X7.here hx rfl (hb hby d1_37) rfl k) ?_
    refine OE.v (fun t k => XS.i2c X7.here hx rfl (hb hby d1_38) rfl k) ?_
    show OE _ _ _ _ (T7.setTop (mkF m 39 #[rv ba, rv b1, rv ba, iv 3, iv 1, iv x1, iv (x0 &&& (255 : Int32))] [(.int ((x1 &&& (255 : Int32)).toUInt32.toUInt16.toUInt32.toInt32))]))
    rw [own_cx x1]
    refine OE.v (fun t k => XS.istore X7.here hx rfl (hb hby d1_39) rfl (l' := #[rv ba, rv b1, rv ba, iv 3, iv 1, iv x1, iv (x1 &&& (255 : Int32))]) rfl k) ?_
    show OE _ _ _ _ (T7.setTop (mkF m 41 #[rv ba, rv b1, rv ba, iv 3, iv 1, iv x1, iv (x1 &&& (255 : Int32))] []))
    refine own_chain X7 hx hby ba b1 (3 : Int32) (1 : Int32) x1 (x1 &&& (255 : Int32)) (fun hU9 => ?_) (fun hU9 => ?_)
    ·
      show OE _ _ _ _ (T7.setTop (mkF m 111 #[rv ba, rv b1, rv ba, iv 3, iv 1, iv x1, iv (x1 &&& (255 : Int32))] []))
      refine OE.v (fun t k => XS.aloadN X7.here hx rfl (hb hby d1_111) rfl rfl k) ?_
      refine OE.v (fun t k => XS.iload X7.here hx rfl (hb hby d1_112) rfl k) ?_
      show OE _ _ _ _ (T7.setTop (mkF m 114 #[rv ba, rv b1, rv ba, iv 3, iv 1, iv x1, iv (x1 &&& (255 : Int32))] [(.int (x1 &&& (255 : Int32))), (.ref b1)]))
      obtain ⟨cq10, kq10, q10a, q10b, q10c⟩ := isOf hZ e7 q7_0
      obtain ⟨_, _, ⟨T10, L10, k10, n10⟩, -, X10, ⟨Lc10, hQ10, l10, y10, z10⟩, st10⟩ := X7.virtualBack hx (y := (⟨"java/lang/StringBuilder", "append", "(C)Ljava/lang/StringBuilder;"⟩ : MethodName)) (z := (⟨"java/lang/StringBuilder", "append", "(C)Ljava/lang/StringBuilder;"⟩ : MethodName)) hown (mvT hZ (hw _ (own_w 26 rfl))) (mvT hZ (hw _ (own_w 27 rfl))) (notFace_of_selects (args := #[]) (mvT hZ (hw _ (own_w 29 rfl)))) (mvT hZ (hw _ (own_w 29 rfl))) (mvT hZ (hw _ (own_w 28 rfl))) (by decide) (backOf (W := 0) (rm5 l Z a0 hw [] b1 (x1 &&& (255 : Int32)) (1 : Int32) vb_3 kv_3 (9 : Int32) [(.int (x0 &&& (255 : Int32))), (.int 0), (.int 0), (.int 0), (.int 0), (.int 0), (.int 0), (.int 0), (.int 0)] cs h7 n0 Z7 O7 q7_0 q7_1 q7_2 Fc7 Vc7 ge_b1 q3_7 (Ne.symm ne_b1_vb_3) (own_ur hU9) (by decide) ⟨by decide, by decide⟩ (by show (1 : Int32).toNatClampNeg < 9; decide) P2 OP0) hZ (hw _ (own_w 30 rfl)) (hw _ (own_w 7 rfl)) (by decide) (by decide)) q10a q10c (g := (mkF m 114 #[rv ba, rv b1, rv ba, iv 3, iv 1, iv x1, iv (x1 &&& (255 : Int32))] [(.int (x1 &&& (255 : Int32))), (.ref b1)])) rfl (by rw [hml]; rfl) (Steps.refl _) (argsL := [(.int (x1 &&& (255 : Int32)))]) (rest := []) (lenOf pd_17 rfl) rfl (Nat.le_of_eq rfl) (hb hby d1_114) (fun _ _ => ⟨rfl, e7, (by decide : 2 + 0 ≤ _), (by decide : 13 + 0 ≤ _)⟩)
      dsimp only [Pt.U, Pt.locs, Pt.cells, Pt.slots] at X10 l10 y10 z10 st10 hQ10
      subst l10 y10 z10
      obtain ⟨h10, e10⟩ : ∃ z, T10.heap = z := ⟨_, rfl⟩
      rw [e10] at hQ10
      obtain ⟨rfl, Nq10, Kq10, q10_0, q10_1, q10_2, q10_3, q10_4⟩ := hQ10
      have Z10 : n0 ≤ h10.size := Nat.le_trans Z7 Kq10.1
      have K10 : Keep h0 h10 [] := K7.trans Kq10 (allS (Or.inr sz_b1) (allS (Or.inr sz_vb_3) all0))
      have O10 : Old Z n0 h10 := O7.keep Kq10 (allS ge_b1 (allS q3_7 all0))
      have N10 := Fr.app N7 Nq10
      refine OE.v (fun t k => st10.trans k) ?_
      have Fc10 : Fld Z h10 b1 "java/lang/AbstractStringBuilder" "count" "I" (.int 2) := q10_3
      have Vc10 : Arv Z h10 vb_3 kv_3 .byte (9 : Int32) [(.int (x0 &&& (255 : Int32))), (.int (x1 &&& (255 : Int32))), (.int 0), (.int 0), (.int 0), (.int 0), (.int 0), (.int 0), (.int 0)] (.int 0) := q10_4
      show OE _ _ _ _ (T10.setTop (mkF m 117 #[rv ba, rv b1, rv ba, iv 3, iv 1, iv x1, iv (x1 &&& (255 : Int32))] [(.ref b1)]))
      refine OE.v (fun t k => XS.pop X10.here hx rfl (hb hby d1_117) rfl rfl k) ?_
      refine OE.v (fun t k => XS.goto X10.here hx rfl (pc0 := 118) (pc' := 151) rfl (hb hby d1_118) (by decide) (by decide) k) ?_
      refine OE.v (fun t k => XS.iinc X10.here hx rfl (hb hby d1_151) rfl (l' := #[rv ba, rv b1, rv ba, iv 3, iv 2, iv x1, iv (x1 &&& (255 : Int32))]) rfl k) ?_
      refine OE.v (fun t k => XS.goto X10.here hx rfl (pc0 := 154) (pc' := 20) rfl (hb hby d1_154) (by decide) (by decide) k) ?_
      refine OE.v (fun t k => XS.iload X10.here hx rfl (hb hby d1_20) rfl k) ?_
      refine OE.v (fun t k => XS.iloadN X10.here hx rfl (hb hby d1_22) rfl k) ?_
      show OE _ _ _ _ (T10.setTop (mkF m 23 #[rv ba, rv b1, rv ba, iv 3, iv 2, iv x1, iv (x1 &&& (255 : Int32))] [(.int 3), (.int 2)]))
      refine OE.v (fun t k => XS.icmpNo X10.here hx rfl (hb hby d1_23) rfl (tlt (by decide)).2.1 k) ?_
      show OE _ _ _ _ (T10.setTop (mkF m 26 #[rv ba, rv b1, rv ba, iv 3, iv 2, iv x1, iv (x1 &&& (255 : Int32))] []))
      refine OE.v (fun t k => XS.aloadN X10.here hx rfl (hb hby d1_26) rfl rfl k) ?_
      refine OE.v (fun t k => XS.iload X10.here hx rfl (hb hby d1_27) rfl k) ?_
      show OE _ _ _ _ (T10.setTop (mkF m 29 #[rv ba, rv b1, rv ba, iv 3, iv 2, iv x1, iv (x1 &&& (255 : Int32))] [(.int 2), (.ref ba)]))
      obtain ⟨cl11, Ar11, q11, S11, M11, H11, G11⟩ := id ((((P0.ext E1).keep Kq3 (ninS ne_ba_b1 nin0)).keep Kq7 (ninS ne_ba_b1 (ninS ne_ba_vb_3 nin0))).keep Kq10 (ninS ne_ba_b1 (ninS ne_ba_vb_3 nin0)))
      have hin11 : ¬ ((2 : Int32) < 0 ∨ cl11.slots.size ≤ ((2 : Int32)).toNatClampNeg) := inb_of S11 ⟨by decide, by decide⟩
      have hat11 : cl11.slots[((2 : Int32)).toNatClampNeg]? = some (.int x2) := H11.at hin11 rfl
      refine OE.v (X10.baloadBytes hx (j := (2 : Int32)) (v := (.int x2)) (by rw [e10]; exact Ar11.1) (State.isArrayOf_alike hZ.alike Ar11.2.1) Ar11.2.2 hin11 hat11 (g := (mkF m 29 #[rv ba, rv b1, rv ba, iv 3, iv 2, iv x1, iv (x1 &&& (255 : Int32))] [(.int 2), (.ref ba)])) rfl rfl (hb hby d1_29)) ?_
      show OE _ _ _ _ (T10.setTop (mkF m 30 #[rv ba, rv b1, rv ba, iv 3, iv 2, iv x1, iv (x1 &&& (255 : Int32))] [(.int x2)]))
      refine OE.v (fun t k => XS.istore X10.here hx rfl (hb hby d1_30) rfl (l' := #[rv ba, rv b1, rv ba, iv 3, iv 2, iv x2, iv (x1 &&& (255 : Int32))]) rfl k) ?_
      refine OE.v (fun t k => XS.iload X10.here hx rfl (hb hby d1_32) rfl k) ?_
      refine OE.v (fun t k => XS.sipush X10.here hx rfl (hb hby d1_34) k) ?_
      refine OE.v (fun t k => XS.iand X10.here hx rfl (hb hby d1_37) rfl k) ?_
      refine OE.v (fun t k => XS.i2c X10.here hx rfl (hb hby d1_38) rfl k) ?_
      show OE _ _ _ _ (T10.setTop (mkF m 39 #[rv ba, rv b1, rv ba, iv 3, iv 2, iv x2, iv (x1 &&& (255 : Int32))] [(.int ((x2 &&& (255 : Int32)).toUInt32.toUInt16.toUInt32.toInt32))]))
      rw [own_cx x2]
      refine OE.v (fun t k => XS.istore X10.here hx rfl (hb hby d1_39) rfl (l' := #[rv ba, rv b1, rv ba, iv 3, iv 2, iv x2, iv (x2 &&& (255 : Int32))]) rfl k) ?_
      show OE _ _ _ _ (T10.setTop (mkF m 41 #[rv ba, rv b1, rv ba, iv 3, iv 2, iv x2, iv (x2 &&& (255 : Int32))] []))
      refine own_chain X10 hx hby ba b1 (3 : Int32) (2 : Int32) x2 (x2 &&& (255 : Int32)) (fun hU12 => ?_) (fun hU12 => ?_)
      ·
        show OE _ _ _ _ (T10.setTop (mkF m 111 #[rv ba, rv b1, rv ba, iv 3, iv 2, iv x2, iv (x2 &&& (255 : Int32))] []))
        refine OE.v (fun t k => XS.aloadN X10.here hx rfl (hb hby d1_111) rfl rfl k) ?_
        refine OE.v (fun t k => XS.iload X10.here hx rfl (hb hby d1_112) rfl k) ?_
        show OE _ _ _ _ (T10.setTop (mkF m 114 #[rv ba, rv b1, rv ba, iv 3, iv 2, iv x2, iv (x2 &&& (255 : Int32))] [(.int (x2 &&& (255 : Int32))), (.ref b1)]))
        obtain ⟨cq13, kq13, q13a, q13b, q13c⟩ := isOf hZ e10 q10_0
        obtain ⟨_, _, ⟨T13, L13, k13, n13⟩, -, X13, ⟨Lc13, hQ13, l13, y13, z13⟩, st13⟩ := X10.virtualBack hx (y := (⟨"java/lang/StringBuilder", "append", "(C)Ljava/lang/StringBuilder;"⟩ : MethodName)) (z := (⟨"java/lang/StringBuilder", "append", "(C)Ljava/lang/StringBuilder;"⟩ : MethodName)) hown (mvT hZ (hw _ (own_w 26 rfl))) (mvT hZ (hw _ (own_w 27 rfl))) (notFace_of_selects (args := #[]) (mvT hZ (hw _ (own_w 29 rfl)))) (mvT hZ (hw _ (own_w 29 rfl))) (mvT hZ (hw _ (own_w 28 rfl))) (by decide) (backOf (W := 0) (rm5 l Z a0 hw [] b1 (x2 &&& (255 : Int32)) (2 : Int32) vb_3 kv_3 (9 : Int32) [(.int (x0 &&& (255 : Int32))), (.int (x1 &&& (255 : Int32))), (.int 0), (.int 0), (.int 0), (.int 0), (.int 0), (.int 0), (.int 0)] cs h10 n0 Z10 O10 q10_0 q10_1 q10_2 Fc10 Vc10 ge_b1 q3_7 (Ne.symm ne_b1_vb_3) (own_ur hU12) (by decide) ⟨by decide, by decide⟩ (by show (2 : Int32).toNatClampNeg < 9; decide) P2 OP0) hZ (hw _ (own_w 30 rfl)) (hw _ (own_w 7 rfl)) (by decide) (by decide)) q13a q13c (g := (mkF m 114 #[rv ba, rv b1, rv ba, iv 3, iv 2, iv x2, iv (x2 &&& (255 : Int32))] [(.int (x2 &&& (255 : Int32))), (.ref b1)])) rfl (by rw [hml]; rfl) (Steps.refl _) (argsL := [(.int (x2 &&& (255 : Int32)))]) (rest := []) (lenOf pd_17 rfl) rfl (Nat.le_of_eq rfl) (hb hby d1_114) (fun _ _ => ⟨rfl, e10, (by decide : 2 + 0 ≤ _), (by decide : 13 + 0 ≤ _)⟩)
        dsimp only [Pt.U, Pt.locs, Pt.cells, Pt.slots] at X13 l13 y13 z13 st13 hQ13
        subst l13 y13 z13
        obtain ⟨h13, e13⟩ : ∃ z, T13.heap = z := ⟨_, rfl⟩
        rw [e13] at hQ13
        obtain ⟨rfl, Nq13, Kq13, q13_0, q13_1, q13_2, q13_3, q13_4⟩ := hQ13
        have Z13 : n0 ≤ h13.size := Nat.le_trans Z10 Kq13.1
        have K13 : Keep h0 h13 [] := K10.trans Kq13 (allS (Or.inr sz_b1) (allS (Or.inr sz_vb_3) all0))
        have O13 : Old Z n0 h13 := O10.keep Kq13 (allS ge_b1 (allS q3_7 all0))
        have N13 := Fr.app N10 Nq13
        refine OE.v (fun t k => st13.trans k) ?_
        have Fc13 : Fld Z h13 b1 "java/lang/AbstractStringBuilder" "count" "I" (.int 3) := q13_3
        have Vc13 : Arv Z h13 vb_3 kv_3 .byte (9 : Int32) [(.int (x0 &&& (255 : Int32))), (.int (x1 &&& (255 : Int32))), (.int (x2 &&& (255 : Int32))), (.int 0), (.int 0), (.int 0), (.int 0), (.int 0), (.int 0)] (.int 0) := q13_4
        show OE _ _ _ _ (T13.setTop (mkF m 117 #[rv ba, rv b1, rv ba, iv 3, iv 2, iv x2, iv (x2 &&& (255 : Int32))] [(.ref b1)]))
        refine OE.v (fun t k => XS.pop X13.here hx rfl (hb hby d1_117) rfl rfl k) ?_
        refine OE.v (fun t k => XS.goto X13.here hx rfl (pc0 := 118) (pc' := 151) rfl (hb hby d1_118) (by decide) (by decide) k) ?_
        refine OE.v (fun t k => XS.iinc X13.here hx rfl (hb hby d1_151) rfl (l' := #[rv ba, rv b1, rv ba, iv 3, iv 3, iv x2, iv (x2 &&& (255 : Int32))]) rfl k) ?_
        refine OE.v (fun t k => XS.goto X13.here hx rfl (pc0 := 154) (pc' := 20) rfl (hb hby d1_154) (by decide) (by decide) k) ?_
        refine OE.v (fun t k => XS.iload X13.here hx rfl (hb hby d1_20) rfl k) ?_
        refine OE.v (fun t k => XS.iloadN X13.here hx rfl (hb hby d1_22) rfl k) ?_
        show OE _ _ _ _ (T13.setTop (mkF m 23 #[rv ba, rv b1, rv ba, iv 3, iv 3, iv x2, iv (x2 &&& (255 : Int32))] [(.int 3), (.int 3)]))
        refine OE.v (fun t k => XS.icmpYes X13.here hx rfl (pc0 := 23) (pc' := 157) rfl (hb hby d1_23) rfl (flt (by decide)).2.1 (by decide) (by decide) k) ?_
        show OE _ _ _ _ (T13.setTop (mkF m 157 #[rv ba, rv b1, rv ba, iv 3, iv 3, iv x2, iv (x2 &&& (255 : Int32))] []))
        refine OE.v (fun t k => XS.aloadN X13.here hx rfl (hb hby d1_157) rfl rfl k) ?_
        show OE _ _ _ _ (T13.setTop (mkF m 158 #[rv ba, rv b1, rv ba, iv 3, iv 3, iv x2, iv (x2 &&& (255 : Int32))] [(.ref b1)]))
        obtain ⟨cq14, kq14, q14a, q14b, q14c⟩ := isOf hZ e13 q13_0
        obtain ⟨_, _, ⟨T14, L14, k14, n14⟩, -, X14, ⟨Lc14, hQ14, l14, y14, z14⟩, st14⟩ := X13.virtualBack hx (y := (⟨"java/lang/StringBuilder", "toString", "()Ljava/lang/String;"⟩ : MethodName)) (z := (⟨"java/lang/StringBuilder", "toString", "()Ljava/lang/String;"⟩ : MethodName)) hown (mvT hZ (hw _ (own_w 54 rfl))) (mvT hZ (hw _ (own_w 55 rfl))) (notFace_of_selects (args := #[]) (mvT hZ (hw _ (own_w 57 rfl)))) (mvT hZ (hw _ (own_w 57 rfl))) (mvT hZ (hw _ (own_w 56 rfl))) (by decide) (backOf (W := 0) (rm10 l Z a0 hw [] b1 (3 : Int32) vb_3 kv_3 (9 : Int32) [(.int (x0 &&& (255 : Int32))), (.int (x1 &&& (255 : Int32))), (.int (x2 &&& (255 : Int32))), (.int 0), (.int 0), (.int 0), (.int 0), (.int 0), (.int 0)] cs h13 n0 Z13 O13 q13_0 q13_1 q13_2 Fc13 Vc13 (((q3_5.keep Kq7).keep Kq10).keep Kq13) (by decide) P2 OP0) hZ (hw _ (own_w 58 rfl)) (hw _ (own_w 7 rfl)) (by decide) (by decide)) q14a q14c (g := (mkF m 158 #[rv ba, rv b1, rv ba, iv 3, iv 3, iv x2, iv (x2 &&& (255 : Int32))] [(.ref b1)])) rfl (by rw [hml]; rfl) (Steps.refl _) (argsL := []) (rest := []) (lenOf pd_16 rfl) rfl (Nat.le_of_eq rfl) (hb hby d1_158) (fun _ _ => ⟨rfl, e13, (by decide : 2 + 2 ≤ _), (by decide : 13 + 13 ≤ _)⟩)
        dsimp only [Pt.U, Pt.locs, Pt.cells, Pt.slots] at X14 l14 y14 z14 st14 hQ14
        subst l14 y14 z14
        obtain ⟨h14, e14⟩ : ∃ z, T14.heap = z := ⟨_, rfl⟩
        rw [e14] at hQ14
        obtain ⟨a_14, sv_14, ks_14, us_14, rfl, Nq14, Kq14, q14_0, q14_1, q14_2, q14_3, q14_4⟩ := hQ14
        have Z14 : n0 ≤ h14.size := Nat.le_trans Z13 Kq14.1
        have K14 : Keep h0 h14 [] := K13.trans Kq14 all0
        have O14 : Old Z n0 h14 := O13.keep Kq14 all0
        have N14 := Fr.app N13 Nq14
        refine OE.v (fun t k => st14.trans k) ?_
        show OE _ _ _ _ (T14.setTop (mkF m 161 #[rv ba, rv b1, rv ba, iv 3, iv 3, iv x2, iv (x2 &&& (255 : Int32))] [(.ref a_14)]))
        obtain ⟨fs, hr, hrun, hended, hW, hsame⟩ := X14.leave (v := some (.ref a_14)) (fun h => by rw [Bd.returns] at h; cases h)
        refine ⟨_, _, ?_, hrun, hended, _, _, rfl, ?_, ⟨_, rfl⟩, hW, hsame.mono (by decide) (by decide)⟩
        · jvm_step X14.here [X14.here.top, hx, (hb hby d1_161), X14.method', Bd.returns, Value.isRef, FieldType.isReference]
          first | (intro acts; rw [hr _ acts rfl rfl rfl]) | rw [hr _ _ rfl rfl rfl]
          exact Steps.refl _
        · show QE3 Z ba kb x0 x1 x2 hxa hc cs h0 n0 _ T14.heap _
          rw [e14]
          exact ⟨a_14, sv_14, ks_14, us_14, (3 : Int32), rfl, N14, K14, q14_0, q14_1, q14_2, q14_3, (by rw [own_e1 hU6, own_e1 hU9, own_e1 hU12]; exact own_made [(.int 0), (.int 0), (.int 0), (.int 0), (.int 0), (.int 0)] q14_4 rfl rfl (by decide))⟩
      ·
        show OE _ _ _ _ (T10.setTop (mkF m 121 #[rv ba, rv b1, rv ba, iv 3, iv 2, iv x2, iv (x2 &&& (255 : Int32))] []))
        refine OE.v (fun t k => XS.aloadN X10.here hx rfl (hb hby d1_121) rfl rfl k) ?_
        refine OE.v (fun t k => XS.bipush X10.here hx rfl (hb hby d1_122) k) ?_
        show OE _ _ _ _ (T10.setTop (mkF m 124 #[rv ba, rv b1, rv ba, iv 3, iv 2, iv x2, iv (x2 &&& (255 : Int32))] [(.int 37), (.ref b1)]))
        obtain ⟨cq15, kq15, q15a, q15b, q15c⟩ := isOf hZ e10 q10_0
        obtain ⟨_, _, ⟨T15, L15, k15, n15⟩, -, X15, ⟨Lc15, hQ15, l15, y15, z15⟩, st15⟩ := X10.virtualBack hx (y := (⟨"java/lang/StringBuilder", "append", "(C)Ljava/lang/StringBuilder;"⟩ : MethodName)) (z := (⟨"java/lang/StringBuilder", "append", "(C)Ljava/lang/StringBuilder;"⟩ : MethodName)) hown (mvT hZ (hw _ (own_w 26 rfl))) (mvT hZ (hw _ (own_w 27 rfl))) (notFace_of_selects (args := #[]) (mvT hZ (hw _ (own_w 29 rfl)))) (mvT hZ (hw _ (own_w 29 rfl))) (mvT hZ (hw _ (own_w 28 rfl))) (by decide) (backOf (W := 0) (rm5 l Z a0 hw [] b1 (37 : Int32) (2 : Int32) vb_3 kv_3 (9 : Int32) [(.int (x0 &&& (255 : Int32))), (.int (x1 &&& (255 : Int32))), (.int 0), (.int 0), (.int 0), (.int 0), (.int 0), (.int 0), (.int 0)] cs h10 n0 Z10 O10 q10_0 q10_1 q10_2 Fc10 Vc10 ge_b1 q3_7 (Ne.symm ne_b1_vb_3) (by decide) (by decide) ⟨by decide, by decide⟩ (by show (2 : Int32).toNatClampNeg < 9; decide) P2 OP0) hZ (hw _ (own_w 30 rfl)) (hw _ (own_w 7 rfl)) (by decide) (by decide)) q15a q15c (g := (mkF m 124 #[rv ba, rv b1, rv ba, iv 3, iv 2, iv x2, iv (x2 &&& (255 : Int32))] [(.int 37), (.ref b1)])) rfl (by rw [hml]; rfl) (Steps.refl _) (argsL := [(.int 37)]) (rest := []) (lenOf pd_17 rfl) rfl (Nat.le_of_eq rfl) (hb hby d1_124) (fun _ _ => ⟨rfl, e10, (by decide : 2 + 0 ≤ _), (by decide : 13 + 0 ≤ _)⟩)
        dsimp only [Pt.U, Pt.locs, Pt.cells, Pt.slots] at X15 l15 y15 z15 st15 hQ15
        subst l15 y15 z15
        obtain ⟨h15, e15⟩ : ∃ z, T15.heap = z := ⟨_, rfl⟩
        rw [e15] at hQ15
        obtain ⟨rfl, Nq15, Kq15, q15_0, q15_1, q15_2, q15_3, q15_4⟩ := hQ15
        have Z15 : n0 ≤ h15.size := Nat.le_trans Z10 Kq15.1
        have K15 : Keep h0 h15 [] := K10.trans Kq15 (allS (Or.inr sz_b1) (allS (Or.inr sz_vb_3) all0))
        have O15 : Old Z n0 h15 := O10.keep Kq15 (allS ge_b1 (allS q3_7 all0))
        have N15 := Fr.app N10 Nq15
        refine OE.v (fun t k => st15.trans k) ?_
        have Fc15 : Fld Z h15 b1 "java/lang/AbstractStringBuilder" "count" "I" (.int 3) := q15_3
        have Vc15 : Arv Z h15 vb_3 kv_3 .byte (9 : Int32) [(.int (x0 &&& (255 : Int32))), (.int (x1 &&& (255 : Int32))), (.int 37), (.int 0), (.int 0), (.int 0), (.int 0), (.int 0), (.int 0)] (.int 0) := q15_4
        show OE _ _ _ _ (T15.setTop (mkF m 127 #[rv ba, rv b1, rv ba, iv 3, iv 2, iv x2, iv (x2 &&& (255 : Int32))] [(.ref b1)]))
        obtain ⟨T16, X16, e16, st16⟩ := getS2 X15 hx hZ hown (host := "") (Or.inl (hw _ (own_w 52 rfl))) Via.refl e15 (OP1.ext O15.2) (g := (mkF m 127 #[rv ba, rv b1, rv ba, iv 3, iv 2, iv x2, iv (x2 &&& (255 : Int32))] [(.ref b1)])) rfl (hb hby d1_127)
        refine OE.v st16 ?_
        show OE _ _ _ _ (T16.setTop (mkF m 130 #[rv ba, rv b1, rv ba, iv 3, iv 2, iv x2, iv (x2 &&& (255 : Int32))] [(.ref hxa), (.ref b1)]))
        refine OE.v (fun t k => XS.iload X16.here hx rfl (hb hby d1_130) rfl k) ?_
        refine OE.v (fun t k => XS.iconst X16.here hx rfl (hb hby d1_132) k) ?_
        refine OE.v (fun t k => XS.ishr X16.here hx rfl (hb hby d1_133) rfl k) ?_
        have rg17 := own_16 (own_hi (own_r8 x2))
        have hin17 := inb_of P1.2.1 rg17
        refine OE.v (X16.caload hx (j := ((x2 &&& (255 : Int32)) >>> ((4 : Int32) &&& 31))) (v := .int (own_hx ((x2 &&& (255 : Int32)) >>> ((4 : Int32) &&& 31)))) (by rw [e16]; exact (P1.1.ext O15.2).1) (State.isArrayOf_alike hZ.alike P1.1.2.1) P1.1.2.2 hin17 (P1.2.2 _ rg17.1 rg17.2) (g := (mkF m 134 #[rv ba, rv b1, rv ba, iv 3, iv 2, iv x2, iv (x2 &&& (255 : Int32))] [(.int ((x2 &&& (255 : Int32)) >>> ((4 : Int32) &&& 31))), (.ref hxa), (.ref b1)])) rfl rfl (hb hby d1_134)) ?_
        show OE _ _ _ _ (T16.setTop (mkF m 135 #[rv ba, rv b1, rv ba, iv 3, iv 2, iv x2, iv (x2 &&& (255 : Int32))] [(.int (own_hx ((x2 &&& (255 : Int32)) >>> ((4 : Int32) &&& 31)))), (.ref b1)]))
        obtain ⟨cq18, kq18, q18a, q18b, q18c⟩ := isOf hZ e16 q15_0
        obtain ⟨_, _, ⟨T18, L18, k18, n18⟩, -, X18, ⟨Lc18, hQ18, l18, y18, z18⟩, st18⟩ := X16.virtualBack hx (y := (⟨"java/lang/StringBuilder", "append", "(C)Ljava/lang/StringBuilder;"⟩ : MethodName)) (z := (⟨"java/lang/StringBuilder", "append", "(C)Ljava/lang/StringBuilder;"⟩ : MethodName)) hown (mvT hZ (hw _ (own_w 26 rfl))) (mvT hZ (hw _ (own_w 27 rfl))) (notFace_of_selects (args := #[]) (mvT hZ (hw _ (own_w 29 rfl)))) (mvT hZ (hw _ (own_w 29 rfl))) (mvT hZ (hw _ (own_w 28 rfl))) (by decide) (backOf (W := 0) (rm5 l Z a0 hw [] b1 (own_hx ((x2 &&& (255 : Int32)) >>> ((4 : Int32) &&& 31))) (3 : Int32) vb_3 kv_3 (9 : Int32) [(.int (x0 &&& (255 : Int32))), (.int (x1 &&& (255 : Int32))), (.int 37), (.int 0), (.int 0), (.int 0), (.int 0), (.int 0), (.int 0)] cs h15 n0 Z15 O15 q15_0 q15_1 q15_2 Fc15 Vc15 ge_b1 q3_7 (Ne.symm ne_b1_vb_3) (own_hr (own_hi (own_r8 x2))) (by decide) ⟨by decide, by decide⟩ (by show (3 : Int32).toNatClampNeg < 9; decide) P2 OP0) hZ (hw _ (own_w 30 rfl)) (hw _ (own_w 7 rfl)) (by decide) (by decide)) q18a q18c (g := (mkF m 135 #[rv ba, rv b1, rv ba, iv 3, iv 2, iv x2, iv (x2 &&& (255 : Int32))] [(.int (own_hx ((x2 &&& (255 : Int32)) >>> ((4 : Int32) &&& 31)))), (.ref b1)])) rfl (by rw [hml]; rfl) (Steps.refl _) (argsL := [(.int (own_hx ((x2 &&& (255 : Int32)) >>> ((4 : Int32) &&& 31))))]) (rest := []) (lenOf pd_17 rfl) rfl (Nat.le_of_eq rfl) (hb hby d1_135) (fun _ _ => ⟨rfl, e16, (by decide : 2 + 0 ≤ _), (by decide : 13 + 0 ≤ _)⟩)
        dsimp only [Pt.U, Pt.locs, Pt.cells, Pt.slots] at X18 l18 y18 z18 st18 hQ18
        subst l18 y18 z18
        obtain ⟨h18, e18⟩ : ∃ z, T18.heap = z := ⟨_, rfl⟩
        rw [e18] at hQ18
        obtain ⟨rfl, Nq18, Kq18, q18_0, q18_1, q18_2, q18_3, q18_4⟩ := hQ18
        have Z18 : n0 ≤ h18.size := Nat.le_trans Z15 Kq18.1
        have K18 : Keep h0 h18 [] := K15.trans Kq18 (allS (Or.inr sz_b1) (allS (Or.inr sz_vb_3) all0))
        have O18 : Old Z n0 h18 := O15.keep Kq18 (allS ge_b1 (allS q3_7 all0))
        have N18 := Fr.app N15 Nq18
        refine OE.v (fun t k => st18.trans k) ?_
        have Fc18 : Fld Z h18 b1 "java/lang/AbstractStringBuilder" "count" "I" (.int 4) := q18_3
        have Vc18 : Arv Z h18 vb_3 kv_3 .byte (9 : Int32) [(.int (x0 &&& (255 : Int32))), (.int (x1 &&& (255 : Int32))), (.int 37), (.int (own_hx ((x2 &&& (255 : Int32)) >>> ((4 : Int32) &&& 31)))), (.int 0), (.int 0), (.int 0), (.int 0), (.int 0)] (.int 0) := q18_4
        show OE _ _ _ _ (T18.setTop (mkF m 138 #[rv ba, rv b1, rv ba, iv 3, iv 2, iv x2, iv (x2 &&& (255 : Int32))] [(.ref b1)]))
        obtain ⟨T19, X19, e19, st19⟩ := getS2 X18 hx hZ hown (host := "") (Or.inl (hw _ (own_w 52 rfl))) Via.refl e18 (OP1.ext O18.2) (g := (mkF m 138 #[rv ba, rv b1, rv ba, iv 3, iv 2, iv x2, iv (x2 &&& (255 : Int32))] [(.ref b1)])) rfl (hb hby d1_138)
        refine OE.v st19 ?_
        show OE _ _ _ _ (T19.setTop (mkF m 141 #[rv ba, rv b1, rv ba, iv 3, iv 2, iv x2, iv (x2 &&& (255 : Int32))] [(.ref hxa), (.ref b1)]))
        refine OE.v (fun t k => XS.iload X19.here hx rfl (hb hby d1_141) rfl k) ?_
        refine OE.v (fun t k => XS.bipush X19.here hx rfl (hb hby d1_143) k) ?_
        refine OE.v (fun t k => XS.iand X19.here hx rfl (hb hby d1_145) rfl k) ?_
        have rg20 := own_16 (own_lo (x2 &&& (255 : Int32)))
        have hin20 := inb_of P1.2.1 rg20
        refine OE.v (X19.caload hx (j := ((x2 &&& (255 : Int32)) &&& (15 : Int32))) (v := .int (own_hx ((x2 &&& (255 : Int32)) &&& (15 : Int32)))) (by rw [e19]; exact (P1.1.ext O18.2).1) (State.isArrayOf_alike hZ.alike P1.1.2.1) P1.1.2.2 hin20 (P1.2.2 _ rg20.1 rg20.2) (g := (mkF m 146 #[rv ba, rv b1, rv ba, iv 3, iv 2, iv x2, iv (x2 &&& (255 : Int32))] [(.int ((x2 &&& (255 : Int32)) &&& (15 : Int32))), (.ref hxa), (.ref b1)])) rfl rfl (hb hby d1_146)) ?_
        show OE _ _ _ _ (T19.setTop (mkF m 147 #[rv ba, rv b1, rv ba, iv 3, iv 2, iv x2, iv (x2 &&& (255 : Int32))] [(.int (own_hx ((x2 &&& (255 : Int32)) &&& (15 : Int32)))), (.ref b1)]))
        obtain ⟨cq21, kq21, q21a, q21b, q21c⟩ := isOf hZ e19 q18_0
        obtain ⟨_, _, ⟨T21, L21, k21, n21⟩, -, X21, ⟨Lc21, hQ21, l21, y21, z21⟩, st21⟩ := X19.virtualBack hx (y := (⟨"java/lang/StringBuilder", "append", "(C)Ljava/lang/StringBuilder;"⟩ : MethodName)) (z := (⟨"java/lang/StringBuilder", "append", "(C)Ljava/lang/StringBuilder;"⟩ : MethodName)) hown (mvT hZ (hw _ (own_w 26 rfl))) (mvT hZ (hw _ (own_w 27 rfl))) (notFace_of_selects (args := #[]) (mvT hZ (hw _ (own_w 29 rfl)))) (mvT hZ (hw _ (own_w 29 rfl))) (mvT hZ (hw _ (own_w 28 rfl))) (by decide) (backOf (W := 0) (rm5 l Z a0 hw [] b1 (own_hx ((x2 &&& (255 : Int32)) &&& (15 : Int32))) (4 : Int32) vb_3 kv_3 (9 : Int32) [(.int (x0 &&& (255 : Int32))), (.int (x1 &&& (255 : Int32))), (.int 37), (.int (own_hx ((x2 &&& (255 : Int32)) >>> ((4 : Int32) &&& 31)))), (.int 0), (.int 0), (.int 0), (.int 0), (.int 0)] cs h18 n0 Z18 O18 q18_0 q18_1 q18_2 Fc18 Vc18 ge_b1 q3_7 (Ne.symm ne_b1_vb_3) (own_hr (own_lo (x2 &&& (255 : Int32)))) (by decide) ⟨by decide, by decide⟩ (by show (4 : Int32).toNatClampNeg < 9; decide) P2 OP0) hZ (hw _ (own_w 30 rfl)) (hw _ (own_w 7 rfl)) (by decide) (by decide)) q21a q21c (g := (mkF m 147 #[rv ba, rv b1, rv ba, iv 3, iv 2, iv x2, iv (x2 &&& (255 : Int32))] [(.int (own_hx ((x2 &&& (255 : Int32)) &&& (15 : Int32)))), (.ref b1)])) rfl (by rw [hml]; rfl) (Steps.refl _) (argsL := [(.int (own_hx ((x2 &&& (255 : Int32)) &&& (15 : Int32))))]) (rest := []) (lenOf pd_17 rfl) rfl (Nat.le_of_eq rfl) (hb hby d1_147) (fun _ _ => ⟨rfl, e19, (by decide : 2 + 0 ≤ _), (by decide : 13 + 0 ≤ _)⟩)
        dsimp only [Pt.U, Pt.locs, Pt.cells, Pt.slots] at X21 l21 y21 z21 st21 hQ21
        subst l21 y21 z21
        obtain ⟨h21, e21⟩ : ∃ z, T21.heap = z := ⟨_, rfl⟩
        rw [e21] at hQ21
        obtain ⟨rfl, Nq21, Kq21, q21_0, q21_1, q21_2, q21_3, q21_4⟩ := hQ21
        have Z21 : n0 ≤ h21.size := Nat.le_trans Z18 Kq21.1
        have K21 : Keep h0 h21 [] := K18.trans Kq21 (allS (Or.inr sz_b1) (allS (Or.inr sz_vb_3) all0))
        have O21 : Old Z n0 h21 := O18.keep Kq21 (allS ge_b1 (allS q3_7 all0))
        have N21 := Fr.app N18 Nq21
        refine OE.v (fun t k => st21.trans k) ?_
        have Fc21 : Fld Z h21 b1 "java/lang/AbstractStringBuilder" "count" "I" (.int 5) := q21_3
        have Vc21 : Arv Z h21 vb_3 kv_3 .byte (9 : Int32) [(.int (x0 &&& (255 : Int32))), (.int (x1 &&& (255 : Int32))), (.int 37), (.int (own_hx ((x2 &&& (255 : Int32)) >>> ((4 : Int32) &&& 31)))), (.int (own_hx ((x2 &&& (255 : Int32)) &&& (15 : Int32)))), (.int 0), (.int 0), (.int 0), (.int 0)] (.int 0) := q21_4
        show OE _ _ _ _ (T21.setTop (mkF m 150 #[rv ba, rv b1, rv ba, iv 3, iv 2, iv x2, iv (x2 &&& (255 : Int32))] [(.ref b1)]))
        refine OE.v (fun t k => XS.pop X21.here hx rfl (hb hby d1_150) rfl rfl k) ?_
        refine OE.v (fun t k => XS.iinc X21.here hx rfl (hb hby d1_151) rfl (l' := #[rv ba, rv b1, rv ba, iv 3, iv 3, iv x2, iv (x2 &&& (255 : Int32))]) rfl k) ?_
        refine OE.v (fun t k => XS.goto X21.here hx rfl (pc0 := 154) (pc' := 20) rfl (hb hby d1_154) (by decide) (by decide) k) ?_
        refine OE.v (fun t k => XS.iload X21.here hx rfl (hb hby d1_20) rfl k) ?_
        refine OE.v (fun t k => XS.iloadN X21.here hx rfl (hb hby d1_22) rfl k) ?_
        show OE _ _ _ _ (T21.setTop (mkF m 23 #[rv ba, rv b1, rv ba, iv 3, iv 3, iv x2, iv (x2 &&& (255 : Int32))] [(.int 3), (.int 3)]))
        refine OE.v (fun t k => XS.icmpYes X21.here hx rfl (pc0 := 23) (pc' := 157) rfl (hb hby d1_23) rfl (flt (by decide)).2.1 (by decide) (by decide) k) ?_
        show OE _ _ _ _ (T21.setTop (mkF m 157 #[rv ba, rv b1, rv ba, iv 3, iv 3, iv x2, iv (x2 &&& (255 : Int32))] []))
        refine OE.v (fun t k => XS.aloadN X21.here hx rfl (hb hby d1_157) rfl rfl k) ?_
        show OE _ _ _ _ (T21.setTop (mkF m 158 #[rv ba, rv b1, rv ba, iv 3, iv 3, iv x2, iv (x2 &&& (255 : Int32))] [(.ref b1)]))
        obtain ⟨cq22, kq22, q22a, q22b, q22c⟩ := isOf hZ e21 q21_0
        obtain ⟨_, _, ⟨T22, L22, k22, n22⟩, -, X22, ⟨Lc22, hQ22, l22, y22, z22⟩, st22⟩ := X21.virtualBack hx (y := (⟨"java/lang/StringBuilder", "toString", "()Ljava/lang/String;"⟩ : MethodName)) (z := (⟨"java/lang/StringBuilder", "toString", "()Ljava/lang/String;"⟩ : MethodName)) hown (mvT hZ (hw _ (own_w 54 rfl))) (mvT hZ (hw _ (own_w 55 rfl))) (notFace_of_selects (args := #[]) (mvT hZ (hw _ (own_w 57 rfl)))) (mvT hZ (hw _ (own_w 57 rfl))) (mvT hZ (hw _ (own_w 56 rfl))) (by decide) (backOf (W := 0) (rm10 l Z a0 hw [] b1 (5 : Int32) vb_3 kv_3 (9 : Int32) [(.int (x0 &&& (255 : Int32))), (.int (x1 &&& (255 : Int32))), (.int 37), (.int (own_hx ((x2 &&& (255 : Int32)) >>> ((4 : Int32) &&& 31)))), (.int (own_hx ((x2 &&& (255 : Int32)) &&& (15 : Int32)))), (.int 0), (.int 0), (.int 0), (.int 0)] cs h21 n0 Z21 O21 q21_0 q21_1 q21_2 Fc21 Vc21 (((((q3_5.keep Kq7).keep Kq10).keep Kq15).keep Kq18).keep Kq21) (by decide) P2 OP0) hZ (hw _ (own_w 58 rfl)) (hw _ (own_w 7 rfl)) (by decide) (by decide)) q22a q22c (g := (mkF m 158 #[rv ba, rv b1, rv ba, iv 3, iv 3, iv x2, iv (x2 &&& (255 : Int32))] [(.ref b1)])) rfl (by rw [hml]; rfl) (Steps.refl _) (argsL := []) (rest := []) (lenOf pd_16 rfl) rfl (Nat.le_of_eq rfl) (hb hby d1_158) (fun _ _ => ⟨rfl, e21, (by decide : 2 + 2 ≤ _), (by decide : 13 + 13 ≤ _)⟩)
        dsimp only [Pt.U, Pt.locs, Pt.cells, Pt.slots] at X22 l22 y22 z22 st22 hQ22
        subst l22 y22 z22
        obtain ⟨h22, e22⟩ : ∃ z, T22.heap = z := ⟨_, rfl⟩
        rw [e22] at hQ22
        obtain ⟨a_22, sv_22, ks_22, us_22, rfl, Nq22, Kq22, q22_0, q22_1, q22_2, q22_3, q22_4⟩ := hQ22
        have Z22 : n0 ≤ h22.size := Nat.le_trans Z21 Kq22.1
        have K22 : Keep h0 h22 [] := K21.trans Kq22 all0
        have O22 : Old Z n0 h22 := O21.keep Kq22 all0
        have N22 := Fr.app N21 Nq22
        refine OE.v (fun t k => st22.trans k) ?_
        show OE _ _ _ _ (T22.setTop (mkF m 161 #[rv ba, rv b1, rv ba, iv 3, iv 3, iv x2, iv (x2 &&& (255 : Int32))] [(.ref a_22)]))
        obtain ⟨fs, hr, hrun, hended, hW, hsame⟩ := X22.leave (v := some (.ref a_22)) (fun h => by rw [Bd.returns] at h; cases h)
        refine ⟨_, _, ?_, hrun, hended, _, _, rfl, ?_, ⟨_, rfl⟩, hW, hsame.mono (by decide) (by decide)⟩
        · jvm_step X22.here [X22.here.top, hx, (hb hby d1_161), X22.method', Bd.returns, Value.isRef, FieldType.isReference]
          first | (intro acts; rw [hr _ acts rfl rfl rfl]) | rw [hr _ _ rfl rfl rfl]
          exact Steps.refl _
        · show QE3 Z ba kb x0 x1 x2 hxa hc cs h0 n0 _ T22.heap _
          rw [e22]
          exact ⟨a_22, sv_22, ks_22, us_22, (5 : Int32), rfl, N22, K22, q22_0, q22_1, q22_2, q22_3, (by rw [own_e1 hU6, own_e1 hU9, own_e3 hU12]; exact own_made [(.int 0), (.int 0), (.int 0), (.int 0)] q22_4 rfl rfl (by decide))⟩
    ·
      show OE _ _ _ _ (T7.setTop (mkF m 121 #[rv ba, rv b1, rv ba, iv 3, iv 1, iv x1, iv (x1 &&& (255 : Int32))] []))
      refine OE.v (fun t k => XS.aloadN X7.here hx rfl (hb hby d1_121) rfl rfl k) ?_
      refine OE.v (fun t k => XS.bipush X7.here hx rfl (hb hby d1_122) k) ?_
      show OE _ _ _ _ (T7.setTop (mkF m 124 #[rv ba, rv b1, rv ba, iv 3, iv 1, iv x1, iv (x1 &&& (255 : Int32))] [(.int 37), (.ref b1)]))
      obtain ⟨cq23, kq23, q23a, q23b, q23c⟩ := isOf hZ e7 q7_0
      obtain ⟨_, _, ⟨T23, L23, k23, n23⟩, -, X23, ⟨Lc23, hQ23, l23, y23, z23⟩, st23⟩ := X7.virtualBack hx (y := (⟨"java/lang/StringBuilder", "append", "(C)Ljava/lang/StringBuilder;"⟩ : MethodName)) (z := (⟨"java/lang/StringBuilder", "append", "(C)Ljava/lang/StringBuilder;"⟩ : MethodName)) hown (mvT hZ (hw _ (own_w 26 rfl))) (mvT hZ (hw _ (own_w 27 rfl))) (notFace_of_selects (args := #[]) (mvT hZ (hw _ (own_w 29 rfl)))) (mvT hZ (hw _ (own_w 29 rfl))) (mvT hZ (hw _ (own_w 28 rfl))) (by decide) (backOf (W := 0) (rm5 l Z a0 hw [] b1 (37 : Int32) (1 : Int32) vb_3 kv_3 (9 : Int32) [(.int (x0 &&& (255 : Int32))), (.int 0), (.int 0), (.int 0), (.int 0), (.int 0), (.int 0), (.int 0), (.int 0)] cs h7 n0 Z7 O7 q7_0 q7_1 q7_2 Fc7 Vc7 ge_b1 q3_7 (Ne.symm ne_b1_vb_3) (by decide) (by decide) ⟨by decide, by decide⟩ (by show (1 : Int32).toNatClampNeg < 9; decide) P2 OP0) hZ (hw _ (own_w 30 rfl)) (hw _ (own_w 7 rfl)) (by decide) (by decide)) q23a q23c (g := (mkF m 124 #[rv ba, rv b1, rv ba, iv 3, iv 1, iv x1, iv (x1 &&& (255 : Int32))] [(.int 37), (.ref b1)])) rfl (by rw [hml]; rfl) (Steps.refl _) (argsL := [(.int 37)]) (rest := []) (lenOf pd_17 rfl) rfl (Nat.le_of_eq rfl) (hb hby d1_124) (fun _ _ => ⟨rfl, e7, (by decide : 2 + 0 ≤ _), (by decide : 13 + 0 ≤ _)⟩)
      dsimp only [Pt.U, Pt.locs, Pt.cells, Pt.slots] at X23 l23 y23 z23 st23 hQ23
      subst l23 y23 z23
      obtain ⟨h23, e23⟩ : ∃ z, T23.heap = z := ⟨_, rfl⟩
      rw [e23] at hQ23
      obtain ⟨rfl, Nq23, Kq23, q23_0, q23_1, q23_2, q23_3, q23_4⟩ := hQ23
      have Z23 : n0 ≤ h23.size := Nat.le_trans Z7 Kq23.1
      have K23 : Keep h0 h23 [] := K7.trans Kq23 (allS (Or.inr sz_b1) (allS (Or.inr sz_vb_3) all0))
      have O23 : Old Z n0 h23 := O7.keep Kq23 (allS ge_b1 (allS q3_7 all0))
      have N23 := Fr.app N7 Nq23
      refine OE.v (fun t k => st23.trans k) ?_
      have Fc23 : Fld Z h23 b1 "java/lang/AbstractStringBuilder" "count" "I" (.int 2) := q23_3
      have Vc23 : Arv Z h23 vb_3 kv_3 .byte (9 : Int32) [(.int (x0 &&& (255 : Int32))), (.int 37), (.int 0), (.int 0), (.int 0), (.int 0), (.int 0), (.int 0), (.int 0)] (.int 0) := q23_4
      show OE _ _ _ _ (T23.setTop (mkF m 127 #[rv ba, rv b1, rv ba, iv 3, iv 1, iv x1, iv (x1 &&& (255 : Int32))] [(.ref b1)]))
      obtain ⟨T24, X24, e24, st24⟩ := getS2 X23 hx hZ hown (host := "") (Or.inl (hw _ (own_w 52 rfl))) Via.refl e23 (OP1.ext O23.2) (g := (mkF m 127 #[rv ba, rv b1, rv ba, iv 3, iv 1, iv x1, iv (x1 &&& (255 : Int32))] [(.ref b1)])) rfl (hb hby d1_127)
      refine OE.v st24 ?_
      show OE _ _ _ _ (T24.setTop (mkF m 130 #[rv ba, rv b1, rv ba, iv 3, iv 1, iv x1, iv (x1 &&& (255 : Int32))] [(.ref hxa), (.ref b1)]))
      refine OE.v (fun t k => XS.iload X24.here hx rfl (hb hby d1_130) rfl k) ?_
      refine OE.v (fun t k => XS.iconst X24.here hx rfl (hb hby d1_132) k) ?_
      refine OE.v (fun t k => XS.ishr X24.here hx rfl (hb hby d1_133) rfl k) ?_
      have rg25 := own_16 (own_hi (own_r8 x1))
      have hin25 := inb_of P1.2.1 rg25
      refine OE.v (X24.caload hx (j := ((x1 &&& (255 : Int32)) >>> ((4 : Int32) &&& 31))) (v := .int (own_hx ((x1 &&& (255 : Int32)) >>> ((4 : Int32) &&& 31)))) (by rw [e24]; exact (P1.1.ext O23.2).1) (State.isArrayOf_alike hZ.alike P1.1.2.1) P1.1.2.2 hin25 (P1.2.2 _ rg25.1 rg25.2) (g := (mkF m 134 #[rv ba, rv b1, rv ba, iv 3, iv 1, iv x1, iv (x1 &&& (255 : Int32))] [(.int ((x1 &&& (255 : Int32)) >>> ((4 : Int32) &&& 31))), (.ref hxa), (.ref b1)])) rfl rfl (hb hby d1_134)) ?_
      show OE _ _ _ _ (T24.setTop (mkF m 135 #[rv ba, rv b1, rv ba, iv 3, iv 1, iv x1, iv (x1 &&& (255 : Int32))] [(.int (own_hx ((x1 &&& (255 : Int32)) >>> ((4 : Int32) &&& 31)))), (.ref b1)]))
      obtain ⟨cq26, kq26, q26a, q26b, q26c⟩ := isOf hZ e24 q23_0
      obtain ⟨_, _, ⟨T26, L26, k26, n26⟩, -, X26, ⟨Lc26, hQ26, l26, y26, z26⟩, st26⟩ := X24.virtualBack hx (y := (⟨"java/lang/StringBuilder", "append", "(C)Ljava/lang/StringBuilder;"⟩ : MethodName)) (z := (⟨"java/lang/StringBuilder", "append", "(C)Ljava/lang/StringBuilder;"⟩ : MethodName)) hown (mvT hZ (hw _ (own_w 26 rfl))) (mvT hZ (hw _ (own_w 27 rfl))) (notFace_of_selects (args := #[]) (mvT hZ (hw _ (own_w 29 rfl)))) (mvT hZ (hw _ (own_w 29 rfl))) (mvT hZ (hw _ (own_w 28 rfl))) (by decide) (backOf (W := 0) (rm5 l Z a0 hw [] b1 (own_hx ((x1 &&& (255 : Int32)) >>> ((4 : Int32) &&& 31))) (2 : Int32) vb_3 kv_3 (9 : Int32) [(.int (x0 &&& (255 : Int32))), (.int 37), (.int 0), (.int 0), (.int 0), (.int 0), (.int 0), (.int 0), (.int 0)] cs h23 n0 Z23 O23 q23_0 q23_1 q23_2 Fc23 Vc23 ge_b1 q3_7 (Ne.symm ne_b1_vb_3) (own_hr (own_hi (own_r8 x1))) (by decide) ⟨by decide, by decide⟩ (by show (2 : Int32).toNatClampNeg < 9; decide) P2 OP0) hZ (hw _ (own_w 30 rfl)) (hw _ (own_w 7 rfl)) (by decide) (by decide)) q26a q26c (g := (mkF m 135 #[rv ba, rv b1, rv ba, iv 3, iv 1, iv x1, iv (x1 &&& (255 : Int32))] [(.int (own_hx ((x1 &&& (255 : Int32)) >>> ((4 : Int32) &&& 31)))), (.ref b1)])) rfl (by rw [hml]; rfl) (Steps.refl _) (argsL := [(.int (own_hx ((x1 &&& (255 : Int32)) >>> ((4 : Int32) &&& 31))))]) (rest := []) (lenOf pd_17 rfl) rfl (Nat.le_of_eq rfl) (hb hby d1_135) (fun _ _ => ⟨rfl, e24, (by decide : 2 + 0 ≤ _), (by decide : 13 + 0 ≤ _)⟩)
      dsimp only [Pt.U, Pt.locs, Pt.cells, Pt.slots] at X26 l26 y26 z26 st26 hQ26
      subst l26 y26 z26
      obtain ⟨h26, e26⟩ : ∃ z, T26.heap = z := ⟨_, rfl⟩
      rw [e26] at hQ26
      obtain ⟨rfl, Nq26, Kq26, q26_0, q26_1, q26_2, q26_3, q26_4⟩ := hQ26
      have Z26 : n0 ≤ h26.size := Nat.le_trans Z23 Kq26.1
      have K26 : Keep h0 h26 [] := K23.trans Kq26 (allS (Or.inr sz_b1) (allS (Or.inr sz_vb_3) all0))
      have O26 : Old Z n0 h26 := O23.keep Kq26 (allS ge_b1 (allS q3_7 all0))
      have N26 := Fr.app N23 Nq26
      refine OE.v (fun t k => st26.trans k) ?_
      have Fc26 : Fld Z h26 b1 "java/lang/AbstractStringBuilder" "count" "I" (.int 3) := q26_3
      have Vc26 : Arv Z h26 vb_3 kv_3 .byte (9 : Int32) [(.int (x0 &&& (255 : Int32))), (.int 37), (.int (own_hx ((x1 &&& (255 : Int32)) >>> ((4 : Int32) &&& 31)))), (.int 0), (.int 0), (.int 0), (.int 0), (.int 0), (.int 0)] (.int 0) := q26_4
      show OE _ _ _ _ (T26.setTop (mkF m 138 #[rv ba, rv b1, rv ba, iv 3, iv 1, iv x1, iv (x1 &&& (255 : Int32))] [(.ref b1)]))
      obtain ⟨T27, X27, e27, st27⟩ := getS2 X26 hx hZ hown (host := "") (Or.inl (hw _ (own_w 52 rfl))) Via.refl e26 (OP1.ext O26.2) (g := (mkF m 138 #[rv ba, rv b1, rv ba, iv 3, iv 1, iv x1, iv (x1 &&& (255 : Int32))] [(.ref b1)])) rfl (hb hby d1_138)
      refine OE.v st27 ?_
      show OE _ _ _ _ (T27.setTop (mkF m 141 #[rv ba, rv b1, rv ba, iv 3, iv 1, iv x1, iv (x1 &&& (255 : Int32))] [(.ref hxa), (.ref b1)]))
      refine OE.v (fun t k => XS.iload X27.here hx rfl (hb hby d1_141) rfl k) ?_
      refine OE.v (fun t k => XS.bipush X27.here hx rfl (hb hby d1_143) k) ?_
      refine OE.v (fun t k => XS.iand X27.here hx rfl (hb hby d1_145) rfl k) ?_
      have rg28 := own_16 (own_lo (x1 &&& (255 : Int32)))
      have hin28 := inb_of P1.2.1 rg28
      refine OE.v (X27.caload hx (j := ((x1 &&& (255 : Int32)) &&& (15 : Int32))) (v := .int (own_hx ((x1 &&& (255 : Int32)) &&& (15 : Int32)))) (by rw [e27]; exact (P1.1.ext O26.2).1) (State.isArrayOf_alike hZ.alike P1.1.2.1) P1.1.2.2 hin28 (P1.2.2 _ rg28.1 rg28.2) (g := (mkF m 146 #[rv ba, rv b1, rv ba, iv 3, iv 1, iv x1, iv (x1 &&& (255 : Int32))] [(.int ((x1 &&& (255 : Int32)) &&& (15 : Int32))), (.ref hxa), (.ref b1)])) rfl rfl (hb hby d1_146)) ?_
      show OE _ _ _ _ (T27.setTop (mkF m 147 #[rv ba, rv b1, rv ba, iv 3, iv 1, iv x1, iv (x1 &&& (255 : Int32))] [(.int (own_hx ((x1 &&& (255 : Int32)) &&& (15 : Int32)))), (.ref b1)]))
      obtain ⟨cq29, kq29, q29a, q29b, q29c⟩ := isOf hZ e27 q26_0
      obtain ⟨_, _, ⟨T29, L29, k29, n29⟩, -, X29, ⟨Lc29, hQ29, l29, y29, z29⟩, st29⟩ := X27.virtualBack hx (y := (⟨"java/lang/StringBuilder", "append", "(C)Ljava/lang/StringBuilder;"⟩ : MethodName)) (z := (⟨"java/lang/StringBuilder", "append", "(C)Ljava/lang/StringBuilder;"⟩ : MethodName)) hown (mvT hZ (hw _ (own_w 26 rfl))) (mvT hZ (hw _ (own_w 27 rfl))) (notFace_of_selects (args := #[]) (mvT hZ (hw _ (own_w 29 rfl)))) (mvT hZ (hw _ (own_w 29 rfl))) (mvT hZ (hw _ (own_w 28 rfl))) (by decide) (backOf (W := 0) (rm5 l Z a0 hw [] b1 (own_hx ((x1 &&& (255 : Int32)) &&& (15 : Int32))) (3 : Int32) vb_3 kv_3 (9 : Int32) [(.int (x0 &&& (255 : Int32))), (.int 37), (.int (own_hx ((x1 &&& (255 : Int32)) >>> ((4 : Int32) &&& 31)))), (.int 0), (.int 0), (.int 0), (.int 0), (.int 0), (.int 0)] cs h26 n0 Z26 O26 q26_0 q26_1 q26_2 Fc26 Vc26 ge_b1 q3_7 (Ne.symm ne_b1_vb_3) (own_hr (own_lo (x1 &&& (255 : Int32)))) (by decide) ⟨by decide, by decide⟩ (by show (3 : Int32).toNatClampNeg < 9; decide) P2 OP0) hZ (hw _ (own_w 30 rfl)) (hw _ (own_w 7 rfl)) (by decide) (by decide)) q29a q29c (g := (mkF m 147 #[rv ba, rv b1, rv ba, iv 3, iv 1, iv x1, iv (x1 &&& (255 : Int32))] [(.int (own_hx ((x1 &&& (255 : Int32)) &&& (15 : Int32)))), (.ref b1)])) rfl (by rw [hml]; rfl) (Steps.refl _) (argsL := [(.int (own_hx ((x1 &&& (255 : Int32)) &&& (15 : Int32))))]) (rest := []) (lenOf pd_17 rfl) rfl (Nat.le_of_eq rfl) (hb hby d1_147) (fun _ _ => ⟨rfl, e27, (by decide : 2 + 0 ≤ _), (by decide : 13 + 0 ≤ _)⟩)
      dsimp only [Pt.U, Pt.locs, Pt.cells, Pt.slots] at X29 l29 y29 z29 st29 hQ29
      subst l29 y29 z29
      obtain ⟨h29, e29⟩ : ∃ z, T29.heap = z := ⟨_, rfl⟩
      rw [e29] at hQ29
      obtain ⟨rfl, Nq29, Kq29, q29_0, q29_1, q29_2, q29_3, q29_4⟩ := hQ29
      have Z29 : n0 ≤ h29.size := Nat.le_trans Z26 Kq29.1
      have K29 : Keep h0 h29 [] := K26.trans Kq29 (allS (Or.inr sz_b1) (allS (Or.inr sz_vb_3) all0))
      have O29 : Old Z n0 h29 := O26.keep Kq29 (allS ge_b1 (allS q3_7 all0))
      have N29 := Fr.app N26 Nq29
      refine OE.v (fun t k => st29.trans k) ?_
      have Fc29 : Fld Z h29 b1 "java/lang/AbstractStringBuilder" "count" "I" (.int 4) := q29_3
      have Vc29 : Arv Z h29 vb_3 kv_3 .byte (9 : Int32) [(.int (x0 &&& (255 : Int32))), (.int 37), (.int (own_hx ((x1 &&& (255 : Int32)) >>> ((4 : Int32) &&& 31)))), (.int (own_hx ((x1 &&& (255 : Int32)) &&& (15 : Int32)))), (.int 0), (.int 0), (.int 0), (.int 0), (.int 0)] (.int 0) := q29_4
      show OE _ _ _ _ (T29.setTop (mkF m 150 #[rv ba, rv b1, rv ba, iv 3, iv 1, iv x1, iv (x1 &&& (255 : Int32))] [(.ref b1)]))
      refine OE.v (fun t k => XS.pop X29.here hx rfl (hb hby d1_150) rfl rfl k) ?_
      refine OE.v (fun t k => XS.iinc X29.here hx rfl (hb hby d1_151) rfl (l' := #[rv ba, rv b1, rv ba, iv 3, iv 2, iv x1, iv (x1 &&& (255 : Int32))]) rfl k) ?_
      refine OE.v (fun t k => XS.goto X29.here hx rfl (pc0 := 154) (pc' := 20) rfl (hb hby d1_154) (by decide) (by decide) k) ?_
      refine OE.v (fun t k => XS.iload X29.here hx rfl (hb hby d1_20) rfl k) ?_
      refine OE.v (fun t k => XS.iloadN X29.here hx rfl (hb hby d1_22) rfl k) ?_
      show OE _ _ _ _ (T29.setTop (mkF m 23 #[rv ba, rv b1, rv ba, iv 3, iv 2, iv x1, iv (x1 &&& (255 : Int32))] [(.int 3), (.int 2)]))
      refine OE.v (fun t k => XS.icmpNo X29.here hx rfl (hb hby d1_23) rfl (tlt (by decide)).2.1 k) ?_
      show OE _ _ _ _ (T29.setTop (mkF m 26 #[rv ba, rv b1, rv ba, iv 3, iv 2, iv x1, iv (x1 &&& (255 : Int32))] []))
      refine OE.v (fun t k => XS.aloadN X29.here hx rfl (hb hby d1_26) rfl rfl k) ?_
      refine OE.v (fun t k => XS.iload X29.here hx rfl (hb hby d1_27) rfl k) ?_
      show OE _ _ _ _ (T29.setTop (mkF m 29 #[rv ba, rv b1, rv ba, iv 3, iv 2, iv x1, iv (x1 &&& (255 : Int32))] [(.int 2), (.ref ba)]))
      obtain ⟨cl30, Ar30, q30, S30, M30, H30, G30⟩ := id ((((((P0.ext E1).keep Kq3 (ninS ne_ba_b1 nin0)).keep Kq7 (ninS ne_ba_b1 (ninS ne_ba_vb_3 nin0))).keep Kq23 (ninS ne_ba_b1 (ninS ne_ba_vb_3 nin0))).keep Kq26 (ninS ne_ba_b1 (ninS ne_ba_vb_3 nin0))).keep Kq29 (ninS ne_ba_b1 (ninS ne_ba_vb_3 nin0)))
      have hin30 : ¬ ((2 : Int32) < 0 ∨ cl30.slots.size ≤ ((2 : Int32)).toNatClampNeg) := inb_of S30 ⟨by decide, by decide⟩
      have hat30 : cl30.slots[((2 : Int32)).toNatClampNeg]? = some (.int x2) := H30.at hin30 rfl
      refine OE.v (X29.baloadBytes hx (j := (2 : Int32)) (v := (.int x2)) (by rw [e29]; exact Ar30.1) (State.isArrayOf_alike hZ.alike Ar30.2.1) Ar30.2.2 hin30 hat30 (g := (mkF m 29 #[rv ba, rv b1, rv ba, iv 3, iv 2, iv x1, iv (x1 &&& (255 : Int32))] [(.int 2), (.ref ba)])) rfl rfl (hb hby d1_29)) ?_
      show OE _ _ _ _ (T29.setTop (mkF m 30 #[rv ba, rv b1, rv ba, iv 3, iv 2, iv x1, iv (x1 &&& (255 : Int32))] [(.int x2)]))
      refine OE.v (fun t k => XS.istore X29.here hx rfl (hb hby d1_30) rfl (l' := #[rv ba, rv b1, rv ba, iv 3, iv 2, iv x2, iv (x1 &&& (255 : Int32))]) rfl k) ?_
      refine OE.v (fun t k => XS.iload X29.here hx rfl (hb hby d1_32) rfl k) ?_
      refine OE.v (fun t k => XS.sipush X29.here hx rfl (hb hby d1_34) k) ?_
      refine OE.v (fun t k => XS.iand X29.here hx rfl (hb hby d1_37) rfl k) ?_
      refine OE.v (fun t k => XS.i2c X29.here hx rfl (hb hby d1_38) rfl k) ?_
      show OE _ _ _ _ (T29.setTop (mkF m 39 #[rv ba, rv b1, rv ba, iv 3, iv 2, iv x2, iv (x1 &&& (255 : Int32))] [(.int ((x2 &&& (255 : Int32)).toUInt32.toUInt16.toUInt32.toInt32))]))
      rw [own_cx x2]
      refine OE.v (fun t k => XS.istore X29.here hx rfl (hb hby d1_39) rfl (l' := #[rv ba, rv b1, rv ba, iv 3, iv 2, iv x2, iv (x2 &&& (255 : Int32))]) rfl k) ?_
      show OE _ _ _ _ (T29.setTop (mkF m 41 #[rv ba, rv b1, rv ba, iv 3, iv 2, iv x2, iv (x2 &&& (255 : Int32))] []))
      refine own_chain X29 hx hby ba b1 (3 : Int32) (2 : Int32) x2 (x2 &&& (255 : Int32)) (fun hU31 => ?_) (fun hU31 => ?_)
      ·
        show OE _ _ _ _ (T29.setTop (mkF m 111 #[rv ba, rv b1, rv ba, iv 3, iv 2, iv x2, iv (x2 &&& (255 : Int32))] []))
        refine OE.v (fun t k => XS.aloadN X29.here hx rfl (hb hby d1_111) rfl rfl k) ?_
        refine OE.v (fun t k => XS.iload X29.here hx rfl (hb hby d1_112) rfl k) ?_
        show OE _ _ _ _ (T29.setTop (mkF m 114 #[rv ba, rv b1, rv ba, iv 3, iv 2, iv x2, iv (x2 &&& (255 : Int32))] [(.int (x2 &&& (255 : Int32))), (.ref b1)]))
        obtain ⟨cq32, kq32, q32a, q32b, q32c⟩ := isOf hZ e29 q29_0
        obtain ⟨_, _, ⟨T32, L32, k32, n32⟩, -, X32, ⟨Lc32, hQ32, l32, y32, z32⟩, st32⟩ := X29.virtualBack hx (y := (⟨"java/lang/StringBuilder", "append", "(C)Ljava/lang/StringBuilder;"⟩ : MethodName)) (z := (⟨"java/lang/StringBuilder", "append", "(C)Ljava/lang/StringBuilder;"⟩ : MethodName)) hown (mvT hZ (hw _ (own_w 26 rfl))) (mvT hZ (hw _ (own_w 27 rfl))) (notFace_of_selects (args := #[]) (mvT hZ (hw _ (own_w 29 rfl)))) (mvT hZ (hw _ (own_w 29 rfl))) (mvT hZ (hw _ (own_w 28 rfl))) (by decide) (backOf (W := 0) (rm5 l Z a0 hw [] b1 (x2 &&& (255 : Int32)) (4 : Int32) vb_3 kv_3 (9 : Int32) [(.int (x0 &&& (255 : Int32))), (.int 37), (.int (own_hx ((x1 &&& (255 : Int32)) >>> ((4 : Int32) &&& 31)))), (.int (own_hx ((x1 &&& (255 : Int32)) &&& (15 : Int32)))), (.int 0), (.int 0), (.int 0), (.int 0), (.int 0)] cs h29 n0 Z29 O29 q29_0 q29_1 q29_2 Fc29 Vc29 ge_b1 q3_7 (Ne.symm ne_b1_vb_3) (own_ur hU31) (by decide) ⟨by decide, by decide⟩ (by show (4 : Int32).toNatClampNeg < 9; decide) P2 OP0) hZ (hw _ (own_w 30 rfl)) (hw _ (own_w 7 rfl)) (by decide) (by decide)) q32a q32c (g := (mkF m 114 #[rv ba, rv b1, rv ba, iv 3, iv 2, iv x2, iv (x2 &&& (255 : Int32))] [(.int (x2 &&& (255 : Int32))), (.ref b1)])) rfl (by rw [hml]; rfl) (Steps.refl _) (argsL := [(.int (x2 &&& (255 : Int32)))]) (rest := []) (lenOf pd_17 rfl) rfl (Nat.le_of_eq rfl) (hb hby d1_114) (fun _ _ => ⟨rfl, e29, (by decide : 2 + 0 ≤ _), (by decide : 13 + 0 ≤ _)⟩)
        dsimp only [Pt.U, Pt.locs, Pt.cells, Pt.slots] at X32 l32 y32 z32 st32 hQ32
        subst l32 y32 z32
        obtain ⟨h32, e32⟩ : ∃ z, T32.heap = z := ⟨_, rfl⟩
        rw [e32] at hQ32
        obtain ⟨rfl, Nq32, Kq32, q32_0, q32_1, q32_2, q32_3, q32_4⟩ := hQ32
        have Z32 : n0 ≤ h32.size := Nat.le_trans Z29 Kq32.1
        have K32 : Keep h0 h32 [] := K29.trans Kq32 (allS (Or.inr sz_b1) (allS (Or.inr sz_vb_3) all0))
        have O32 : Old Z n0 h32 := O29.keep Kq32 (allS ge_b1 (allS q3_7 all0))
        have N32 := Fr.app N29 Nq32
        refine OE.v (fun t k => st32.trans k) ?_
        have Fc32 : Fld Z h32 b1 "java/lang/AbstractStringBuilder" "count" "I" (.int 5) := q32_3
        have Vc32 : Arv Z h32 vb_3 kv_3 .byte (9 : Int32) [(.int (x0 &&& (255 : Int32))), (.int 37), (.int (own_hx ((x1 &&& (255 : Int32)) >>> ((4 : Int32) &&& 31)))), (.int (own_hx ((x1 &&& (255 : Int32)) &&& (15 : Int32)))), (.int (x2 &&& (255 : Int32))), (.int 0), (.int 0), (.int 0), (.int 0)] (.int 0) := q32_4
        show OE _ _ _ _ (T32.setTop (mkF m 117 #[rv ba, rv b1, rv ba, iv 3, iv 2, iv x2, iv (x2 &&& (255 : Int32))] [(.ref b1)]))
        refine OE.v (fun t k => XS.pop X32.here hx rfl (hb hby d1_117) rfl rfl k) ?_
        refine OE.v (fun t k => XS.goto X32.here hx rfl (pc0 := 118) (pc' := 151) rfl (hb hby d1_118) (by decide) (by decide) k) ?_
        refine OE.v (fun t k => XS.iinc X32.here hx rfl (hb hby d1_151) rfl (l' := #[rv ba, rv b1, rv ba, iv 3, iv 3, iv x2, iv (x2 &&& (255 : Int32))]) rfl k) ?_
        refine OE.v (fun t k => XS.goto X32.here hx rfl (pc0 := 154) (pc' := 20) rfl (hb hby d1_154) (by decide) (by decide) k) ?_
        refine OE.v (fun t k => XS.iload X32.here hx rfl (hb hby d1_20) rfl k) ?_
        refine OE.v (fun t k => XS.iloadN X32.here hx rfl (hb hby d1_22) rfl k) ?_
        show OE _ _ _ _ (T32.setTop (mkF m 23 #[rv ba, rv b1, rv ba, iv 3, iv 3, iv x2, iv (x2 &&& (255 : Int32))] [(.int 3), (.int 3)]))
        refine OE.v (fun t k => XS.icmpYes X32.here hx rfl (pc0 := 23) (pc' := 157) rfl (hb hby d1_23) rfl (flt (by decide)).2.1 (by decide) (by decide) k) ?_
        show OE _ _ _ _ (T32.setTop (mkF m 157 #[rv ba, rv b1, rv ba, iv 3, iv 3, iv x2, iv (x2 &&& (255 : Int32))] []))
        refine OE.v (fun t k => XS.aloadN X32.here hx rfl (hb hby d1_157) rfl rfl k) ?_
        show OE _ _ _ _ (T32.setTop (mkF m 158 #[rv ba, rv b1, rv ba, iv 3, iv 3, iv x2, iv (x2 &&& (255 : Int32))] [(.ref b1)]))
        obtain ⟨cq33, kq33, q33a, q33b, q33c⟩ := isOf hZ e32 q32_0
        obtain ⟨_, _, ⟨T33, L33, k33, n33⟩, -, X33, ⟨Lc33, hQ33, l33, y33, z33⟩, st33⟩ := X32.virtualBack hx (y := (⟨"java/lang/StringBuilder", "toString", "()Ljava/lang/String;"⟩ : MethodName)) (z := (⟨"java/lang/StringBuilder", "toString", "()Ljava/lang/String;"⟩ : MethodName)) hown (mvT hZ (hw _ (own_w 54 rfl))) (mvT hZ (hw _ (own_w 55 rfl))) (notFace_of_selects (args := #[]) (mvT hZ (hw _ (own_w 57 rfl)))) (mvT hZ (hw _ (own_w 57 rfl))) (mvT hZ (hw _ (own_w 56 rfl))) (by decide) (backOf (W := 0) (rm10 l Z a0 hw [] b1 (5 : Int32) vb_3 kv_3 (9 : Int32) [(.int (x0 &&& (255 : Int32))), (.int 37), (.int (own_hx ((x1 &&& (255 : Int32)) >>> ((4 : Int32) &&& 31)))), (.int (own_hx ((x1 &&& (255 : Int32)) &&& (15 : Int32)))), (.int (x2 &&& (255 : Int32))), (.int 0), (.int 0), (.int 0), (.int 0)] cs h32 n0 Z32 O32 q32_0 q32_1 q32_2 Fc32 Vc32 (((((q3_5.keep Kq7).keep Kq23).keep Kq26).keep Kq29).keep Kq32) (by decide) P2 OP0) hZ (hw _ (own_w 58 rfl)) (hw _ (own_w 7 rfl)) (by decide) (by decide)) q33a q33c (g := (mkF m 158 #[rv ba, rv b1, rv ba, iv 3, iv 3, iv x2, iv (x2 &&& (255 : Int32))] [(.ref b1)])) rfl (by rw [hml]; rfl) (Steps.refl _) (argsL := []) (rest := []) (lenOf pd_16 rfl) rfl (Nat.le_of_eq rfl) (hb hby d1_158) (fun _ _ => ⟨rfl, e32, (by decide : 2 + 2 ≤ _), (by decide : 13 + 13 ≤ _)⟩)
        dsimp only [Pt.U, Pt.locs, Pt.cells, Pt.slots] at X33 l33 y33 z33 st33 hQ33
        subst l33 y33 z33
        obtain ⟨h33, e33⟩ : ∃ z, T33.heap = z := ⟨_, rfl⟩
        rw [e33] at hQ33
        obtain ⟨a_33, sv_33, ks_33, us_33, rfl, Nq33, Kq33, q33_0, q33_1, q33_2, q33_3, q33_4⟩ := hQ33
        have Z33 : n0 ≤ h33.size := Nat.le_trans Z32 Kq33.1
        have K33 : Keep h0 h33 [] := K32.trans Kq33 all0
        have O33 : Old Z n0 h33 := O32.keep Kq33 all0
        have N33 := Fr.app N32 Nq33
        refine OE.v (fun t k => st33.trans k) ?_
        show OE _ _ _ _ (T33.setTop (mkF m 161 #[rv ba, rv b1, rv ba, iv 3, iv 3, iv x2, iv (x2 &&& (255 : Int32))] [(.ref a_33)]))
        obtain ⟨fs, hr, hrun, hended, hW, hsame⟩ := X33.leave (v := some (.ref a_33)) (fun h => by rw [Bd.returns] at h; cases h)
        refine ⟨_, _, ?_, hrun, hended, _, _, rfl, ?_, ⟨_, rfl⟩, hW, hsame.mono (by decide) (by decide)⟩
        · jvm_step X33.here [X33.here.top, hx, (hb hby d1_161), X33.method', Bd.returns, Value.isRef, FieldType.isReference]
          first | (intro acts; rw [hr _ acts rfl rfl rfl]) | rw [hr _ _ rfl rfl rfl]
          exact Steps.refl _
        · show QE3 Z ba kb x0 x1 x2 hxa hc cs h0 n0 _ T33.heap _
          rw [e33]
          exact ⟨a_33, sv_33, ks_33, us_33, (5 : Int32), rfl, N33, K33, q33_0, q33_1, q33_2, q33_3, (by rw [own_e1 hU6, own_e3 hU9, own_e1 hU31]; exact own_made [(.int 0), (.int 0), (.int 0), (.int 0)] q33_4 rfl rfl (by decide))⟩
      ·
        show OE _ _ _ _ (T29.setTop (mkF m 121 #[rv ba, rv b1, rv ba, iv 3, iv 2, iv x2, iv (x2 &&& (255 : Int32))] []))
        refine OE.v (fun t k => XS.aloadN X29.here hx rfl (hb hby d1_121) rfl rfl k) ?_
        refine OE.v (fun t k => XS.bipush X29.here hx rfl (hb hby d1_122) k) ?_
        show OE _ _ _ _ (T29.setTop (mkF m 124 #[rv ba, rv b1, rv ba, iv 3, iv 2, iv x2, iv (x2 &&& (255 : Int32))] [(.int 37), (.ref b1)]))
        obtain ⟨cq34, kq34, q34a, q34b, q34c⟩ := isOf hZ e29 q29_0
        obtain ⟨_, _, ⟨T34, L34, k34, n34⟩, -, X34, ⟨Lc34, hQ34, l34, y34, z34⟩, st34⟩ := X29.virtualBack hx (y := (⟨"java/lang/StringBuilder", "append", "(C)Ljava/lang/StringBuilder;"⟩ : MethodName)) (z := (⟨"java/lang/StringBuilder", "append", "(C)Ljava/lang/StringBuilder;"⟩ : MethodName)) hown (mvT hZ (hw _ (own_w 26 rfl))) (mvT hZ (hw _ (own_w 27 rfl))) (notFace_of_selects (args := #[]) (mvT hZ (hw _ (own_w 29 rfl)))) (mvT hZ (hw _ (own_w 29 rfl))) (mvT hZ (hw _ (own_w 28 rfl))) (by decide) (backOf (W := 0) (rm5 l Z a0 hw [] b1 (37 : Int32) (4 : Int32) vb_3 kv_3 (9 : Int32) [(.int (x0 &&& (255 : Int32))), (.int 37), (.int (own_hx ((x1 &&& (255 : Int32)) >>> ((4 : Int32) &&& 31)))), (.int (own_hx ((x1 &&& (255 : Int32)) &&& (15 : Int32)))), (.int 0), (.int 0), (.int 0), (.int 0), (.int 0)] cs h29 n0 Z29 O29 q29_0 q29_1 q29_2 Fc29 Vc29 ge_b1 q3_7 (Ne.symm ne_b1_vb_3) (by decide) (by decide) ⟨by decide, by decide⟩ (by show (4 : Int32).toNatClampNeg < 9; decide) P2 OP0) hZ (hw _ (own_w 30 rfl)) (hw _ (own_w 7 rfl)) (by decide) (by decide)) q34a q34c (g := (mkF m 124 #[rv ba, rv b1, rv ba, iv 3, iv 2, iv x2, iv (x2 &&& (255 : Int32))] [(.int 37), (.ref b1)])) rfl (by rw [hml]; rfl) (Steps.refl _) (argsL := [(.int 37)]) (rest := []) (lenOf pd_17 rfl) rfl (Nat.le_of_eq rfl) (hb hby d1_124) (fun _ _ => ⟨rfl, e29, (by decide : 2 + 0 ≤ _), (by decide : 13 + 0 ≤ _)⟩)
        dsimp only [Pt.U, Pt.locs, Pt.cells, Pt.slots] at X34 l34 y34 z34 st34 hQ34
        subst l34 y34 z34
        obtain ⟨h34, e34⟩ : ∃ z, T34.heap = z := ⟨_, rfl⟩
        rw [e34] at hQ34
        obtain ⟨rfl, Nq34, Kq34, q34_0, q34_1, q34_2, q34_3, q34_4⟩ := hQ34
        have Z34 : n0 ≤ h34.size := Nat.le_trans Z29 Kq34.1
        have K34 : Keep h0 h34 [] := K29.trans Kq34 (allS (Or.inr sz_b1) (allS (Or.inr sz_vb_3) all0))
        have O34 : Old Z n0 h34 := O29.keep Kq34 (allS ge_b1 (allS q3_7 all0))
        have N34 := Fr.app N29 Nq34
        refine OE.v (fun t k => st34.trans k) ?_
        have Fc34 : Fld Z h34 b1 "java/lang/AbstractStringBuilder" "count" "I" (.int 5) := q34_3
        have Vc34 : Arv Z h34 vb_3 kv_3 .byte (9 : Int32) [(.int (x0 &&& (255 : Int32))), (.int 37), (.int (own_hx ((x1 &&& (255 : Int32)) >>> ((4 : Int32) &&& 31)))), (.int (own_hx ((x1 &&& (255 : Int32)) &&& (15 : Int32)))), (.int 37), (.int 0), (.int 0), (.int 0), (.int 0)] (.int 0) := q34_4
        show OE _ _ _ _ (T34.setTop (mkF m 127 #[rv ba, rv b1, rv ba, iv 3, iv 2, iv x2, iv (x2 &&& (255 : Int32))] [(.ref b1)]))
        obtain ⟨T35, X35, e35, st35⟩ := getS2 X34 hx hZ hown (host := "") (Or.inl (hw _ (own_w 52 rfl))) Via.refl e34 (OP1.ext O34.2) (g := (mkF m 127 #[rv ba, rv b1, rv ba, iv 3, iv 2, iv x2, iv (x2 &&& (255 : Int32))] [(.ref b1)])) rfl (hb hby d1_127)
        refine OE.v st35 ?_
        show OE _ _ _ _ (T35.setTop (mkF m 130 #[rv ba, rv b1, rv ba, iv 3, iv 2, iv x2, iv (x2 &&& (255 : Int32))] [(.ref hxa), (.ref b1)]))
        refine OE.v (fun t k => XS.iload X35.here hx rfl (hb hby d1_130) rfl k) ?_
        refine OE.v (fun t k => XS.iconst X35.here hx rfl (hb hby d1_132) k) ?_
        refine OE.v (fun t k => XS.ishr X35.here hx rfl (hb hby d1_133) rfl k) ?_
        have rg36 := own_16 (own_hi (own_r8 x2))
        have hin36 := inb_of P1.2.1 rg36
        refine OE.v (X35.caload hx (j := ((x2 &&& (255 : Int32)) >>> ((4 : Int32) &&& 31))) (v := .int (own_hx ((x2 &&& (255 : Int32)) >>> ((4 : Int32) &&& 31)))) (by rw [e35]; exact (P1.1.ext O34.2).1) (State.isArrayOf_alike hZ.alike P1.1.2.1) P1.1.2.2 hin36 (P1.2.2 _ rg36.1 rg36.2) (g := (mkF m 134 #[rv ba, rv b1, rv ba, iv 3, iv 2, iv x2, iv (x2 &&& (255 : Int32))] [(.int ((x2 &&& (255 : Int32)) >>> ((4 : Int32) &&& 31))), (.ref hxa), (.ref b1)])) rfl rfl (hb hby d1_134)) ?_
        show OE _ _ _ _ (T35.setTop (mkF m 135 #[rv ba, rv b1, rv ba, iv 3, iv 2, iv x2, iv (x2 &&& (255 : Int32))] [(.int (own_hx ((x2 &&& (255 : Int32)) >>> ((4 : Int32) &&& 31)))), (.ref b1)]))
        obtain ⟨cq37, kq37, q37a, q37b, q37c⟩ := isOf hZ e35 q34_0
        obtain ⟨_, _, ⟨T37, L37, k37, n37⟩, -, X37, ⟨Lc37, hQ37, l37, y37, z37⟩, st37⟩ := X35.virtualBack hx (y := (⟨"java/lang/StringBuilder", "append", "(C)Ljava/lang/StringBuilder;"⟩ : MethodName)) (z := (⟨"java/lang/StringBuilder", "append", "(C)Ljava/lang/StringBuilder;"⟩ : MethodName)) hown (mvT hZ (hw _ (own_w 26 rfl))) (mvT hZ (hw _ (own_w 27 rfl))) (notFace_of_selects (args := #[]) (mvT hZ (hw _ (own_w 29 rfl)))) (mvT hZ (hw _ (own_w 29 rfl))) (mvT hZ (hw _ (own_w 28 rfl))) (by decide) (backOf (W := 0) (rm5 l Z a0 hw [] b1 (own_hx ((x2 &&& (255 : Int32)) >>> ((4 : Int32) &&& 31))) (5 : Int32) vb_3 kv_3 (9 : Int32) [(.int (x0 &&& (255 : Int32))), (.int 37), (.int (own_hx ((x1 &&& (255 : Int32)) >>> ((4 : Int32) &&& 31)))), (.int (own_hx ((x1 &&& (255 : Int32)) &&& (15 : Int32)))), (.int 37), (.int 0), (.int 0), (.int 0), (.int 0)] cs h34 n0 Z34 O34 q34_0 q34_1 q34_2 Fc34 Vc34 ge_b1 q3_7 (Ne.symm ne_b1_vb_3) (own_hr (own_hi (own_r8 x2))) (by decide) ⟨by decide, by decide⟩ (by show (5 : Int32).toNatClampNeg < 9; decide) P2 OP0) hZ (hw _ (own_w 30 rfl)) (hw _ (own_w 7 rfl)) (by decide) (by decide)) q37a q37c (g := (mkF m 135 #[rv ba, rv b1, rv ba, iv 3, iv 2, iv x2, iv (x2 &&& (255 : Int32))] [(.int (own_hx ((x2 &&& (255 : Int32)) >>> ((4 : Int32) &&& 31)))), (.ref b1)])) rfl (by rw [hml]; rfl) (Steps.refl _) (argsL := [(.int (own_hx ((x2 &&& (255 : Int32)) >>> ((4 : Int32) &&& 31))))]) (rest := []) (lenOf pd_17 rfl) rfl (Nat.le_of_eq rfl) (hb hby d1_135) (fun _ _ => ⟨rfl, e35, (by decide : 2 + 0 ≤ _), (by decide : 13 + 0 ≤ _)⟩)
        dsimp only [Pt.U, Pt.locs, Pt.cells, Pt.slots] at X37 l37 y37 z37 st37 hQ37
        subst l37 y37 z37
        obtain ⟨h37, e37⟩ : ∃ z, T37.heap = z := ⟨_, rfl⟩
        rw [e37] at hQ37
        obtain ⟨rfl, Nq37, Kq37, q37_0, q37_1, q37_2, q37_3, q37_4⟩ := hQ37
        have Z37 : n0 ≤ h37.size := Nat.le_trans Z34 Kq37.1
        have K37 : Keep h0 h37 [] := K34.trans Kq37 (allS (Or.inr sz_b1) (allS (Or.inr sz_vb_3) all0))
        have O37 : Old Z n0 h37 := O34.keep Kq37 (allS ge_b1 (allS q3_7 all0))
        have N37 := Fr.app N34 Nq37
        refine OE.v (fun t k => st37.trans k) ?_
        have Fc37 : Fld Z h37 b1 "java/lang/AbstractStringBuilder" "count" "I" (.int 6) := q37_3
        have Vc37 : Arv Z h37 vb_3 kv_3 .byte (9 : Int32) [(.int (x0 &&& (255 : Int32))), (.int 37), (.int (own_hx ((x1 &&& (255 : Int32)) >>> ((4 : Int32) &&& 31)))), (.int (own_hx ((x1 &&& (255 : Int32)) &&& (15 : Int32)))), (.int 37), (.int (own_hx ((x2 &&& (255 : Int32)) >>> ((4 : Int32) &&& 31)))), (.int 0), (.int 0), (.int 0)] (.int 0) := q37_4
        show OE _ _ _ _ (T37.setTop (mkF m 138 #[rv ba, rv b1, rv ba, iv 3, iv 2, iv x2, iv (x2 &&& (255 : Int32))] [(.ref b1)]))
        obtain ⟨T38, X38, e38, st38⟩ := getS2 X37 hx hZ hown (host := "") (Or.inl (hw _ (own_w 52 rfl))) Via.refl e37 (OP1.ext O37.2) (g := (mkF m 138 #[rv ba, rv b1, rv ba, iv 3, iv 2, iv x2, iv (x2 &&& (255 : Int32))] [(.ref b1)])) rfl (hb hby d1_138)
        refine OE.v st38 ?_
        show OE _ _ _ _ (T38.setTop (mkF m 141 #[rv ba, rv b1, rv ba, iv 3, iv 2, iv x2, iv (x2 &&& (255 : Int32))] [(.ref hxa), (.ref b1)]))
        refine OE.v (fun t k => XS.iload X38.here hx rfl (hb hby d1_141) rfl k) ?_
        refine OE.v (fun t k => XS.bipush X38.here hx rfl (hb hby d1_143) k) ?_
        refine OE.v (fun t k => XS.iand X38.here hx rfl (hb hby d1_145) rfl k) ?_
        have rg39 := own_16 (own_lo (x2 &&& (255 : Int32)))
        have hin39 := inb_of P1.2.1 rg39
        refine OE.v (X38.caload hx (j := ((x2 &&& (255 : Int32)) &&& (15 : Int32))) (v := .int (own_hx ((x2 &&& (255 : Int32)) &&& (15 : Int32)))) (by rw [e38]; exact (P1.1.ext O37.2).1) (State.isArrayOf_alike hZ.alike P1.1.2.1) P1.1.2.2 hin39 (P1.2.2 _ rg39.1 rg39.2) (g := (mkF m 146 #[rv ba, rv b1, rv ba, iv 3, iv 2, iv x2, iv (x2 &&& (255 : Int32))] [(.int ((x2 &&& (255 : Int32)) &&& (15 : Int32))), (.ref hxa), (.ref b1)])) rfl rfl (hb hby d1_146)) ?_
        show OE _ _ _ _ (T38.setTop (mkF m 147 #[rv ba, rv b1, rv ba, iv 3, iv 2, iv x2, iv (x2 &&& (255 : Int32))] [(.int (own_hx ((x2 &&& (255 : Int32)) &&& (15 : Int32)))), (.ref b1)]))
        obtain ⟨cq40, kq40, q40a, q40b, q40c⟩ := isOf hZ e38 q37_0
        obtain ⟨_, _, ⟨T40, L40, k40, n40⟩, -, X40, ⟨Lc40, hQ40, l40, y40, z40⟩, st40⟩ := X38.virtualBack hx (y := (⟨"java/lang/StringBuilder", "append", "(C)Ljava/lang/StringBuilder;"⟩ : MethodName)) (z := (⟨"java/lang/StringBuilder", "append", "(C)Ljava/lang/StringBuilder;"⟩ : MethodName)) hown (mvT hZ (hw _ (own_w 26 rfl))) (mvT hZ (hw _ (own_w 27 rfl))) (notFace_of_selects (args := #[]) (mvT hZ (hw _ (own_w 29 rfl)))) (mvT hZ (hw _ (own_w 29 rfl))) (mvT hZ (hw _ (own_w 28 rfl))) (by decide) (backOf (W := 0) (rm5 l Z a0 hw [] b1 (own_hx ((x2 &&& (255 : Int32)) &&& (15 : Int32))) (6 : Int32) vb_3 kv_3 (9 : Int32) [(.int (x0 &&& (255 : Int32))), (.int 37), (.int (own_hx ((x1 &&& (255 : Int32)) >>> ((4 : Int32) &&& 31)))), (.int (own_hx ((x1 &&& (255 : Int32)) &&& (15 : Int32)))), (.int 37), (.int (own_hx ((x2 &&& (255 : Int32)) >>> ((4 : Int32) &&& 31)))), (.int 0), (.int 0), (.int 0)] cs h37 n0 Z37 O37 q37_0 q37_1 q37_2 Fc37 Vc37 ge_b1 q3_7 (Ne.symm ne_b1_vb_3) (own_hr (own_lo (x2 &&& (255 : Int32)))) (by decide) ⟨by decide, by decide⟩ (by show (6 : Int32).toNatClampNeg < 9; decide) P2 OP0) hZ (hw _ (own_w 30 rfl)) (hw _ (own_w 7 rfl)) (by decide) (by decide)) q40a q40c (g := (mkF m 147 #[rv ba, rv b1, rv ba, iv 3, iv 2, iv x2, iv (x2 &&& (255 : Int32))] [(.int (own_hx ((x2 &&& (255 : Int32)) &&& (15 : Int32)))), (.ref b1)])) rfl (by rw [hml]; rfl) (Steps.refl _) (argsL := [(.int (own_hx ((x2 &&& (255 : Int32)) &&& (15 : Int32))))]) (rest := []) (lenOf pd_17 rfl) rfl (Nat.le_of_eq rfl) (hb hby d1_147) (fun _ _ => ⟨rfl, e38, (by decide : 2 + 0 ≤ _), (by decide : 13 + 0 ≤ _)⟩)
        dsimp only [Pt.U, Pt.locs, Pt.cells, Pt.slots] at X40 l40 y40 z40 st40 hQ40
        subst l40 y40 z40
        obtain ⟨h40, e40⟩ : ∃ z, T40.heap = z := ⟨_, rfl⟩
        rw [e40] at hQ40
        obtain ⟨rfl, Nq40, Kq40, q40_0, q40_1, q40_2, q40_3, q40_4⟩ := hQ40
        have Z40 : n0 ≤ h40.size := Nat.le_trans Z37 Kq40.1
        have K40 : Keep h0 h40 [] := K37.trans Kq40 (allS (Or.inr sz_b1) (allS (Or.inr sz_vb_3) all0))
        have O40 : Old Z n0 h40 := O37.keep Kq40 (allS ge_b1 (allS q3_7 all0))
        have N40 := Fr.app N37 Nq40
        refine OE.v (fun t k => st40.trans k) ?_
        have Fc40 : Fld Z h40 b1 "java/lang/AbstractStringBuilder" "count" "I" (.int 7) := q40_3
        have Vc40 : Arv Z h40 vb_3 kv_3 .byte (9 : Int32) [(.int (x0 &&& (255 : Int32))), (.int 37), (.int (own_hx ((x1 &&& (255 : Int32)) >>> ((4 : Int32) &&& 31)))), (.int (own_hx ((x1 &&& (255 : Int32)) &&& (15 : Int32)))), (.int 37), (.int (own_hx ((x2 &&& (255 : Int32)) >>> ((4 : Int32) &&& 31)))), (.int (own_hx ((x2 &&& (255 : Int32)) &&& (15 : Int32)))), (.int 0), (.int 0)] (.int 0) := q40_4
        show OE _ _ _ _ (T40.setTop (mkF m 150 #[rv ba, rv b1, rv ba, iv 3, iv 2, iv x2, iv (x2 &&& (255 : Int32))] [(.ref b1)]))
        refine OE.v (fun t k => XS.pop X40.here hx rfl (hb hby d1_150) rfl rfl k) ?_
        refine OE.v (fun t k => XS.iinc X40.here hx rfl (hb hby d1_151) rfl (l' := #[rv ba, rv b1, rv ba, iv 3, iv 3, iv x2, iv (x2 &&& (255 : Int32))]) rfl k) ?_
        refine OE.v (fun t k => XS.goto X40.here hx rfl (pc0 := 154) (pc' := 20) rfl (hb hby d1_154) (by decide) (by decide) k) ?_
        refine OE.v (fun t k => XS.iload X40.here hx rfl (hb hby d1_20) rfl k) ?_
        refine OE.v (fun t k => XS.iloadN X40.here hx rfl (hb hby d1_22) rfl k) ?_
        show OE _ _ _ _ (T40.setTop (mkF m 23 #[rv ba, rv b1, rv ba, iv 3, iv 3, iv x2, iv (x2 &&& (255 : Int32))] [(.int 3), (.int 3)]))
        refine OE.v (fun t k => XS.icmpYes X40.here hx rfl (pc0 := 23) (pc' := 157) rfl (hb hby d1_23) rfl (flt (by decide)).2.1 (by decide) (by decide) k) ?_
        show OE _ _ _ _ (T40.setTop (mkF m 157 #[rv ba, rv b1, rv ba, iv 3, iv 3, iv x2, iv (x2 &&& (255 : Int32))] []))
        refine OE.v (fun t k => XS.aloadN X40.here hx rfl (hb hby d1_157) rfl rfl k) ?_
        show OE _ _ _ _ (T40.setTop (mkF m 158 #[rv ba, rv b1, rv ba, iv 3, iv 3, iv x2, iv (x2 &&& (255 : Int32))] [(.ref b1)]))
        obtain ⟨cq41, kq41, q41a, q41b, q41c⟩ := isOf hZ e40 q40_0
        obtain ⟨_, _, ⟨T41, L41, k41, n41⟩, -, X41, ⟨Lc41, hQ41, l41, y41, z41⟩, st41⟩ := X40.virtualBack hx (y := (⟨"java/lang/StringBuilder", "toString", "()Ljava/lang/String;"⟩ : MethodName)) (z := (⟨"java/lang/StringBuilder", "toString", "()Ljava/lang/String;"⟩ : MethodName)) hown (mvT hZ (hw _ (own_w 54 rfl))) (mvT hZ (hw _ (own_w 55 rfl))) (notFace_of_selects (args := #[]) (mvT hZ (hw _ (own_w 57 rfl)))) (mvT hZ (hw _ (own_w 57 rfl))) (mvT hZ (hw _ (own_w 56 rfl))) (by decide) (backOf (W := 0) (rm10 l Z a0 hw [] b1 (7 : Int32) vb_3 kv_3 (9 : Int32) [(.int (x0 &&& (255 : Int32))), (.int 37), (.int (own_hx ((x1 &&& (255 : Int32)) >>> ((4 : Int32) &&& 31)))), (.int (own_hx ((x1 &&& (255 : Int32)) &&& (15 : Int32)))), (.int 37), (.int (own_hx ((x2 &&& (255 : Int32)) >>> ((4 : Int32) &&& 31)))), (.int (own_hx ((x2 &&& (255 : Int32)) &&& (15 : Int32)))), (.int 0), (.int 0)] cs h40 n0 Z40 O40 q40_0 q40_1 q40_2 Fc40 Vc40 (((((((q3_5.keep Kq7).keep Kq23).keep Kq26).keep Kq29).keep Kq34).keep Kq37).keep Kq40) (by decide) P2 OP0) hZ (hw _ (own_w 58 rfl)) (hw _ (own_w 7 rfl)) (by decide) (by decide)) q41a q41c (g := (mkF m 158 #[rv ba, rv b1, rv ba, iv 3, iv 3, iv x2, iv (x2 &&& (255 : Int32))] [(.ref b1)])) rfl (by rw [hml]; rfl) (Steps.refl _) (argsL := []) (rest := []) (lenOf pd_16 rfl) rfl (Nat.le_of_eq rfl) (hb hby d1_158) (fun _ _ => ⟨rfl, e40, (by decide : 2 + 2 ≤ _), (by decide : 13 + 13 ≤ _)⟩)
        dsimp only [Pt.U, Pt.locs, Pt.cells, Pt.slots] at X41 l41 y41 z41 st41 hQ41
        subst l41 y41 z41
        obtain ⟨h41, e41⟩ : ∃ z, T41.heap = z := ⟨_, rfl⟩
        rw [e41] at hQ41
        obtain ⟨a_41, sv_41, ks_41, us_41, rfl, Nq41, Kq41, q41_0, q41_1, q41_2, q41_3, q41_4⟩ := hQ41
        have Z41 : n0 ≤ h41.size := Nat.le_trans Z40 Kq41.1
        have K41 : Keep h0 h41 [] := K40.trans Kq41 all0
        have O41 : Old Z n0 h41 := O40.keep Kq41 all0
        have N41 := Fr.app N40 Nq41
        refine OE.v (fun t k => st41.trans k) ?_
        show OE _ _ _ _ (T41.setTop (mkF m 161 #[rv ba, rv b1, rv ba, iv 3, iv 3, iv x2, iv (x2 &&& (255 : Int32))] [(.ref a_41)]))
        obtain ⟨fs, hr, hrun, hended, hW, hsame⟩ := X41.leave (v := some (.ref a_41)) (fun h => by rw [Bd.returns] at h; cases h)
        refine ⟨_, _, ?_, hrun, hended, _, _, rfl, ?_, ⟨_, rfl⟩, hW, hsame.mono (by decide) (by decide)⟩
        · jvm_step X41.here [X41.here.top, hx, (hb hby d1_161), X41.method', Bd.returns, Value.isRef, FieldType.isReference]
          first | (intro acts; rw [hr _ acts rfl rfl rfl]) | rw [hr _ _ rfl rfl rfl]
          exact Steps.refl _
        · show QE3 Z ba kb x0 x1 x2 hxa hc cs h0 n0 _ T41.heap _
          rw [e41]
          exact ⟨a_41, sv_41, ks_41, us_41, (7 : Int32), rfl, N41, K41, q41_0, q41_1, q41_2, q41_3, (by rw [own_e1 hU6, own_e3 hU9, own_e3 hU31]; exact own_made [(.int 0), (.int 0)] q41_4 rfl rfl (by decide))⟩
  ·
    show OE _ _ _ _ (T3.setTop (mkF m 121 #[rv ba, rv b1, rv ba, iv 3, iv 0, iv x0, iv (x0 &&& (255 : Int32))] []))
    refine OE.v (fun t k => XS.aloadN X3.here hx rfl (hb hby d1_121) rfl rfl k) ?_
    refine OE.v (fun t k => XS.bipush X3.here hx rfl (hb hby d1_122) k) ?_
    show OE _ _ _ _ (T3.setTop (mkF m 124 #[rv ba, rv b1, rv ba, iv 3, iv 0, iv x0, iv (x0 &&& (255 : Int32))] [(.int 37), (.ref b1)]))
    obtain ⟨cq42, kq42, q42a, q42b, q42c⟩ := isOf hZ e3 q3_0
    obtain ⟨_, _, ⟨T42, L42, k42, n42⟩, -, X42, ⟨Lc42, hQ42, l42, y42, z42⟩, st42⟩ := X3.virtualBack hx (y := (⟨"java/lang/StringBuilder", "append", "(C)Ljava/lang/StringBuilder;"⟩ : MethodName)) (z := (⟨"java/lang/StringBuilder", "append", "(C)Ljava/lang/StringBuilder;"⟩ : MethodName)) hown (mvT hZ (hw _ (own_w 26 rfl))) (mvT hZ (hw _ (own_w 27 rfl))) (notFace_of_selects (args := #[]) (mvT hZ (hw _ (own_w 29 rfl)))) (mvT hZ (hw _ (own_w 29 rfl))) (mvT hZ (hw _ (own_w 28 rfl))) (by decide) (backOf (W := 0) (rm5 l Z a0 hw [] b1 (37 : Int32) (0 : Int32) vb_3 kv_3 (9 : Int32) [(.int 0), (.int 0), (.int 0), (.int 0), (.int 0), (.int 0), (.int 0), (.int 0), (.int 0)] cs h3 n0 Z3 O3 q3_0 q3_1 q3_2 q3_3 q3_4 ge_b1 q3_7 (Ne.symm ne_b1_vb_3) (by decide) (by decide) ⟨by decide, by decide⟩ (by show (0 : Int32).toNatClampNeg < 9; decide) P2 OP0) hZ (hw _ (own_w 30 rfl)) (hw _ (own_w 7 rfl)) (by decide) (by decide)) q42a q42c (g := (mkF m 124 #[rv ba, rv b1, rv ba, iv 3, iv 0, iv x0, iv (x0 &&& (255 : Int32))] [(.int 37), (.ref b1)])) rfl (by rw [hml]; rfl) (Steps.refl _) (argsL := [(.int 37)]) (rest := []) (lenOf pd_17 rfl) rfl (Nat.le_of_eq rfl) (hb hby d1_124) (fun _ _ => ⟨rfl, e3, (by decide : 2 + 0 ≤ _), (by decide : 13 + 0 ≤ _)⟩)
    dsimp only [Pt.U, Pt.locs, Pt.cells, Pt.slots] at X42 l42 y42 z42 st42 hQ42
    subst l42 y42 z42
    obtain ⟨h42, e42⟩ : ∃ z, T42.heap = z := ⟨_, rfl⟩
    rw [e42] at hQ42
    obtain ⟨rfl, Nq42, Kq42, q42_0, q42_1, q42_2, q42_3, q42_4⟩ := hQ42
    have Z42 : n0 ≤ h42.size := Nat.le_trans Z3 Kq42.1
    have K42 : Keep h0 h42 [] := K3.trans Kq42 (allS (Or.inr sz_b1) (allS (Or.inr sz_vb_3) all0))
    have O42 : Old Z n0 h42 := O3.keep Kq42 (allS ge_b1 (allS q3_7 all0))
    have N42 := Fr.app N3 Nq42
    refine OE.v (fun t k => st42.trans k) ?_
    have Fc42 : Fld Z h42 b1 "java/lang/AbstractStringBuilder" "count" "I" (.int 1) := q42_3
    have Vc42 : Arv Z h42 vb_3 kv_3 .byte (9 : Int32) [(.int 37), (.int 0), (.int 0), (.int 0), (.int 0), (.int 0), (.int 0), (.int 0), (.int 0)] (.int 0) := q42_4
    show OE _ _ _ _ (T42.setTop (mkF m 127 #[rv ba, rv b1, rv ba, iv 3, iv 0, iv x0, iv (x0 &&& (255 : Int32))] [(.ref b1)]))
    obtain ⟨T43, X43, e43, st43⟩ := getS2 X42 hx hZ hown (host := "") (Or.inl (hw _ (own_w 52 rfl))) Via.refl e42 (OP1.ext O42.2) (g := (mkF m 127 #[rv ba, rv b1, rv ba, iv 3, iv 0, iv x0, iv (x0 &&& (255 : Int32))] [(.ref b1)])) rfl (hb hby d1_127)
    refine OE.v st43 ?_
    show OE _ _ _ _ (T43.setTop (mkF m 130 #[rv ba, rv b1, rv ba, iv 3, iv 0, iv x0, iv (x0 &&& (255 : Int32))] [(.ref hxa), (.ref b1)]))
    refine OE.v (fun t k => XS.iload X43.here hx rfl (hb hby d1_130) rfl k) ?_
    refine OE.v (fun t k => XS.iconst X43.here hx rfl (hb hby d1_132) k) ?_
    refine OE.v (fun t k => XS.ishr X43.here hx rfl (hb hby d1_133) rfl k) ?_
    have rg44 := own_16 (own_hi (own_r8 x0))
    have hin44 := inb_of P1.2.1 rg44
    refine OE.v (X43.caload hx (j := ((x0 &&& (255 : Int32)) >>> ((4 : Int32) &&& 31))) (v := .int (own_hx ((x0 &&& (255 : Int32)) >>> ((4 : Int32) &&& 31)))) (by rw [e43]; exact (P1.1.ext O42.2).1) (State.isArrayOf_alike hZ.alike P1.1.2.1) P1.1.2.2 hin44 (P1.2.2 _ rg44.1 rg44.2) (g := (mkF m 134 #[rv ba, rv b1, rv ba, iv 3, iv 0, iv x0, iv (x0 &&& (255 : Int32))] [(.int ((x0 &&& (255 : Int32)) >>> ((4 : Int32) &&& 31))), (.ref hxa), (.ref b1)])) rfl rfl (hb hby d1_134)) ?_
    show OE _ _ _ _ (T43.setTop (mkF m 135 #[rv ba, rv b1, rv ba, iv 3, iv 0, iv x0, iv (x0 &&& (255 : Int32))] [(.int (own_hx ((x0 &&& (255 : Int32)) >>> ((4 : Int32) &&& 31)))), (.ref b1)]))
    obtain ⟨cq45, kq45, q45a, q45b, q45c⟩ := isOf hZ e43 q42_0
    obtain ⟨_, _, ⟨T45, L45, k45, n45⟩, -, X45, ⟨Lc45, hQ45, l45, y45, z45⟩, st45⟩ := X43.virtualBack hx (y := (⟨"java/lang/StringBuilder", "append", "(C)Ljava/lang/StringBuilder;"⟩ : MethodName)) (z := (⟨"java/lang/StringBuilder", "append", "(C)Ljava/lang/StringBuilder;"⟩ : MethodName)) hown (mvT hZ (hw _ (own_w 26 rfl))) (mvT hZ (hw _ (own_w 27 rfl))) (notFace_of_selects (args := #[]) (mvT hZ (hw _ (own_w 29 rfl)))) (mvT hZ (hw _ (own_w 29 rfl))) (mvT hZ (hw _ (own_w 28 rfl))) (by decide) (backOf (W := 0) (rm5 l Z a0 hw [] b1 (own_hx ((x0 &&& (255 : Int32)) >>> ((4 : Int32) &&& 31))) (1 : Int32) vb_3 kv_3 (9 : Int32) [(.int 37), (.int 0), (.int 0), (.int 0), (.int 0), (.int 0), (.int 0), (.int 0), (.int 0)] cs h42 n0 Z42 O42 q42_0 q42_1 q42_2 Fc42 Vc42 ge_b1 q3_7 (Ne.symm ne_b1_vb_3) (own_hr (own_hi (own_r8 x0))) (by decide) ⟨by decide, by decide⟩ (by show (1 : Int32).toNatClampNeg < 9; decide) P2 OP0) hZ (hw _ (own_w 30 rfl)) (hw _ (own_w 7 rfl)) (by decide) (by decide)) q45a q45c (g := (mkF m 135 #[rv ba, rv b1, rv ba, iv 3, iv 0, iv x0, iv (x0 &&& (255 : Int32))] [(.int (own_hx ((x0 &&& (255 : Int32)) >>> ((4 : Int32) &&& 31)))), (.ref b1)])) rfl (by rw [hml]; rfl) (Steps.refl _) (argsL := [(.int (own_hx ((x0 &&& (255 : Int32)) >>> ((4 : Int32) &&& 31))))]) (rest := []) (lenOf pd_17 rfl) rfl (Nat.le_of_eq rfl) (hb hby d1_135) (fun _ _ => ⟨rfl, e43, (by decide : 2 + 0 ≤ _), (by decide : 13 + 0 ≤ _)⟩)
    dsimp only [Pt.U, Pt.locs, Pt.cells, Pt.slots] at X45 l45 y45 z45 st45 hQ45
    subst l45 y45 z45
    obtain ⟨h45, e45⟩ : ∃ z, T45.heap = z := ⟨_, rfl⟩
    rw [e45] at hQ45
    obtain ⟨rfl, Nq45, Kq45, q45_0, q45_1, q45_2, q45_3, q45_4⟩ := hQ45
    have Z45 : n0 ≤ h45.size := Nat.le_trans Z42 Kq45.1
    have K45 : Keep h0 h45 [] := K42.trans Kq45 (allS (Or.inr sz_b1) (allS (Or.inr sz_vb_3) all0))
    have O45 : Old Z n0 h45 := O42.keep Kq45 (allS ge_b1 (allS q3_7 all0))
    have N45 := Fr.app N42 Nq45
    refine OE.v (fun t k => st45.trans k) ?_
    have Fc45 : Fld Z h45 b1 "java/lang/AbstractStringBuilder" "count" "I" (.int 2) := q45_3
    have Vc45 : Arv Z h45 vb_3 kv_3 .byte (9 : Int32) [(.int 37), (.int (own_hx ((x0 &&& (255 : Int32)) >>> ((4 : Int32) &&& 31)))), (.int 0), (.int 0), (.int 0), (.int 0), (.int 0), (.int 0), (.int 0)] (.int 0) := q45_4
    show OE _ _ _ _ (T45.setTop (mkF m 138 #[rv ba, rv b1, rv ba, iv 3, iv 0, iv x0, iv (x0 &&& (255 : Int32))] [(.ref b1)]))
    obtain ⟨T46, X46, e46, st46⟩ := getS2 X45 hx hZ hown (host := "") (Or.inl (hw _ (own_w 52 rfl))) Via.refl e45 (OP1.ext O45.2) (g := (mkF m 138 #[rv ba, rv b1, rv ba, iv 3, iv 0, iv x0, iv (x0 &&& (255 : Int32))] [(.ref b1)])) rfl (hb hby d1_138)
    refine OE.v st46 ?_
    show OE _ _ _ _ (T46.setTop (mkF m 141 #[rv ba, rv b1, rv ba, iv 3, iv 0, iv x0, iv (x0 &&& (255 : Int32))] [(.ref hxa), (.ref b1)]))
    refine OE.v (fun t k => XS.iload X46.here hx rfl (hb hby d1_141) rfl k) ?_
    refine OE.v (fun t k => XS.bipush X46.here hx rfl (hb hby d1_143) k) ?_
    refine OE.v (fun t k => XS.iand X46.here hx rfl (hb hby d1_145) rfl k) ?_
    have rg47 := own_16 (own_lo (x0 &&& (255 : Int32)))
    have hin47 := inb_of P1.2.1 rg47
    refine OE.v (X46.caload hx (j := ((x0 &&& (255 : Int32)) &&& (15 : Int32))) (v := .int (own_hx ((x0 &&& (255 : Int32)) &&& (15 : Int32)))) (by rw [e46]; exact (P1.1.ext O45.2).1) (State.isArrayOf_alike hZ.alike P1.1.2.1) P1.1.2.2 hin47 (P1.2.2 _ rg47.1 rg47.2) (g := (mkF m 146 #[rv ba, rv b1, rv ba, iv 3, iv 0, iv x0, iv (x0 &&& (255 : Int32))] [(.int ((x0 &&& (255 : Int32)) &&& (15 : Int32))), (.ref hxa), (.ref b1)])) rfl rfl (hb hby d1_146)) ?_
    show OE _ _ _ _ (T46.setTop (mkF m 147 #[rv ba, rv b1, rv ba, iv 3, iv 0, iv x0, iv (x0 &&& (255 : Int32))] [(.int (own_hx ((x0 &&& (255 : Int32)) &&& (15 : Int32)))), (.ref b1)]))
    obtain ⟨cq48, kq48, q48a, q48b, q48c⟩ := isOf hZ e46 q45_0
    obtain ⟨_, _, ⟨T48, L48, k48, n48⟩, -, X48, ⟨Lc48, hQ48, l48, y48, z48⟩, st48⟩ := X46.virtualBack hx (y := (⟨"java/lang/StringBuilder", "append", "(C)Ljava/lang/StringBuilder;"⟩ : MethodName)) (z := (⟨"java/lang/StringBuilder", "append", "(C)Ljava/lang/StringBuilder;"⟩ : MethodName)) hown (mvT hZ (hw _ (own_w 26 rfl))) (mvT hZ (hw _ (own_w 27 rfl))) (notFace_of_selects (args := #[]) (mvT hZ (hw _ (own_w 29 rfl)))) (mvT hZ (hw _ (own_w 29 rfl))) (mvT hZ (hw _ (own_w 28 rfl))) (by decide) (backOf (W := 0) (rm5 l Z a0 hw [] b1 (own_hx ((x0 &&& (255 : Int32)) &&& (15 : Int32))) (2 : Int32) vb_3 kv_3 (9 : Int32) [(.int 37), (.int (own_hx ((x0 &&& (255 : Int32)) >>> ((4 : Int32) &&& 31)))), (.int 0), (.int 0), (.int 0), (.int 0), (.int 0), (.int 0), (.int 0)] cs h45 n0 Z45 O45 q45_0 q45_1 q45_2 Fc45 Vc45 ge_b1 q3_7 (Ne.symm ne_b1_vb_3) (own_hr (own_lo (x0 &&& (255 : Int32)))) (by decide) ⟨by decide, by decide⟩ (by show (2 : Int32).toNatClampNeg < 9; decide) P2 OP0) hZ (hw _ (own_w 30 rfl)) (hw _ (own_w 7 rfl)) (by decide) (by decide)) q48a q48c (g := (mkF m 147 #[rv ba, rv b1, rv ba, iv 3, iv 0, iv x0, iv (x0 &&& (255 : Int32))] [(.int (own_hx ((x0 &&& (255 : Int32)) &&& (15 : Int32)))), (.ref b1)])) rfl (by rw [hml]; rfl) (Steps.refl _) (argsL := [(.int (own_hx ((x0 &&& (255 : Int32)) &&& (15 : Int32))))]) (rest := []) (lenOf pd_17 rfl) rfl (Nat.le_of_eq rfl) (hb hby d1_147) (fun _ _ => ⟨rfl, e46, (by decide : 2 + 0 ≤ _), (by decide : 13 + 0 ≤ _)⟩)
    dsimp only [Pt.U, Pt.locs, Pt.cells, Pt.slots] at X48 l48 y48 z48 st48 hQ48
    subst l48 y48 z48
    obtain ⟨h48, e48⟩ : ∃ z, T48.heap = z := ⟨_, rfl⟩
    rw [e48] at hQ48
    obtain ⟨rfl, Nq48, Kq48, q48_0, q48_1, q48_2, q48_3, q48_4⟩ := hQ48
    have Z48 : n0 ≤ h48.size := Nat.le_trans Z45 Kq48.1
    have K48 : Keep h0 h48 [] := K45.trans Kq48 (allS (Or.inr sz_b1) (allS (Or.inr sz_vb_3) all0))
    have O48 : Old Z n0 h48 := O45.keep Kq48 (allS ge_b1 (allS q3_7 all0))
    have N48 := Fr.app N45 Nq48
    refine OE.v (fun t k => st48.trans k) ?_
    have Fc48 : Fld Z h48 b1 "java/lang/AbstractStringBuilder" "count" "I" (.int 3) := q48_3
    have Vc48 : Arv Z h48 vb_3 kv_3 .byte (9 : Int32) [(.int 37), (.int (own_hx ((x0 &&& (255 : Int32)) >>> ((4 : Int32) &&& 31)))), (.int (own_hx ((x0 &&& (255 : Int32)) &&& (15 : Int32)))), (.int 0), (.int 0), (.int 0), (.int 0), (.int 0), (.int 0)] (.int 0) := q48_4
    show OE _ _ _ _ (T48.setTop (mkF m 150 #[rv ba, rv b1, rv ba, iv 3, iv 0, iv x0, iv (x0 &&& (255 : Int32))] [(.ref b1)]))
    refine OE.v (fun t k => XS.pop X48.here hx rfl (hb hby d1_150) rfl rfl k) ?_
    refine OE.v (fun t k => XS.iinc X48.here hx rfl (hb hby d1_151) rfl (l' := #[rv ba, rv b1, rv ba, iv 3, iv 1, iv x0, iv (x0 &&& (255 : Int32))]) rfl k) ?_
    refine OE.v (fun t k => XS.goto X48.here hx rfl (pc0 := 154) (pc' := 20) rfl (hb hby d1_154) (by decide) (by decide) k) ?_
    refine OE.v (fun t k => XS.iload X48.here hx rfl (hb hby d1_20) rfl k) ?_
    refine OE.v (fun t k => XS.iloadN X48.here hx rfl (hb hby d1_22) rfl k) ?_
    show OE _ _ _ _ (T48.setTop (mkF m 23 #[rv ba, rv b1, rv ba, iv 3, iv 1, iv x0, iv (x0 &&& (255 : Int32))] [(.int 3), (.int 1)]))
    refine OE.v (fun t k => XS.icmpNo X48.here hx rfl (hb hby d1_23) rfl (tlt (by decide)).2.1 k) ?_
    show OE _ _ _ _ (T48.setTop (mkF m 26 #[rv ba, rv b1, rv ba, iv 3, iv 1, iv x0, iv (x0 &&& (255 : Int32))] []))
    refine OE.v (fun t k => XS.aloadN X48.here hx rfl (hb hby d1_26) rfl rfl k) ?_
    refine OE.v (fun t k => XS.iload X48.here hx rfl (hb hby d1_27) rfl k) ?_
    show OE _ _ _ _ (T48.setTop (mkF m 29 #[rv ba, rv b1, rv ba, iv 3, iv 1, iv x0, iv (x0 &&& (255 : Int32))] [(.int 1), (.ref ba)]))
    obtain ⟨cl49, Ar49, q49, S49, M49, H49, G49⟩ := id (((((P0.ext E1).keep Kq3 (ninS ne_ba_b1 nin0)).keep Kq42 (ninS ne_ba_b1 (ninS ne_ba_vb_3 nin0))).keep Kq45 (ninS ne_ba_b1 (ninS ne_ba_vb_3 nin0))).keep Kq48 (ninS ne_ba_b1 (ninS ne_ba_vb_3 nin0)))
    have hin49 : ¬ ((1 : Int32) < 0 ∨ cl49.slots.size ≤ ((1 : Int32)).toNatClampNeg) := inb_of S49 ⟨by decide, by decide⟩
    have hat49 : cl49.slots[((1 : Int32)).toNatClampNeg]? = some (.int x1) := H49.at hin49 rfl
    refine OE.v (X48.baloadBytes hx (j := (1 : Int32)) (v := (.int x1)) (by rw [e48]; exact Ar49.1) (State.isArrayOf_alike hZ.alike Ar49.2.1) Ar49.2.2 hin49 hat49 (g := (mkF m 29 #[rv ba, rv b1, rv ba, iv 3, iv 1, iv x0, iv (x0 &&& (255 : Int32))] [(.int 1), (.ref ba)])) rfl rfl (hb hby d1_29)) ?_
    show OE _ _ _ _ (T48.setTop (mkF m 30 #[rv ba, rv b1, rv ba, iv 3, iv 1, iv x0, iv (x0 &&& (255 : Int32))] [(.int x1)]))
    refine OE.v (fun t k => XS.istore X48.here hx rfl (hb hby d1_30) rfl (l' := #[rv ba, rv b1, rv ba, iv 3, iv 1, iv x1, iv (x0 &&& (255 : Int32))]) rfl k) ?_
    refine OE.v (fun t k => XS.iload X48.here hx rfl (hb hby d1_32) rfl k) ?_
    refine OE.v (fun t k => XS.sipush X48.here hx rfl (hb hby d1_34) k) ?_
    refine OE.v (fun t k => XS.iand X48.here hx rfl (hb hby d1_37) rfl k) ?_
    refine OE.v (fun t k => XS.i2c X48.here hx rfl (hb hby d1_38) rfl k) ?_
    show OE _ _ _ _ (T48.setTop (mkF m 39 #[rv ba, rv b1, rv ba, iv 3, iv 1, iv x1, iv (x0 &&& (255 : Int32))] [(.int ((x1 &&& (255 : Int32)).toUInt32.toUInt16.toUInt32.toInt32))]))
    rw [own_cx x1]
    refine OE.v (fun t k => XS.istore X48.here hx rfl (hb hby d1_39) rfl (l' := #[rv ba, rv b1, rv ba, iv 3, iv 1, iv x1, iv (x1 &&& (255 : Int32))]) rfl k) ?_
    show OE _ _ _ _ (T48.setTop (mkF m 41 #[rv ba, rv b1, rv ba, iv 3, iv 1, iv x1, iv (x1 &&& (255 : Int32))] []))
    refine own_chain X48 hx hby ba b1 (3 : Int32) (1 : Int32) x1 (x1 &&& (255 : Int32)) (fun hU50 => ?_) (fun hU50 => ?_)
    ·
      show OE _ _ _ _ (T48.setTop (mkF m 111 #[rv ba, rv b1, rv ba, iv 3, iv 1, iv x1, iv (x1 &&& (255 : Int32))] []))
      refine OE.v (fun t k => XS.aloadN X48.here hx rfl (hb hby d1_111) rfl rfl k) ?_
      refine OE.v (fun t k => XS.iload X48.here hx rfl (hb hby d1_112) rfl k) ?_
      show OE _ _ _ _ (T48.setTop (mkF m 114 #[rv ba, rv b1, rv ba, iv 3, iv 1, iv x1, iv (x1 &&& (255 : Int32))] [(.int (x1 &&& (255 : Int32))), (.ref b1)]))
      obtain ⟨cq51, kq51, q51a, q51b, q51c⟩ := isOf hZ e48 q48_0
      obtain ⟨_, _, ⟨T51, L51, k51, n51⟩, -, X51, ⟨Lc51, hQ51, l51, y51, z51⟩, st51⟩ := X48.virtualBack hx (y := (⟨"java/lang/StringBuilder", "append", "(C)Ljava/lang/StringBuilder;"⟩ : MethodName)) (z := (⟨"java/lang/StringBuilder", "append", "(C)Ljava/lang/StringBuilder;"⟩ : MethodName)) hown (mvT hZ (hw _ (own_w 26 rfl))) (mvT hZ (hw _ (own_w 27 rfl))) (notFace_of_selects (args := #[]) (mvT hZ (hw _ (own_w 29 rfl)))) (mvT hZ (hw _ (own_w 29 rfl))) (mvT hZ (hw _ (own_w 28 rfl))) (by decide) (backOf (W := 0) (rm5 l Z a0 hw [] b1 (x1 &&& (255 : Int32)) (3 : Int32) vb_3 kv_3 (9 : Int32) [(.int 37), (.int (own_hx ((x0 &&& (255 : Int32)) >>> ((4 : Int32) &&& 31)))), (.int (own_hx ((x0 &&& (255 : Int32)) &&& (15 : Int32)))), (.int 0), (.int 0), (.int 0), (.int 0), (.int 0), (.int 0)] cs h48 n0 Z48 O48 q48_0 q48_1 q48_2 Fc48 Vc48 ge_b1 q3_7 (Ne.symm ne_b1_vb_3) (own_ur hU50) (by decide) ⟨by decide, by decide⟩ (by show (3 : Int32).toNatClampNeg < 9; decide) P2 OP0) hZ (hw _ (own_w 30 rfl)) (hw _ (own_w 7 rfl)) (by decide) (by decide)) q51a q51c (g := (mkF m 114 #[rv ba, rv b1, rv ba, iv 3, iv 1, iv x1, iv (x1 &&& (255 : Int32))] [(.int (x1 &&& (255 : Int32))), (.ref b1)])) rfl (by rw [hml]; rfl) (Steps.refl _) (argsL := [(.int (x1 &&& (255 : Int32)))]) (rest := []) (lenOf pd_17 rfl) rfl (Nat.le_of_eq rfl) (hb hby d1_114) (fun _ _ => ⟨rfl, e48, (by decide : 2 + 0 ≤ _), (by decide : 13 + 0 ≤ _)⟩)
      dsimp only [Pt.U, Pt.locs, Pt.cells, Pt.slots] at X51 l51 y51 z51 st51 hQ51
      subst l51 y51 z51
      obtain ⟨h51, e51⟩ : ∃ z, T51.heap = z := ⟨_, rfl⟩
      rw [e51] at hQ51
      obtain ⟨rfl, Nq51, Kq51, q51_0, q51_1, q51_2, q51_3, q51_4⟩ := hQ51
      have Z51 : n0 ≤ h51.size := Nat.le_trans Z48 Kq51.1
      have K51 : Keep h0 h51 [] := K48.trans Kq51 (allS (Or.inr sz_b1) (allS (Or.inr sz_vb_3) all0))
      have O51 : Old Z n0 h51 := O48.keep Kq51 (allS ge_b1 (allS q3_7 all0))
      have N51 := Fr.app N48 Nq51
      refine OE.v (fun t k => st51.trans k) ?_
      have Fc51 : Fld Z h51 b1 "java/lang/AbstractStringBuilder" "count" "I" (.int 4) := q51_3
      have Vc51 : Arv Z h51 vb_3 kv_3 .byte (9 : Int32) [(.int 37), (.int (own_hx ((x0 &&& (255 : Int32)) >>> ((4 : Int32) &&& 31)))), (.int (own_hx ((x0 &&& (255 : Int32)) &&& (15 : Int32)))), (.int (x1 &&& (255 : Int32))), (.int 0), (.int 0), (.int 0), (.int 0), (.int 0)] (.int 0) := q51_4
      show OE _ _ _ _ (T51.setTop (mkF m 117 #[rv ba, rv b1, rv ba, iv 3, iv 1, iv x1, iv (x1 &&& (255 : Int32))] [(.ref b1)]))
      refine OE.v (fun t k => XS.pop X51.here hx rfl (hb hby d1_117) rfl rfl k) ?_
      refine OE.v (fun t k => XS.goto X51.here hx rfl (pc0 := 118) (pc' := 151) rfl (hb hby d1_118) (by decide) (by decide) k) ?_
      refine OE.v (fun t k => XS.iinc X51.here hx rfl (hb hby d1_151) rfl (l' := #[rv ba, rv b1, rv ba, iv 3, iv 2, iv x1, iv (x1 &&& (255 : Int32))]) rfl k) ?_
      refine OE.v (fun t k => XS.goto X51.here hx rfl (pc0 := 154) (pc' := 20) rfl (hb hby d1_154) (by decide) (by decide) k) ?_
      refine OE.v (fun t k => XS.iload X51.here hx rfl (hb hby d1_20) rfl k) ?_
      refine OE.v (fun t k => XS.iloadN X51.here hx rfl (hb hby d1_22) rfl k) ?_
      show OE _ _ _ _ (T51.setTop (mkF m 23 #[rv ba, rv b1, rv ba, iv 3, iv 2, iv x1, iv (x1 &&& (255 : Int32))] [(.int 3), (.int 2)]))
      refine OE.v (fun t k => XS.icmpNo X51.here hx rfl (hb hby d1_23) rfl (tlt (by decide)).2.1 k) ?_
      show OE _ _ _ _ (T51.setTop (mkF m 26 #[rv ba, rv b1, rv ba, iv 3, iv 2, iv x1, iv (x1 &&& (255 : Int32))] []))
      refine OE.v (fun t k => XS.aloadN X51.here hx rfl (hb hby d1_26) rfl rfl k) ?_
      refine OE.v (fun t k => XS.iload X51.here hx rfl (hb hby d1_27) rfl k) ?_
      show OE _ _ _ _ (T51.setTop (mkF m 29 #[rv ba, rv b1, rv ba, iv 3, iv 2, iv x1, iv (x1 &&& (255 : Int32))] [(.int 2), (.ref ba)]))
      obtain ⟨cl52, Ar52, q52, S52, M52, H52, G52⟩ := id ((((((P0.ext E1).keep Kq3 (ninS ne_ba_b1 nin0)).keep Kq42 (ninS ne_ba_b1 (ninS ne_ba_vb_3 nin0))).keep Kq45 (ninS ne_ba_b1 (ninS ne_ba_vb_3 nin0))).keep Kq48 (ninS ne_ba_b1 (ninS ne_ba_vb_3 nin0))).keep Kq51 (ninS ne_ba_b1 (ninS ne_ba_vb_3 nin0)))
      have hin52 : ¬ ((2 : Int32) < 0 ∨ cl52.slots.size ≤ ((2 : Int32)).toNatClampNeg) := inb_of S52 ⟨by decide, by decide⟩
      have hat52 : cl52.slots[((2 : Int32)).toNatClampNeg]? = some (.int x2) := H52.at hin52 rfl
      refine OE.v (X51.baloadBytes hx (j := (2 : Int32)) (v := (.int x2)) (by rw [e51]; exact Ar52.1) (State.isArrayOf_alike hZ.alike Ar52.2.1) Ar52.2.2 hin52 hat52 (g := (mkF m 29 #[rv ba, rv b1, rv ba, iv 3, iv 2, iv x1, iv (x1 &&& (255 : Int32))] [(.int 2), (.ref ba)])) rfl rfl (hb hby d1_29)) ?_
      show OE _ _ _ _ (T51.setTop (mkF m 30 #[rv ba, rv b1, rv ba, iv 3, iv 2, iv x1, iv (x1 &&& (255 : Int32))] [(.int x2)]))
      refine OE.v (fun t k => XS.istore X51.here hx rfl (hb hby d1_30) rfl (l' := #[rv ba, rv b1, rv ba, iv 3, iv 2, iv x2, iv (x1 &&& (255 : Int32))]) rfl k) ?_
      refine OE.v (fun t k => XS.iload X51.here hx rfl (hb hby d1_32) rfl k) ?_
      refine OE.v (fun t k => XS.sipush X51.here hx rfl (hb hby d1_34) k) ?_
      refine OE.v (fun t k => XS.iand X51.here hx rfl (hb hby d1_37) rfl k) ?_
      refine OE.v (fun t k => XS.i2c X51.here hx rfl (hb hby d1_38) rfl k) ?_
      show OE _ _ _ _ (T51.setTop (mkF m 39 #[rv ba, rv b1, rv ba, iv 3, iv 2, iv x2, iv (x1 &&& (255 : Int32))] [(.int ((x2 &&& (255 : Int32)).toUInt32.toUInt16.toUInt32.toInt32))]))
      rw [own_cx x2]
      refine OE.v (fun t k => XS.istore X51.here hx rfl (hb hby d1_39) rfl (l' := #[rv ba, rv b1, rv ba, iv 3, iv 2, iv x2, iv (x2 &&& (255 : Int32))]) rfl k) ?_
      show OE _ _ _ _ (T51.setTop (mkF m 41 #[rv ba, rv b1, rv ba, iv 3, iv 2, iv x2, iv (x2 &&& (255 : Int32))] []))
      refine own_chain X51 hx hby ba b1 (3 : Int32) (2 : Int32) x2 (x2 &&& (255 : Int32)) (fun hU53 => ?_) (fun hU53 => ?_)
      ·
        show OE _ _ _ _ (T51.setTop (mkF m 111 #[rv ba, rv b1, rv ba, iv 3, iv 2, iv x2, iv (x2 &&& (255 : Int32))] []))
        refine OE.v (fun t k => XS.aloadN X51.here hx rfl (hb hby d1_111) rfl rfl k) ?_
        refine OE.v (fun t k => XS.iload X51.here hx rfl (hb hby d1_112) rfl k) ?_
        show OE _ _ _ _ (T51.setTop (mkF m 114 #[rv ba, rv b1, rv ba, iv 3, iv 2, iv x2, iv (x2 &&& (255 : Int32))] [(.int (x2 &&& (255 : Int32))), (.ref b1)]))
        obtain ⟨cq54, kq54, q54a, q54b, q54c⟩ := isOf hZ e51 q51_0
        obtain ⟨_, _, ⟨T54, L54, k54, n54⟩, -, X54, ⟨Lc54, hQ54, l54, y54, z54⟩, st54⟩ := X51.virtualBack hx (y := (⟨"java/lang/StringBuilder", "append", "(C)Ljava/lang/StringBuilder;"⟩ : MethodName)) (z := (⟨"java/lang/StringBuilder", "append", "(C)Ljava/lang/StringBuilder;"⟩ : MethodName)) hown (mvT hZ (hw _ (own_w 26 rfl))) (mvT hZ (hw _ (own_w 27 rfl))) (notFace_of_selects (args := #[]) (mvT hZ (hw _ (own_w 29 rfl)))) (mvT hZ (hw _ (own_w 29 rfl))) (mvT hZ (hw _ (own_w 28 rfl))) (by decide) (backOf (W := 0) (rm5 l Z a0 hw [] b1 (x2 &&& (255 : Int32)) (4 : Int32) vb_3 kv_3 (9 : Int32) [(.int 37), (.int (own_hx ((x0 &&& (255 : Int32)) >>> ((4 : Int32) &&& 31)))), (.int (own_hx ((x0 &&& (255 : Int32)) &&& (15 : Int32)))), (.int (x1 &&& (255 : Int32))), (.int 0), (.int 0), (.int 0), (.int 0), (.int 0)] cs h51 n0 Z51 O51 q51_0 q51_1 q51_2 Fc51 Vc51 ge_b1 q3_7 (Ne.symm ne_b1_vb_3) (own_ur hU53) (by decide) ⟨by decide, by decide⟩ (by show (4 : Int32).toNatClampNeg < 9; decide) P2 OP0) hZ (hw _ (own_w 30 rfl)) (hw _ (own_w 7 rfl)) (by decide) (by decide)) q54a q54c (g := (mkF m 114 #[rv ba, rv b1, rv ba, iv 3, iv 2, iv x2, iv (x2 &&& (255 : Int32))] [(.int (x2 &&& (255 : Int32))), (.ref b1)])) rfl (by rw [hml]; rfl) (Steps.refl _) (argsL := [(.int (x2 &&& (255 : Int32)))]) (rest := []) (lenOf pd_17 rfl) rfl (Nat.le_of_eq rfl) (hb hby d1_114) (fun _ _ => ⟨rfl, e51, (by decide : 2 + 0 ≤ _), (by decide : 13 + 0 ≤ _)⟩)
        dsimp only [Pt.U, Pt.locs, Pt.cells, Pt.slots] at X54 l54 y54 z54 st54 hQ54
        subst l54 y54 z54
        obtain ⟨h54, e54⟩ : ∃ z, T54.heap = z := ⟨_, rfl⟩
        rw [e54] at hQ54
        obtain ⟨rfl, Nq54, Kq54, q54_0, q54_1, q54_2, q54_3, q54_4⟩ := hQ54
        have Z54 : n0 ≤ h54.size := Nat.le_trans Z51 Kq54.1
        have K54 : Keep h0 h54 [] := K51.trans Kq54 (allS (Or.inr sz_b1) (allS (Or.inr sz_vb_3) all0))
        have O54 : Old Z n0 h54 := O51.keep Kq54 (allS ge_b1 (allS q3_7 all0))
        have N54 := Fr.app N51 Nq54
        refine OE.v (fun t k => st54.trans k) ?_
        have Fc54 : Fld Z h54 b1 "java/lang/AbstractStringBuilder" "count" "I" (.int 5) := q54_3
        have Vc54 : Arv Z h54 vb_3 kv_3 .byte (9 : Int32) [(.int 37), (.int (own_hx ((x0 &&& (255 : Int32)) >>> ((4 : Int32) &&& 31)))), (.int (own_hx ((x0 &&& (255 : Int32)) &&& (15 : Int32)))), (.int (x1 &&& (255 : Int32))), (.int (x2 &&& (255 : Int32))), (.int 0), (.int 0), (.int 0), (.int 0)] (.int 0) := q54_4
        show OE _ _ _ _ (T54.setTop (mkF m 117 #[rv ba, rv b1, rv ba, iv 3, iv 2, iv x2, iv (x2 &&& (255 : Int32))] [(.ref b1)]))
        refine OE.v (fun t k => XS.pop X54.here hx rfl (hb hby d1_117) rfl rfl k) ?_
        refine OE.v (fun t k => XS.goto X54.here hx rfl (pc0 := 118) (pc' := 151) rfl (hb hby d1_118) (by decide) (by decide) k) ?_
        refine OE.v (fun t k => XS.iinc X54.here hx rfl (hb hby d1_151) rfl (l' := #[rv ba, rv b1, rv ba, iv 3, iv 3, iv x2, iv (x2 &&& (255 : Int32))]) rfl k) ?_
        refine OE.v (fun t k => XS.goto X54.here hx rfl (pc0 := 154) (pc' := 20) rfl (hb hby d1_154) (by decide) (by decide) k) ?_
        refine OE.v (fun t k => XS.iload X54.here hx rfl (hb hby d1_20) rfl k) ?_
        refine OE.v (fun t k => XS.iloadN X54.here hx rfl (hb hby d1_22) rfl k) ?_
        show OE _ _ _ _ (T54.setTop (mkF m 23 #[rv ba, rv b1, rv ba, iv 3, iv 3, iv x2, iv (x2 &&& (255 : Int32))] [(.int 3), (.int 3)]))
        refine OE.v (fun t k => XS.icmpYes X54.here hx rfl (pc0 := 23) (pc' := 157) rfl (hb hby d1_23) rfl (flt (by decide)).2.1 (by decide) (by decide) k) ?_
        show OE _ _ _ _ (T54.setTop (mkF m 157 #[rv ba, rv b1, rv ba, iv 3, iv 3, iv x2, iv (x2 &&& (255 : Int32))] []))
        refine OE.v (fun t k => XS.aloadN X54.here hx rfl (hb hby d1_157) rfl rfl k) ?_
        show OE _ _ _ _ (T54.setTop (mkF m 158 #[rv ba, rv b1, rv ba, iv 3, iv 3, iv x2, iv (x2 &&& (255 : Int32))] [(.ref b1)]))
        obtain ⟨cq55, kq55, q55a, q55b, q55c⟩ := isOf hZ e54 q54_0
        obtain ⟨_, _, ⟨T55, L55, k55, n55⟩, -, X55, ⟨Lc55, hQ55, l55, y55, z55⟩, st55⟩ := X54.virtualBack hx (y := (⟨"java/lang/StringBuilder", "toString", "()Ljava/lang/String;"⟩ : MethodName)) (z := (⟨"java/lang/StringBuilder", "toString", "()Ljava/lang/String;"⟩ : MethodName)) hown (mvT hZ (hw _ (own_w 54 rfl))) (mvT hZ (hw _ (own_w 55 rfl))) (notFace_of_selects (args := #[]) (mvT hZ (hw _ (own_w 57 rfl)))) (mvT hZ (hw _ (own_w 57 rfl))) (mvT hZ (hw _ (own_w 56 rfl))) (by decide) (backOf (W := 0) (rm10 l Z a0 hw [] b1 (5 : Int32) vb_3 kv_3 (9 : Int32) [(.int 37), (.int (own_hx ((x0 &&& (255 : Int32)) >>> ((4 : Int32) &&& 31)))), (.int (own_hx ((x0 &&& (255 : Int32)) &&& (15 : Int32)))), (.int (x1 &&& (255 : Int32))), (.int (x2 &&& (255 : Int32))), (.int 0), (.int 0), (.int 0), (.int 0)] cs h54 n0 Z54 O54 q54_0 q54_1 q54_2 Fc54 Vc54 (((((q3_5.keep Kq42).keep Kq45).keep Kq48).keep Kq51).keep Kq54) (by decide) P2 OP0) hZ (hw _ (own_w 58 rfl)) (hw _ (own_w 7 rfl)) (by decide) (by decide)) q55a q55c (g := (mkF m 158 #[rv ba, rv b1, rv ba, iv 3, iv 3, iv x2, iv (x2 &&& (255 : Int32))] [(.ref b1)])) rfl (by rw [hml]; rfl) (Steps.refl _) (argsL := []) (rest := []) (lenOf pd_16 rfl) rfl (Nat.le_of_eq rfl) (hb hby d1_158) (fun _ _ => ⟨rfl, e54, (by decide : 2 + 2 ≤ _), (by decide : 13 + 13 ≤ _)⟩)
        dsimp only [Pt.U, Pt.locs, Pt.cells, Pt.slots] at X55 l55 y55 z55 st55 hQ55
        subst l55 y55 z55
        obtain ⟨h55, e55⟩ : ∃ z, T55.heap = z := ⟨_, rfl⟩
        rw [e55] at hQ55
        obtain ⟨a_55, sv_55, ks_55, us_55, rfl, Nq55, Kq55, q55_0, q55_1, q55_2, q55_3, q55_4⟩ := hQ55
        have Z55 : n0 ≤ h55.size := Nat.le_trans Z54 Kq55.1
        have K55 : Keep h0 h55 [] := K54.trans Kq55 all0
        have O55 : Old Z n0 h55 := O54.keep Kq55 all0
        have N55 := Fr.app N54 Nq55
        refine OE.v (fun t k => st55.trans k) ?_
        show OE _ _ _ _ (T55.setTop (mkF m 161 #[rv ba, rv b1, rv ba, iv 3, iv 3, iv x2, iv (x2 &&& (255 : Int32))] [(.ref a_55)]))
        obtain ⟨fs, hr, hrun, hended, hW, hsame⟩ := X55.leave (v := some (.ref a_55)) (fun h => by rw [Bd.returns] at h; cases h)
        refine ⟨_, _, ?_, hrun, hended, _, _, rfl, ?_, ⟨_, rfl⟩, hW, hsame.mono (by decide) (by decide)⟩
        · jvm_step X55.here [X55.here.top, hx, (hb hby d1_161), X55.method', Bd.returns, Value.isRef, FieldType.isReference]
          first | (intro acts; rw [hr _ acts rfl rfl rfl]) | rw [hr _ _ rfl rfl rfl]
          exact Steps.refl _
        · show QE3 Z ba kb x0 x1 x2 hxa hc cs h0 n0 _ T55.heap _
          rw [e55]
          exact ⟨a_55, sv_55, ks_55, us_55, (5 : Int32), rfl, N55, K55, q55_0, q55_1, q55_2, q55_3, (by rw [own_e3 hU6, own_e1 hU50, own_e1 hU53]; exact own_made [(.int 0), (.int 0), (.int 0), (.int 0)] q55_4 rfl rfl (by decide))⟩
      ·
        show OE _ _ _ _ (T51.setTop (mkF m 121 #[rv ba, rv b1, rv ba, iv 3, iv 2, iv x2, iv (x2 &&& (255 : Int32))] []))
        refine OE.v (fun t k => XS.aloadN X51.here hx rfl (hb hby d1_121) rfl rfl k) ?_
        refine OE.v (fun t k => XS.bipush X51.here hx rfl (hb hby d1_122) k) ?_
        show OE _ _ _ _ (T51.setTop (mkF m 124 #[rv ba, rv b1, rv ba, iv 3, iv 2, iv x2, iv (x2 &&& (255 : Int32))] [(.int 37), (.ref b1)]))
        obtain ⟨cq56, kq56, q56a, q56b, q56c⟩ := isOf hZ e51 q51_0
        obtain ⟨_, _, ⟨T56, L56, k56, n56⟩, -, X56, ⟨Lc56, hQ56, l56, y56, z56⟩, st56⟩ := X51.virtualBack hx (y := (⟨"java/lang/StringBuilder", "append", "(C)Ljava/lang/StringBuilder;"⟩ : MethodName)) (z := (⟨"java/lang/StringBuilder", "append", "(C)Ljava/lang/StringBuilder;"⟩ : MethodName)) hown (mvT hZ (hw _ (own_w 26 rfl))) (mvT hZ (hw _ (own_w 27 rfl))) (notFace_of_selects (args := #[]) (mvT hZ (hw _ (own_w 29 rfl)))) (mvT hZ (hw _ (own_w 29 rfl))) (mvT hZ (hw _ (own_w 28 rfl))) (by decide) (backOf (W := 0) (rm5 l Z a0 hw [] b1 (37 : Int32) (4 : Int32) vb_3 kv_3 (9 : Int32) [(.int 37), (.int (own_hx ((x0 &&& (255 : Int32)) >>> ((4 : Int32) &&& 31)))), (.int (own_hx ((x0 &&& (255 : Int32)) &&& (15 : Int32)))), (.int (x1 &&& (255 : Int32))), (.int 0), (.int 0), (.int 0), (.int 0), (.int 0)] cs h51 n0 Z51 O51 q51_0 q51_1 q51_2 Fc51 Vc51 ge_b1 q3_7 (Ne.symm ne_b1_vb_3) (by decide) (by decide) ⟨by decide, by decide⟩ (by show (4 : Int32).toNatClampNeg < 9; decide) P2 OP0) hZ (hw _ (own_w 30 rfl)) (hw _ (own_w 7 rfl)) (by decide) (by decide)) q56a q56c (g := (mkF m 124 #[rv ba, rv b1, rv ba, iv 3, iv 2, iv x2, iv (x2 &&& (255 : Int32))] [(.int 37), (.ref b1)])) rfl (by rw [hml]; rfl) (Steps.refl _) (argsL := [(.int 37)]) (rest := []) (lenOf pd_17 rfl) rfl (Nat.le_of_eq rfl) (hb hby d1_124) (fun _ _ => ⟨rfl, e51, (by decide : 2 + 0 ≤ _), (by decide : 13 + 0 ≤ _)⟩)
        dsimp only [Pt.U, Pt.locs, Pt.cells, Pt.slots] at X56 l56 y56 z56 st56 hQ56
        subst l56 y56 z56
        obtain ⟨h56, e56⟩ : ∃ z, T56.heap = z := ⟨_, rfl⟩
        rw [e56] at hQ56
        obtain ⟨rfl, Nq56, Kq56, q56_0, q56_1, q56_2, q56_3, q56_4⟩ := hQ56
        have Z56 : n0 ≤ h56.size := Nat.le_trans Z51 Kq56.1
        have K56 : Keep h0 h56 [] := K51.trans Kq56 (allS (Or.inr sz_b1) (allS (Or.inr sz_vb_3) all0))
        have O56 : Old Z n0 h56 := O51.keep Kq56 (allS ge_b1 (allS q3_7 all0))
        have N56 := Fr.app N51 Nq56
        refine OE.v (fun t k => st56.trans k) ?_
        have Fc56 : Fld Z h56 b1 "java/lang/AbstractStringBuilder" "count" "I" (.int 5) := q56_3
        have Vc56 : Arv Z h56 vb_3 kv_3 .byte (9 : Int32) [(.int 37), (.int (own_hx ((x0 &&& (255 : Int32)) >>> ((4 : Int32) &&& 31)))), (.int (own_hx ((x0 &&& (255 : Int32)) &&& (15 : Int32)))), (.int (x1 &&& (255 : Int32))), (.int 37), (.int 0), (.int 0), (.int 0), (.int 0)] (.int 0) := q56_4
        show OE _ _ _ _ (T56.setTop (mkF m 127 #[rv ba, rv b1, rv ba, iv 3, iv 2, iv x2, iv (x2 &&& (255 : Int32))] [(.ref b1)]))
        obtain ⟨T57, X57, e57, st57⟩ := getS2 X56 hx hZ hown (host := "") (Or.inl (hw _ (own_w 52 rfl))) Via.refl e56 (OP1.ext O56.2) (g := (mkF m 127 #[rv ba, rv b1, rv ba, iv 3, iv 2, iv x2, iv (x2 &&& (255 : Int32))] [(.ref b1)])) rfl (hb hby d1_127)
        refine OE.v st57 ?_
        show OE _ _ _ _ (T57.setTop (mkF m 130 #[rv ba, rv b1, rv ba, iv 3, iv 2, iv x2, iv (x2 &&& (255 : Int32))] [(.ref hxa), (.ref b1)]))
        refine OE.v (fun t k => XS.iload X57.here hx rfl (hb hby d1_130) rfl k) ?_
        refine OE.v (fun t k => XS.iconst X57.here hx rfl (hb hby d1_132) k) ?_
        refine OE.v (fun t k => XS.ishr X57.here hx rfl (hb hby d1_133) rfl k) ?_
        have rg58 := own_16 (own_hi (own_r8 x2))
        have hin58 := inb_of P1.2.1 rg58
        refine OE.v (X57.caload hx (j := ((x2 &&& (255 : Int32)) >>> ((4 : Int32) &&& 31))) (v := .int (own_hx ((x2 &&& (255 : Int32)) >>> ((4 : Int32) &&& 31)))) (by rw [e57]; exact (P1.1.ext O56.2).1) (State.isArrayOf_alike hZ.alike P1.1.2.1) P1.1.2.2 hin58 (P1.2.2 _ rg58.1 rg58.2) (g := (mkF m 134 #[rv ba, rv b1, rv ba, iv 3, iv 2, iv x2, iv (x2 &&& (255 : Int32))] [(.int ((x2 &&& (255 : Int32)) >>> ((4 : Int32) &&& 31))), (.ref hxa), (.ref b1)])) rfl rfl (hb hby d1_134)) ?_
        show OE _ _ _ _ (T57.setTop (mkF m 135 #[rv ba, rv b1, rv ba, iv 3, iv 2, iv x2, iv (x2 &&& (255 : Int32))] [(.int (own_hx ((x2 &&& (255 : Int32)) >>> ((4 : Int32) &&& 31)))), (.ref b1)]))
        obtain ⟨cq59, kq59, q59a, q59b, q59c⟩ := isOf hZ e57 q56_0
        obtain ⟨_, _, ⟨T59, L59, k59, n59⟩, -, X59, ⟨Lc59, hQ59, l59, y59, z59⟩, st59⟩ := X57.virtualBack hx (y := (⟨"java/lang/StringBuilder", "append", "(C)Ljava/lang/StringBuilder;"⟩ : MethodName)) (z := (⟨"java/lang/StringBuilder", "append", "(C)Ljava/lang/StringBuilder;"⟩ : MethodName)) hown (mvT hZ (hw _ (own_w 26 rfl))) (mvT hZ (hw _ (own_w 27 rfl))) (notFace_of_selects (args := #[]) (mvT hZ (hw _ (own_w 29 rfl)))) (mvT hZ (hw _ (own_w 29 rfl))) (mvT hZ (hw _ (own_w 28 rfl))) (by decide) (backOf (W := 0) (rm5 l Z a0 hw [] b1 (own_hx ((x2 &&& (255 : Int32)) >>> ((4 : Int32) &&& 31))) (5 : Int32) vb_3 kv_3 (9 : Int32) [(.int 37), (.int (own_hx ((x0 &&& (255 : Int32)) >>> ((4 : Int32) &&& 31)))), (.int (own_hx ((x0 &&& (255 : Int32)) &&& (15 : Int32)))), (.int (x1 &&& (255 : Int32))), (.int 37), (.int 0), (.int 0), (.int 0), (.int 0)] cs h56 n0 Z56 O56 q56_0 q56_1 q56_2 Fc56 Vc56 ge_b1 q3_7 (Ne.symm ne_b1_vb_3) (own_hr (own_hi (own_r8 x2))) (by decide) ⟨by decide, by decide⟩ (by show (5 : Int32).toNatClampNeg < 9; decide) P2 OP0) hZ (hw _ (own_w 30 rfl)) (hw _ (own_w 7 rfl)) (by decide) (by decide)) q59a q59c (g := (mkF m 135 #[rv ba, rv b1, rv ba, iv 3, iv 2, iv x2, iv (x2 &&& (255 : Int32))] [(.int (own_hx ((x2 &&& (255 : Int32)) >>> ((4 : Int32) &&& 31)))), (.ref b1)])) rfl (by rw [hml]; rfl) (Steps.refl _) (argsL := [(.int (own_hx ((x2 &&& (255 : Int32)) >>> ((4 : Int32) &&& 31))))]) (rest := []) (lenOf pd_17 rfl) rfl (Nat.le_of_eq rfl) (hb hby d1_135) (fun _ _ => ⟨rfl, e57, (by decide : 2 + 0 ≤ _), (by decide : 13 + 0 ≤ _)⟩)
        dsimp only [Pt.U, Pt.locs, Pt.cells, Pt.slots] at X59 l59 y59 z59 st59 hQ59
        subst l59 y59 z59
        obtain ⟨h59, e59⟩ : ∃ z, T59.heap = z := ⟨_, rfl⟩
        rw [e59] at hQ59
        obtain ⟨rfl, Nq59, Kq59, q59_0, q59_1, q59_2, q59_3, q59_4⟩ := hQ59
        have Z59 : n0 ≤ h59.size := Nat.le_trans Z56 Kq59.1
        have K59 : Keep h0 h59 [] := K56.trans Kq59 (allS (Or.inr sz_b1) (allS (Or.inr sz_vb_3) all0))
        have O59 : Old Z n0 h59 := O56.keep Kq59 (allS ge_b1 (allS q3_7 all0))
        have N59 := Fr.app N56 Nq59
        refine OE.v (fun t k => st59.trans k) ?_
        have Fc59 : Fld Z h59 b1 "java/lang/AbstractStringBuilder" "count" "I" (.int 6) := q59_3
        have Vc59 : Arv Z h59 vb_3 kv_3 .byte (9 : Int32) [(.int 37), (.int (own_hx ((x0 &&& (255 : Int32)) >>> ((4 : Int32) &&& 31)))), (.int (own_hx ((x0 &&& (255 : Int32)) &&& (15 : Int32)))), (.int (x1 &&& (255 : Int32))), (.int 37), (.int (own_hx ((x2 &&& (255 : Int32)) >>> ((4 : Int32) &&& 31)))), (.int 0), (.int 0), (.int 0)] (.int 0) := q59_4
        show OE _ _ _ _ (T59.setTop (mkF m 138 #[rv ba, rv b1, rv ba, iv 3, iv 2, iv x2, iv (x2 &&& (255 : Int32))] [(.ref b1)]))
        obtain ⟨T60, X60, e60, st60⟩ := getS2 X59 hx hZ hown (host := "") (Or.inl (hw _ (own_w 52 rfl))) Via.refl e59 (OP1.ext O59.2) (g := (mkF m 138 #[rv ba, rv b1, rv ba, iv 3, iv 2, iv x2, iv (x2 &&& (255 : Int32))] [(.ref b1)])) rfl (hb hby d1_138)
        refine OE.v st60 ?_
        show OE _ _ _ _ (T60.setTop (mkF m 141 #[rv ba, rv b1, rv ba, iv 3, iv 2, iv x2, iv (x2 &&& (255 : Int32))] [(.ref hxa), (.ref b1)]))
        refine OE.v (fun t k => XS.iload X60.here hx rfl (hb hby d1_141) rfl k) ?_
        refine OE.v (fun t k => XS.bipush X60.here hx rfl (hb hby d1_143) k) ?_
        refine OE.v (fun t k => XS.iand X60.here hx rfl (hb hby d1_145) rfl k) ?_
        have rg61 := own_16 (own_lo (x2 &&& (255 : Int32)))
        have hin61 := inb_of P1.2.1 rg61
        refine OE.v (X60.caload hx (j := ((x2 &&& (255 : Int32)) &&& (15 : Int32))) (v := .int (own_hx ((x2 &&& (255 : Int32)) &&& (15 : Int32)))) (by rw [e60]; exact (P1.1.ext O59.2).1) (State.isArrayOf_alike hZ.alike P1.1.2.1) P1.1.2.2 hin61 (P1.2.2 _ rg61.1 rg61.2) (g := (mkF m 146 #[rv ba, rv b1, rv ba, iv 3, iv 2, iv x2, iv (x2 &&& (255 : Int32))] [(.int ((x2 &&& (255 : Int32)) &&& (15 : Int32))), (.ref hxa), (.ref b1)])) rfl rfl (hb hby d1_146)) ?_
        show OE _ _ _ _ (T60.setTop (mkF m 147 #[rv ba, rv b1, rv ba, iv 3, iv 2, iv x2, iv (x2 &&& (255 : Int32))] [(.int (own_hx ((x2 &&& (255 : Int32)) &&& (15 : Int32)))), (.ref b1)]))
        obtain ⟨cq62, kq62, q62a, q62b, q62c⟩ := isOf hZ e60 q59_0
        obtain ⟨_, _, ⟨T62, L62, k62, n62⟩, -, X62, ⟨Lc62, hQ62, l62, y62, z62⟩, st62⟩ := X60.virtualBack hx (y := (⟨"java/lang/StringBuilder", "append", "(C)Ljava/lang/StringBuilder;"⟩ : MethodName)) (z := (⟨"java/lang/StringBuilder", "append", "(C)Ljava/lang/StringBuilder;"⟩ : MethodName)) hown (mvT hZ (hw _ (own_w 26 rfl))) (mvT hZ (hw _ (own_w 27 rfl))) (notFace_of_selects (args := #[]) (mvT hZ (hw _ (own_w 29 rfl)))) (mvT hZ (hw _ (own_w 29 rfl))) (mvT hZ (hw _ (own_w 28 rfl))) (by decide) (backOf (W := 0) (rm5 l Z a0 hw [] b1 (own_hx ((x2 &&& (255 : Int32)) &&& (15 : Int32))) (6 : Int32) vb_3 kv_3 (9 : Int32) [(.int 37), (.int (own_hx ((x0 &&& (255 : Int32)) >>> ((4 : Int32) &&& 31)))), (.int (own_hx ((x0 &&& (255 : Int32)) &&& (15 : Int32)))), (.int (x1 &&& (255 : Int32))), (.int 37), (.int (own_hx ((x2 &&& (255 : Int32)) >>> ((4 : Int32) &&& 31)))), (.int 0), (.int 0), (.int 0)] cs h59 n0 Z59 O59 q59_0 q59_1 q59_2 Fc59 Vc59 ge_b1 q3_7 (Ne.symm ne_b1_vb_3) (own_hr (own_lo (x2 &&& (255 : Int32)))) (by decide) ⟨by decide, by decide⟩ (by show (6 : Int32).toNatClampNeg < 9; decide) P2 OP0) hZ (hw _ (own_w 30 rfl)) (hw _ (own_w 7 rfl)) (by decide) (by decide)) q62a q62c (g := (mkF m 147 #[rv ba, rv b1, rv ba, iv 3, iv 2, iv x2, iv (x2 &&& (255 : Int32))] [(.int (own_hx ((x2 &&& (255 : Int32)) &&& (15 : Int32)))), (.ref b1)])) rfl (by rw [hml]; rfl) (Steps.refl _) (argsL := [(.int (own_hx ((x2 &&& (255 : Int32)) &&& (15 : Int32))))]) (rest := []) (lenOf pd_17 rfl) rfl (Nat.le_of_eq rfl) (hb hby d1_147) (fun _ _ => ⟨rfl, e60, (by decide : 2 + 0 ≤ _), (by decide : 13 + 0 ≤ _)⟩)
        dsimp only [Pt.U, Pt.locs, Pt.cells, Pt.slots] at X62 l62 y62 z62 st62 hQ62
        subst l62 y62 z62
        obtain ⟨h62, e62⟩ : ∃ z, T62.heap = z := ⟨_, rfl⟩
        rw [e62] at hQ62
        obtain ⟨rfl, Nq62, Kq62, q62_0, q62_1, q62_2, q62_3, q62_4⟩ := hQ62
        have Z62 : n0 ≤ h62.size := Nat.le_trans Z59 Kq62.1
        have K62 : Keep h0 h62 [] := K59.trans Kq62 (allS (Or.inr sz_b1) (allS (Or.inr sz_vb_3) all0))
        have O62 : Old Z n0 h62 := O59.keep Kq62 (allS ge_b1 (allS q3_7 all0))
        have N62 := Fr.app N59 Nq62
        refine OE.v (fun t k => st62.trans k) ?_
        have Fc62 : Fld Z h62 b1 "java/lang/AbstractStringBuilder" "count" "I" (.int 7) := q62_3
        have Vc62 : Arv Z h62 vb_3 kv_3 .byte (9 : Int32) [(.int 37), (.int (own_hx ((x0 &&& (255 : Int32)) >>> ((4 : Int32) &&& 31)))), (.int (own_hx ((x0 &&& (255 : Int32)) &&& (15 : Int32)))), (.int (x1 &&& (255 : Int32))), (.int 37), (.int (own_hx ((x2 &&& (255 : Int32)) >>> ((4 : Int32) &&& 31)))), (.int (own_hx ((x2 &&& (255 : Int32)) &&& (15 : Int32)))), (.int 0), (.int 0)] (.int 0) := q62_4
        show OE _ _ _ _ (T62.setTop (mkF m 150 #[rv ba, rv b1, rv ba, iv 3, iv 2, iv x2, iv (x2 &&& (255 : Int32))] [(.ref b1)]))
        refine OE.v (fun t k => XS.pop X62.here hx rfl (hb hby d1_150) rfl rfl k) ?_
        refine OE.v (fun t k => XS.iinc X62.here hx rfl (hb hby d1_151) rfl (l' := #[rv ba, rv b1, rv ba, iv 3, iv 3, iv x2, iv (x2 &&& (255 : Int32))]) rfl k) ?_
        refine OE.v (fun t k => XS.goto X62.here hx rfl (pc0 := 154) (pc' := 20) rfl (hb hby d1_154) (by decide) (by decide) k) ?_
        refine OE.v (fun t k => XS.iload X62.here hx rfl (hb hby d1_20) rfl k) ?_
        refine OE.v (fun t k => XS.iloadN X62.here hx rfl (hb hby d1_22) rfl k) ?_
        show OE _ _ _ _ (T62.setTop (mkF m 23 #[rv ba, rv b1, rv ba, iv 3, iv 3, iv x2, iv (x2 &&& (255 : Int32))] [(.int 3), (.int 3)]))
        refine OE.v (fun t k => XS.icmpYes X62.here hx rfl (pc0 := 23) (pc' := 157) rfl (hb hby d1_23) rfl (flt (by decide)).2.1 (by decide) (by decide) k) ?_
        show OE _ _ _ _ (T62.setTop (mkF m 157 #[rv ba, rv b1, rv ba, iv 3, iv 3, iv x2, iv (x2 &&& (255 : Int32))] []))
        refine OE.v (fun t k => XS.aloadN X62.here hx rfl (hb hby d1_157) rfl rfl k) ?_
        show OE _ _ _ _ (T62.setTop (mkF m 158 #[rv ba, rv b1, rv ba, iv 3, iv 3, iv x2, iv (x2 &&& (255 : Int32))] [(.ref b1)]))
        obtain ⟨cq63, kq63, q63a, q63b, q63c⟩ := isOf hZ e62 q62_0
        obtain ⟨_, _, ⟨T63, L63, k63, n63⟩, -, X63, ⟨Lc63, hQ63, l63, y63, z63⟩, st63⟩ := X62.virtualBack hx (y := (⟨"java/lang/StringBuilder", "toString", "()Ljava/lang/String;"⟩ : MethodName)) (z := (⟨"java/lang/StringBuilder", "toString", "()Ljava/lang/String;"⟩ : MethodName)) hown (mvT hZ (hw _ (own_w 54 rfl))) (mvT hZ (hw _ (own_w 55 rfl))) (notFace_of_selects (args := #[]) (mvT hZ (hw _ (own_w 57 rfl)))) (mvT hZ (hw _ (own_w 57 rfl))) (mvT hZ (hw _ (own_w 56 rfl))) (by decide) (backOf (W := 0) (rm10 l Z a0 hw [] b1 (7 : Int32) vb_3 kv_3 (9 : Int32) [(.int 37), (.int (own_hx ((x0 &&& (255 : Int32)) >>> ((4 : Int32) &&& 31)))), (.int (own_hx ((x0 &&& (255 : Int32)) &&& (15 : Int32)))), (.int (x1 &&& (255 : Int32))), (.int 37), (.int (own_hx ((x2 &&& (255 : Int32)) >>> ((4 : Int32) &&& 31)))), (.int (own_hx ((x2 &&& (255 : Int32)) &&& (15 : Int32)))), (.int 0), (.int 0)] cs h62 n0 Z62 O62 q62_0 q62_1 q62_2 Fc62 Vc62 (((((((q3_5.keep Kq42).keep Kq45).keep Kq48).keep Kq51).keep Kq56).keep Kq59).keep Kq62) (by decide) P2 OP0) hZ (hw _ (own_w 58 rfl)) (hw _ (own_w 7 rfl)) (by decide) (by decide)) q63a q63c (g := (mkF m 158 #[rv ba, rv b1, rv ba, iv 3, iv 3, iv x2, iv (x2 &&& (255 : Int32))] [(.ref b1)])) rfl (by rw [hml]; rfl) (Steps.refl _) (argsL := []) (rest := []) (lenOf pd_16 rfl) rfl (Nat.le_of_eq rfl) (hb hby d1_158) (fun _ _ => ⟨rfl, e62, (by decide : 2 + 2 ≤ _), (by decide : 13 + 13 ≤ _)⟩)
        dsimp only [Pt.U, Pt.locs, Pt.cells, Pt.slots] at X63 l63 y63 z63 st63 hQ63
        subst l63 y63 z63
        obtain ⟨h63, e63⟩ : ∃ z, T63.heap = z := ⟨_, rfl⟩
        rw [e63] at hQ63
        obtain ⟨a_63, sv_63, ks_63, us_63, rfl, Nq63, Kq63, q63_0, q63_1, q63_2, q63_3, q63_4⟩ := hQ63
        have Z63 : n0 ≤ h63.size := Nat.le_trans Z62 Kq63.1
        have K63 : Keep h0 h63 [] := K62.trans Kq63 all0
        have O63 : Old Z n0 h63 := O62.keep Kq63 all0
        have N63 := Fr.app N62 Nq63
        refine OE.v (fun t k => st63.trans k) ?_
        show OE _ _ _ _ (T63.setTop (mkF m 161 #[rv ba, rv b1, rv ba, iv 3, iv 3, iv x2, iv (x2 &&& (255 : Int32))] [(.ref a_63)]))
        obtain ⟨fs, hr, hrun, hended, hW, hsame⟩ := X63.leave (v := some (.ref a_63)) (fun h => by rw [Bd.returns] at h; cases h)
        refine ⟨_, _, ?_, hrun, hended, _, _, rfl, ?_, ⟨_, rfl⟩, hW, hsame.mono (by decide) (by decide)⟩
        · jvm_step X63.here [X63.here.top, hx, (hb hby d1_161), X63.method', Bd.returns, Value.isRef, FieldType.isReference]
          first | (intro acts; rw [hr _ acts rfl rfl rfl]) | rw [hr _ _ rfl rfl rfl]
          exact Steps.refl _
        · show QE3 Z ba kb x0 x1 x2 hxa hc cs h0 n0 _ T63.heap _
          rw [e63]
          exact ⟨a_63, sv_63, ks_63, us_63, (7 : Int32), rfl, N63, K63, q63_0, q63_1, q63_2, q63_3, (by rw [own_e3 hU6, own_e1 hU50, own_e3 hU53]; exact own_made [(.int 0), (.int 0)] q63_4 rfl rfl (by decide))⟩
    ·
      show OE _ _ _ _ (T48.setTop (mkF m 121 #[rv ba, rv b1, rv ba, iv 3, iv 1, iv x1, iv (x1 &&& (255 : Int32))] []))
      refine OE.v (fun t k => XS.aloadN X48.here hx rfl (hb hby d1_121) rfl rfl k) ?_
      refine OE.v (fun t k => XS.bipush X48.here hx rfl (hb hby d1_122) k) ?_
      show OE _ _ _ _ (T48.setTop (mkF m 124 #[rv ba, rv b1, rv ba, iv 3, iv 1, iv x1, iv (x1 &&& (255 : Int32))] [(.int 37), (.ref b1)]))
      obtain ⟨cq64, kq64, q64a, q64b, q64c⟩ := isOf hZ e48 q48_0
      obtain ⟨_, _, ⟨T64, L64, k64, n64⟩, -, X64, ⟨Lc64, hQ64, l64, y64, z64⟩, st64⟩ := X48.virtualBack hx (y := (⟨"java/lang/StringBuilder", "append", "(C)Ljava/lang/StringBuilder;"⟩ : MethodName)) (z := (⟨"java/lang/StringBuilder", "append", "(C)Ljava/lang/StringBuilder;"⟩ : MethodName)) hown (mvT hZ (hw _ (own_w 26 rfl))) (mvT hZ (hw _ (own_w 27 rfl))) (notFace_of_selects (args := #[]) (mvT hZ (hw _ (own_w 29 rfl)))) (mvT hZ (hw _ (own_w 29 rfl))) (mvT hZ (hw _ (own_w 28 rfl))) (by decide) (backOf (W := 0) (rm5 l Z a0 hw [] b1 (37 : Int32) (3 : Int32) vb_3 kv_3 (9 : Int32) [(.int 37), (.int (own_hx ((x0 &&& (255 : Int32)) >>> ((4 : Int32) &&& 31)))), (.int (own_hx ((x0 &&& (255 : Int32)) &&& (15 : Int32)))), (.int 0), (.int 0), (.int 0), (.int 0), (.int 0), (.int 0)] cs h48 n0 Z48 O48 q48_0 q48_1 q48_2 Fc48 Vc48 ge_b1 q3_7 (Ne.symm ne_b1_vb_3) (by decide) (by decide) ⟨by decide, by decide⟩ (by show (3 : Int32).toNatClampNeg < 9; decide) P2 OP0) hZ (hw _ (own_w 30 rfl)) (hw _ (own_w 7 rfl)) (by decide) (by decide)) q64a q64c (g := (mkF m 124 #[rv ba, rv b1, rv ba, iv 3, iv 1, iv x1, iv (x1 &&& (255 : Int32))] [(.int 37), (.ref b1)])) rfl (by rw [hml]; rfl) (Steps.refl _) (argsL := [(.int 37)]) (rest := []) (lenOf pd_17 rfl) rfl (Nat.le_of_eq rfl) (hb hby d1_124) (fun _ _ => ⟨rfl, e48, (by decide : 2 + 0 ≤ _), (by decide : 13 + 0 ≤ _)⟩)
      dsimp only [Pt.U, Pt.locs, Pt.cells, Pt.slots] at X64 l64 y64 z64 st64 hQ64
      subst l64 y64 z64
      obtain ⟨h64, e64⟩ : ∃ z, T64.heap = z := ⟨_, rfl⟩
      rw [e64] at hQ64
      obtain ⟨rfl, Nq64, Kq64, q64_0, q64_1, q64_2, q64_3, q64_4⟩ := hQ64
      have Z64 : n0 ≤ h64.size := Nat.le_trans Z48 Kq64.1
      have K64 : Keep h0 h64 [] := K48.trans Kq64 (allS (Or.inr sz_b1) (allS (Or.inr sz_vb_3) all0))
      have O64 : Old Z n0 h64 := O48.keep Kq64 (allS ge_b1 (allS q3_7 all0))
      have N64 := Fr.app N48 Nq64
      refine OE.v (fun t k => st64.trans k) ?_
      have Fc64 : Fld Z h64 b1 "java/lang/AbstractStringBuilder" "count" "I" (.int 4) := q64_3
      have Vc64 : Arv Z h64 vb_3 kv_3 .byte (9 : Int32) [(.int 37), (.int (own_hx ((x0 &&& (255 : Int32)) >>> ((4 : Int32) &&& 31)))), (.int (own_hx ((x0 &&& (255 : Int32)) &&& (15 : Int32)))), (.int 37), (.int 0), (.int 0), (.int 0), (.int 0), (.int 0)] (.int 0) := q64_4
      show OE _ _ _ _ (T64.setTop (mkF m 127 #[rv ba, rv b1, rv ba, iv 3, iv 1, iv x1, iv (x1 &&& (255 : Int32))] [(.ref b1)]))
      obtain ⟨T65, X65, e65, st65⟩ := getS2 X64 hx hZ hown (host := "") (Or.inl (hw _ (own_w 52 rfl))) Via.refl e64 (OP1.ext O64.2) (g := (mkF m 127 #[rv ba, rv b1, rv ba, iv 3, iv 1, iv x1, iv (x1 &&& (255 : Int32))] [(.ref b1)])) rfl (hb hby d1_127)
      refine OE.v st65 ?_
      show OE _ _ _ _ (T65.setTop (mkF m 130 #[rv ba, rv b1, rv ba, iv 3, iv 1, iv x1, iv (x1 &&& (255 : Int32))] [(.ref hxa), (.ref b1)]))
      refine OE.v (fun t k => XS.iload X65.here hx rfl (hb hby d1_130) rfl k) ?_
      refine OE.v (fun t k => XS.iconst X65.here hx rfl (hb hby d1_132) k) ?_
      refine OE.v (fun t k => XS.ishr X65.here hx rfl (hb hby d1_133) rfl k) ?_
      have rg66 := own_16 (own_hi (own_r8 x1))
      have hin66 := inb_of P1.2.1 rg66
      refine OE.v (X65.caload hx (j := ((x1 &&& (255 : Int32)) >>> ((4 : Int32) &&& 31))) (v := .int (own_hx ((x1 &&& (255 : Int32)) >>> ((4 : Int32) &&& 31)))) (by rw [e65]; exact (P1.1.ext O64.2).1) (State.isArrayOf_alike hZ.alike P1.1.2.1) P1.1.2.2 hin66 (P1.2.2 _ rg66.1 rg66.2) (g := (mkF m 134 #[rv ba, rv b1, rv ba, iv 3, iv 1, iv x1, iv (x1 &&& (255 : Int32))] [(.int ((x1 &&& (255 : Int32)) >>> ((4 : Int32) &&& 31))), (.ref hxa), (.ref b1)])) rfl rfl (hb hby d1_134)) ?_
      show OE _ _ _ _ (T65.setTop (mkF m 135 #[rv ba, rv b1, rv ba, iv 3, iv 1, iv x1, iv (x1 &&& (255 : Int32))] [(.int (own_hx ((x1 &&& (255 : Int32)) >>> ((4 : Int32) &&& 31)))), (.ref b1)]))
      obtain ⟨cq67, kq67, q67a, q67b, q67c⟩ := isOf hZ e65 q64_0
      obtain ⟨_, _, ⟨T67, L67, k67, n67⟩, -, X67, ⟨Lc67, hQ67, l67, y67, z67⟩, st67⟩ := X65.virtualBack hx (y := (⟨"java/lang/StringBuilder", "append", "(C)Ljava/lang/StringBuilder;"⟩ : MethodName)) (z := (⟨"java/lang/StringBuilder", "append", "(C)Ljava/lang/StringBuilder;"⟩ : MethodName)) hown (mvT hZ (hw _ (own_w 26 rfl))) (mvT hZ (hw _ (own_w 27 rfl))) (notFace_of_selects (args := #[]) (mvT hZ (hw _ (own_w 29 rfl)))) (mvT hZ (hw _ (own_w 29 rfl))) (mvT hZ (hw _ (own_w 28 rfl))) (by decide) (backOf (W := 0) (rm5 l Z a0 hw [] b1 (own_hx ((x1 &&& (255 : Int32)) >>> ((4 : Int32) &&& 31))) (4 : Int32) vb_3 kv_3 (9 : Int32) [(.int 37), (.int (own_hx ((x0 &&& (255 : Int32)) >>> ((4 : Int32) &&& 31)))), (.int (own_hx ((x0 &&& (255 : Int32)) &&& (15 : Int32)))), (.int 37), (.int 0), (.int 0), (.int 0), (.int 0), (.int 0)] cs h64 n0 Z64 O64 q64_0 q64_1 q64_2 Fc64 Vc64 ge_b1 q3_7 (Ne.symm ne_b1_vb_3) (own_hr (own_hi (own_r8 x1))) (by decide) ⟨by decide, by decide⟩ (by show (4 : Int32).toNatClampNeg < 9; decide) P2 OP0) hZ (hw _ (own_w 30 rfl)) (hw _ (own_w 7 rfl)) (by decide) (by decide)) q67a q67c (g := (mkF m 135 #[rv ba, rv b1, rv ba, iv 3, iv 1, iv x1, iv (x1 &&& (255 : Int32))] [(.int (own_hx ((x1 &&& (255 : Int32)) >>> ((4 : Int32) &&& 31)))), (.ref b1)])) rfl (by rw [hml]; rfl) (Steps.refl _) (argsL := [(.int (own_hx ((x1 &&& (255 : Int32)) >>> ((4 : Int32) &&& 31))))]) (rest := []) (lenOf pd_17 rfl) rfl (Nat.le_of_eq rfl) (hb hby d1_135) (fun _ _ => ⟨rfl, e65, (by decide : 2 + 0 ≤ _), (by decide : 13 + 0 ≤ _)⟩)
      dsimp only [Pt.U, Pt.locs, Pt.cells, Pt.slots] at X67 l67 y67 z67 st67 hQ67
      subst l67 y67 z67
      obtain ⟨h67, e67⟩ : ∃ z, T67.heap = z := ⟨_, rfl⟩
      rw [e67] at hQ67
      obtain ⟨rfl, Nq67, Kq67, q67_0, q67_1, q67_2, q67_3, q67_4⟩ := hQ67
      have Z67 : n0 ≤ h67.size := Nat.le_trans Z64 Kq67.1
      have K67 : Keep h0 h67 [] := K64.trans Kq67 (allS (Or.inr sz_b1) (allS (Or.inr sz_vb_3) all0))
      have O67 : Old Z n0 h67 := O64.keep Kq67 (allS ge_b1 (allS q3_7 all0))
      have N67 := Fr.app N64 Nq67
      refine OE.v (fun t k => st67.trans k) ?_
      have Fc67 : Fld Z h67 b1 "java/lang/AbstractStringBuilder" "count" "I" (.int 5) := q67_3
      have Vc67 : Arv Z h67 vb_3 kv_3 .byte (9 : Int32) [(.int 37), (.int (own_hx ((x0 &&& (255 : Int32)) >>> ((4 : Int32) &&& 31)))), (.int (own_hx ((x0 &&& (255 : Int32)) &&& (15 : Int32)))), (.int 37), (.int (own_hx ((x1 &&& (255 : Int32)) >>> ((4 : Int32) &&& 31)))), (.int 0), (.int 0), (.int 0), (.int 0)] (.int 0) := q67_4
      show OE _ _ _ _ (T67.setTop (mkF m 138 #[rv ba, rv b1, rv ba, iv 3, iv 1, iv x1, iv (x1 &&& (255 : Int32))] [(.ref b1)]))
      obtain ⟨T68, X68, e68, st68⟩ := getS2 X67 hx hZ hown (host := "") (Or.inl (hw _ (own_w 52 rfl))) Via.refl e67 (OP1.ext O67.2) (g := (mkF m 138 #[rv ba, rv b1, rv ba, iv 3, iv 1, iv x1, iv (x1 &&& (255 : Int32))] [(.ref b1)])) rfl (hb hby d1_138)
      refine OE.v st68 ?_
      show OE _ _ _ _ (T68.setTop (mkF m 141 #[rv ba, rv b1, rv ba, iv 3, iv 1, iv x1, iv (x1 &&& (255 : Int32))] [(.ref hxa), (.ref b1)]))
      refine OE.v (fun t k => XS.iload X68.here hx rfl (hb hby d1_141) rfl k) ?_
      refine OE.v (fun t k => XS.bipush X68.here hx rfl (hb hby d1_143) k) ?_
      refine OE.v (fun t k => XS.iand X68.here hx rfl (hb hby d1_145) rfl k) ?_
      have rg69 := own_16 (own_lo (x1 &&& (255 : Int32)))
      have hin69 := inb_of P1.2.1 rg69
      refine OE.v (X68.caload hx (j := ((x1 &&& (255 : Int32)) &&& (15 : Int32))) (v := .int (own_hx ((x1 &&& (255 : Int32)) &&& (15 : Int32)))) (by rw [e68]; exact (P1.1.ext O67.2).1) (State.isArrayOf_alike hZ.alike P1.1.2.1) P1.1.2.2 hin69 (P1.2.2 _ rg69.1 rg69.2) (g := (mkF m 146 #[rv ba, rv b1, rv ba, iv 3, iv 1, iv x1, iv (x1 &&& (255 : Int32))] [(.int ((x1 &&& (255 : Int32)) &&& (15 : Int32))), (.ref hxa), (.ref b1)])) rfl rfl (hb hby d1_146)) ?_
      show OE _ _ _ _ (T68.setTop (mkF m 147 #[rv ba, rv b1, rv ba, iv 3, iv 1, iv x1, iv (x1 &&& (255 : Int32))] [(.int (own_hx ((x1 &&& (255 : Int32)) &&& (15 : Int32)))), (.ref b1)]))
      obtain ⟨cq70, kq70, q70a, q70b, q70c⟩ := isOf hZ e68 q67_0
      obtain ⟨_, _, ⟨T70, L70, k70, n70⟩, -, X70, ⟨Lc70, hQ70, l70, y70, z70⟩, st70⟩ := X68.virtualBack hx (y := (⟨"java/lang/StringBuilder", "append", "(C)Ljava/lang/StringBuilder;"⟩ : MethodName)) (z := (⟨"java/lang/StringBuilder", "append", "(C)Ljava/lang/StringBuilder;"⟩ : MethodName)) hown (mvT hZ (hw _ (own_w 26 rfl))) (mvT hZ (hw _ (own_w 27 rfl))) (notFace_of_selects (args := #[]) (mvT hZ (hw _ (own_w 29 rfl)))) (mvT hZ (hw _ (own_w 29 rfl))) (mvT hZ (hw _ (own_w 28 rfl))) (by decide) (backOf (W := 0) (rm5 l Z a0 hw [] b1 (own_hx ((x1 &&& (255 : Int32)) &&& (15 : Int32))) (5 : Int32) vb_3 kv_3 (9 : Int32) [(.int 37), (.int (own_hx ((x0 &&& (255 : Int32)) >>> ((4 : Int32) &&& 31)))), (.int (own_hx ((x0 &&& (255 : Int32)) &&& (15 : Int32)))), (.int 37), (.int (own_hx ((x1 &&& (255 : Int32)) >>> ((4 : Int32) &&& 31)))), (.int 0), (.int 0), (.int 0), (.int 0)] cs h67 n0 Z67 O67 q67_0 q67_1 q67_2 Fc67 Vc67 ge_b1 q3_7 (Ne.symm ne_b1_vb_3) (own_hr (own_lo (x1 &&& (255 : Int32)))) (by decide) ⟨by decide, by decide⟩ (by show (5 : Int32).toNatClampNeg < 9; decide) P2 OP0) hZ (hw _ (own_w 30 rfl)) (hw _ (own_w 7 rfl)) (by decide) (by decide)) q70a q70c (g := (mkF m 147 #[rv ba, rv b1, rv ba, iv 3, iv 1, iv x1, iv (x1 &&& (255 : Int32))] [(.int (own_hx ((x1 &&& (255 : Int32)) &&& (15 : Int32)))), (.ref b1)])) rfl (by rw [hml]; rfl) (Steps.refl _) (argsL := [(.int (own_hx ((x1 &&& (255 : Int32)) &&& (15 : Int32))))]) (rest := []) (lenOf pd_17 rfl) rfl (Nat.le_of_eq rfl) (hb hby d1_147) (fun _ _ => ⟨rfl, e68, (by decide : 2 + 0 ≤ _), (by decide : 13 + 0 ≤ _)⟩)
      dsimp only [Pt.U, Pt.locs, Pt.cells, Pt.slots] at X70 l70 y70 z70 st70 hQ70
      subst l70 y70 z70
      obtain ⟨h70, e70⟩ : ∃ z, T70.heap = z := ⟨_, rfl⟩
      rw [e70] at hQ70
      obtain ⟨rfl, Nq70, Kq70, q70_0, q70_1, q70_2, q70_3, q70_4⟩ := hQ70
      have Z70 : n0 ≤ h70.size := Nat.le_trans Z67 Kq70.1
      have K70 : Keep h0 h70 [] := K67.trans Kq70 (allS (Or.inr sz_b1) (allS (Or.inr sz_vb_3) all0))
      have O70 : Old Z n0 h70 := O67.keep Kq70 (allS ge_b1 (allS q3_7 all0))
      have N70 := Fr.app N67 Nq70
      refine OE.v (fun t k => st70.trans k) ?_
      have Fc70 : Fld Z h70 b1 "java/lang/AbstractStringBuilder" "count" "I" (.int 6) := q70_3
      have Vc70 : Arv Z h70 vb_3 kv_3 .byte (9 : Int32) [(.int 37), (.int (own_hx ((x0 &&& (255 : Int32)) >>> ((4 : Int32) &&& 31)))), (.int (own_hx ((x0 &&& (255 : Int32)) &&& (15 : Int32)))), (.int 37), (.int (own_hx ((x1 &&& (255 : Int32)) >>> ((4 : Int32) &&& 31)))), (.int (own_hx ((x1 &&& (255 : Int32)) &&& (15 : Int32)))), (.int 0), (.int 0), (.int 0)] (.int 0) := q70_4
      show OE _ _ _ _ (T70.setTop (mkF m 150 #[rv ba, rv b1, rv ba, iv 3, iv 1, iv x1, iv (x1 &&& (255 : Int32))] [(.ref b1)]))
      refine OE.v (fun t k => XS.pop X70.here hx rfl (hb hby d1_150) rfl rfl k) ?_
      refine OE.v (fun t k => XS.iinc X70.here hx rfl (hb hby d1_151) rfl (l' := #[rv ba, rv b1, rv ba, iv 3, iv 2, iv x1, iv (x1 &&& (255 : Int32))]) rfl k) ?_
      refine OE.v (fun t k => XS.goto X70.here hx rfl (pc0 := 154) (pc' := 20) rfl (hb hby d1_154) (by decide) (by decide) k) ?_
      refine OE.v (fun t k => XS.iload X70.here hx rfl (hb hby d1_20) rfl k) ?_
      refine OE.v (fun t k => XS.iloadN X70.here hx rfl (hb hby d1_22) rfl k) ?_
      show OE _ _ _ _ (T70.setTop (mkF m 23 #[rv ba, rv b1, rv ba, iv 3, iv 2, iv x1, iv (x1 &&& (255 : Int32))] [(.int 3), (.int 2)]))
      refine OE.v (fun t k => XS.icmpNo X70.here hx rfl (hb hby d1_23) rfl (tlt (by decide)).2.1 k) ?_
      show OE _ _ _ _ (T70.setTop (mkF m 26 #[rv ba, rv b1, rv ba, iv 3, iv 2, iv x1, iv (x1 &&& (255 : Int32))] []))
      refine OE.v (fun t k => XS.aloadN X70.here hx rfl (hb hby d1_26) rfl rfl k) ?_
      refine OE.v (fun t k => XS.iload X70.here hx rfl (hb hby d1_27) rfl k) ?_
      show OE _ _ _ _ (T70.setTop (mkF m 29 #[rv ba, rv b1, rv ba, iv 3, iv 2, iv x1, iv (x1 &&& (255 : Int32))] [(.int 2), (.ref ba)]))
      obtain ⟨cl71, Ar71, q71, S71, M71, H71, G71⟩ := id ((((((((P0.ext E1).keep Kq3 (ninS ne_ba_b1 nin0)).keep Kq42 (ninS ne_ba_b1 (ninS ne_ba_vb_3 nin0))).keep Kq45 (ninS ne_ba_b1 (ninS ne_ba_vb_3 nin0))).keep Kq48 (ninS ne_ba_b1 (ninS ne_ba_vb_3 nin0))).keep Kq64 (ninS ne_ba_b1 (ninS ne_ba_vb_3 nin0))).keep Kq67 (ninS ne_ba_b1 (ninS ne_ba_vb_3 nin0))).keep Kq70 (ninS ne_ba_b1 (ninS ne_ba_vb_3 nin0)))
      have hin71 : ¬ ((2 : Int32) < 0 ∨ cl71.slots.size ≤ ((2 : Int32)).toNatClampNeg) := inb_of S71 ⟨by decide, by decide⟩
      have hat71 : cl71.slots[((2 : Int32)).toNatClampNeg]? = some (.int x2) := H71.at hin71 rfl
      refine OE.v (X70.baloadBytes hx (j := (2 : Int32)) (v := (.int x2)) (by rw [e70]; exact Ar71.1) (State.isArrayOf_alike hZ.alike Ar71.2.1) Ar71.2.2 hin71 hat71 (g := (mkF m 29 #[rv ba, rv b1, rv ba, iv 3, iv 2, iv x1, iv (x1 &&& (255 : Int32))] [(.int 2), (.ref ba)])) rfl rfl (hb hby d1_29)) ?_
      show OE _ _ _ _ (T70.setTop (mkF m 30 #[rv ba, rv b1, rv ba, iv 3, iv 2, iv x1, iv (x1 &&& (255 : Int32))] [(.int x2)]))
      refine OE.v (fun t k => XS.istore X70.here hx rfl (hb hby d1_30) rfl (l' := #[rv ba, rv b1, rv ba, iv 3, iv 2, iv x2, iv (x1 &&& (255 : Int32))]) rfl k) ?_
      refine OE.v (fun t k => XS.iload X70.here hx rfl (hb hby d1_32) rfl k) ?_
      refine OE.v (fun t k => XS.sipush X70.here hx rfl (hb hby d1_34) k) ?_
      refine OE.v (fun t k => XS.iand X70.here hx rfl (hb hby d1_37) rfl k) ?_
      refine OE.v (fun t k => XS.i2c X70.here hx rfl (hb hby d1_38) rfl k) ?_
      show OE _ _ _ _ (T70.setTop (mkF m 39 #[rv ba, rv b1, rv ba, iv 3, iv 2, iv x2, iv (x1 &&& (255 : Int32))] [(.int ((x2 &&& (255 : Int32)).toUInt32.toUInt16.toUInt32.toInt32))]))
      rw [own_cx x2]
      refine OE.v (fun t k => XS.istore X70.here hx rfl (hb hby d1_39) rfl (l' := #[rv ba, rv b1, rv ba, iv 3, iv 2, iv x2, iv (x2 &&& (255 : Int32))]) rfl k) ?_
      show OE _ _ _ _ (T70.setTop (mkF m 41 #[rv ba, rv b1, rv ba, iv 3, iv 2, iv x2, iv (x2 &&& (255 : Int32))] []))
      refine own_chain X70 hx hby ba b1 (3 : Int32) (2 : Int32) x2 (x2 &&& (255 : Int32)) (fun hU72 => ?_) (fun hU72 => ?_)
      ·
        show OE _ _ _ _ (T70.setTop (mkF m 111 #[rv ba, rv b1, rv ba, iv 3, iv 2, iv x2, iv (x2 &&& (255 : Int32))] []))
        refine OE.v (fun t k => XS.aloadN X70.here hx rfl (hb hby d1_111) rfl rfl k) ?_
        refine OE.v (fun t k => XS.iload X70.here hx rfl (hb hby d1_112) rfl k) ?_
        show OE _ _ _ _ (T70.setTop (mkF m 114 #[rv ba, rv b1, rv ba, iv 3, iv 2, iv x2, iv (x2 &&& (255 : Int32))] [(.int (x2 &&& (255 : Int32))), (.ref b1)]))
        obtain ⟨cq73, kq73, q73a, q73b, q73c⟩ := isOf hZ e70 q70_0
        obtain ⟨_, _, ⟨T73, L73, k73, n73⟩, -, X73, ⟨Lc73, hQ73, l73, y73, z73⟩, st73⟩ := X70.virtualBack hx (y := (⟨"java/lang/StringBuilder", "append", "(C)Ljava/lang/StringBuilder;"⟩ : MethodName)) (z := (⟨"java/lang/StringBuilder", "append", "(C)Ljava/lang/StringBuilder;"⟩ : MethodName)) hown (mvT hZ (hw _ (own_w 26 rfl))) (mvT hZ (hw _ (own_w 27 rfl))) (notFace_of_selects (args := #[]) (mvT hZ (hw _ (own_w 29 rfl)))) (mvT hZ (hw _ (own_w 29 rfl))) (mvT hZ (hw _ (own_w 28 rfl))) (by decide) (backOf (W := 0) (rm5 l Z a0 hw [] b1 (x2 &&& (255 : Int32)) (6 : Int32) vb_3 kv_3 (9 : Int32) [(.int 37), (.int (own_hx ((x0 &&& (255 : Int32)) >>> ((4 : Int32) &&& 31)))), (.int (own_hx ((x0 &&& (255 : Int32)) &&& (15 : Int32)))), (.int 37), (.int (own_hx ((x1 &&& (255 : Int32)) >>> ((4 : Int32) &&& 31)))), (.int (own_hx ((x1 &&& (255 : Int32)) &&& (15 : Int32)))), (.int 0), (.int 0), (.int 0)] cs h70 n0 Z70 O70 q70_0 q70_1 q70_2 Fc70 Vc70 ge_b1 q3_7 (Ne.symm ne_b1_vb_3) (own_ur hU72) (by decide) ⟨by decide, by decide⟩ (by show (6 : Int32).toNatClampNeg < 9; decide) P2 OP0) hZ (hw _ (own_w 30 rfl)) (hw _ (own_w 7 rfl)) (by decide) (by decide)) q73a q73c (g := (mkF m 114 #[rv ba, rv b1, rv ba, iv 3, iv 2, iv x2, iv (x2 &&& (255 : Int32))] [(.int (x2 &&& (255 : Int32))), (.ref b1)])) rfl (by rw [hml]; rfl) (Steps.refl _) (argsL := [(.int (x2 &&& (255 : Int32)))]) (rest := []) (lenOf pd_17 rfl) rfl (Nat.le_of_eq rfl) (hb hby d1_114) (fun _ _ => ⟨rfl, e70, (by decide : 2 + 0 ≤ _), (by decide : 13 + 0 ≤ _)⟩)
        dsimp only [Pt.U, Pt.locs, Pt.cells, Pt.slots] at X73 l73 y73 z73 st73 hQ73
        subst l73 y73 z73
        obtain ⟨h73, e73⟩ : ∃ z, T73.heap = z := ⟨_, rfl⟩
        rw [e73] at hQ73
        obtain ⟨rfl, Nq73, Kq73, q73_0, q73_1, q73_2, q73_3, q73_4⟩ := hQ73
        have Z73 : n0 ≤ h73.size := Nat.le_trans Z70 Kq73.1
        have K73 : Keep h0 h73 [] := K70.trans Kq73 (allS (Or.inr sz_b1) (allS (Or.inr sz_vb_3) all0))
        have O73 : Old Z n0 h73 := O70.keep Kq73 (allS ge_b1 (allS q3_7 all0))
        have N73 := Fr.app N70 Nq73
        refine OE.v (fun t k => st73.trans k) ?_
        have Fc73 : Fld Z h73 b1 "java/lang/AbstractStringBuilder" "count" "I" (.int 7) := q73_3
        have Vc73 : Arv Z h73 vb_3 kv_3 .byte (9 : Int32) [(.int 37), (.int (own_hx ((x0 &&& (255 : Int32)) >>> ((4 : Int32) &&& 31)))), (.int (own_hx ((x0 &&& (255 : Int32)) &&& (15 : Int32)))), (.int 37), (.int (own_hx ((x1 &&& (255 : Int32)) >>> ((4 : Int32) &&& 31)))), (.int (own_hx ((x1 &&& (255 : Int32)) &&& (15 : Int32)))), (.int (x2 &&& (255 : Int32))), (.int 0), (.int 0)] (.int 0) := q73_4
        show OE _ _ _ _ (T73.setTop (mkF m 117 #[rv ba, rv b1, rv ba, iv 3, iv 2, iv x2, iv (x2 &&& (255 : Int32))] [(.ref b1)]))
        refine OE.v (fun t k => XS.pop X73.here hx rfl (hb hby d1_117) rfl rfl k) ?_
        refine OE.v (fun t k => XS.goto X73.here hx rfl (pc0 := 118) (pc' := 151) rfl (hb hby d1_118) (by decide) (by decide) k) ?_
        refine OE.v (fun t k => XS.iinc X73.here hx rfl (hb hby d1_151) rfl (l' := #[rv ba, rv b1, rv ba, iv 3, iv 3, iv x2, iv (x2 &&& (255 : Int32))]) rfl k) ?_
        refine OE.v (fun t k => XS.goto X73.here hx rfl (pc0 := 154) (pc' := 20) rfl (hb hby d1_154) (by decide) (by decide) k) ?_
        refine OE.v (fun t k => XS.iload X73.here hx rfl (hb hby d1_20) rfl k) ?_
        refine OE.v (fun t k => XS.iloadN X73.here hx rfl (hb hby d1_22) rfl k) ?_
        show OE _ _ _ _ (T73.setTop (mkF m 23 #[rv ba, rv b1, rv ba, iv 3, iv 3, iv x2, iv (x2 &&& (255 : Int32))] [(.int 3), (.int 3)]))
        refine OE.v (fun t k => XS.icmpYes X73.here hx rfl (pc0 := 23) (pc' := 157) rfl (hb hby d1_23) rfl (flt (by decide)).2.1 (by decide) (by decide) k) ?_
        show OE _ _ _ _ (T73.setTop (mkF m 157 #[rv ba, rv b1, rv ba, iv 3, iv 3, iv x2, iv (x2 &&& (255 : Int32))] []))
        refine OE.v (fun t k => XS.aloadN X73.here hx rfl (hb hby d1_157) rfl rfl k) ?_
        show OE _ _ _ _ (T73.setTop (mkF m 158 #[rv ba, rv b1, rv ba, iv 3, iv 3, iv x2, iv (x2 &&& (255 : Int32))] [(.ref b1)]))
        obtain ⟨cq74, kq74, q74a, q74b, q74c⟩ := isOf hZ e73 q73_0
        obtain ⟨_, _, ⟨T74, L74, k74, n74⟩, -, X74, ⟨Lc74, hQ74, l74, y74, z74⟩, st74⟩ := X73.virtualBack hx (y := (⟨"java/lang/StringBuilder", "toString", "()Ljava/lang/String;"⟩ : MethodName)) (z := (⟨"java/lang/StringBuilder", "toString", "()Ljava/lang/String;"⟩ : MethodName)) hown (mvT hZ (hw _ (own_w 54 rfl))) (mvT hZ (hw _ (own_w 55 rfl))) (notFace_of_selects (args := #[]) (mvT hZ (hw _ (own_w 57 rfl)))) (mvT hZ (hw _ (own_w 57 rfl))) (mvT hZ (hw _ (own_w 56 rfl))) (by decide) (backOf (W := 0) (rm10 l Z a0 hw [] b1 (7 : Int32) vb_3 kv_3 (9 : Int32) [(.int 37), (.int (own_hx ((x0 &&& (255 : Int32)) >>> ((4 : Int32) &&& 31)))), (.int (own_hx ((x0 &&& (255 : Int32)) &&& (15 : Int32)))), (.int 37), (.int (own_hx ((x1 &&& (255 : Int32)) >>> ((4 : Int32) &&& 31)))), (.int (own_hx ((x1 &&& (255 : Int32)) &&& (15 : Int32)))), (.int (x2 &&& (255 : Int32))), (.int 0), (.int 0)] cs h73 n0 Z73 O73 q73_0 q73_1 q73_2 Fc73 Vc73 (((((((q3_5.keep Kq42).keep Kq45).keep Kq48).keep Kq64).keep Kq67).keep Kq70).keep Kq73) (by decide) P2 OP0) hZ (hw _ (own_w 58 rfl)) (hw _ (own_w 7 rfl)) (by decide) (by decide)) q74a q74c (g := (mkF m 158 #[rv ba, rv b1, rv ba, iv 3, iv 3, iv x2, iv (x2 &&& (255 : Int32))] [(.ref b1)])) rfl (by rw [hml]; rfl) (Steps.refl _) (argsL := []) (rest := []) (lenOf pd_16 rfl) rfl (Nat.le_of_eq rfl) (hb hby d1_158) (fun _ _ => ⟨rfl, e73, (by decide : 2 + 2 ≤ _), (by decide : 13 + 13 ≤ _)⟩)
        dsimp only [Pt.U, Pt.locs, Pt.cells, Pt.slots] at X74 l74 y74 z74 st74 hQ74
        subst l74 y74 z74
        obtain ⟨h74, e74⟩ : ∃ z, T74.heap = z := ⟨_, rfl⟩
        rw [e74] at hQ74
        obtain ⟨a_74, sv_74, ks_74, us_74, rfl, Nq74, Kq74, q74_0, q74_1, q74_2, q74_3, q74_4⟩ := hQ74
        have Z74 : n0 ≤ h74.size := Nat.le_trans Z73 Kq74.1
        have K74 : Keep h0 h74 [] := K73.trans Kq74 all0
        have O74 : Old Z n0 h74 := O73.keep Kq74 all0
        have N74 := Fr.app N73 Nq74
        refine OE.v (fun t k => st74.trans k) ?_
        show OE _ _ _ _ (T74.setTop (mkF m 161 #[rv ba, rv b1, rv ba, iv 3, iv 3, iv x2, iv (x2 &&& (255 : Int32))] [(.ref a_74)]))
        obtain ⟨fs, hr, hrun, hended, hW, hsame⟩ := X74.leave (v := some (.ref a_74)) (fun h => by rw [Bd.returns] at h; cases h)
        refine ⟨_, _, ?_, hrun, hended, _, _, rfl, ?_, ⟨_, rfl⟩, hW, hsame.mono (by decide) (by decide)⟩
        · jvm_step X74.here [X74.here.top, hx, (hb hby d1_161), X74.method', Bd.returns, Value.isRef, FieldType.isReference]
          first | (intro acts; rw [hr _ acts rfl rfl rfl]) | rw [hr _ _ rfl rfl rfl]
          exact Steps.refl _
        · show QE3 Z ba kb x0 x1 x2 hxa hc cs h0 n0 _ T74.heap _
          rw [e74]
          exact ⟨a_74, sv_74, ks_74, us_74, (7 : Int32), rfl, N74, K74, q74_0, q74_1, q74_2, q74_3, (by rw [own_e3 hU6, own_e3 hU50, own_e1 hU72]; exact own_made [(.int 0), (.int 0)] q74_4 rfl rfl (by decide))⟩
      ·
        show OE _ _ _ _ (T70.setTop (mkF m 121 #[rv ba, rv b1, rv ba, iv 3, iv 2, iv x2, iv (x2 &&& (255 : Int32))] []))
        refine OE.v (fun t k => XS.aloadN X70.here hx rfl (hb hby d1_121) rfl rfl k) ?_
        refine OE.v (fun t k => XS.bipush X70.here hx rfl (hb hby d1_122) k) ?_
        show OE _ _ _ _ (T70.setTop (mkF m 124 #[rv ba, rv b1, rv ba, iv 3, iv 2, iv x2, iv (x2 &&& (255 : Int32))] [(.int 37), (.ref b1)]))
        obtain ⟨cq75, kq75, q75a, q75b, q75c⟩ := isOf hZ e70 q70_0
        obtain ⟨_, _, ⟨T75, L75, k75, n75⟩, -, X75, ⟨Lc75, hQ75, l75, y75, z75⟩, st75⟩ := X70.virtualBack hx (y := (⟨"java/lang/StringBuilder", "append", "(C)Ljava/lang/StringBuilder;"⟩ : MethodName)) (z := (⟨"java/lang/StringBuilder", "append", "(C)Ljava/lang/StringBuilder;"⟩ : MethodName)) hown (mvT hZ (hw _ (own_w 26 rfl))) (mvT hZ (hw _ (own_w 27 rfl))) (notFace_of_selects (args := #[]) (mvT hZ (hw _ (own_w 29 rfl)))) (mvT hZ (hw _ (own_w 29 rfl))) (mvT hZ (hw _ (own_w 28 rfl))) (by decide) (backOf (W := 0) (rm5 l Z a0 hw [] b1 (37 : Int32) (6 : Int32) vb_3 kv_3 (9 : Int32) [(.int 37), (.int (own_hx ((x0 &&& (255 : Int32)) >>> ((4 : Int32) &&& 31)))), (.int (own_hx ((x0 &&& (255 : Int32)) &&& (15 : Int32)))), (.int 37), (.int (own_hx ((x1 &&& (255 : Int32)) >>> ((4 : Int32) &&& 31)))), (.int (own_hx ((x1 &&& (255 : Int32)) &&& (15 : Int32)))), (.int 0), (.int 0), (.int 0)] cs h70 n0 Z70 O70 q70_0 q70_1 q70_2 Fc70 Vc70 ge_b1 q3_7 (Ne.symm ne_b1_vb_3) (by decide) (by decide) ⟨by decide, by decide⟩ (by show (6 : Int32).toNatClampNeg < 9; decide) P2 OP0) hZ (hw _ (own_w 30 rfl)) (hw _ (own_w 7 rfl)) (by decide) (by decide)) q75a q75c (g := (mkF m 124 #[rv ba, rv b1, rv ba, iv 3, iv 2, iv x2, iv (x2 &&& (255 : Int32))] [(.int 37), (.ref b1)])) rfl (by rw [hml]; rfl) (Steps.refl _) (argsL := [(.int 37)]) (rest := []) (lenOf pd_17 rfl) rfl (Nat.le_of_eq rfl) (hb hby d1_124) (fun _ _ => ⟨rfl, e70, (by decide : 2 + 0 ≤ _), (by decide : 13 + 0 ≤ _)⟩)
        dsimp only [Pt.U, Pt.locs, Pt.cells, Pt.slots] at X75 l75 y75 z75 st75 hQ75
        subst l75 y75 z75
        obtain ⟨h75, e75⟩ : ∃ z, T75.heap = z := ⟨_, rfl⟩
        rw [e75] at hQ75
        obtain ⟨rfl, Nq75, Kq75, q75_0, q75_1, q75_2, q75_3, q75_4⟩ := hQ75
        have Z75 : n0 ≤ h75.size := Nat.le_trans Z70 Kq75.1
        have K75 : Keep h0 h75 [] := K70.trans Kq75 (allS (Or.inr sz_b1) (allS (Or.inr sz_vb_3) all0))
        have O75 : Old Z n0 h75 := O70.keep Kq75 (allS ge_b1 (allS q3_7 all0))
        have N75 := Fr.app N70 Nq75
        refine OE.v (fun t k => st75.trans k) ?_
        have Fc75 : Fld Z h75 b1 "java/lang/AbstractStringBuilder" "count" "I" (.int 7) := q75_3
        have Vc75 : Arv Z h75 vb_3 kv_3 .byte (9 : Int32) [(.int 37), (.int (own_hx ((x0 &&& (255 : Int32)) >>> ((4 : Int32) &&& 31)))), (.int (own_hx ((x0 &&& (255 : Int32)) &&& (15 : Int32)))), (.int 37), (.int (own_hx ((x1 &&& (255 : Int32)) >>> ((4 : Int32) &&& 31)))), (.int (own_hx ((x1 &&& (255 : Int32)) &&& (15 : Int32)))), (.int 37), (.int 0), (.int 0)] (.int 0) := q75_4
        show OE _ _ _ _ (T75.setTop (mkF m 127 #[rv ba, rv b1, rv ba, iv 3, iv 2, iv x2, iv (x2 &&& (255 : Int32))] [(.ref b1)]))
        obtain ⟨T76, X76, e76, st76⟩ := getS2 X75 hx hZ hown (host := "") (Or.inl (hw _ (own_w 52 rfl))) Via.refl e75 (OP1.ext O75.2) (g := (mkF m 127 #[rv ba, rv b1, rv ba, iv 3, iv 2, iv x2, iv (x2 &&& (255 : Int32))] [(.ref b1)])) rfl (hb hby d1_127)
        refine OE.v st76 ?_
        show OE _ _ _ _ (T76.setTop (mkF m 130 #[rv ba, rv b1, rv ba, iv 3, iv 2, iv x2, iv (x2 &&& (255 : Int32))] [(.ref hxa), (.ref b1)]))
        refine OE.v (fun t k => XS.iload X76.here hx rfl (hb hby d1_130) rfl k) ?_
        refine OE.v (fun t k => XS.iconst X76.here hx rfl (hb hby d1_132) k) ?_
        refine OE.v (fun t k => XS.ishr X76.here hx rfl (hb hby d1_133) rfl k) ?_
        have rg77 := own_16 (own_hi (own_r8 x2))
        have hin77 := inb_of P1.2.1 rg77
        refine OE.v (X76.caload hx (j := ((x2 &&& (255 : Int32)) >>> ((4 : Int32) &&& 31))) (v := .int (own_hx ((x2 &&& (255 : Int32)) >>> ((4 : Int32) &&& 31)))) (by rw [e76]; exact (P1.1.ext O75.2).1) (State.isArrayOf_alike hZ.alike P1.1.2.1) P1.1.2.2 hin77 (P1.2.2 _ rg77.1 rg77.2) (g := (mkF m 134 #[rv ba, rv b1, rv ba, iv 3, iv 2, iv x2, iv (x2 &&& (255 : Int32))] [(.int ((x2 &&& (255 : Int32)) >>> ((4 : Int32) &&& 31))), (.ref hxa), (.ref b1)])) rfl rfl (hb hby d1_134)) ?_
        show OE _ _ _ _ (T76.setTop (mkF m 135 #[rv ba, rv b1, rv ba, iv 3, iv 2, iv x2, iv (x2 &&& (255 : Int32))] [(.int (own_hx ((x2 &&& (255 : Int32)) >>> ((4 : Int32) &&& 31)))), (.ref b1)]))
        obtain ⟨cq78, kq78, q78a, q78b, q78c⟩ := isOf hZ e76 q75_0
        obtain ⟨_, _, ⟨T78, L78, k78, n78⟩, -, X78, ⟨Lc78, hQ78, l78, y78, z78⟩, st78⟩ := X76.virtualBack hx (y := (⟨"java/lang/StringBuilder", "append", "(C)Ljava/lang/StringBuilder;"⟩ : MethodName)) (z := (⟨"java/lang/StringBuilder", "append", "(C)Ljava/lang/StringBuilder;"⟩ : MethodName)) hown (mvT hZ (hw _ (own_w 26 rfl))) (mvT hZ (hw _ (own_w 27 rfl))) (notFace_of_selects (args := #[]) (mvT hZ (hw _ (own_w 29 rfl)))) (mvT hZ (hw _ (own_w 29 rfl))) (mvT hZ (hw _ (own_w 28 rfl))) (by decide) (backOf (W := 0) (rm5 l Z a0 hw [] b1 (own_hx ((x2 &&& (255 : Int32)) >>> ((4 : Int32) &&& 31))) (7 : Int32) vb_3 kv_3 (9 : Int32) [(.int 37), (.int (own_hx ((x0 &&& (255 : Int32)) >>> ((4 : Int32) &&& 31)))), (.int (own_hx ((x0 &&& (255 : Int32)) &&& (15 : Int32)))), (.int 37), (.int (own_hx ((x1 &&& (255 : Int32)) >>> ((4 : Int32) &&& 31)))), (.int (own_hx ((x1 &&& (255 : Int32)) &&& (15 : Int32)))), (.int 37), (.int 0), (.int 0)] cs h75 n0 Z75 O75 q75_0 q75_1 q75_2 Fc75 Vc75 ge_b1 q3_7 (Ne.symm ne_b1_vb_3) (own_hr (own_hi (own_r8 x2))) (by decide) ⟨by decide, by decide⟩ (by show (7 : Int32).toNatClampNeg < 9; decide) P2 OP0) hZ (hw _ (own_w 30 rfl)) (hw _ (own_w 7 rfl)) (by decide) (by decide)) q78a q78c (g := (mkF m 135 #[rv ba, rv b1, rv ba, iv 3, iv 2, iv x2, iv (x2 &&& (255 : Int32))] [(.int (own_hx ((x2 &&& (255 : Int32)) >>> ((4 : Int32) &&& 31)))), (.ref b1)])) rfl (by rw [hml]; rfl) (Steps.refl _) (argsL := [(.int (own_hx ((x2 &&& (255 : Int32)) >>> ((4 : Int32) &&& 31))))]) (rest := []) (lenOf pd_17 rfl) rfl (Nat.le_of_eq rfl) (hb hby d1_135) (fun _ _ => ⟨rfl, e76, (by decide : 2 + 0 ≤ _), (by decide : 13 + 0 ≤ _)⟩)
        dsimp only [Pt.U, Pt.locs, Pt.cells, Pt.slots] at X78 l78 y78 z78 st78 hQ78
        subst l78 y78 z78
        obtain ⟨h78, e78⟩ : ∃ z, T78.heap = z := ⟨_, rfl⟩
        rw [e78] at hQ78
        obtain ⟨rfl, Nq78, Kq78, q78_0, q78_1, q78_2, q78_3, q78_4⟩ := hQ78
        have Z78 : n0 ≤ h78.size := Nat.le_trans Z75 Kq78.1
        have K78 : Keep h0 h78 [] := K75.trans Kq78 (allS (Or.inr sz_b1) (allS (Or.inr sz_vb_3) all0))
        have O78 : Old Z n0 h78 := O75.keep Kq78 (allS ge_b1 (allS q3_7 all0))
        have N78 := Fr.app N75 Nq78
        refine OE.v (fun t k => st78.trans k) ?_
        have Fc78 : Fld Z h78 b1 "java/lang/AbstractStringBuilder" "count" "I" (.int 8) := q78_3
        have Vc78 : Arv Z h78 vb_3 kv_3 .byte (9 : Int32) [(.int 37), (.int (own_hx ((x0 &&& (255 : Int32)) >>> ((4 : Int32) &&& 31)))), (.int (own_hx ((x0 &&& (255 : Int32)) &&& (15 : Int32)))), (.int 37), (.int (own_hx ((x1 &&& (255 : Int32)) >>> ((4 : Int32) &&& 31)))), (.int (own_hx ((x1 &&& (255 : Int32)) &&& (15 : Int32)))), (.int 37), (.int (own_hx ((x2 &&& (255 : Int32)) >>> ((4 : Int32) &&& 31)))), (.int 0)] (.int 0) := q78_4
        show OE _ _ _ _ (T78.setTop (mkF m 138 #[rv ba, rv b1, rv ba, iv 3, iv 2, iv x2, iv (x2 &&& (255 : Int32))] [(.ref b1)]))
        obtain ⟨T79, X79, e79, st79⟩ := getS2 X78 hx hZ hown (host := "") (Or.inl (hw _ (own_w 52 rfl))) Via.refl e78 (OP1.ext O78.2) (g := (mkF m 138 #[rv ba, rv b1, rv ba, iv 3, iv 2, iv x2, iv (x2 &&& (255 : Int32))] [(.ref b1)])) rfl (hb hby d1_138)
        refine OE.v st79 ?_
        show OE _ _ _ _ (T79.setTop (mkF m 141 #[rv ba, rv b1, rv ba, iv 3, iv 2, iv x2, iv (x2 &&& (255 : Int32))] [(.ref hxa), (.ref b1)]))
        refine OE.v (fun t k => XS.iload X79.here hx rfl (hb hby d1_141) rfl k) ?_
        refine OE.v (fun t k => XS.bipush X79.here hx rfl (hb hby d1_143) k) ?_
        refine OE.v (fun t k => XS.iand X79.here hx rfl (hb hby d1_145) rfl k) ?_
        have rg80 := own_16 (own_lo (x2 &&& (255 : Int32)))
        have hin80 := inb_of P1.2.1 rg80
        refine OE.v (X79.caload hx (j := ((x2 &&& (255 : Int32)) &&& (15 : Int32))) (v := .int (own_hx ((x2 &&& (255 : Int32)) &&& (15 : Int32)))) (by rw [e79]; exact (P1.1.ext O78.2).1) (State.isArrayOf_alike hZ.alike P1.1.2.1) P1.1.2.2 hin80 (P1.2.2 _ rg80.1 rg80.2) (g := (mkF m 146 #[rv ba, rv b1, rv ba, iv 3, iv 2, iv x2, iv (x2 &&& (255 : Int32))] [(.int ((x2 &&& (255 : Int32)) &&& (15 : Int32))), (.ref hxa), (.ref b1)])) rfl rfl (hb hby d1_146)) ?_
        show OE _ _ _ _ (T79.setTop (mkF m 147 #[rv ba, rv b1, rv ba, iv 3, iv 2, iv x2, iv (x2 &&& (255 : Int32))] [(.int (own_hx ((x2 &&& (255 : Int32)) &&& (15 : Int32)))), (.ref b1)]))
        obtain ⟨cq81, kq81, q81a, q81b, q81c⟩ := isOf hZ e79 q78_0
        obtain ⟨_, _, ⟨T81, L81, k81, n81⟩, -, X81, ⟨Lc81, hQ81, l81, y81, z81⟩, st81⟩ := X79.virtualBack hx (y := (⟨"java/lang/StringBuilder", "append", "(C)Ljava/lang/StringBuilder;"⟩ : MethodName)) (z := (⟨"java/lang/StringBuilder", "append", "(C)Ljava/lang/StringBuilder;"⟩ : MethodName)) hown (mvT hZ (hw _ (own_w 26 rfl))) (mvT hZ (hw _ (own_w 27 rfl))) (notFace_of_selects (args := #[]) (mvT hZ (hw _ (own_w 29 rfl)))) (mvT hZ (hw _ (own_w 29 rfl))) (mvT hZ (hw _ (own_w 28 rfl))) (by decide) (backOf (W := 0) (rm5 l Z a0 hw [] b1 (own_hx ((x2 &&& (255 : Int32)) &&& (15 : Int32))) (8 : Int32) vb_3 kv_3 (9 : Int32) [(.int 37), (.int (own_hx ((x0 &&& (255 : Int32)) >>> ((4 : Int32) &&& 31)))), (.int (own_hx ((x0 &&& (255 : Int32)) &&& (15 : Int32)))), (.int 37), (.int (own_hx ((x1 &&& (255 : Int32)) >>> ((4 : Int32) &&& 31)))), (.int (own_hx ((x1 &&& (255 : Int32)) &&& (15 : Int32)))), (.int 37), (.int (own_hx ((x2 &&& (255 : Int32)) >>> ((4 : Int32) &&& 31)))), (.int 0)] cs h78 n0 Z78 O78 q78_0 q78_1 q78_2 Fc78 Vc78 ge_b1 q3_7 (Ne.symm ne_b1_vb_3) (own_hr (own_lo (x2 &&& (255 : Int32)))) (by decide) ⟨by decide, by decide⟩ (by show (8 : Int32).toNatClampNeg < 9; decide) P2 OP0) hZ (hw _ (own_w 30 rfl)) (hw _ (own_w 7 rfl)) (by decide) (by decide)) q81a q81c (g := (mkF m 147 #[rv ba, rv b1, rv ba, iv 3, iv 2, iv x2, iv (x2 &&& (255 : Int32))] [(.int (own_hx ((x2 &&& (255 : Int32)) &&& (15 : Int32)))), (.ref b1)])) rfl (by rw [hml]; rfl) (Steps.refl _) (argsL := [(.int (own_hx ((x2 &&& (255 : Int32)) &&& (15 : Int32))))]) (rest := []) (lenOf pd_17 rfl) rfl (Nat.le_of_eq rfl) (hb hby d1_147) (fun _ _ => ⟨rfl, e79, (by decide : 2 + 0 ≤ _), (by decide : 13 + 0 ≤ _)⟩)
        dsimp only [Pt.U, Pt.locs, Pt.cells, Pt.slots] at X81 l81 y81 z81 st81 hQ81
        subst l81 y81 z81
        obtain ⟨h81, e81⟩ : ∃ z, T81.heap = z := ⟨_, rfl⟩
        rw [e81] at hQ81
        obtain ⟨rfl, Nq81, Kq81, q81_0, q81_1, q81_2, q81_3, q81_4⟩ := hQ81
        have Z81 : n0 ≤ h81.size := Nat.le_trans Z78 Kq81.1
        have K81 : Keep h0 h81 [] := K78.trans Kq81 (allS (Or.inr sz_b1) (allS (Or.inr sz_vb_3) all0))
        have O81 : Old Z n0 h81 := O78.keep Kq81 (allS ge_b1 (allS q3_7 all0))
        have N81 := Fr.app N78 Nq81
        refine OE.v (fun t k => st81.trans k) ?_
        have Fc81 : Fld Z h81 b1 "java/lang/AbstractStringBuilder" "count" "I" (.int 9) := q81_3
        have Vc81 : Arv Z h81 vb_3 kv_3 .byte (9 : Int32) [(.int 37), (.int (own_hx ((x0 &&& (255 : Int32)) >>> ((4 : Int32) &&& 31)))), (.int (own_hx ((x0 &&& (255 : Int32)) &&& (15 : Int32)))), (.int 37), (.int (own_hx ((x1 &&& (255 : Int32)) >>> ((4 : Int32) &&& 31)))), (.int (own_hx ((x1 &&& (255 : Int32)) &&& (15 : Int32)))), (.int 37), (.int (own_hx ((x2 &&& (255 : Int32)) >>> ((4 : Int32) &&& 31)))), (.int (own_hx ((x2 &&& (255 : Int32)) &&& (15 : Int32))))] (.int 0) := q81_4
        show OE _ _ _ _ (T81.setTop (mkF m 150 #[rv ba, rv b1, rv ba, iv 3, iv 2, iv x2, iv (x2 &&& (255 : Int32))] [(.ref b1)]))
        refine OE.v (fun t k => XS.pop X81.here hx rfl (hb hby d1_150) rfl rfl k) ?_
        refine OE.v (fun t k => XS.iinc X81.here hx rfl (hb hby d1_151) rfl (l' := #[rv ba, rv b1, rv ba, iv 3, iv 3, iv x2, iv (x2 &&& (255 : Int32))]) rfl k) ?_
        refine OE.v (fun t k => XS.goto X81.here hx rfl (pc0 := 154) (pc' := 20) rfl (hb hby d1_154) (by decide) (by decide) k) ?_
        refine OE.v (fun t k => XS.iload X81.here hx rfl (hb hby d1_20) rfl k) ?_
        refine OE.v (fun t k => XS.iloadN X81.here hx rfl (hb hby d1_22) rfl k) ?_
        show OE _ _ _ _ (T81.setTop (mkF m 23 #[rv ba, rv b1, rv ba, iv 3, iv 3, iv x2, iv (x2 &&& (255 : Int32))] [(.int 3), (.int 3)]))
        refine OE.v (fun t k => XS.icmpYes X81.here hx rfl (pc0 := 23) (pc' := 157) rfl (hb hby d1_23) rfl (flt (by decide)).2.1 (by decide) (by decide) k) ?_
        show OE _ _ _ _ (T81.setTop (mkF m 157 #[rv ba, rv b1, rv ba, iv 3, iv 3, iv x2, iv (x2 &&& (255 : Int32))] []))
        refine OE.v (fun t k => XS.aloadN X81.here hx rfl (hb hby d1_157) rfl rfl k) ?_
        show OE _ _ _ _ (T81.setTop (mkF m 158 #[rv ba, rv b1, rv ba, iv 3, iv 3, iv x2, iv (x2 &&& (255 : Int32))] [(.ref b1)]))
        obtain ⟨cq82, kq82, q82a, q82b, q82c⟩ := isOf hZ e81 q81_0
        obtain ⟨_, _, ⟨T82, L82, k82, n82⟩, -, X82, ⟨Lc82, hQ82, l82, y82, z82⟩, st82⟩ := X81.virtualBack hx (y := (⟨"java/lang/StringBuilder", "toString", "()Ljava/lang/String;"⟩ : MethodName)) (z := (⟨"java/lang/StringBuilder", "toString", "()Ljava/lang/String;"⟩ : MethodName)) hown (mvT hZ (hw _ (own_w 54 rfl))) (mvT hZ (hw _ (own_w 55 rfl))) (notFace_of_selects (args := #[]) (mvT hZ (hw _ (own_w 57 rfl)))) (mvT hZ (hw _ (own_w 57 rfl))) (mvT hZ (hw _ (own_w 56 rfl))) (by decide) (backOf (W := 0) (rm10 l Z a0 hw [] b1 (9 : Int32) vb_3 kv_3 (9 : Int32) [(.int 37), (.int (own_hx ((x0 &&& (255 : Int32)) >>> ((4 : Int32) &&& 31)))), (.int (own_hx ((x0 &&& (255 : Int32)) &&& (15 : Int32)))), (.int 37), (.int (own_hx ((x1 &&& (255 : Int32)) >>> ((4 : Int32) &&& 31)))), (.int (own_hx ((x1 &&& (255 : Int32)) &&& (15 : Int32)))), (.int 37), (.int (own_hx ((x2 &&& (255 : Int32)) >>> ((4 : Int32) &&& 31)))), (.int (own_hx ((x2 &&& (255 : Int32)) &&& (15 : Int32))))] cs h81 n0 Z81 O81 q81_0 q81_1 q81_2 Fc81 Vc81 (((((((((q3_5.keep Kq42).keep Kq45).keep Kq48).keep Kq64).keep Kq67).keep Kq70).keep Kq75).keep Kq78).keep Kq81) (by decide) P2 OP0) hZ (hw _ (own_w 58 rfl)) (hw _ (own_w 7 rfl)) (by decide) (by decide)) q82a q82c (g := (mkF m 158 #[rv ba, rv b1, rv ba, iv 3, iv 3, iv x2, iv (x2 &&& (255 : Int32))] [(.ref b1)])) rfl (by rw [hml]; rfl) (Steps.refl _) (argsL := []) (rest := []) (lenOf pd_16 rfl) rfl (Nat.le_of_eq rfl) (hb hby d1_158) (fun _ _ => ⟨rfl, e81, (by decide : 2 + 2 ≤ _), (by decide : 13 + 13 ≤ _)⟩)
        dsimp only [Pt.U, Pt.locs, Pt.cells, Pt.slots] at X82 l82 y82 z82 st82 hQ82
        subst l82 y82 z82
        obtain ⟨h82, e82⟩ : ∃ z, T82.heap = z := ⟨_, rfl⟩
        rw [e82] at hQ82
        obtain ⟨a_82, sv_82, ks_82, us_82, rfl, Nq82, Kq82, q82_0, q82_1, q82_2, q82_3, q82_4⟩ := hQ82
        have Z82 : n0 ≤ h82.size := Nat.le_trans Z81 Kq82.1
        have K82 : Keep h0 h82 [] := K81.trans Kq82 all0
        have O82 : Old Z n0 h82 := O81.keep Kq82 all0
        have N82 := Fr.app N81 Nq82
        refine OE.v (fun t k => st82.trans k) ?_
        show OE _ _ _ _ (T82.setTop (mkF m 161 #[rv ba, rv b1, rv ba, iv 3, iv 3, iv x2, iv (x2 &&& (255 : Int32))] [(.ref a_82)]))
        obtain ⟨fs, hr, hrun, hended, hW, hsame⟩ := X82.leave (v := some (.ref a_82)) (fun h => by rw [Bd.returns] at h; cases h)
        refine ⟨_, _, ?_, hrun, hended, _, _, rfl, ?_, ⟨_, rfl⟩, hW, hsame.mono (by decide) (by decide)⟩
        · jvm_step X82.here [X82.here.top, hx, (hb hby d1_161), X82.method', Bd.returns, Value.isRef, FieldType.isReference]
          first | (intro acts; rw [hr _ acts rfl rfl rfl]) | rw [hr _ _ rfl rfl rfl]
          exact Steps.refl _
        · show QE3 Z ba kb x0 x1 x2 hxa hc cs h0 n0 _ T82.heap _
          rw [e82]
          exact ⟨a_82, sv_82, ks_82, us_82, (9 : Int32), rfl, N82, K82, q82_0, q82_1, q82_2, q82_3, (by rw [own_e3 hU6, own_e3 hU50, own_e3 hU72]; exact own_made [] q82_4 rfl rfl (by decide))⟩

theorem own_len {args : Array Value} {first s : State} {o : Option Outcome} {idx : List Nat} {t : Term} {x : Addr} {cl : Cell} {k : Int32} (ht : t.eval args first o idx s = some (.ref x)) (ha : s.arrayAt? x = some cl) (h : (Term.length t).eval args first o idx s = some (.int k)) : cl.slots.size < 2 ^ 31 ∧ cl.slots.size.toInt32 = k := by
  by_cases hl : cl.slots.size < 2 ^ 31
  · rw [len_f ht ha hl] at h
    exact ⟨hl, Value.int.inj (Option.some.inj h)⟩
  · simp [Term.eval, ht, ha, hl] at h
theorem own_hexs {s : State} {args : Array Value} {t : Term} {a : Addr} {c : Cell} (et : ∀ idx, t.eval args s none idx s = some (.ref a)) (A : Arr s s.heap a c .char) (q : c.slots.size < 2 ^ 31) (e : c.slots.size.toInt32 = (16 : Int32))
    (h1 : (Cond.all t (.or (.le (.int 10) (.index 0)) (.eq (.op1 .i2l (.elem t (.index 0))) (.op2 .ladd (.op1 .i2l (.index 0)) (.long (48 : Int64)))))).value args s none s [] = some true)
    (h2 : (Cond.all t (.or (.lt (.index 0) (.int 10)) (.eq (.op1 .i2l (.elem t (.index 0))) (.op2 .ladd (.op1 .i2l (.index 0)) (.long (55 : Int64)))))).value args s none s [] = some true) : own_HX s a c := by
  have hs : c.slots.size = (16 : Int32).toNatClampNeg := by rw [← e]; simp only [Int32.toNatClampNeg, len_toInt q]; rfl
  refine ⟨A, hs, fun j nn hj => ?_⟩
  have e16 : (16 : Int32).toNatClampNeg = 16 := by decide
  have z16 : (16 : Int32).toInt = 16 := by decide
  have z10 : (10 : Int32).toInt = 10 := by decide
  have nj := nat_of nn
  have hk : j.toNatClampNeg < c.slots.size := by
    rw [Int32.lt_iff_toInt_lt] at hj
    omega
  have j0 : 0 ≤ j.toInt := by omega
  have j16 : j.toInt < 16 := by
    rw [Int32.lt_iff_toInt_lt] at hj
    omega
  have key : ∀ (k : Int64), 0 ≤ k.toInt → k.toInt < 100 → (Cond.eq (.op1 .i2l (.elem t (.index 0))) (.op2 .ladd (.op1 .i2l (.index 0)) (.long k))).value args s none s [j.toNatClampNeg] = some true → ∃ x : Int32, c.slots[j.toNatClampNeg]? = some (.int x) ∧ x.toInt = j.toInt + k.toInt := by
    intro k k0 k1 hq
    have hF : (Term.op2 .ladd (.op1 .i2l (.index 0)) (.long k)).eval args s none [j.toNatClampNeg] s = some (.long (j.toInt64 + k)) := by
      rw [op2_f (i2l_at (idx_at nn)) (show (Term.long k).eval args s none [j.toNatClampNeg] s = some (.long k) from rfl)]
      rfl
    obtain ⟨x, ex, ap⟩ := op1_v (eqv_l hF hq)
    rw [elem_f (et _) (idx_at nn) (A.fin (Vm.Alike.refl _)) nn] at ex
    cases x <;> simp [Unary.apply] at ap
    rename_i x
    refine ⟨x, ex, ?_⟩
    have h := congrArg Int64.toInt ap
    have a1 := c_ladd j.toInt64 k
    have r1 := rng64 (j.toInt64 + k)
    rw [c_i2l] at a1
    rw [c_i2l] at h
    omega
  by_cases q10 : j < (10 : Int32)
  · have o := Cond.all_elim (et []) (A.fin (Vm.Alike.refl _)) h1 _ hk
    rw [Cond.or_of_right (nay (Cond.le_ints (Term.int_eval _) (idx_at nn)) (Int32.not_le.mpr q10))] at o
    obtain ⟨x, hx, hy⟩ := key _ (by decide) (by decide) o
    rw [hx, own_hx, if_pos q10]
    have z48 : (48 : Int64).toInt = 48 := by decide
    have y48 : (48 : Int32).toInt = 48 := by decide
    have a1 := c_iadd 48 j
    have r1 := rng32 (48 + j)
    congr 2
    rw [← Int32.toInt_inj]
    omega
  · have o := Cond.all_elim (et []) (A.fin (Vm.Alike.refl _)) h2 _ hk
    rw [Cond.or_of_right (nay (Cond.lt_ints (idx_at nn) (Term.int_eval _)) q10)] at o
    obtain ⟨x, hx, hy⟩ := key _ (by decide) (by decide) o
    rw [hx, own_hx, if_neg q10]
    have z48 : (55 : Int64).toInt = 55 := by decide
    have y48 : (55 : Int32).toInt = 55 := by decide
    have a1 := c_iadd 55 j
    have r1 := rng32 (55 + j)
    congr 2
    rw [← Int32.toInt_inj]
    omega
theorem own_03 (x : Int32) : x &&& (3 : Int32) = (0 : Int32) ∨ x &&& (3 : Int32) = (1 : Int32) ∨ x &&& (3 : Int32) = (2 : Int32) ∨ x &&& (3 : Int32) = (3 : Int32) := by
  have hm := c_mask x (3 : Int32) 2 (by decide) (by decide)
  rw [← Int32.toInt_inj, ← Int32.toInt_inj, ← Int32.toInt_inj, ← Int32.toInt_inj]
  have z0 : (0 : Int32).toInt = 0 := by decide
  have z1 : (1 : Int32).toInt = 1 := by decide
  have z2 : (2 : Int32).toInt = 2 := by decide
  have z3 : (3 : Int32).toInt = 3 := by decide
  omega
theorem own_el (v : Int32) : (own_enc v).length = (if own_U v then 1 else 3) := by
  unfold own_enc
  by_cases h : own_U v
  · rw [if_pos h, if_pos h]; rfl
  · rw [if_neg h, if_neg h]; rfl
theorem own_e9 (v : Int32) : (own_enc v).length ≤ 3 := by
  rw [own_el]
  by_cases h : own_U v
  · rw [if_pos h]; omega
  · rw [if_neg h]; omega
theorem own_st {ps v : Int32} {n : Nat} (h : ps.toInt = n) (hn : n ≤ 6) : (ps + (if own_U v then (1 : Int32) else (3 : Int32))).toInt = ((n + (own_enc v).length : Nat) : Int) := by
  rw [own_el]
  have z1 : (1 : Int32).toInt = 1 := by decide
  have z3 : (3 : Int32).toInt = 3 := by decide
  by_cases q : own_U v
  · rw [if_pos q, if_pos q]
    have a := c_iadd ps 1
    have r := rng32 (ps + 1)
    omega
  · rw [if_neg q, if_neg q]
    have a := c_iadd ps 3
    have r := rng32 (ps + 3)
    omega
theorem own_cut {us : List Value} {cn ps v : Int32} {l l1 l2 : List Int32} (H : own_str us cn l) (hl : l = l1 ++ (own_enc v ++ l2)) (hp : ps.toInt = l1.length) (h9 : l.length ≤ 9) : own_has us cn ps v := by
  have hlen : l.length = l1.length + ((own_enc v).length + l2.length) := by rw [hl]; simp
  have h0 : ¬ ps < 0 := by
    rw [Int32.lt_iff_toInt_lt]
    have z : (0 : Int32).toInt = 0 := by decide
    omega
  have np := nat_of h0
  have hH := H.1
  refine ⟨by omega, by omega, by omega, fun i hi => ?_⟩
  have e : ps.toNatClampNeg = l1.length := by omega
  rw [H.2 _ (by omega), e, hl]
  rw [List.getD_eq_getElem?_getD, List.getElem?_append_right (by omega), Nat.add_sub_cancel_left, List.getElem?_append_left hi, ← List.getD_eq_getElem?_getD]
theorem own_a0 (A B : List Int32) : A ++ B = [] ++ (A ++ B) := (List.nil_append _).symm
theorem own_a1 (A : List Int32) : A = [] ++ (A ++ []) := by simp
theorem own_a2 (A B : List Int32) : A ++ B = A ++ (B ++ []) := by simp
theorem own_a3 (A B C : List Int32) : A ++ (B ++ C) = (A ++ B) ++ (C ++ []) := by simp
theorem own_end {us : List Value} {cn ps : Int32} {l : List Int32} (H : own_str us cn l) (hp : ps.toInt = l.length) : ps = cn := by
  rw [← Int32.toInt_inj, hp, H.1]

theorem pn_rm0 : plainName "com/example/plumbago/plumbago/server/EntryPathsEncodePinLaw" = true := by first | (simp [plainName, overriddenIn]; done) | decide +kernel
theorem pd_18 : parseMethodDescriptor "([B)Ljava/lang/String;" = some ⟨[(.array .byte)], some (.object "java/lang/String")⟩ := by decide +kernel
theorem pd_19 : parseMethodDescriptor "(Ljava/lang/String;II)I" = some ⟨[(.object "java/lang/String"), .int, .int], some .int⟩ := by decide +kernel
theorem ef_rm0 (m : MethodId) (pa : Int32) (pb : Int32) (pc_ : Int32) (nn : Int32) : entryFrame m #[(.int pa), (.int pb), (.int pc_), (.int nn)] maxLocals = mkF m 0 #[iv pa, iv pb, iv pc_, iv nn, .unset, .unset, .unset, .unset] [] := by first | (simp [entryFrame, mkF, argsToLocals, Value.category, maxLocals]; done) | rfl
def Q0 (Z : State) (pa : Int32) (pb : Int32) (pc_ : Int32) (nn : Int32) (hxa : Addr) (hc : Cell) (cs : Int32) (h0 : Heap) (n0 : Nat) (v : Option Value) (h : Heap) (L : List Loc) : Prop := v = some (.int 1) ∧ Fr n0 L
set_option maxRecDepth 65536 in
set_option maxHeartbeats 40000000 in
theorem rm0 (l : Launch) (Z : State) (a0 : Array Value) (hw : ∀ d ∈ tables_1, d.before a0 Z = true) (ws : List Jvm.Cond) (pa : Int32) (pb : Int32) (pc_ : Int32) (nn : Int32) (hxa : Addr) (hc : Cell) (cs : Int32) (h0 : Heap) (n0 : Nat) (Z0 : n0 ≤ h0.size) (O0 : Old Z n0 h0) (P0 : own_HX Z hxa hc) (P1 : own_SI Z) (P2 : ¬ cs = (0 : Int32)) (OP0 : Sta Z Z.heap "java/lang/String" "COMPACT_STRINGS" "Z" (.int cs)) (OP1 : Sta Z Z.heap "com/example/plumbago/plumbago/server/EntryPaths" "HEX" "[C" (.ref hxa)) :
    MetFree l x (head1 (Jvm.Cond.code x code maxLocals ret :: ws) room_1) (fun aa U => aa = #[(.int pa), (.int pb), (.int pc_), (.int nn)] ∧ Z.Warmed39 U.vm ∧ U.heap = h0) (fun _ _ _ _ _ => True) (fun _ U o U' => ∃ v L, o = .returned v ∧ Q0 Z pa pb pc_ nn hxa hc cs h0 n0 v U'.heap L ∧ FrameEnd U o U' L room_1.cells room_1.slots) := by
  refine MetFree.of_bodySF (plainFor_of_name pn_rm0) hisR ?_
  intro p e s m args below meth c s₁ Bd hml0 hP hK
  obtain ⟨rfl, hZ, hh⟩ := hP
  have hx := Bd.exec
  have hby := Bd.bytes
  have hml : c.maxLocals = 8 := hml0
  have hown : s.vm.findClass "com/example/plumbago/plumbago/server/EntryPathsEncodePinLaw" = some m.cls := findClass_of_methodNamed Bd.named
  have hnm := (name_of_methodNamed Bd.named Bd.method).1
  have X0 : Stand p l e room_1 s m #[(.int pa), (.int pb), (.int pc_), (.int nn)] below meth c s₁ [] 0 0 := Stand.of_body Bd
  have e0 : s₁.heap = h0 := by rw [← hh, Bd.state]; rfl
  have N0 := Fr.nil n0
  change OE p.tables e below _ _
  refine OE.v (fun t k => castTop (ef_rm0 m pa pb pc_ nn) k) ?_
  show OE _ _ _ _ (s₁.setTop (mkF m 0 #[iv pa, iv pb, iv pc_, iv nn, .unset, .unset, .unset, .unset] []))
  refine OE.v (fun t k => XS.iloadN X0.here hx rfl (hb hby at_0) rfl k) ?_
  refine OE.v (fun t k => XS.iconst X0.here hx rfl (hb hby at_1) k) ?_
  refine OE.v (fun t k => XS.iand X0.here hx rfl (hb hby at_2) rfl k) ?_
  refine OE.v (fun t k => XS.istore X0.here hx rfl (hb hby at_3) rfl (l' := #[iv pa, iv pb, iv pc_, iv nn, iv (nn &&& (3 : Int32)), .unset, .unset, .unset]) rfl k) ?_
  show OE _ _ _ _ (s₁.setTop (mkF m 5 #[iv pa, iv pb, iv pc_, iv nn, iv (nn &&& (3 : Int32)), .unset, .unset, .unset] []))
  rcases own_03 nn with hL | hL | hL | hL
  ·
    rw [hL]
    refine OE.v (fun t k => XS.iload X0.here hx rfl (hb hby at_5) rfl k) ?_
    show OE _ _ _ _ (s₁.setTop (mkF m 7 #[iv pa, iv pb, iv pc_, iv nn, iv 0, .unset, .unset, .unset] [(.int 0)]))
    obtain ⟨T1, h1, k1, X1, e1, E1, A1, st1⟩ := newP X0 hx hZ (hw _ (own_w 0 rfl)) e0 (g := (mkF m 7 #[iv pa, iv pb, iv pc_, iv nn, iv 0, .unset, .unset, .unset] [(.int 0)])) rfl (hb hby at_7) rfl (by decide) (cap := 0) (by decide) (by decide) (by decide) (by decide)
    obtain ⟨b1, g1⟩ : ∃ z, z = h0.size := ⟨_, rfl⟩
    have ge_b1 : n0 ≤ b1 := Nat.le_trans Z0 (Nat.le_of_eq g1.symm)
    have Z1 : n0 ≤ h1.size := Nat.le_trans Z0 E1.1
    have O1 : Old Z n0 h1 := O0.ext E1
    rw [← g1] at A1 st1
    have V1 : Arv Z h1 b1 k1 .byte (0 : Int32) [] (.int 0) := (Arv.new A1 (by decide)).pad (pad_rep [] (.int 0) 0)
    refine OE.v st1 ?_
    show OE _ _ _ _ (T1.setTop (mkF m 9 #[iv pa, iv pb, iv pc_, iv nn, iv 0, .unset, .unset, .unset] [(.ref b1)]))
    refine OE.v (fun t k => XS.astore X1.here hx rfl (hb hby at_9) rfl rfl (l' := #[iv pa, iv pb, iv pc_, iv nn, iv 0, rv b1, .unset, .unset]) rfl k) ?_
    refine OE.v (fun t k => XS.iload X1.here hx rfl (hb hby at_11) rfl k) ?_
    show OE _ _ _ _ (T1.setTop (mkF m 13 #[iv pa, iv pb, iv pc_, iv nn, iv 0, rv b1, .unset, .unset] [(.int 0)]))
    refine OE.v (fun t k => XS.ifYes X1.here hx rfl (pc0 := 13) (pc' := 22) rfl (hb hby at_13) rfl ((if0 _ _).trans (flt (by decide)).2.2.2) (by decide) (by decide) k) ?_
    show OE _ _ _ _ (T1.setTop (mkF m 22 #[iv pa, iv pb, iv pc_, iv nn, iv 0, rv b1, .unset, .unset] []))
    refine OE.v (fun t k => XS.iload X1.here hx rfl (hb hby at_22) rfl k) ?_
    refine OE.v (fun t k => XS.iconst X1.here hx rfl (hb hby at_24) k) ?_
    show OE _ _ _ _ (T1.setTop (mkF m 25 #[iv pa, iv pb, iv pc_, iv nn, iv 0, rv b1, .unset, .unset] [(.int 1), (.int 0)]))
    refine OE.v (fun t k => XS.icmpYes X1.here hx rfl (pc0 := 25) (pc' := 34) rfl (hb hby at_25) rfl (flt (by decide)).2.2.2 (by decide) (by decide) k) ?_
    show OE _ _ _ _ (T1.setTop (mkF m 34 #[iv pa, iv pb, iv pc_, iv nn, iv 0, rv b1, .unset, .unset] []))
    refine OE.v (fun t k => XS.iload X1.here hx rfl (hb hby at_34) rfl k) ?_
    refine OE.v (fun t k => XS.iconst X1.here hx rfl (hb hby at_36) k) ?_
    show OE _ _ _ _ (T1.setTop (mkF m 37 #[iv pa, iv pb, iv pc_, iv nn, iv 0, rv b1, .unset, .unset] [(.int 2), (.int 0)]))
    refine OE.v (fun t k => XS.icmpYes X1.here hx rfl (pc0 := 37) (pc' := 46) rfl (hb hby at_37) rfl (flt (by decide)).2.2.2 (by decide) (by decide) k) ?_
    show OE _ _ _ _ (T1.setTop (mkF m 46 #[iv pa, iv pb, iv pc_, iv nn, iv 0, rv b1, .unset, .unset] []))
    refine OE.v (fun t k => XS.aload X1.here hx rfl (hb hby at_46) rfl rfl k) ?_
    show OE _ _ _ _ (T1.setTop (mkF m 48 #[iv pa, iv pb, iv pc_, iv nn, iv 0, rv b1, .unset, .unset] [(.ref b1)]))
    obtain ⟨_, _, ⟨T2, L2, k2, n2⟩, -, X2, ⟨Lc2, hQ2, l2, y2, z2⟩, st2⟩ := Jvm.LawKit.callS X1 hx (y := (⟨"com/example/plumbago/plumbago/server/EntryPaths", "encode", "([B)Ljava/lang/String;"⟩ : MethodName)) hown (mvT hZ (hw _ (own_w 1 rfl))) (mvT hZ (hw _ (own_w 2 rfl))) (mvT hZ (hw _ (own_w 3 rfl))) (mvT hZ (hw _ (own_w 4 rfl))) (by decide) (backOf (W := 0) (rmE0 l Z a0 hw [] b1 k1 hxa hc cs h1 n0 Z1 O1 V1 P0 P2 OP0 OP1) hZ (hw _ (own_w 4 rfl)) (hw _ (own_w 3 rfl)) (by decide) (by decide)) (g := (mkF m 48 #[iv pa, iv pb, iv pc_, iv nn, iv 0, rv b1, .unset, .unset] [(.ref b1)])) rfl (by rw [hml]; rfl) (argsL := [(.ref b1)]) (rest := []) (lenOf pd_18 rfl) rfl (Nat.le_of_eq rfl) (hb hby at_48) (fun _ _ => ⟨rfl, e1, (by decide : 1 + 4 ≤ _), (by decide : 0 + 26 ≤ _)⟩)
    dsimp only [Pt.U, Pt.locs, Pt.cells, Pt.slots] at X2 l2 y2 z2 st2 hQ2
    subst l2 y2 z2
    obtain ⟨h2, e2⟩ : ∃ z, T2.heap = z := ⟨_, rfl⟩
    rw [e2] at hQ2
    obtain ⟨a_2, sv_2, ks_2, us_2, cn_2, rfl, Nq2, Kq2, q2_0, q2_1, q2_2, q2_3, q2_4⟩ := hQ2
    have Z2 : n0 ≤ h2.size := Nat.le_trans Z1 Kq2.1
    have O2 : Old Z n0 h2 := O1.keep Kq2 all0
    have N2 := Fr.app N0 Nq2
    refine OE.v st2 ?_
    have l9_2 : (([] : List Int32)).length ≤ 9 := by (try simp only [List.length_append, List.length_nil]) <;> omega
    show OE _ _ _ _ (T2.setTop (mkF m 51 #[iv pa, iv pb, iv pc_, iv nn, iv 0, rv b1, .unset, .unset] [(.ref a_2)]))
    refine OE.v (fun t k => XS.astore X2.here hx rfl (hb hby at_51) rfl rfl (l' := #[iv pa, iv pb, iv pc_, iv nn, iv 0, rv b1, rv a_2, .unset]) rfl k) ?_
    refine OE.v (fun t k => XS.iconst X2.here hx rfl (hb hby at_53) k) ?_
    refine OE.v (fun t k => XS.istore X2.here hx rfl (hb hby at_54) rfl (l' := #[iv pa, iv pb, iv pc_, iv nn, iv 0, rv b1, rv a_2, iv 0]) rfl k) ?_
    refine OE.v (fun t k => XS.iload X2.here hx rfl (hb hby at_56) rfl k) ?_
    show OE _ _ _ _ (T2.setTop (mkF m 58 #[iv pa, iv pb, iv pc_, iv nn, iv 0, rv b1, rv a_2, iv 0] [(.int 0)]))
    refine OE.v (fun t k => XS.ifYes X2.here hx rfl (pc0 := 58) (pc' := 75) rfl (hb hby at_58) rfl ((if0 _ _).trans (flt (by decide)).2.2.2) (by decide) (by decide) k) ?_
    show OE _ _ _ _ (T2.setTop (mkF m 75 #[iv pa, iv pb, iv pc_, iv nn, iv 0, rv b1, rv a_2, iv 0] []))
    refine OE.v (fun t k => XS.iload X2.here hx rfl (hb hby at_75) rfl k) ?_
    refine OE.v (fun t k => XS.iconst X2.here hx rfl (hb hby at_77) k) ?_
    show OE _ _ _ _ (T2.setTop (mkF m 78 #[iv pa, iv pb, iv pc_, iv nn, iv 0, rv b1, rv a_2, iv 0] [(.int 1), (.int 0)]))
    refine OE.v (fun t k => XS.icmpYes X2.here hx rfl (pc0 := 78) (pc' := 95) rfl (hb hby at_78) rfl (flt (by decide)).2.2.2 (by decide) (by decide) k) ?_
    show OE _ _ _ _ (T2.setTop (mkF m 95 #[iv pa, iv pb, iv pc_, iv nn, iv 0, rv b1, rv a_2, iv 0] []))
    refine OE.v (fun t k => XS.iload X2.here hx rfl (hb hby at_95) rfl k) ?_
    refine OE.v (fun t k => XS.iconst X2.here hx rfl (hb hby at_97) k) ?_
    show OE _ _ _ _ (T2.setTop (mkF m 98 #[iv pa, iv pb, iv pc_, iv nn, iv 0, rv b1, rv a_2, iv 0] [(.int 2), (.int 0)]))
    refine OE.v (fun t k => XS.icmpYes X2.here hx rfl (pc0 := 98) (pc' := 115) rfl (hb hby at_98) rfl (flt (by decide)).2.2.2 (by decide) (by decide) k) ?_
    show OE _ _ _ _ (T2.setTop (mkF m 115 #[iv pa, iv pb, iv pc_, iv nn, iv 0, rv b1, rv a_2, iv 0] []))
    refine OE.v (fun t k => XS.iload X2.here hx rfl (hb hby at_115) rfl k) ?_
    refine OE.v (fun t k => XS.aload X2.here hx rfl (hb hby at_117) rfl rfl k) ?_
    show OE _ _ _ _ (T2.setTop (mkF m 119 #[iv pa, iv pb, iv pc_, iv nn, iv 0, rv b1, rv a_2, iv 0] [(.ref a_2), (.int 0)]))
    obtain ⟨cq3, kq3, q3a, q3b, q3c⟩ := isOf hZ e2 q2_0
    obtain ⟨_, _, ⟨T3, L3, k3, n3⟩, -, X3, ⟨Lc3, hQ3, l3, y3, z3⟩, st3⟩ := X2.virtualBack hx (y := (⟨"java/lang/String", "length", "()I"⟩ : MethodName)) (z := (⟨"java/lang/String", "length", "()I"⟩ : MethodName)) hown (mvT hZ (hw _ (own_w 107 rfl))) (mvT hZ (hw _ (own_w 108 rfl))) (notFace_of_selects (args := #[]) (mvT hZ (hw _ (own_w 110 rfl)))) (mvT hZ (hw _ (own_w 110 rfl))) (mvT hZ (hw _ (own_w 109 rfl))) (by decide) (backOf (W := 1) (rm19 l Z a0 hw [] a_2 sv_2 ks_2 cn_2 us_2 cs h2 n0 Z2 O2 q2_0 q2_1 q2_2 q2_3 P2 OP0) hZ (hw _ (own_w 111 rfl)) (hw _ (own_w 21 rfl)) (by decide) (by decide)) q3a q3c (g := (mkF m 119 #[iv pa, iv pb, iv pc_, iv nn, iv 0, rv b1, rv a_2, iv 0] [(.ref a_2), (.int 0)])) rfl (by rw [hml]; rfl) (Steps.refl _) (argsL := []) (rest := [(.int 0)]) (lenOf pd_4 rfl) rfl (Nat.le_of_eq rfl) (hb hby at_119) (fun _ _ => ⟨rfl, e2, (by decide : 5 + 0 ≤ _), (by decide : 26 + 0 ≤ _)⟩)
    dsimp only [Pt.U, Pt.locs, Pt.cells, Pt.slots] at X3 l3 y3 z3 st3 hQ3
    subst l3 y3 z3
    obtain ⟨rfl, Nq3, e3⟩ := hQ3
    have N3 := Fr.app N2 Nq3
    refine OE.v (fun t k => st3.trans k) ?_
    show OE _ _ _ _ (T3.setTop (mkF m 122 #[iv pa, iv pb, iv pc_, iv nn, iv 0, rv b1, rv a_2, iv 0] [(.int cn_2), (.int 0)]))
    refine OE.v (fun t k => XS.icmpNo X3.here hx rfl (hb hby at_122) rfl (teq (own_end q2_4 (show (0 : Int32).toInt = (([] : List Int32).length : Int) from by decide))).2 k) ?_
    show OE _ _ _ _ (T3.setTop (mkF m 125 #[iv pa, iv pb, iv pc_, iv nn, iv 0, rv b1, rv a_2, iv 0] []))
    refine OE.v (fun t k => XS.iconst X3.here hx rfl (hb hby at_125) k) ?_
    refine OE.v (fun t k => XS.goto X3.here hx rfl (pc0 := 126) (pc' := 130) rfl (hb hby at_126) (by decide) (by decide) k) ?_
    show OE _ _ _ _ (T3.setTop (mkF m 130 #[iv pa, iv pb, iv pc_, iv nn, iv 0, rv b1, rv a_2, iv 0] [(.int 1)]))
    obtain ⟨fs, hr, hrun, hended, hW, hsame⟩ := X3.leave (v := some (.int 1)) (fun h => by rw [Bd.returns] at h; cases h)
    refine ⟨_, _, ?_, hrun, hended, _, _, rfl, ?_, ⟨_, rfl⟩, hW, hsame.mono (by decide) (by decide)⟩
    · exact retN X3 hx (t := .boolean) Bd.returns (by simp) (hb hby at_130) hr
    · show Q0 Z pa pb pc_ nn hxa hc cs h0 n0 _ T3.heap _
      rw [e3]
      exact ⟨rfl, N3⟩
  ·
    rw [hL]
    refine OE.v (fun t k => XS.iload X0.here hx rfl (hb hby at_5) rfl k) ?_
    show OE _ _ _ _ (s₁.setTop (mkF m 7 #[iv pa, iv pb, iv pc_, iv nn, iv 1, .unset, .unset, .unset] [(.int 1)]))
    obtain ⟨T4, h4, k4, X4, e4, E4, A4, st4⟩ := newP X0 hx hZ (hw _ (own_w 0 rfl)) e0 (g := (mkF m 7 #[iv pa, iv pb, iv pc_, iv nn, iv 1, .unset, .unset, .unset] [(.int 1)])) rfl (hb hby at_7) rfl (by decide) (cap := 1) (by decide) (by decide) (by decide) (by decide)
    obtain ⟨b4, g4⟩ : ∃ z, z = h0.size := ⟨_, rfl⟩
    have ge_b4 : n0 ≤ b4 := Nat.le_trans Z0 (Nat.le_of_eq g4.symm)
    have Z4 : n0 ≤ h4.size := Nat.le_trans Z0 E4.1
    have O4 : Old Z n0 h4 := O0.ext E4
    rw [← g4] at A4 st4
    have V4 : Arv Z h4 b4 k4 .byte (1 : Int32) [(.int 0)] (.int 0) := (Arv.new A4 (by decide)).pad (pad_rep [] (.int 0) 1)
    refine OE.v st4 ?_
    show OE _ _ _ _ (T4.setTop (mkF m 9 #[iv pa, iv pb, iv pc_, iv nn, iv 1, .unset, .unset, .unset] [(.ref b4)]))
    refine OE.v (fun t k => XS.astore X4.here hx rfl (hb hby at_9) rfl rfl (l' := #[iv pa, iv pb, iv pc_, iv nn, iv 1, rv b4, .unset, .unset]) rfl k) ?_
    refine OE.v (fun t k => XS.iload X4.here hx rfl (hb hby at_11) rfl k) ?_
    show OE _ _ _ _ (T4.setTop (mkF m 13 #[iv pa, iv pb, iv pc_, iv nn, iv 1, rv b4, .unset, .unset] [(.int 1)]))
    refine OE.v (fun t k => XS.ifNo X4.here hx rfl (hb hby at_13) rfl ((if0 _ _).trans (tlt (by decide)).2.2.2) k) ?_
    show OE _ _ _ _ (T4.setTop (mkF m 16 #[iv pa, iv pb, iv pc_, iv nn, iv 1, rv b4, .unset, .unset] []))
    refine OE.v (fun t k => XS.aload X4.here hx rfl (hb hby at_16) rfl rfl k) ?_
    refine OE.v (fun t k => XS.iconst X4.here hx rfl (hb hby at_18) k) ?_
    refine OE.v (fun t k => XS.iloadN X4.here hx rfl (hb hby at_19) rfl k) ?_
    refine OE.v (fun t k => XS.i2b X4.here hx rfl (hb hby at_20) rfl k) ?_
    show OE _ _ _ _ (T4.setTop (mkF m 21 #[iv pa, iv pb, iv pc_, iv nn, iv 1, rv b4, .unset, .unset] [(.int (pa.toInt8.toInt32)), (.int 0), (.ref b4)]))
    obtain ⟨cl5, Ar5, q5, S5, M5, H5, G5⟩ := id V4
    have hin5 : ¬ ((0 : Int32) < 0 ∨ cl5.slots.size ≤ ((0 : Int32)).toNatClampNeg) := inb_of S5 ⟨by decide, by decide⟩
    obtain ⟨T5, h5, X5, e5, W5, st5⟩ := stB X4 hx hZ e4 Ar5 (j := (0 : Int32)) hin5 (g := (mkF m 21 #[iv pa, iv pb, iv pc_, iv nn, iv 1, rv b4, .unset, .unset] [(.int (pa.toInt8.toInt32)), (.int 0), (.ref b4)])) rfl rfl (hb hby at_21)
    have V5 : Arv Z h5 b4 k4 .byte (1 : Int32) [(.int (nar .byte (pa.toInt8.toInt32)))] (.int 0) := Arv.set Ar5 q5 S5 M5 H5 G5 (fits_nar_byte _) W5 0 rfl (Nat.le_of_ble_eq_true rfl)
    have N5 := Fr.snoc X5 N0 ge_b4
    have Z5 : n0 ≤ h5.size := Nat.le_trans Z4 (Nat.le_of_eq W5.size.symm)
    have O5 : Old Z n0 h5 := O4.wr W5 ge_b4
    refine OE.v st5 ?_
    show OE _ _ _ _ (T5.setTop (mkF m 22 #[iv pa, iv pb, iv pc_, iv nn, iv 1, rv b4, .unset, .unset] []))
    refine OE.v (fun t k => XS.iload X5.here hx rfl (hb hby at_22) rfl k) ?_
    refine OE.v (fun t k => XS.iconst X5.here hx rfl (hb hby at_24) k) ?_
    show OE _ _ _ _ (T5.setTop (mkF m 25 #[iv pa, iv pb, iv pc_, iv nn, iv 1, rv b4, .unset, .unset] [(.int 1), (.int 1)]))
    refine OE.v (fun t k => XS.icmpYes X5.here hx rfl (pc0 := 25) (pc' := 34) rfl (hb hby at_25) rfl (flt (by decide)).2.2.2 (by decide) (by decide) k) ?_
    show OE _ _ _ _ (T5.setTop (mkF m 34 #[iv pa, iv pb, iv pc_, iv nn, iv 1, rv b4, .unset, .unset] []))
    refine OE.v (fun t k => XS.iload X5.here hx rfl (hb hby at_34) rfl k) ?_
    refine OE.v (fun t k => XS.iconst X5.here hx rfl (hb hby at_36) k) ?_
    show OE _ _ _ _ (T5.setTop (mkF m 37 #[iv pa, iv pb, iv pc_, iv nn, iv 1, rv b4, .unset, .unset] [(.int 2), (.int 1)]))
    refine OE.v (fun t k => XS.icmpYes X5.here hx rfl (pc0 := 37) (pc' := 46) rfl (hb hby at_37) rfl (flt (by decide)).2.2.2 (by decide) (by decide) k) ?_
    show OE _ _ _ _ (T5.setTop (mkF m 46 #[iv pa, iv pb, iv pc_, iv nn, iv 1, rv b4, .unset, .unset] []))
    refine OE.v (fun t k => XS.aload X5.here hx rfl (hb hby at_46) rfl rfl k) ?_
    show OE _ _ _ _ (T5.setTop (mkF m 48 #[iv pa, iv pb, iv pc_, iv nn, iv 1, rv b4, .unset, .unset] [(.ref b4)]))
    obtain ⟨_, _, ⟨T6, L6, k6, n6⟩, -, X6, ⟨Lc6, hQ6, l6, y6, z6⟩, st6⟩ := Jvm.LawKit.callS X5 hx (y := (⟨"com/example/plumbago/plumbago/server/EntryPaths", "encode", "([B)Ljava/lang/String;"⟩ : MethodName)) hown (mvT hZ (hw _ (own_w 1 rfl))) (mvT hZ (hw _ (own_w 2 rfl))) (mvT hZ (hw _ (own_w 3 rfl))) (mvT hZ (hw _ (own_w 4 rfl))) (by decide) (backOf (W := 0) (rmE1 l Z a0 hw [] b4 k4 (nar .byte (pa.toInt8.toInt32)) hxa hc cs h5 n0 Z5 O5 V5 P0 P2 OP0 OP1) hZ (hw _ (own_w 4 rfl)) (hw _ (own_w 3 rfl)) (by decide) (by decide)) (g := (mkF m 48 #[iv pa, iv pb, iv pc_, iv nn, iv 1, rv b4, .unset, .unset] [(.ref b4)])) rfl (by rw [hml]; rfl) (argsL := [(.ref b4)]) (rest := []) (lenOf pd_18 rfl) rfl (Nat.le_of_eq rfl) (hb hby at_48) (fun _ _ => ⟨rfl, e5, (by decide : 1 + 4 ≤ _), (by decide : 1 + 26 ≤ _)⟩)
    dsimp only [Pt.U, Pt.locs, Pt.cells, Pt.slots] at X6 l6 y6 z6 st6 hQ6
    subst l6 y6 z6
    obtain ⟨h6, e6⟩ : ∃ z, T6.heap = z := ⟨_, rfl⟩
    rw [e6] at hQ6
    obtain ⟨a_6, sv_6, ks_6, us_6, cn_6, rfl, Nq6, Kq6, q6_0, q6_1, q6_2, q6_3, q6_4⟩ := hQ6
    have Z6 : n0 ≤ h6.size := Nat.le_trans Z5 Kq6.1
    have O6 : Old Z n0 h6 := O5.keep Kq6 all0
    have N6 := Fr.app N5 Nq6
    refine OE.v st6 ?_
    rw [own_ab pa] at q6_4
    have l9_6 : (own_enc (pa &&& (255 : Int32))).length ≤ 9 := by have := own_e9 (pa &&& (255 : Int32)); (try simp only [List.length_append, List.length_nil]) <;> omega
    show OE _ _ _ _ (T6.setTop (mkF m 51 #[iv pa, iv pb, iv pc_, iv nn, iv 1, rv b4, .unset, .unset] [(.ref a_6)]))
    refine OE.v (fun t k => XS.astore X6.here hx rfl (hb hby at_51) rfl rfl (l' := #[iv pa, iv pb, iv pc_, iv nn, iv 1, rv b4, rv a_6, .unset]) rfl k) ?_
    refine OE.v (fun t k => XS.iconst X6.here hx rfl (hb hby at_53) k) ?_
    refine OE.v (fun t k => XS.istore X6.here hx rfl (hb hby at_54) rfl (l' := #[iv pa, iv pb, iv pc_, iv nn, iv 1, rv b4, rv a_6, iv 0]) rfl k) ?_
    refine OE.v (fun t k => XS.iload X6.here hx rfl (hb hby at_56) rfl k) ?_
    show OE _ _ _ _ (T6.setTop (mkF m 58 #[iv pa, iv pb, iv pc_, iv nn, iv 1, rv b4, rv a_6, iv 0] [(.int 1)]))
    refine OE.v (fun t k => XS.ifNo X6.here hx rfl (hb hby at_58) rfl ((if0 _ _).trans (tlt (by decide)).2.2.2) k) ?_
    show OE _ _ _ _ (T6.setTop (mkF m 61 #[iv pa, iv pb, iv pc_, iv nn, iv 1, rv b4, rv a_6, iv 0] []))
    refine OE.v (fun t k => XS.aload X6.here hx rfl (hb hby at_61) rfl rfl k) ?_
    refine OE.v (fun t k => XS.iload X6.here hx rfl (hb hby at_63) rfl k) ?_
    refine OE.v (fun t k => XS.iloadN X6.here hx rfl (hb hby at_65) rfl k) ?_
    refine OE.v (fun t k => XS.sipush X6.here hx rfl (hb hby at_66) k) ?_
    refine OE.v (fun t k => XS.iand X6.here hx rfl (hb hby at_69) rfl k) ?_
    show OE _ _ _ _ (T6.setTop (mkF m 70 #[iv pa, iv pb, iv pc_, iv nn, iv 1, rv b4, rv a_6, iv 0] [(.int (pa &&& (255 : Int32))), (.int 0), (.ref a_6)]))
    obtain ⟨_, _, ⟨T7, L7, k7, n7⟩, -, X7, ⟨Lc7, hQ7, l7, y7, z7⟩, st7⟩ := Jvm.LawKit.callS X6 hx (y := (⟨"com/example/plumbago/plumbago/server/EntryPathsEncodePinLaw", "match", "(Ljava/lang/String;II)I"⟩ : MethodName)) hown (mvT hZ (hw _ (own_w 100 rfl))) (mvT hZ (hw _ (own_w 101 rfl))) (mvT hZ (hw _ (own_w 102 rfl))) (mvT hZ (hw _ (own_w 103 rfl))) (by decide) (backOf (W := 0) (rm17 l Z a0 hw [] a_6 sv_6 ks_6 cn_6 us_6 cs (0 : Int32) (pa &&& (255 : Int32)) h6 n0 Z6 O6 q6_0 q6_1 q6_2 q6_3 (own_cut (l1 := ([] : List Int32)) (l2 := ([] : List Int32)) q6_4 (own_a1 _) (show (0 : Int32).toInt = (([] : List Int32).length : Int) from by decide) l9_6) (own_r8 pa) P1 P2 OP0) hZ (hw _ (own_w 103 rfl)) (hw _ (own_w 102 rfl)) (by decide) (by decide)) (g := (mkF m 70 #[iv pa, iv pb, iv pc_, iv nn, iv 1, rv b4, rv a_6, iv 0] [(.int (pa &&& (255 : Int32))), (.int 0), (.ref a_6)])) rfl (by rw [hml]; rfl) (argsL := [(.ref a_6), (.int 0), (.int (pa &&& (255 : Int32)))]) (rest := []) (lenOf pd_19 rfl) rfl (Nat.le_of_eq rfl) (hb hby at_70) (fun _ _ => ⟨rfl, e6, (by decide : 5 + 0 ≤ _), (by decide : 27 + 0 ≤ _)⟩)
    dsimp only [Pt.U, Pt.locs, Pt.cells, Pt.slots] at X7 l7 y7 z7 st7 hQ7
    subst l7 y7 z7
    obtain ⟨rfl, Nq7, e7⟩ := hQ7
    have N7 := Fr.app N6 Nq7
    refine OE.v st7 ?_
    have pp7 : ((0 : Int32) + (if own_U (pa &&& (255 : Int32)) then (1 : Int32) else (3 : Int32))).toInt = ((own_enc (pa &&& (255 : Int32))).length : Int) := (own_st (show (0 : Int32).toInt = (([] : List Int32).length : Int) from by decide) (by (try simp only [List.length_append, List.length_nil]) <;> omega)).trans (by (try simp only [List.length_append, List.length_nil]) <;> omega)
    show OE _ _ _ _ (T7.setTop (mkF m 73 #[iv pa, iv pb, iv pc_, iv nn, iv 1, rv b4, rv a_6, iv 0] [(.int ((0 : Int32) + (if own_U (pa &&& (255 : Int32)) then (1 : Int32) else (3 : Int32))))]))
    refine OE.v (fun t k => XS.istore X7.here hx rfl (hb hby at_73) rfl (l' := #[iv pa, iv pb, iv pc_, iv nn, iv 1, rv b4, rv a_6, iv ((0 : Int32) + (if own_U (pa &&& (255 : Int32)) then (1 : Int32) else (3 : Int32)))]) rfl k) ?_
    refine OE.v (fun t k => XS.iload X7.here hx rfl (hb hby at_75) rfl k) ?_
    refine OE.v (fun t k => XS.iconst X7.here hx rfl (hb hby at_77) k) ?_
    show OE _ _ _ _ (T7.setTop (mkF m 78 #[iv pa, iv pb, iv pc_, iv nn, iv 1, rv b4, rv a_6, iv ((0 : Int32) + (if own_U (pa &&& (255 : Int32)) then (1 : Int32) else (3 : Int32)))] [(.int 1), (.int 1)]))
    refine OE.v (fun t k => XS.icmpYes X7.here hx rfl (pc0 := 78) (pc' := 95) rfl (hb hby at_78) rfl (flt (by decide)).2.2.2 (by decide) (by decide) k) ?_
    show OE _ _ _ _ (T7.setTop (mkF m 95 #[iv pa, iv pb, iv pc_, iv nn, iv 1, rv b4, rv a_6, iv ((0 : Int32) + (if own_U (pa &&& (255 : Int32)) then (1 : Int32) else (3 : Int32)))] []))
    refine OE.v (fun t k => XS.iload X7.here hx rfl (hb hby at_95) rfl k) ?_
    refine OE.v (fun t k => XS.iconst X7.here hx rfl (hb hby at_97) k) ?_
    show OE _ _ _ _ (T7.setTop (mkF m 98 #[iv pa, iv pb, iv pc_, iv nn, iv 1, rv b4, rv a_6, iv ((0 : Int32) + (if own_U (pa &&& (255 : Int32)) then (1 : Int32) else (3 : Int32)))] [(.int 2), (.int 1)]))
    refine OE.v (fun t k => XS.icmpYes X7.here hx rfl (pc0 := 98) (pc' := 115) rfl (hb hby at_98) rfl (flt (by decide)).2.2.2 (by decide) (by decide) k) ?_
    show OE _ _ _ _ (T7.setTop (mkF m 115 #[iv pa, iv pb, iv pc_, iv nn, iv 1, rv b4, rv a_6, iv ((0 : Int32) + (if own_U (pa &&& (255 : Int32)) then (1 : Int32) else (3 : Int32)))] []))
    refine OE.v (fun t k => XS.iload X7.here hx rfl (hb hby at_115) rfl k) ?_
    refine OE.v (fun t k => XS.aload X7.here hx rfl (hb hby at_117) rfl rfl k) ?_
    show OE _ _ _ _ (T7.setTop (mkF m 119 #[iv pa, iv pb, iv pc_, iv nn, iv 1, rv b4, rv a_6, iv ((0 : Int32) + (if own_U (pa &&& (255 : Int32)) then (1 : Int32) else (3 : Int32)))] [(.ref a_6), (.int ((0 : Int32) + (if own_U (pa &&& (255 : Int32)) then (1 : Int32) else (3 : Int32))))]))
    obtain ⟨cq8, kq8, q8a, q8b, q8c⟩ := isOf hZ e7 q6_0
    obtain ⟨_, _, ⟨T8, L8, k8, n8⟩, -, X8, ⟨Lc8, hQ8, l8, y8, z8⟩, st8⟩ := X7.virtualBack hx (y := (⟨"java/lang/String", "length", "()I"⟩ : MethodName)) (z := (⟨"java/lang/String", "length", "()I"⟩ : MethodName)) hown (mvT hZ (hw _ (own_w 107 rfl))) (mvT hZ (hw _ (own_w 108 rfl))) (notFace_of_selects (args := #[]) (mvT hZ (hw _ (own_w 110 rfl)))) (mvT hZ (hw _ (own_w 110 rfl))) (mvT hZ (hw _ (own_w 109 rfl))) (by decide) (backOf (W := 1) (rm19 l Z a0 hw [] a_6 sv_6 ks_6 cn_6 us_6 cs h6 n0 Z6 O6 q6_0 q6_1 q6_2 q6_3 P2 OP0) hZ (hw _ (own_w 111 rfl)) (hw _ (own_w 21 rfl)) (by decide) (by decide)) q8a q8c (g := (mkF m 119 #[iv pa, iv pb, iv pc_, iv nn, iv 1, rv b4, rv a_6, iv ((0 : Int32) + (if own_U (pa &&& (255 : Int32)) then (1 : Int32) else (3 : Int32)))] [(.ref a_6), (.int ((0 : Int32) + (if own_U (pa &&& (255 : Int32)) then (1 : Int32) else (3 : Int32))))])) rfl (by rw [hml]; rfl) (Steps.refl _) (argsL := []) (rest := [(.int ((0 : Int32) + (if own_U (pa &&& (255 : Int32)) then (1 : Int32) else (3 : Int32))))]) (lenOf pd_4 rfl) rfl (Nat.le_of_eq rfl) (hb hby at_119) (fun _ _ => ⟨rfl, e7, (by decide : 5 + 0 ≤ _), (by decide : 27 + 0 ≤ _)⟩)
    dsimp only [Pt.U, Pt.locs, Pt.cells, Pt.slots] at X8 l8 y8 z8 st8 hQ8
    subst l8 y8 z8
    obtain ⟨rfl, Nq8, e8⟩ := hQ8
    have N8 := Fr.app N7 Nq8
    refine OE.v (fun t k => st8.trans k) ?_
    show OE _ _ _ _ (T8.setTop (mkF m 122 #[iv pa, iv pb, iv pc_, iv nn, iv 1, rv b4, rv a_6, iv ((0 : Int32) + (if own_U (pa &&& (255 : Int32)) then (1 : Int32) else (3 : Int32)))] [(.int cn_6), (.int ((0 : Int32) + (if own_U (pa &&& (255 : Int32)) then (1 : Int32) else (3 : Int32))))]))
    refine OE.v (fun t k => XS.icmpNo X8.here hx rfl (hb hby at_122) rfl (teq (own_end q6_4 pp7)).2 k) ?_
    show OE _ _ _ _ (T8.setTop (mkF m 125 #[iv pa, iv pb, iv pc_, iv nn, iv 1, rv b4, rv a_6, iv ((0 : Int32) + (if own_U (pa &&& (255 : Int32)) then (1 : Int32) else (3 : Int32)))] []))
    refine OE.v (fun t k => XS.iconst X8.here hx rfl (hb hby at_125) k) ?_
    refine OE.v (fun t k => XS.goto X8.here hx rfl (pc0 := 126) (pc' := 130) rfl (hb hby at_126) (by decide) (by decide) k) ?_
    show OE _ _ _ _ (T8.setTop (mkF m 130 #[iv pa, iv pb, iv pc_, iv nn, iv 1, rv b4, rv a_6, iv ((0 : Int32) + (if own_U (pa &&& (255 : Int32)) then (1 : Int32) else (3 : Int32)))] [(.int 1)]))
    obtain ⟨fs, hr, hrun, hended, hW, hsame⟩ := X8.leave (v := some (.int 1)) (fun h => by rw [Bd.returns] at h; cases h)
    refine ⟨_, _, ?_, hrun, hended, _, _, rfl, ?_, ⟨_, rfl⟩, hW, hsame.mono (by decide) (by decide)⟩
    · exact retN X8 hx (t := .boolean) Bd.returns (by simp) (hb hby at_130) hr
    · show Q0 Z pa pb pc_ nn hxa hc cs h0 n0 _ T8.heap _
      rw [e8]
      exact ⟨rfl, N8⟩
  ·
    rw [hL]
    refine OE.v (fun t k => XS.iload X0.here hx rfl (hb hby at_5) rfl k) ?_
    show OE _ _ _ _ (s₁.setTop (mkF m 7 #[iv pa, iv pb, iv pc_, iv nn, iv 2, .unset, .unset, .unset] [(.int 2)]))
    obtain ⟨T9, h9, k9, X9, e9, E9, A9, st9⟩ := newP X0 hx hZ (hw _ (own_w 0 rfl)) e0 (g := (mkF m 7 #[iv pa, iv pb, iv pc_, iv nn, iv 2, .unset, .unset, .unset] [(.int 2)])) rfl (hb hby at_7) rfl (by decide) (cap := 2) (by decide) (by decide) (by decide) (by decide)
    obtain ⟨b9, g9⟩ : ∃ z, z = h0.size := ⟨_, rfl⟩
    have ge_b9 : n0 ≤ b9 := Nat.le_trans Z0 (Nat.le_of_eq g9.symm)
    have Z9 : n0 ≤ h9.size := Nat.le_trans Z0 E9.1
    have O9 : Old Z n0 h9 := O0.ext E9
    rw [← g9] at A9 st9
    have V9 : Arv Z h9 b9 k9 .byte (2 : Int32) [(.int 0), (.int 0)] (.int 0) := (Arv.new A9 (by decide)).pad (pad_rep [] (.int 0) 2)
    refine OE.v st9 ?_
    show OE _ _ _ _ (T9.setTop (mkF m 9 #[iv pa, iv pb, iv pc_, iv nn, iv 2, .unset, .unset, .unset] [(.ref b9)]))
    refine OE.v (fun t k => XS.astore X9.here hx rfl (hb hby at_9) rfl rfl (l' := #[iv pa, iv pb, iv pc_, iv nn, iv 2, rv b9, .unset, .unset]) rfl k) ?_
    refine OE.v (fun t k => XS.iload X9.here hx rfl (hb hby at_11) rfl k) ?_
    show OE _ _ _ _ (T9.setTop (mkF m 13 #[iv pa, iv pb, iv pc_, iv nn, iv 2, rv b9, .unset, .unset] [(.int 2)]))
    refine OE.v (fun t k => XS.ifNo X9.here hx rfl (hb hby at_13) rfl ((if0 _ _).trans (tlt (by decide)).2.2.2) k) ?_
    show OE _ _ _ _ (T9.setTop (mkF m 16 #[iv pa, iv pb, iv pc_, iv nn, iv 2, rv b9, .unset, .unset] []))
    refine OE.v (fun t k => XS.aload X9.here hx rfl (hb hby at_16) rfl rfl k) ?_
    refine OE.v (fun t k => XS.iconst X9.here hx rfl (hb hby at_18) k) ?_
    refine OE.v (fun t k => XS.iloadN X9.here hx rfl (hb hby at_19) rfl k) ?_
    refine OE.v (fun t k => XS.i2b X9.here hx rfl (hb hby at_20) rfl k) ?_
    show OE _ _ _ _ (T9.setTop (mkF m 21 #[iv pa, iv pb, iv pc_, iv nn, iv 2, rv b9, .unset, .unset] [(.int (pa.toInt8.toInt32)), (.int 0), (.ref b9)]))
    obtain ⟨cl10, Ar10, q10, S10, M10, H10, G10⟩ := id V9
    have hin10 : ¬ ((0 : Int32) < 0 ∨ cl10.slots.size ≤ ((0 : Int32)).toNatClampNeg) := inb_of S10 ⟨by decide, by decide⟩
    obtain ⟨T10, h10, X10, e10, W10, st10⟩ := stB X9 hx hZ e9 Ar10 (j := (0 : Int32)) hin10 (g := (mkF m 21 #[iv pa, iv pb, iv pc_, iv nn, iv 2, rv b9, .unset, .unset] [(.int (pa.toInt8.toInt32)), (.int 0), (.ref b9)])) rfl rfl (hb hby at_21)
    have V10 : Arv Z h10 b9 k9 .byte (2 : Int32) [(.int (nar .byte (pa.toInt8.toInt32))), (.int 0)] (.int 0) := Arv.set Ar10 q10 S10 M10 H10 G10 (fits_nar_byte _) W10 0 rfl (Nat.le_of_ble_eq_true rfl)
    have N10 := Fr.snoc X10 N0 ge_b9
    have Z10 : n0 ≤ h10.size := Nat.le_trans Z9 (Nat.le_of_eq W10.size.symm)
    have O10 : Old Z n0 h10 := O9.wr W10 ge_b9
    refine OE.v st10 ?_
    show OE _ _ _ _ (T10.setTop (mkF m 22 #[iv pa, iv pb, iv pc_, iv nn, iv 2, rv b9, .unset, .unset] []))
    refine OE.v (fun t k => XS.iload X10.here hx rfl (hb hby at_22) rfl k) ?_
    refine OE.v (fun t k => XS.iconst X10.here hx rfl (hb hby at_24) k) ?_
    show OE _ _ _ _ (T10.setTop (mkF m 25 #[iv pa, iv pb, iv pc_, iv nn, iv 2, rv b9, .unset, .unset] [(.int 1), (.int 2)]))
    refine OE.v (fun t k => XS.icmpNo X10.here hx rfl (hb hby at_25) rfl (tlt (by decide)).2.2.2 k) ?_
    show OE _ _ _ _ (T10.setTop (mkF m 28 #[iv pa, iv pb, iv pc_, iv nn, iv 2, rv b9, .unset, .unset] []))
    refine OE.v (fun t k => XS.aload X10.here hx rfl (hb hby at_28) rfl rfl k) ?_
    refine OE.v (fun t k => XS.iconst X10.here hx rfl (hb hby at_30) k) ?_
    refine OE.v (fun t k => XS.iloadN X10.here hx rfl (hb hby at_31) rfl k) ?_
    refine OE.v (fun t k => XS.i2b X10.here hx rfl (hb hby at_32) rfl k) ?_
    show OE _ _ _ _ (T10.setTop (mkF m 33 #[iv pa, iv pb, iv pc_, iv nn, iv 2, rv b9, .unset, .unset] [(.int (pb.toInt8.toInt32)), (.int 1), (.ref b9)]))
    obtain ⟨cl11, Ar11, q11, S11, M11, H11, G11⟩ := id V10
    have hin11 : ¬ ((1 : Int32) < 0 ∨ cl11.slots.size ≤ ((1 : Int32)).toNatClampNeg) := inb_of S11 ⟨by decide, by decide⟩
    obtain ⟨T11, h11, X11, e11, W11, st11⟩ := stB X10 hx hZ e10 Ar11 (j := (1 : Int32)) hin11 (g := (mkF m 33 #[iv pa, iv pb, iv pc_, iv nn, iv 2, rv b9, .unset, .unset] [(.int (pb.toInt8.toInt32)), (.int 1), (.ref b9)])) rfl rfl (hb hby at_33)
    have V11 : Arv Z h11 b9 k9 .byte (2 : Int32) [(.int (nar .byte (pa.toInt8.toInt32))), (.int (nar .byte (pb.toInt8.toInt32)))] (.int 0) := Arv.set Ar11 q11 S11 M11 H11 G11 (fits_nar_byte _) W11 1 rfl (Nat.le_of_ble_eq_true rfl)
    have N11 := Fr.snoc X11 N10 ge_b9
    have Z11 : n0 ≤ h11.size := Nat.le_trans Z10 (Nat.le_of_eq W11.size.symm)
    have O11 : Old Z n0 h11 := O10.wr W11 ge_b9
    refine OE.v st11 ?_
    show OE _ _ _ _ (T11.setTop (mkF m 34 #[iv pa, iv pb, iv pc_, iv nn, iv 2, rv b9, .unset, .unset] []))
    refine OE.v (fun t k => XS.iload X11.here hx rfl (hb hby at_34) rfl k) ?_
    refine OE.v (fun t k => XS.iconst X11.here hx rfl (hb hby at_36) k) ?_
    show OE _ _ _ _ (T11.setTop (mkF m 37 #[iv pa, iv pb, iv pc_, iv nn, iv 2, rv b9, .unset, .unset] [(.int 2), (.int 2)]))
    refine OE.v (fun t k => XS.icmpYes X11.here hx rfl (pc0 := 37) (pc' := 46) rfl (hb hby at_37) rfl (flt (by decide)).2.2.2 (by decide) (by decide) k) ?_
    show OE _ _ _ _ (T11.setTop (mkF m 46 #[iv pa, iv pb, iv pc_, iv nn, iv 2, rv b9, .unset, .unset] []))
    refine OE.v (fun t k => XS.aload X11.here hx rfl (hb hby at_46) rfl rfl k) ?_
    show OE _ _ _ _ (T11.setTop (mkF m 48 #[iv pa, iv pb, iv pc_, iv nn, iv 2, rv b9, .unset, .unset] [(.ref b9)]))
    obtain ⟨_, _, ⟨T12, L12, k12, n12⟩, -, X12, ⟨Lc12, hQ12, l12, y12, z12⟩, st12⟩ := Jvm.LawKit.callS X11 hx (y := (⟨"com/example/plumbago/plumbago/server/EntryPaths", "encode", "([B)Ljava/lang/String;"⟩ : MethodName)) hown (mvT hZ (hw _ (own_w 1 rfl))) (mvT hZ (hw _ (own_w 2 rfl))) (mvT hZ (hw _ (own_w 3 rfl))) (mvT hZ (hw _ (own_w 4 rfl))) (by decide) (backOf (W := 0) (rmE2 l Z a0 hw [] b9 k9 (nar .byte (pa.toInt8.toInt32)) (nar .byte (pb.toInt8.toInt32)) hxa hc cs h11 n0 Z11 O11 V11 P0 P2 OP0 OP1) hZ (hw _ (own_w 4 rfl)) (hw _ (own_w 3 rfl)) (by decide) (by decide)) (g := (mkF m 48 #[iv pa, iv pb, iv pc_, iv nn, iv 2, rv b9, .unset, .unset] [(.ref b9)])) rfl (by rw [hml]; rfl) (argsL := [(.ref b9)]) (rest := []) (lenOf pd_18 rfl) rfl (Nat.le_of_eq rfl) (hb hby at_48) (fun _ _ => ⟨rfl, e11, (by decide : 1 + 4 ≤ _), (by decide : 2 + 26 ≤ _)⟩)
    dsimp only [Pt.U, Pt.locs, Pt.cells, Pt.slots] at X12 l12 y12 z12 st12 hQ12
    subst l12 y12 z12
    obtain ⟨h12, e12⟩ : ∃ z, T12.heap = z := ⟨_, rfl⟩
    rw [e12] at hQ12
    obtain ⟨a_12, sv_12, ks_12, us_12, cn_12, rfl, Nq12, Kq12, q12_0, q12_1, q12_2, q12_3, q12_4⟩ := hQ12
    have Z12 : n0 ≤ h12.size := Nat.le_trans Z11 Kq12.1
    have O12 : Old Z n0 h12 := O11.keep Kq12 all0
    have N12 := Fr.app N11 Nq12
    refine OE.v st12 ?_
    rw [own_ab pa, own_ab pb] at q12_4
    have l9_12 : (own_enc (pa &&& (255 : Int32)) ++ (own_enc (pb &&& (255 : Int32)))).length ≤ 9 := by have := own_e9 (pa &&& (255 : Int32)); have := own_e9 (pb &&& (255 : Int32)); (try simp only [List.length_append, List.length_nil]) <;> omega
    show OE _ _ _ _ (T12.setTop (mkF m 51 #[iv pa, iv pb, iv pc_, iv nn, iv 2, rv b9, .unset, .unset] [(.ref a_12)]))
    refine OE.v (fun t k => XS.astore X12.here hx rfl (hb hby at_51) rfl rfl (l' := #[iv pa, iv pb, iv pc_, iv nn, iv 2, rv b9, rv a_12, .unset]) rfl k) ?_
    refine OE.v (fun t k => XS.iconst X12.here hx rfl (hb hby at_53) k) ?_
    refine OE.v (fun t k => XS.istore X12.here hx rfl (hb hby at_54) rfl (l' := #[iv pa, iv pb, iv pc_, iv nn, iv 2, rv b9, rv a_12, iv 0]) rfl k) ?_
    refine OE.v (fun t k => XS.iload X12.here hx rfl (hb hby at_56) rfl k) ?_
    show OE _ _ _ _ (T12.setTop (mkF m 58 #[iv pa, iv pb, iv pc_, iv nn, iv 2, rv b9, rv a_12, iv 0] [(.int 2)]))
    refine OE.v (fun t k => XS.ifNo X12.here hx rfl (hb hby at_58) rfl ((if0 _ _).trans (tlt (by decide)).2.2.2) k) ?_
    show OE _ _ _ _ (T12.setTop (mkF m 61 #[iv pa, iv pb, iv pc_, iv nn, iv 2, rv b9, rv a_12, iv 0] []))
    refine OE.v (fun t k => XS.aload X12.here hx rfl (hb hby at_61) rfl rfl k) ?_
    refine OE.v (fun t k => XS.iload X12.here hx rfl (hb hby at_63) rfl k) ?_
    refine OE.v (fun t k => XS.iloadN X12.here hx rfl (hb hby at_65) rfl k) ?_
    refine OE.v (fun t k => XS.sipush X12.here hx rfl (hb hby at_66) k) ?_
    refine OE.v (fun t k => XS.iand X12.here hx rfl (hb hby at_69) rfl k) ?_
    show OE _ _ _ _ (T12.setTop (mkF m 70 #[iv pa, iv pb, iv pc_, iv nn, iv 2, rv b9, rv a_12, iv 0] [(.int (pa &&& (255 : Int32))), (.int 0), (.ref a_12)]))
    obtain ⟨_, _, ⟨T13, L13, k13, n13⟩, -, X13, ⟨Lc13, hQ13, l13, y13, z13⟩, st13⟩ := Jvm.LawKit.callS X12 hx (y := (⟨"com/example/plumbago/plumbago/server/EntryPathsEncodePinLaw", "match", "(Ljava/lang/String;II)I"⟩ : MethodName)) hown (mvT hZ (hw _ (own_w 100 rfl))) (mvT hZ (hw _ (own_w 101 rfl))) (mvT hZ (hw _ (own_w 102 rfl))) (mvT hZ (hw _ (own_w 103 rfl))) (by decide) (backOf (W := 0) (rm17 l Z a0 hw [] a_12 sv_12 ks_12 cn_12 us_12 cs (0 : Int32) (pa &&& (255 : Int32)) h12 n0 Z12 O12 q12_0 q12_1 q12_2 q12_3 (own_cut (l1 := ([] : List Int32)) (l2 := own_enc (pb &&& (255 : Int32))) q12_4 (own_a0 _ _) (show (0 : Int32).toInt = (([] : List Int32).length : Int) from by decide) l9_12) (own_r8 pa) P1 P2 OP0) hZ (hw _ (own_w 103 rfl)) (hw _ (own_w 102 rfl)) (by decide) (by decide)) (g := (mkF m 70 #[iv pa, iv pb, iv pc_, iv nn, iv 2, rv b9, rv a_12, iv 0] [(.int (pa &&& (255 : Int32))), (.int 0), (.ref a_12)])) rfl (by rw [hml]; rfl) (argsL := [(.ref a_12), (.int 0), (.int (pa &&& (255 : Int32)))]) (rest := []) (lenOf pd_19 rfl) rfl (Nat.le_of_eq rfl) (hb hby at_70) (fun _ _ => ⟨rfl, e12, (by decide : 5 + 0 ≤ _), (by decide : 28 + 0 ≤ _)⟩)
    dsimp only [Pt.U, Pt.locs, Pt.cells, Pt.slots] at X13 l13 y13 z13 st13 hQ13
    subst l13 y13 z13
    obtain ⟨rfl, Nq13, e13⟩ := hQ13
    have N13 := Fr.app N12 Nq13
    refine OE.v st13 ?_
    have pp13 : ((0 : Int32) + (if own_U (pa &&& (255 : Int32)) then (1 : Int32) else (3 : Int32))).toInt = ((own_enc (pa &&& (255 : Int32))).length : Int) := (own_st (show (0 : Int32).toInt = (([] : List Int32).length : Int) from by decide) (by (try simp only [List.length_append, List.length_nil]) <;> omega)).trans (by (try simp only [List.length_append, List.length_nil]) <;> omega)
    show OE _ _ _ _ (T13.setTop (mkF m 73 #[iv pa, iv pb, iv pc_, iv nn, iv 2, rv b9, rv a_12, iv 0] [(.int ((0 : Int32) + (if own_U (pa &&& (255 : Int32)) then (1 : Int32) else (3 : Int32))))]))
    refine OE.v (fun t k => XS.istore X13.here hx rfl (hb hby at_73) rfl (l' := #[iv pa, iv pb, iv pc_, iv nn, iv 2, rv b9, rv a_12, iv ((0 : Int32) + (if own_U (pa &&& (255 : Int32)) then (1 : Int32) else (3 : Int32)))]) rfl k) ?_
    refine OE.v (fun t k => XS.iload X13.here hx rfl (hb hby at_75) rfl k) ?_
    refine OE.v (fun t k => XS.iconst X13.here hx rfl (hb hby at_77) k) ?_
    show OE _ _ _ _ (T13.setTop (mkF m 78 #[iv pa, iv pb, iv pc_, iv nn, iv 2, rv b9, rv a_12, iv ((0 : Int32) + (if own_U (pa &&& (255 : Int32)) then (1 : Int32) else (3 : Int32)))] [(.int 1), (.int 2)]))
    refine OE.v (fun t k => XS.icmpNo X13.here hx rfl (hb hby at_78) rfl (tlt (by decide)).2.2.2 k) ?_
    show OE _ _ _ _ (T13.setTop (mkF m 81 #[iv pa, iv pb, iv pc_, iv nn, iv 2, rv b9, rv a_12, iv ((0 : Int32) + (if own_U (pa &&& (255 : Int32)) then (1 : Int32) else (3 : Int32)))] []))
    refine OE.v (fun t k => XS.aload X13.here hx rfl (hb hby at_81) rfl rfl k) ?_
    refine OE.v (fun t k => XS.iload X13.here hx rfl (hb hby at_83) rfl k) ?_
    refine OE.v (fun t k => XS.iloadN X13.here hx rfl (hb hby at_85) rfl k) ?_
    refine OE.v (fun t k => XS.sipush X13.here hx rfl (hb hby at_86) k) ?_
    refine OE.v (fun t k => XS.iand X13.here hx rfl (hb hby at_89) rfl k) ?_
    show OE _ _ _ _ (T13.setTop (mkF m 90 #[iv pa, iv pb, iv pc_, iv nn, iv 2, rv b9, rv a_12, iv ((0 : Int32) + (if own_U (pa &&& (255 : Int32)) then (1 : Int32) else (3 : Int32)))] [(.int (pb &&& (255 : Int32))), (.int ((0 : Int32) + (if own_U (pa &&& (255 : Int32)) then (1 : Int32) else (3 : Int32)))), (.ref a_12)]))
    obtain ⟨_, _, ⟨T14, L14, k14, n14⟩, -, X14, ⟨Lc14, hQ14, l14, y14, z14⟩, st14⟩ := Jvm.LawKit.callS X13 hx (y := (⟨"com/example/plumbago/plumbago/server/EntryPathsEncodePinLaw", "match", "(Ljava/lang/String;II)I"⟩ : MethodName)) hown (mvT hZ (hw _ (own_w 100 rfl))) (mvT hZ (hw _ (own_w 101 rfl))) (mvT hZ (hw _ (own_w 102 rfl))) (mvT hZ (hw _ (own_w 103 rfl))) (by decide) (backOf (W := 0) (rm17 l Z a0 hw [] a_12 sv_12 ks_12 cn_12 us_12 cs ((0 : Int32) + (if own_U (pa &&& (255 : Int32)) then (1 : Int32) else (3 : Int32))) (pb &&& (255 : Int32)) h12 n0 Z12 O12 q12_0 q12_1 q12_2 q12_3 (own_cut (l1 := own_enc (pa &&& (255 : Int32))) (l2 := ([] : List Int32)) q12_4 (own_a2 _ _) pp13 l9_12) (own_r8 pb) P1 P2 OP0) hZ (hw _ (own_w 103 rfl)) (hw _ (own_w 102 rfl)) (by decide) (by decide)) (g := (mkF m 90 #[iv pa, iv pb, iv pc_, iv nn, iv 2, rv b9, rv a_12, iv ((0 : Int32) + (if own_U (pa &&& (255 : Int32)) then (1 : Int32) else (3 : Int32)))] [(.int (pb &&& (255 : Int32))), (.int ((0 : Int32) + (if own_U (pa &&& (255 : Int32)) then (1 : Int32) else (3 : Int32)))), (.ref a_12)])) rfl (by rw [hml]; rfl) (argsL := [(.ref a_12), (.int ((0 : Int32) + (if own_U (pa &&& (255 : Int32)) then (1 : Int32) else (3 : Int32)))), (.int (pb &&& (255 : Int32)))]) (rest := []) (lenOf pd_19 rfl) rfl (Nat.le_of_eq rfl) (hb hby at_90) (fun _ _ => ⟨rfl, e13, (by decide : 5 + 0 ≤ _), (by decide : 28 + 0 ≤ _)⟩)
    dsimp only [Pt.U, Pt.locs, Pt.cells, Pt.slots] at X14 l14 y14 z14 st14 hQ14
    subst l14 y14 z14
    obtain ⟨rfl, Nq14, e14⟩ := hQ14
    have N14 := Fr.app N13 Nq14
    refine OE.v st14 ?_
    have pp14 : (((0 : Int32) + (if own_U (pa &&& (255 : Int32)) then (1 : Int32) else (3 : Int32))) + (if own_U (pb &&& (255 : Int32)) then (1 : Int32) else (3 : Int32))).toInt = ((own_enc (pa &&& (255 : Int32)) ++ own_enc (pb &&& (255 : Int32))).length : Int) := (own_st pp13 (by have := own_e9 (pa &&& (255 : Int32)); (try simp only [List.length_append, List.length_nil]) <;> omega)).trans (by (try simp only [List.length_append, List.length_nil]) <;> omega)
    show OE _ _ _ _ (T14.setTop (mkF m 93 #[iv pa, iv pb, iv pc_, iv nn, iv 2, rv b9, rv a_12, iv ((0 : Int32) + (if own_U (pa &&& (255 : Int32)) then (1 : Int32) else (3 : Int32)))] [(.int (((0 : Int32) + (if own_U (pa &&& (255 : Int32)) then (1 : Int32) else (3 : Int32))) + (if own_U (pb &&& (255 : Int32)) then (1 : Int32) else (3 : Int32))))]))
    refine OE.v (fun t k => XS.istore X14.here hx rfl (hb hby at_93) rfl (l' := #[iv pa, iv pb, iv pc_, iv nn, iv 2, rv b9, rv a_12, iv (((0 : Int32) + (if own_U (pa &&& (255 : Int32)) then (1 : Int32) else (3 : Int32))) + (if own_U (pb &&& (255 : Int32)) then (1 : Int32) else (3 : Int32)))]) rfl k) ?_
    refine OE.v (fun t k => XS.iload X14.here hx rfl (hb hby at_95) rfl k) ?_
    refine OE.v (fun t k => XS.iconst X14.here hx rfl (hb hby at_97) k) ?_
    show OE _ _ _ _ (T14.setTop (mkF m 98 #[iv pa, iv pb, iv pc_, iv nn, iv 2, rv b9, rv a_12, iv (((0 : Int32) + (if own_U (pa &&& (255 : Int32)) then (1 : Int32) else (3 : Int32))) + (if own_U (pb &&& (255 : Int32)) then (1 : Int32) else (3 : Int32)))] [(.int 2), (.int 2)]))
    refine OE.v (fun t k => XS.icmpYes X14.here hx rfl (pc0 := 98) (pc' := 115) rfl (hb hby at_98) rfl (flt (by decide)).2.2.2 (by decide) (by decide) k) ?_
    show OE _ _ _ _ (T14.setTop (mkF m 115 #[iv pa, iv pb, iv pc_, iv nn, iv 2, rv b9, rv a_12, iv (((0 : Int32) + (if own_U (pa &&& (255 : Int32)) then (1 : Int32) else (3 : Int32))) + (if own_U (pb &&& (255 : Int32)) then (1 : Int32) else (3 : Int32)))] []))
    refine OE.v (fun t k => XS.iload X14.here hx rfl (hb hby at_115) rfl k) ?_
    refine OE.v (fun t k => XS.aload X14.here hx rfl (hb hby at_117) rfl rfl k) ?_
    show OE _ _ _ _ (T14.setTop (mkF m 119 #[iv pa, iv pb, iv pc_, iv nn, iv 2, rv b9, rv a_12, iv (((0 : Int32) + (if own_U (pa &&& (255 : Int32)) then (1 : Int32) else (3 : Int32))) + (if own_U (pb &&& (255 : Int32)) then (1 : Int32) else (3 : Int32)))] [(.ref a_12), (.int (((0 : Int32) + (if own_U (pa &&& (255 : Int32)) then (1 : Int32) else (3 : Int32))) + (if own_U (pb &&& (255 : Int32)) then (1 : Int32) else (3 : Int32))))]))
    obtain ⟨cq15, kq15, q15a, q15b, q15c⟩ := isOf hZ e14 q12_0
    obtain ⟨_, _, ⟨T15, L15, k15, n15⟩, -, X15, ⟨Lc15, hQ15, l15, y15, z15⟩, st15⟩ := X14.virtualBack hx (y := (⟨"java/lang/String", "length", "()I"⟩ : MethodName)) (z := (⟨"java/lang/String", "length", "()I"⟩ : MethodName)) hown (mvT hZ (hw _ (own_w 107 rfl))) (mvT hZ (hw _ (own_w 108 rfl))) (notFace_of_selects (args := #[]) (mvT hZ (hw _ (own_w 110 rfl)))) (mvT hZ (hw _ (own_w 110 rfl))) (mvT hZ (hw _ (own_w 109 rfl))) (by decide) (backOf (W := 1) (rm19 l Z a0 hw [] a_12 sv_12 ks_12 cn_12 us_12 cs h12 n0 Z12 O12 q12_0 q12_1 q12_2 q12_3 P2 OP0) hZ (hw _ (own_w 111 rfl)) (hw _ (own_w 21 rfl)) (by decide) (by decide)) q15a q15c (g := (mkF m 119 #[iv pa, iv pb, iv pc_, iv nn, iv 2, rv b9, rv a_12, iv (((0 : Int32) + (if own_U (pa &&& (255 : Int32)) then (1 : Int32) else (3 : Int32))) + (if own_U (pb &&& (255 : Int32)) then (1 : Int32) else (3 : Int32)))] [(.ref a_12), (.int (((0 : Int32) + (if own_U (pa &&& (255 : Int32)) then (1 : Int32) else (3 : Int32))) + (if own_U (pb &&& (255 : Int32)) then (1 : Int32) else (3 : Int32))))])) rfl (by rw [hml]; rfl) (Steps.refl _) (argsL := []) (rest := [(.int (((0 : Int32) + (if own_U (pa &&& (255 : Int32)) then (1 : Int32) else (3 : Int32))) + (if own_U (pb &&& (255 : Int32)) then (1 : Int32) else (3 : Int32))))]) (lenOf pd_4 rfl) rfl (Nat.le_of_eq rfl) (hb hby at_119) (fun _ _ => ⟨rfl, e14, (by decide : 5 + 0 ≤ _), (by decide : 28 + 0 ≤ _)⟩)
    dsimp only [Pt.U, Pt.locs, Pt.cells, Pt.slots] at X15 l15 y15 z15 st15 hQ15
    subst l15 y15 z15
    obtain ⟨rfl, Nq15, e15⟩ := hQ15
    have N15 := Fr.app N14 Nq15
    refine OE.v (fun t k => st15.trans k) ?_
    show OE _ _ _ _ (T15.setTop (mkF m 122 #[iv pa, iv pb, iv pc_, iv nn, iv 2, rv b9, rv a_12, iv (((0 : Int32) + (if own_U (pa &&& (255 : Int32)) then (1 : Int32) else (3 : Int32))) + (if own_U (pb &&& (255 : Int32)) then (1 : Int32) else (3 : Int32)))] [(.int cn_12), (.int (((0 : Int32) + (if own_U (pa &&& (255 : Int32)) then (1 : Int32) else (3 : Int32))) + (if own_U (pb &&& (255 : Int32)) then (1 : Int32) else (3 : Int32))))]))
    refine OE.v (fun t k => XS.icmpNo X15.here hx rfl (hb hby at_122) rfl (teq (own_end q12_4 pp14)).2 k) ?_
    show OE _ _ _ _ (T15.setTop (mkF m 125 #[iv pa, iv pb, iv pc_, iv nn, iv 2, rv b9, rv a_12, iv (((0 : Int32) + (if own_U (pa &&& (255 : Int32)) then (1 : Int32) else (3 : Int32))) + (if own_U (pb &&& (255 : Int32)) then (1 : Int32) else (3 : Int32)))] []))
    refine OE.v (fun t k => XS.iconst X15.here hx rfl (hb hby at_125) k) ?_
    refine OE.v (fun t k => XS.goto X15.here hx rfl (pc0 := 126) (pc' := 130) rfl (hb hby at_126) (by decide) (by decide) k) ?_
    show OE _ _ _ _ (T15.setTop (mkF m 130 #[iv pa, iv pb, iv pc_, iv nn, iv 2, rv b9, rv a_12, iv (((0 : Int32) + (if own_U (pa &&& (255 : Int32)) then (1 : Int32) else (3 : Int32))) + (if own_U (pb &&& (255 : Int32)) then (1 : Int32) else (3 : Int32)))] [(.int 1)]))
    obtain ⟨fs, hr, hrun, hended, hW, hsame⟩ := X15.leave (v := some (.int 1)) (fun h => by rw [Bd.returns] at h; cases h)
    refine ⟨_, _, ?_, hrun, hended, _, _, rfl, ?_, ⟨_, rfl⟩, hW, hsame.mono (by decide) (by decide)⟩
    · exact retN X15 hx (t := .boolean) Bd.returns (by simp) (hb hby at_130) hr
    · show Q0 Z pa pb pc_ nn hxa hc cs h0 n0 _ T15.heap _
      rw [e15]
      exact ⟨rfl, N15⟩
  ·
    rw [hL]
    refine OE.v (fun t k => XS.iload X0.here hx rfl (hb hby at_5) rfl k) ?_
    show OE _ _ _ _ (s₁.setTop (mkF m 7 #[iv pa, iv pb, iv pc_, iv nn, iv 3, .unset, .unset, .unset] [(.int 3)]))
    obtain ⟨T16, h16, k16, X16, e16, E16, A16, st16⟩ := newP X0 hx hZ (hw _ (own_w 0 rfl)) e0 (g := (mkF m 7 #[iv pa, iv pb, iv pc_, iv nn, iv 3, .unset, .unset, .unset] [(.int 3)])) rfl (hb hby at_7) rfl (by decide) (cap := 3) (by decide) (by decide) (by decide) (by decide)
    obtain ⟨b16, g16⟩ : ∃ z, z = h0.size := ⟨_, rfl⟩
    have ge_b16 : n0 ≤ b16 := Nat.le_trans Z0 (Nat.le_of_eq g16.symm)
    have Z16 : n0 ≤ h16.size := Nat.le_trans Z0 E16.1
    have O16 : Old Z n0 h16 := O0.ext E16
    rw [← g16] at A16 st16
    have V16 : Arv Z h16 b16 k16 .byte (3 : Int32) [(.int 0), (.int 0), (.int 0)] (.int 0) := (Arv.new A16 (by decide)).pad (pad_rep [] (.int 0) 3)
    refine OE.v st16 ?_
    show OE _ _ _ _ (T16.setTop (mkF m 9 #[iv pa, iv pb, iv pc_, iv nn, iv 3, .unset, .unset, .unset] [(.ref b16)]))
    refine OE.v (fun t k => XS.astore X16.here hx rfl (hb hby at_9) rfl rfl (l' := #[iv pa, iv pb, iv pc_, iv nn, iv 3, rv b16, .unset, .unset]) rfl k) ?_
    refine OE.v (fun t k => XS.iload X16.here hx rfl (hb hby at_11) rfl k) ?_
    show OE _ _ _ _ (T16.setTop (mkF m 13 #[iv pa, iv pb, iv pc_, iv nn, iv 3, rv b16, .unset, .unset] [(.int 3)]))
    refine OE.v (fun t k => XS.ifNo X16.here hx rfl (hb hby at_13) rfl ((if0 _ _).trans (tlt (by decide)).2.2.2) k) ?_
    show OE _ _ _ _ (T16.setTop (mkF m 16 #[iv pa, iv pb, iv pc_, iv nn, iv 3, rv b16, .unset, .unset] []))
    refine OE.v (fun t k => XS.aload X16.here hx rfl (hb hby at_16) rfl rfl k) ?_
    refine OE.v (fun t k => XS.iconst X16.here hx rfl (hb hby at_18) k) ?_
    refine OE.v (fun t k => XS.iloadN X16.here hx rfl (hb hby at_19) rfl k) ?_
    refine OE.v (fun t k => XS.i2b X16.here hx rfl (hb hby at_20) rfl k) ?_
    show OE _ _ _ _ (T16.setTop (mkF m 21 #[iv pa, iv pb, iv pc_, iv nn, iv 3, rv b16, .unset, .unset] [(.int (pa.toInt8.toInt32)), (.int 0), (.ref b16)]))
    obtain ⟨cl17, Ar17, q17, S17, M17, H17, G17⟩ := id V16
    have hin17 : ¬ ((0 : Int32) < 0 ∨ cl17.slots.size ≤ ((0 : Int32)).toNatClampNeg) := inb_of S17 ⟨by decide, by decide⟩
    obtain ⟨T17, h17, X17, e17, W17, st17⟩ := stB X16 hx hZ e16 Ar17 (j := (0 : Int32)) hin17 (g := (mkF m 21 #[iv pa, iv pb, iv pc_, iv nn, iv 3, rv b16, .unset, .unset] [(.int (pa.toInt8.toInt32)), (.int 0), (.ref b16)])) rfl rfl (hb hby at_21)
    have V17 : Arv Z h17 b16 k16 .byte (3 : Int32) [(.int (nar .byte (pa.toInt8.toInt32))), (.int 0), (.int 0)] (.int 0) := Arv.set Ar17 q17 S17 M17 H17 G17 (fits_nar_byte _) W17 0 rfl (Nat.le_of_ble_eq_true rfl)
    have N17 := Fr.snoc X17 N0 ge_b16
    have Z17 : n0 ≤ h17.size := Nat.le_trans Z16 (Nat.le_of_eq W17.size.symm)
    have O17 : Old Z n0 h17 := O16.wr W17 ge_b16
    refine OE.v st17 ?_
    show OE _ _ _ _ (T17.setTop (mkF m 22 #[iv pa, iv pb, iv pc_, iv nn, iv 3, rv b16, .unset, .unset] []))
    refine OE.v (fun t k => XS.iload X17.here hx rfl (hb hby at_22) rfl k) ?_
    refine OE.v (fun t k => XS.iconst X17.here hx rfl (hb hby at_24) k) ?_
    show OE _ _ _ _ (T17.setTop (mkF m 25 #[iv pa, iv pb, iv pc_, iv nn, iv 3, rv b16, .unset, .unset] [(.int 1), (.int 3)]))
    refine OE.v (fun t k => XS.icmpNo X17.here hx rfl (hb hby at_25) rfl (tlt (by decide)).2.2.2 k) ?_
    show OE _ _ _ _ (T17.setTop (mkF m 28 #[iv pa, iv pb, iv pc_, iv nn, iv 3, rv b16, .unset, .unset] []))
    refine OE.v (fun t k => XS.aload X17.here hx rfl (hb hby at_28) rfl rfl k) ?_
    refine OE.v (fun t k => XS.iconst X17.here hx rfl (hb hby at_30) k) ?_
    refine OE.v (fun t k => XS.iloadN X17.here hx rfl (hb hby at_31) rfl k) ?_
    refine OE.v (fun t k => XS.i2b X17.here hx rfl (hb hby at_32) rfl k) ?_
    show OE _ _ _ _ (T17.setTop (mkF m 33 #[iv pa, iv pb, iv pc_, iv nn, iv 3, rv b16, .unset, .unset] [(.int (pb.toInt8.toInt32)), (.int 1), (.ref b16)]))
    obtain ⟨cl18, Ar18, q18, S18, M18, H18, G18⟩ := id V17
    have hin18 : ¬ ((1 : Int32) < 0 ∨ cl18.slots.size ≤ ((1 : Int32)).toNatClampNeg) := inb_of S18 ⟨by decide, by decide⟩
    obtain ⟨T18, h18, X18, e18, W18, st18⟩ := stB X17 hx hZ e17 Ar18 (j := (1 : Int32)) hin18 (g := (mkF m 33 #[iv pa, iv pb, iv pc_, iv nn, iv 3, rv b16, .unset, .unset] [(.int (pb.toInt8.toInt32)), (.int 1), (.ref b16)])) rfl rfl (hb hby at_33)
    have V18 : Arv Z h18 b16 k16 .byte (3 : Int32) [(.int (nar .byte (pa.toInt8.toInt32))), (.int (nar .byte (pb.toInt8.toInt32))), (.int 0)] (.int 0) := Arv.set Ar18 q18 S18 M18 H18 G18 (fits_nar_byte _) W18 1 rfl (Nat.le_of_ble_eq_true rfl)
    have N18 := Fr.snoc X18 N17 ge_b16
    have Z18 : n0 ≤ h18.size := Nat.le_trans Z17 (Nat.le_of_eq W18.size.symm)
    have O18 : Old Z n0 h18 := O17.wr W18 ge_b16
    refine OE.v st18 ?_
    show OE _ _ _ _ (T18.setTop (mkF m 34 #[iv pa, iv pb, iv pc_, iv nn, iv 3, rv b16, .unset, .unset] []))
    refine OE.v (fun t k => XS.iload X18.here hx rfl (hb hby at_34) rfl k) ?_
    refine OE.v (fun t k => XS.iconst X18.here hx rfl (hb hby at_36) k) ?_
    show OE _ _ _ _ (T18.setTop (mkF m 37 #[iv pa, iv pb, iv pc_, iv nn, iv 3, rv b16, .unset, .unset] [(.int 2), (.int 3)]))
    refine OE.v (fun t k => XS.icmpNo X18.here hx rfl (hb hby at_37) rfl (tlt (by decide)).2.2.2 k) ?_
    show OE _ _ _ _ (T18.setTop (mkF m 40 #[iv pa, iv pb, iv pc_, iv nn, iv 3, rv b16, .unset, .unset] []))
    refine OE.v (fun t k => XS.aload X18.here hx rfl (hb hby at_40) rfl rfl k) ?_
    refine OE.v (fun t k => XS.iconst X18.here hx rfl (hb hby at_42) k) ?_
    refine OE.v (fun t k => XS.iloadN X18.here hx rfl (hb hby at_43) rfl k) ?_
    refine OE.v (fun t k => XS.i2b X18.here hx rfl (hb hby at_44) rfl k) ?_
    show OE _ _ _ _ (T18.setTop (mkF m 45 #[iv pa, iv pb, iv pc_, iv nn, iv 3, rv b16, .unset, .unset] [(.int (pc_.toInt8.toInt32)), (.int 2), (.ref b16)]))
    obtain ⟨cl19, Ar19, q19, S19, M19, H19, G19⟩ := id V18
    have hin19 : ¬ ((2 : Int32) < 0 ∨ cl19.slots.size ≤ ((2 : Int32)).toNatClampNeg) := inb_of S19 ⟨by decide, by decide⟩
    obtain ⟨T19, h19, X19, e19, W19, st19⟩ := stB X18 hx hZ e18 Ar19 (j := (2 : Int32)) hin19 (g := (mkF m 45 #[iv pa, iv pb, iv pc_, iv nn, iv 3, rv b16, .unset, .unset] [(.int (pc_.toInt8.toInt32)), (.int 2), (.ref b16)])) rfl rfl (hb hby at_45)
    have V19 : Arv Z h19 b16 k16 .byte (3 : Int32) [(.int (nar .byte (pa.toInt8.toInt32))), (.int (nar .byte (pb.toInt8.toInt32))), (.int (nar .byte (pc_.toInt8.toInt32)))] (.int 0) := Arv.set Ar19 q19 S19 M19 H19 G19 (fits_nar_byte _) W19 2 rfl (Nat.le_of_ble_eq_true rfl)
    have N19 := Fr.snoc X19 N18 ge_b16
    have Z19 : n0 ≤ h19.size := Nat.le_trans Z18 (Nat.le_of_eq W19.size.symm)
    have O19 : Old Z n0 h19 := O18.wr W19 ge_b16
    refine OE.v st19 ?_
    show OE _ _ _ _ (T19.setTop (mkF m 46 #[iv pa, iv pb, iv pc_, iv nn, iv 3, rv b16, .unset, .unset] []))
    refine OE.v (fun t k => XS.aload X19.here hx rfl (hb hby at_46) rfl rfl k) ?_
    show OE _ _ _ _ (T19.setTop (mkF m 48 #[iv pa, iv pb, iv pc_, iv nn, iv 3, rv b16, .unset, .unset] [(.ref b16)]))
    obtain ⟨_, _, ⟨T20, L20, k20, n20⟩, -, X20, ⟨Lc20, hQ20, l20, y20, z20⟩, st20⟩ := Jvm.LawKit.callS X19 hx (y := (⟨"com/example/plumbago/plumbago/server/EntryPaths", "encode", "([B)Ljava/lang/String;"⟩ : MethodName)) hown (mvT hZ (hw _ (own_w 1 rfl))) (mvT hZ (hw _ (own_w 2 rfl))) (mvT hZ (hw _ (own_w 3 rfl))) (mvT hZ (hw _ (own_w 4 rfl))) (by decide) (backOf (W := 0) (rmE3 l Z a0 hw [] b16 k16 (nar .byte (pa.toInt8.toInt32)) (nar .byte (pb.toInt8.toInt32)) (nar .byte (pc_.toInt8.toInt32)) hxa hc cs h19 n0 Z19 O19 V19 P0 P2 OP0 OP1) hZ (hw _ (own_w 4 rfl)) (hw _ (own_w 3 rfl)) (by decide) (by decide)) (g := (mkF m 48 #[iv pa, iv pb, iv pc_, iv nn, iv 3, rv b16, .unset, .unset] [(.ref b16)])) rfl (by rw [hml]; rfl) (argsL := [(.ref b16)]) (rest := []) (lenOf pd_18 rfl) rfl (Nat.le_of_eq rfl) (hb hby at_48) (fun _ _ => ⟨rfl, e19, (by decide : 1 + 4 ≤ _), (by decide : 3 + 26 ≤ _)⟩)
    dsimp only [Pt.U, Pt.locs, Pt.cells, Pt.slots] at X20 l20 y20 z20 st20 hQ20
    subst l20 y20 z20
    obtain ⟨h20, e20⟩ : ∃ z, T20.heap = z := ⟨_, rfl⟩
    rw [e20] at hQ20
    obtain ⟨a_20, sv_20, ks_20, us_20, cn_20, rfl, Nq20, Kq20, q20_0, q20_1, q20_2, q20_3, q20_4⟩ := hQ20
    have Z20 : n0 ≤ h20.size := Nat.le_trans Z19 Kq20.1
    have O20 : Old Z n0 h20 := O19.keep Kq20 all0
    have N20 := Fr.app N19 Nq20
    refine OE.v st20 ?_
    rw [own_ab pa, own_ab pb, own_ab pc_] at q20_4
    have l9_20 : (own_enc (pa &&& (255 : Int32)) ++ (own_enc (pb &&& (255 : Int32)) ++ (own_enc (pc_ &&& (255 : Int32))))).length ≤ 9 := by have := own_e9 (pa &&& (255 : Int32)); have := own_e9 (pb &&& (255 : Int32)); have := own_e9 (pc_ &&& (255 : Int32)); (try simp only [List.length_append, List.length_nil]) <;> omega
    show OE _ _ _ _ (T20.setTop (mkF m 51 #[iv pa, iv pb, iv pc_, iv nn, iv 3, rv b16, .unset, .unset] [(.ref a_20)]))
    refine OE.v (fun t k => XS.astore X20.here hx rfl (hb hby at_51) rfl rfl (l' := #[iv pa, iv pb, iv pc_, iv nn, iv 3, rv b16, rv a_20, .unset]) rfl k) ?_
    refine OE.v (fun t k => XS.iconst X20.here hx rfl (hb hby at_53) k) ?_
    refine OE.v (fun t k => XS.istore X20.here hx rfl (hb hby at_54) rfl (l' := #[iv pa, iv pb, iv pc_, iv nn, iv 3, rv b16, rv a_20, iv 0]) rfl k) ?_
    refine OE.v (fun t k => XS.iload X20.here hx rfl (hb hby at_56) rfl k) ?_
    show OE _ _ _ _ (T20.setTop (mkF m 58 #[iv pa, iv pb, iv pc_, iv nn, iv 3, rv b16, rv a_20, iv 0] [(.int 3)]))
    refine OE.v (fun t k => XS.ifNo X20.here hx rfl (hb hby at_58) rfl ((if0 _ _).trans (tlt (by decide)).2.2.2) k) ?_
    show OE _ _ _ _ (T20.setTop (mkF m 61 #[iv pa, iv pb, iv pc_, iv nn, iv 3, rv b16, rv a_20, iv 0] []))
    refine OE.v (fun t k => XS.aload X20.here hx rfl (hb hby at_61) rfl rfl k) ?_
    refine OE.v (fun t k => XS.iload X20.here hx rfl (hb hby at_63) rfl k) ?_
    refine OE.v (fun t k => XS.iloadN X20.here hx rfl (hb hby at_65) rfl k) ?_
    refine OE.v (fun t k => XS.sipush X20.here hx rfl (hb hby at_66) k) ?_
    refine OE.v (fun t k => XS.iand X20.here hx rfl (hb hby at_69) rfl k) ?_
    show OE _ _ _ _ (T20.setTop (mkF m 70 #[iv pa, iv pb, iv pc_, iv nn, iv 3, rv b16, rv a_20, iv 0] [(.int (pa &&& (255 : Int32))), (.int 0), (.ref a_20)]))
    obtain ⟨_, _, ⟨T21, L21, k21, n21⟩, -, X21, ⟨Lc21, hQ21, l21, y21, z21⟩, st21⟩ := Jvm.LawKit.callS X20 hx (y := (⟨"com/example/plumbago/plumbago/server/EntryPathsEncodePinLaw", "match", "(Ljava/lang/String;II)I"⟩ : MethodName)) hown (mvT hZ (hw _ (own_w 100 rfl))) (mvT hZ (hw _ (own_w 101 rfl))) (mvT hZ (hw _ (own_w 102 rfl))) (mvT hZ (hw _ (own_w 103 rfl))) (by decide) (backOf (W := 0) (rm17 l Z a0 hw [] a_20 sv_20 ks_20 cn_20 us_20 cs (0 : Int32) (pa &&& (255 : Int32)) h20 n0 Z20 O20 q20_0 q20_1 q20_2 q20_3 (own_cut (l1 := ([] : List Int32)) (l2 := (own_enc (pb &&& (255 : Int32)) ++ own_enc (pc_ &&& (255 : Int32)))) q20_4 (own_a0 _ _) (show (0 : Int32).toInt = (([] : List Int32).length : Int) from by decide) l9_20) (own_r8 pa) P1 P2 OP0) hZ (hw _ (own_w 103 rfl)) (hw _ (own_w 102 rfl)) (by decide) (by decide)) (g := (mkF m 70 #[iv pa, iv pb, iv pc_, iv nn, iv 3, rv b16, rv a_20, iv 0] [(.int (pa &&& (255 : Int32))), (.int 0), (.ref a_20)])) rfl (by rw [hml]; rfl) (argsL := [(.ref a_20), (.int 0), (.int (pa &&& (255 : Int32)))]) (rest := []) (lenOf pd_19 rfl) rfl (Nat.le_of_eq rfl) (hb hby at_70) (fun _ _ => ⟨rfl, e20, (by decide : 5 + 0 ≤ _), (by decide : 29 + 0 ≤ _)⟩)
    dsimp only [Pt.U, Pt.locs, Pt.cells, Pt.slots] at X21 l21 y21 z21 st21 hQ21
    subst l21 y21 z21
    obtain ⟨rfl, Nq21, e21⟩ := hQ21
    have N21 := Fr.app N20 Nq21
    refine OE.v st21 ?_
    have pp21 : ((0 : Int32) + (if own_U (pa &&& (255 : Int32)) then (1 : Int32) else (3 : Int32))).toInt = ((own_enc (pa &&& (255 : Int32))).length : Int) := (own_st (show (0 : Int32).toInt = (([] : List Int32).length : Int) from by decide) (by (try simp only [List.length_append, List.length_nil]) <;> omega)).trans (by (try simp only [List.length_append, List.length_nil]) <;> omega)
    show OE _ _ _ _ (T21.setTop (mkF m 73 #[iv pa, iv pb, iv pc_, iv nn, iv 3, rv b16, rv a_20, iv 0] [(.int ((0 : Int32) + (if own_U (pa &&& (255 : Int32)) then (1 : Int32) else (3 : Int32))))]))
    refine OE.v (fun t k => XS.istore X21.here hx rfl (hb hby at_73) rfl (l' := #[iv pa, iv pb, iv pc_, iv nn, iv 3, rv b16, rv a_20, iv ((0 : Int32) + (if own_U (pa &&& (255 : Int32)) then (1 : Int32) else (3 : Int32)))]) rfl k) ?_
    refine OE.v (fun t k => XS.iload X21.here hx rfl (hb hby at_75) rfl k) ?_
    refine OE.v (fun t k => XS.iconst X21.here hx rfl (hb hby at_77) k) ?_
    show OE _ _ _ _ (T21.setTop (mkF m 78 #[iv pa, iv pb, iv pc_, iv nn, iv 3, rv b16, rv a_20, iv ((0 : Int32) + (if own_U (pa &&& (255 : Int32)) then (1 : Int32) else (3 : Int32)))] [(.int 1), (.int 3)]))
    refine OE.v (fun t k => XS.icmpNo X21.here hx rfl (hb hby at_78) rfl (tlt (by decide)).2.2.2 k) ?_
    show OE _ _ _ _ (T21.setTop (mkF m 81 #[iv pa, iv pb, iv pc_, iv nn, iv 3, rv b16, rv a_20, iv ((0 : Int32) + (if own_U (pa &&& (255 : Int32)) then (1 : Int32) else (3 : Int32)))] []))
    refine OE.v (fun t k => XS.aload X21.here hx rfl (hb hby at_81) rfl rfl k) ?_
    refine OE.v (fun t k => XS.iload X21.here hx rfl (hb hby at_83) rfl k) ?_
    refine OE.v (fun t k => XS.iloadN X21.here hx rfl (hb hby at_85) rfl k) ?_
    refine OE.v (fun t k => XS.sipush X21.here hx rfl (hb hby at_86) k) ?_
    refine OE.v (fun t k => XS.iand X21.here hx rfl (hb hby at_89) rfl k) ?_
    show OE _ _ _ _ (T21.setTop (mkF m 90 #[iv pa, iv pb, iv pc_, iv nn, iv 3, rv b16, rv a_20, iv ((0 : Int32) + (if own_U (pa &&& (255 : Int32)) then (1 : Int32) else (3 : Int32)))] [(.int (pb &&& (255 : Int32))), (.int ((0 : Int32) + (if own_U (pa &&& (255 : Int32)) then (1 : Int32) else (3 : Int32)))), (.ref a_20)]))
    obtain ⟨_, _, ⟨T22, L22, k22, n22⟩, -, X22, ⟨Lc22, hQ22, l22, y22, z22⟩, st22⟩ := Jvm.LawKit.callS X21 hx (y := (⟨"com/example/plumbago/plumbago/server/EntryPathsEncodePinLaw", "match", "(Ljava/lang/String;II)I"⟩ : MethodName)) hown (mvT hZ (hw _ (own_w 100 rfl))) (mvT hZ (hw _ (own_w 101 rfl))) (mvT hZ (hw _ (own_w 102 rfl))) (mvT hZ (hw _ (own_w 103 rfl))) (by decide) (backOf (W := 0) (rm17 l Z a0 hw [] a_20 sv_20 ks_20 cn_20 us_20 cs ((0 : Int32) + (if own_U (pa &&& (255 : Int32)) then (1 : Int32) else (3 : Int32))) (pb &&& (255 : Int32)) h20 n0 Z20 O20 q20_0 q20_1 q20_2 q20_3 (own_cut (l1 := own_enc (pa &&& (255 : Int32))) (l2 := own_enc (pc_ &&& (255 : Int32))) q20_4 rfl pp21 l9_20) (own_r8 pb) P1 P2 OP0) hZ (hw _ (own_w 103 rfl)) (hw _ (own_w 102 rfl)) (by decide) (by decide)) (g := (mkF m 90 #[iv pa, iv pb, iv pc_, iv nn, iv 3, rv b16, rv a_20, iv ((0 : Int32) + (if own_U (pa &&& (255 : Int32)) then (1 : Int32) else (3 : Int32)))] [(.int (pb &&& (255 : Int32))), (.int ((0 : Int32) + (if own_U (pa &&& (255 : Int32)) then (1 : Int32) else (3 : Int32)))), (.ref a_20)])) rfl (by rw [hml]; rfl) (argsL := [(.ref a_20), (.int ((0 : Int32) + (if own_U (pa &&& (255 : Int32)) then (1 : Int32) else (3 : Int32)))), (.int (pb &&& (255 : Int32)))]) (rest := []) (lenOf pd_19 rfl) rfl (Nat.le_of_eq rfl) (hb hby at_90) (fun _ _ => ⟨rfl, e21, (by decide : 5 + 0 ≤ _), (by decide : 29 + 0 ≤ _)⟩)
    dsimp only [Pt.U, Pt.locs, Pt.cells, Pt.slots] at X22 l22 y22 z22 st22 hQ22
    subst l22 y22 z22
    obtain ⟨rfl, Nq22, e22⟩ := hQ22
    have N22 := Fr.app N21 Nq22
    refine OE.v st22 ?_
    have pp22 : (((0 : Int32) + (if own_U (pa &&& (255 : Int32)) then (1 : Int32) else (3 : Int32))) + (if own_U (pb &&& (255 : Int32)) then (1 : Int32) else (3 : Int32))).toInt = ((own_enc (pa &&& (255 : Int32)) ++ own_enc (pb &&& (255 : Int32))).length : Int) := (own_st pp21 (by have := own_e9 (pa &&& (255 : Int32)); (try simp only [List.length_append, List.length_nil]) <;> omega)).trans (by (try simp only [List.length_append, List.length_nil]) <;> omega)
    show OE _ _ _ _ (T22.setTop (mkF m 93 #[iv pa, iv pb, iv pc_, iv nn, iv 3, rv b16, rv a_20, iv ((0 : Int32) + (if own_U (pa &&& (255 : Int32)) then (1 : Int32) else (3 : Int32)))] [(.int (((0 : Int32) + (if own_U (pa &&& (255 : Int32)) then (1 : Int32) else (3 : Int32))) + (if own_U (pb &&& (255 : Int32)) then (1 : Int32) else (3 : Int32))))]))
    refine OE.v (fun t k => XS.istore X22.here hx rfl (hb hby at_93) rfl (l' := #[iv pa, iv pb, iv pc_, iv nn, iv 3, rv b16, rv a_20, iv (((0 : Int32) + (if own_U (pa &&& (255 : Int32)) then (1 : Int32) else (3 : Int32))) + (if own_U (pb &&& (255 : Int32)) then (1 : Int32) else (3 : Int32)))]) rfl k) ?_
    refine OE.v (fun t k => XS.iload X22.here hx rfl (hb hby at_95) rfl k) ?_
    refine OE.v (fun t k => XS.iconst X22.here hx rfl (hb hby at_97) k) ?_
    show OE _ _ _ _ (T22.setTop (mkF m 98 #[iv pa, iv pb, iv pc_, iv nn, iv 3, rv b16, rv a_20, iv (((0 : Int32) + (if own_U (pa &&& (255 : Int32)) then (1 : Int32) else (3 : Int32))) + (if own_U (pb &&& (255 : Int32)) then (1 : Int32) else (3 : Int32)))] [(.int 2), (.int 3)]))
    refine OE.v (fun t k => XS.icmpNo X22.here hx rfl (hb hby at_98) rfl (tlt (by decide)).2.2.2 k) ?_
    show OE _ _ _ _ (T22.setTop (mkF m 101 #[iv pa, iv pb, iv pc_, iv nn, iv 3, rv b16, rv a_20, iv (((0 : Int32) + (if own_U (pa &&& (255 : Int32)) then (1 : Int32) else (3 : Int32))) + (if own_U (pb &&& (255 : Int32)) then (1 : Int32) else (3 : Int32)))] []))
    refine OE.v (fun t k => XS.aload X22.here hx rfl (hb hby at_101) rfl rfl k) ?_
    refine OE.v (fun t k => XS.iload X22.here hx rfl (hb hby at_103) rfl k) ?_
    refine OE.v (fun t k => XS.iloadN X22.here hx rfl (hb hby at_105) rfl k) ?_
    refine OE.v (fun t k => XS.sipush X22.here hx rfl (hb hby at_106) k) ?_
    refine OE.v (fun t k => XS.iand X22.here hx rfl (hb hby at_109) rfl k) ?_
    show OE _ _ _ _ (T22.setTop (mkF m 110 #[iv pa, iv pb, iv pc_, iv nn, iv 3, rv b16, rv a_20, iv (((0 : Int32) + (if own_U (pa &&& (255 : Int32)) then (1 : Int32) else (3 : Int32))) + (if own_U (pb &&& (255 : Int32)) then (1 : Int32) else (3 : Int32)))] [(.int (pc_ &&& (255 : Int32))), (.int (((0 : Int32) + (if own_U (pa &&& (255 : Int32)) then (1 : Int32) else (3 : Int32))) + (if own_U (pb &&& (255 : Int32)) then (1 : Int32) else (3 : Int32)))), (.ref a_20)]))
    obtain ⟨_, _, ⟨T23, L23, k23, n23⟩, -, X23, ⟨Lc23, hQ23, l23, y23, z23⟩, st23⟩ := Jvm.LawKit.callS X22 hx (y := (⟨"com/example/plumbago/plumbago/server/EntryPathsEncodePinLaw", "match", "(Ljava/lang/String;II)I"⟩ : MethodName)) hown (mvT hZ (hw _ (own_w 100 rfl))) (mvT hZ (hw _ (own_w 101 rfl))) (mvT hZ (hw _ (own_w 102 rfl))) (mvT hZ (hw _ (own_w 103 rfl))) (by decide) (backOf (W := 0) (rm17 l Z a0 hw [] a_20 sv_20 ks_20 cn_20 us_20 cs (((0 : Int32) + (if own_U (pa &&& (255 : Int32)) then (1 : Int32) else (3 : Int32))) + (if own_U (pb &&& (255 : Int32)) then (1 : Int32) else (3 : Int32))) (pc_ &&& (255 : Int32)) h20 n0 Z20 O20 q20_0 q20_1 q20_2 q20_3 (own_cut (l1 := (own_enc (pa &&& (255 : Int32)) ++ own_enc (pb &&& (255 : Int32)))) (l2 := ([] : List Int32)) q20_4 (own_a3 _ _ _) pp22 l9_20) (own_r8 pc_) P1 P2 OP0) hZ (hw _ (own_w 103 rfl)) (hw _ (own_w 102 rfl)) (by decide) (by decide)) (g := (mkF m 110 #[iv pa, iv pb, iv pc_, iv nn, iv 3, rv b16, rv a_20, iv (((0 : Int32) + (if own_U (pa &&& (255 : Int32)) then (1 : Int32) else (3 : Int32))) + (if own_U (pb &&& (255 : Int32)) then (1 : Int32) else (3 : Int32)))] [(.int (pc_ &&& (255 : Int32))), (.int (((0 : Int32) + (if own_U (pa &&& (255 : Int32)) then (1 : Int32) else (3 : Int32))) + (if own_U (pb &&& (255 : Int32)) then (1 : Int32) else (3 : Int32)))), (.ref a_20)])) rfl (by rw [hml]; rfl) (argsL := [(.ref a_20), (.int (((0 : Int32) + (if own_U (pa &&& (255 : Int32)) then (1 : Int32) else (3 : Int32))) + (if own_U (pb &&& (255 : Int32)) then (1 : Int32) else (3 : Int32)))), (.int (pc_ &&& (255 : Int32)))]) (rest := []) (lenOf pd_19 rfl) rfl (Nat.le_of_eq rfl) (hb hby at_110) (fun _ _ => ⟨rfl, e22, (by decide : 5 + 0 ≤ _), (by decide : 29 + 0 ≤ _)⟩)
    dsimp only [Pt.U, Pt.locs, Pt.cells, Pt.slots] at X23 l23 y23 z23 st23 hQ23
    subst l23 y23 z23
    obtain ⟨rfl, Nq23, e23⟩ := hQ23
    have N23 := Fr.app N22 Nq23
    refine OE.v st23 ?_
    have pp23 : ((((0 : Int32) + (if own_U (pa &&& (255 : Int32)) then (1 : Int32) else (3 : Int32))) + (if own_U (pb &&& (255 : Int32)) then (1 : Int32) else (3 : Int32))) + (if own_U (pc_ &&& (255 : Int32)) then (1 : Int32) else (3 : Int32))).toInt = ((own_enc (pa &&& (255 : Int32)) ++ (own_enc (pb &&& (255 : Int32)) ++ own_enc (pc_ &&& (255 : Int32)))).length : Int) := (own_st pp22 (by have := own_e9 (pa &&& (255 : Int32)); have := own_e9 (pb &&& (255 : Int32)); (try simp only [List.length_append, List.length_nil]) <;> omega)).trans (by (try simp only [List.length_append, List.length_nil]) <;> omega)
    show OE _ _ _ _ (T23.setTop (mkF m 113 #[iv pa, iv pb, iv pc_, iv nn, iv 3, rv b16, rv a_20, iv (((0 : Int32) + (if own_U (pa &&& (255 : Int32)) then (1 : Int32) else (3 : Int32))) + (if own_U (pb &&& (255 : Int32)) then (1 : Int32) else (3 : Int32)))] [(.int ((((0 : Int32) + (if own_U (pa &&& (255 : Int32)) then (1 : Int32) else (3 : Int32))) + (if own_U (pb &&& (255 : Int32)) then (1 : Int32) else (3 : Int32))) + (if own_U (pc_ &&& (255 : Int32)) then (1 : Int32) else (3 : Int32))))]))
    refine OE.v (fun t k => XS.istore X23.here hx rfl (hb hby at_113) rfl (l' := #[iv pa, iv pb, iv pc_, iv nn, iv 3, rv b16, rv a_20, iv ((((0 : Int32) + (if own_U (pa &&& (255 : Int32)) then (1 : Int32) else (3 : Int32))) + (if own_U (pb &&& (255 : Int32)) then (1 : Int32) else (3 : Int32))) + (if own_U (pc_ &&& (255 : Int32)) then (1 : Int32) else (3 : Int32)))]) rfl k) ?_
    refine OE.v (fun t k => XS.iload X23.here hx rfl (hb hby at_115) rfl k) ?_
    refine OE.v (fun t k => XS.aload X23.here hx rfl (hb hby at_117) rfl rfl k) ?_
    show OE _ _ _ _ (T23.setTop (mkF m 119 #[iv pa, iv pb, iv pc_, iv nn, iv 3, rv b16, rv a_20, iv ((((0 : Int32) + (if own_U (pa &&& (255 : Int32)) then (1 : Int32) else (3 : Int32))) + (if own_U (pb &&& (255 : Int32)) then (1 : Int32) else (3 : Int32))) + (if own_U (pc_ &&& (255 : Int32)) then (1 : Int32) else (3 : Int32)))] [(.ref a_20), (.int ((((0 : Int32) + (if own_U (pa &&& (255 : Int32)) then (1 : Int32) else (3 : Int32))) + (if own_U (pb &&& (255 : Int32)) then (1 : Int32) else (3 : Int32))) + (if own_U (pc_ &&& (255 : Int32)) then (1 : Int32) else (3 : Int32))))]))
    obtain ⟨cq24, kq24, q24a, q24b, q24c⟩ := isOf hZ e23 q20_0
    obtain ⟨_, _, ⟨T24, L24, k24, n24⟩, -, X24, ⟨Lc24, hQ24, l24, y24, z24⟩, st24⟩ := X23.virtualBack hx (y := (⟨"java/lang/String", "length", "()I"⟩ : MethodName)) (z := (⟨"java/lang/String", "length", "()I"⟩ : MethodName)) hown (mvT hZ (hw _ (own_w 107 rfl))) (mvT hZ (hw _ (own_w 108 rfl))) (notFace_of_selects (args := #[]) (mvT hZ (hw _ (own_w 110 rfl)))) (mvT hZ (hw _ (own_w 110 rfl))) (mvT hZ (hw _ (own_w 109 rfl))) (by decide) (backOf (W := 1) (rm19 l Z a0 hw [] a_20 sv_20 ks_20 cn_20 us_20 cs h20 n0 Z20 O20 q20_0 q20_1 q20_2 q20_3 P2 OP0) hZ (hw _ (own_w 111 rfl)) (hw _ (own_w 21 rfl)) (by decide) (by decide)) q24a q24c (g := (mkF m 119 #[iv pa, iv pb, iv pc_, iv nn, iv 3, rv b16, rv a_20, iv ((((0 : Int32) + (if own_U (pa &&& (255 : Int32)) then (1 : Int32) else (3 : Int32))) + (if own_U (pb &&& (255 : Int32)) then (1 : Int32) else (3 : Int32))) + (if own_U (pc_ &&& (255 : Int32)) then (1 : Int32) else (3 : Int32)))] [(.ref a_20), (.int ((((0 : Int32) + (if own_U (pa &&& (255 : Int32)) then (1 : Int32) else (3 : Int32))) + (if own_U (pb &&& (255 : Int32)) then (1 : Int32) else (3 : Int32))) + (if own_U (pc_ &&& (255 : Int32)) then (1 : Int32) else (3 : Int32))))])) rfl (by rw [hml]; rfl) (Steps.refl _) (argsL := []) (rest := [(.int ((((0 : Int32) + (if own_U (pa &&& (255 : Int32)) then (1 : Int32) else (3 : Int32))) + (if own_U (pb &&& (255 : Int32)) then (1 : Int32) else (3 : Int32))) + (if own_U (pc_ &&& (255 : Int32)) then (1 : Int32) else (3 : Int32))))]) (lenOf pd_4 rfl) rfl (Nat.le_of_eq rfl) (hb hby at_119) (fun _ _ => ⟨rfl, e23, (by decide : 5 + 0 ≤ _), (by decide : 29 + 0 ≤ _)⟩)
    dsimp only [Pt.U, Pt.locs, Pt.cells, Pt.slots] at X24 l24 y24 z24 st24 hQ24
    subst l24 y24 z24
    obtain ⟨rfl, Nq24, e24⟩ := hQ24
    have N24 := Fr.app N23 Nq24
    refine OE.v (fun t k => st24.trans k) ?_
    show OE _ _ _ _ (T24.setTop (mkF m 122 #[iv pa, iv pb, iv pc_, iv nn, iv 3, rv b16, rv a_20, iv ((((0 : Int32) + (if own_U (pa &&& (255 : Int32)) then (1 : Int32) else (3 : Int32))) + (if own_U (pb &&& (255 : Int32)) then (1 : Int32) else (3 : Int32))) + (if own_U (pc_ &&& (255 : Int32)) then (1 : Int32) else (3 : Int32)))] [(.int cn_20), (.int ((((0 : Int32) + (if own_U (pa &&& (255 : Int32)) then (1 : Int32) else (3 : Int32))) + (if own_U (pb &&& (255 : Int32)) then (1 : Int32) else (3 : Int32))) + (if own_U (pc_ &&& (255 : Int32)) then (1 : Int32) else (3 : Int32))))]))
    refine OE.v (fun t k => XS.icmpNo X24.here hx rfl (hb hby at_122) rfl (teq (own_end q20_4 pp23)).2 k) ?_
    show OE _ _ _ _ (T24.setTop (mkF m 125 #[iv pa, iv pb, iv pc_, iv nn, iv 3, rv b16, rv a_20, iv ((((0 : Int32) + (if own_U (pa &&& (255 : Int32)) then (1 : Int32) else (3 : Int32))) + (if own_U (pb &&& (255 : Int32)) then (1 : Int32) else (3 : Int32))) + (if own_U (pc_ &&& (255 : Int32)) then (1 : Int32) else (3 : Int32)))] []))
    refine OE.v (fun t k => XS.iconst X24.here hx rfl (hb hby at_125) k) ?_
    refine OE.v (fun t k => XS.goto X24.here hx rfl (pc0 := 126) (pc' := 130) rfl (hb hby at_126) (by decide) (by decide) k) ?_
    show OE _ _ _ _ (T24.setTop (mkF m 130 #[iv pa, iv pb, iv pc_, iv nn, iv 3, rv b16, rv a_20, iv ((((0 : Int32) + (if own_U (pa &&& (255 : Int32)) then (1 : Int32) else (3 : Int32))) + (if own_U (pb &&& (255 : Int32)) then (1 : Int32) else (3 : Int32))) + (if own_U (pc_ &&& (255 : Int32)) then (1 : Int32) else (3 : Int32)))] [(.int 1)]))
    obtain ⟨fs, hr, hrun, hended, hW, hsame⟩ := X24.leave (v := some (.int 1)) (fun h => by rw [Bd.returns] at h; cases h)
    refine ⟨_, _, ?_, hrun, hended, _, _, rfl, ?_, ⟨_, rfl⟩, hW, hsame.mono (by decide) (by decide)⟩
    · exact retN X24 hx (t := .boolean) Bd.returns (by simp) (hb hby at_130) hr
    · show Q0 Z pa pb pc_ nn hxa hc cs h0 n0 _ T24.heap _
      rw [e24]
      exact ⟨rfl, N24⟩

set_option maxRecDepth 65536 in
set_option maxHeartbeats 40000000 in
theorem comes_1 {Post : Tables → Env → Array Value → State → Outcome → State → Prop} (hpost : ∀ tb e args s v u, (limb_1_1.after args s (.returned v) u = true ∧ limb_1_2.after args s (.returned v) u = true ∧ True) → FrameEnd s (.returned v) u (Jvm.fieldLocs frame_1_writes args s ++ Jvm.arrayLocs frame_1_arrays args s ++ Jvm.staticLocs frame_1_statics s) 24 128 → Post tb e args s (.returned v) u) :
    ArmFor flags0 classFile x code maxLocals ret World_1 tables_1 room_1 Calls_1 rest_1 Pre_1 Post := by
  intro l hfl _ _ p e ha hc hk s m args below hf hA hF happ hP
  obtain ⟨hcalls, hrest, hpre⟩ := hP
  obtain ⟨-, -, -, hnamed, -, -, -, hat⟩ := (Spec.applies_iff hf).mp happ
  obtain ⟨hg, hn⟩ := and_e (Cond.before_iff.mp (show (Jvm.Cond.and given_1 narrow_1).before args s = true from hpre))
  obtain ⟨hg0, hh0⟩ := and_e hg
  obtain ⟨hg1, hh1⟩ := and_e hh0
  obtain ⟨hg2, hh2⟩ := and_e hh1
  obtain ⟨hg3, hh3⟩ := and_e hh2
  obtain ⟨w0, w1, w2, w3, rfl⟩ : ∃ w0 w1 w2 w3 : Value, args = #[w0, w1, w2, w3] := by
    have hs : args.size = 4 := by simpa [Cond.value, given_1] using hg0
    obtain ⟨L⟩ := args
    match L, hs with
    | [w0, w1, w2, w3], _ => exact ⟨w0, w1, w2, w3, rfl⟩
  have hw := fun d (hd : d ∈ tables_1) => atoms_spec (ws := Jvm.Cond.code x code maxLocals ret :: tables_1) hat d (List.mem_cons_of_mem _ hd)
  have hfit : Fit s := fun {y c} hc i hi => by
    obtain ⟨ha, rfl⟩ := Array.getElem?_eq_some_iff.mp hc
    have q := List.all_eq_true.mp ((Array.all_eq_true_iff_forall_mem.mp hF) _ (Array.getElem_mem ha)) i (List.mem_range.mpr hi)
    simpa [Array.getElem?_eq_getElem hi] using q
  obtain ⟨hsets, hown0⟩ := atoms_of _ (rest_1_c_eq ▸ (show rest_1_c.before _ s = true from hrest))
  have hr0 := Cond.before_iff.mp hown0
  obtain ⟨i0, ei0⟩ := is_v hg1
  obtain rfl : w0 = (.int i0) := Option.some.inj ei0
  obtain ⟨i1, ei1⟩ := is_v hg2
  obtain rfl : w1 = (.int i1) := Option.some.inj ei1
  obtain ⟨i2, ei2⟩ := is_v hg3
  obtain rfl : w2 = (.int i2) := Option.some.inj ei2
  obtain ⟨i3, ei3⟩ := is_v hh3
  obtain rfl : w3 = (.int i3) := Option.some.inj ei3
  obtain ⟨c0_hn, r0_hn⟩ := and_e hn
  obtain ⟨c1_hn, r1_hn⟩ := and_e r0_hn
  obtain ⟨c2_hn, r2_hn⟩ := and_e r1_hn
  obtain ⟨hxa, ev_hx⟩ := arr_v c0_hn
  obtain ⟨hc_, A_hx⟩ := Arr.start ev_hx c0_hn
  have S_hx : Sta s s.heap "com/example/plumbago/plumbago/server/EntryPaths" "HEX" "[C" (.ref hxa) := Sta.start ev_hx (Or.inr ⟨(hw _ (own_w 3 rfl)), (hw _ (own_w 53 rfl))⟩)
  obtain ⟨len_q, len_e⟩ := own_len ev_hx (A_hx.fin (Vm.Alike.refl _)) (eqv_i (Term.int_eval _) c1_hn)
  have H_hx : own_HX s hxa hc_ := own_hexs (fun _ => ev_hx) A_hx len_q len_e c2_hn r2_hn
  obtain ⟨cs, ev_cs⟩ := is_v (Cond.before_iff.mp (hsets _ (List.mem_of_getElem? (i := 1) rfl)))
  have S_cs : Sta s s.heap "java/lang/String" "COMPACT_STRINGS" "Z" (.int cs) := Sta.start ev_cs (Or.inl (hsets _ (List.mem_of_getElem? (i := 0) rfl)))
  have n_cs : ¬ cs = (0 : Int32) := gotF (Cond.eq_ints ev_cs (Term.int_eval _)) (not_v (Cond.before_iff.mp (hsets _ (List.mem_of_getElem? (i := 2) rfl))))
  obtain ⟨fo, ev_fo, rf⟩ := isR_v (Cond.before_iff.mp (hsets _ (List.mem_of_getElem? (i := 8) rfl)))
  have S_fo : Sta s s.heap "jdk/internal/util/Preconditions" "SIOOBE_FORMATTER" "Ljava/util/function/BiFunction;" fo := Sta.start ev_fo (Or.inl (hsets _ (List.mem_of_getElem? (i := 7) rfl)))
  have H_si : own_SI s := by rcases ref_cases rf with rfl | ⟨a, rfl⟩ <;> first | exact Or.inl S_fo | exact Or.inr ⟨_, S_fo⟩
  obtain ⟨n, o, h1, h2, h3, _, L, rfl, ⟨rfl, N⟩, hq⟩ := rm0 l s _ hw tables_1 i0 i1 i2 i3 hxa hc_ cs s.heap s.heap.size (Nat.le_refl _) (Old.start s) H_hx H_si n_cs S_cs S_hx p e ha hc hk s m _ below hf ((Spec.applies_iff_loose hf).mp happ).1 ⟨rfl, State.Warmed39.refl s, rfl⟩ trivial
  refine ⟨n, _, h1, h2, h3, hpost _ _ _ _ _ _ ⟨Cond.after_iff.mpr rfl, Cond.after_iff.mpr (eq_i res_at (Term.int_eval (1)) rfl), trivial⟩ ⟨hq.1, hq.2.1, (hq.2.2.sift fun y hy => Or.inr (N y hy)).mono (by decide) (by decide)⟩⟩
theorem main_1_1 : Claimed_1_1 := comes_1 fun _ _ _ _ _ _ h hF => ⟨h.1, hF⟩
theorem main_1_2 : Claimed_1_2 := comes_1 fun _ _ _ _ _ _ h hF => ⟨h.2.1, hF⟩
end Jvm.Pilot.@@N@@
namespace Jvm.Pilot.@@N@@
open Jvm Jvm.ClassFile Sem Op Lib Jvm.Free Jvm.Stand Jvm.Pilot.@@N@@.Jvm.D
/-! MADE BY PROGRAM (witnessworld.py) out of the Statement's table words and the real class files: 25 classes; the members and pool entries that the words name. The judged class is class 1, her method 1. -/
namespace start1
open Jvm.ClassFile
def u (s : String) : CpInfo := .utf8 (stringToUtf16 s)
/-- a pool by its gaps: so many unusable entries, then the entry; so many at the end -/
def gap : Nat → List CpInfo → List CpInfo
  | 0, r => r
  | n + 1, r => .unusable :: gap n r
def poolList (es : List (Nat × CpInfo)) (last : Nat) : List CpInfo := es.foldr (fun e r => gap e.1 (e.2 :: r)) (gap last [])
def pool (es : List (Nat × CpInfo)) (last : Nat) : Array CpInfo := ⟨poolList es last⟩
def fileOf (pool : Array CpInfo) (this : Nat) (attrs : Array Attribute := #[]) (ms : Array MethodInfo := #[]) (fl : Nat := 33) (sup : Nat := 0) (ifs : Array Nat := #[]) (fds : Array FieldInfo := #[]) : ClassFile where
  minorVersion := 0
  majorVersion := 65
  constantPool := pool
  accessFlags := fl
  thisClass := this
  superClass := sup
  interfaces := ifs
  fields := fds
  methods := ms
  attributes := attrs
def plain (name : String) (sup : Option ClassId) : Class where
  name := name
  kind := .ordinary
  loader := none
  accessFlags := 33
  super := sup
  interfaces := #[]
  cf := none
  fields := #[]
  methods := #[]
  instanceTypes := #[]
  staticTypes := #[]
  resolved := #[]
  callSites := []
  init := .initialized
  statics := none
  mirror := none

def pool0 : Array CpInfo := pool [(5, u "<init>"), (0, u "()V"), (1, .class_ 10), (1, u "java/lang/Object"), (85, u "clone"), (0, u "()Ljava/lang/Object;")] 26

def k0c0 : Code := { maxStack := 0, maxLocals := 1, code := object_method_1_code, exceptionTable := #[], attributes := #[] }
def k0m0 : Method := { name := "<init>", desc := "()V", sig := { parameters := [], returnType := none }, accessFlags := 1, code := some k0c0 }
def k0m1 : Method := { name := "clone", desc := "()Ljava/lang/Object;", sig := { parameters := [], returnType := some (.object "java/lang/Object") }, accessFlags := 260, code := none }
/-- java/lang/Object -/
def k0 : Class := { plain "java/lang/Object" none with
  accessFlags := 33
  interfaces := #[]
  cf := some (fileOf pool0 8 #[] #[{ accessFlags := 1, nameIndex := 5, descriptorIndex := 6, attributes := #[] }, { accessFlags := 260, nameIndex := 96, descriptorIndex := 97, attributes := #[] }] 33 0 #[] #[])
  fields := #[]
  methods := #[k0m0, k0m1]
  instanceTypes := #[]
  staticTypes := #[]
  resolved := Array.replicate 124 none
  statics := none }

def pool1 : Array CpInfo := pool [(2, .class_ 4), (1, u "java/lang/Object"), (0, u "<init>"), (0, u "()V"), (0, .methodref 8 9), (0, .class_ 10), (0, .nameAndType 11 12), (0, u "com/example/plumbago/plumbago/server/EntryPaths"), (0, u "encode"), (0, u "([B)Ljava/lang/String;"), (0, .methodref 14 15), (0, .class_ 16), (0, .nameAndType 17 18), (0, u "com/example/plumbago/plumbago/server/EntryPathsEncodePinLaw"), (0, u "match"), (0, u "(Ljava/lang/String;II)I"), (0, .methodref 20 21), (0, .class_ 22), (0, .nameAndType 23 24), (0, u "java/lang/String"), (0, u "length"), (0, u "()I"), (0, .methodref 14 26), (0, .nameAndType 27 28), (0, u "unreserved"), (0, u "(I)Z"), (0, .methodref 20 30), (0, .nameAndType 31 32), (0, u "charAt"), (0, u "(I)C"), (0, .methodref 14 34), (0, .nameAndType 35 32), (0, u "hex"), (2, u "law"), (0, u "(IIII)Z")] 5

def k1m0 : Method := { name := "<init>", desc := "()V", sig := { parameters := [], returnType := none }, accessFlags := 2, code := none }
def k1c1 : Code := { maxStack := 4, maxLocals := 8, code := code, exceptionTable := #[], attributes := #[] }
def k1m1 : Method := { name := "law", desc := "(IIII)Z", sig := { parameters := [.int, .int, .int, .int], returnType := some .boolean }, accessFlags := 9, code := some k1c1 }
def k1c2 : Code := { maxStack := 2, maxLocals := 1, code := method_3_code, exceptionTable := #[], attributes := #[] }
def k1m2 : Method := { name := "unreserved", desc := "(I)Z", sig := { parameters := [.int], returnType := some .boolean }, accessFlags := 10, code := some k1c2 }
def k1c3 : Code := { maxStack := 2, maxLocals := 1, code := method_4_code, exceptionTable := #[], attributes := #[] }
def k1m3 : Method := { name := "hex", desc := "(I)C", sig := { parameters := [.int], returnType := some .char }, accessFlags := 10, code := some k1c3 }
def k1c4 : Code := { maxStack := 3, maxLocals := 3, code := method_5_code, exceptionTable := #[], attributes := #[] }
def k1m4 : Method := { name := "match", desc := "(Ljava/lang/String;II)I", sig := { parameters := [(.object "java/lang/String"), .int, .int], returnType := some .int }, accessFlags := 10, code := some k1c4 }
/-- com/example/plumbago/plumbago/server/EntryPathsEncodePinLaw -/
def k1 : Class := { plain "com/example/plumbago/plumbago/server/EntryPathsEncodePinLaw" (some 0) with
  accessFlags := 49
  interfaces := #[]
  cf := some (fileOf pool1 14 #[] #[{ accessFlags := 2, nameIndex := 5, descriptorIndex := 6, attributes := #[] }, { accessFlags := 9, nameIndex := 38, descriptorIndex := 39, attributes := #[] }, { accessFlags := 10, nameIndex := 27, descriptorIndex := 28, attributes := #[] }, { accessFlags := 10, nameIndex := 35, descriptorIndex := 32, attributes := #[] }, { accessFlags := 10, nameIndex := 17, descriptorIndex := 18, attributes := #[] }] 49 2 #[] #[])
  fields := #[]
  methods := #[k1m0, k1m1, k1m2, k1m3, k1m4]
  instanceTypes := #[]
  staticTypes := #[]
  resolved := Array.replicate 45 none
  statics := none }

def pool2 : Array CpInfo := pool [(2, .class_ 4), (1, u "java/lang/Object"), (0, u "<init>"), (0, u "()V"), (7, .class_ 16), (1, u "com/example/plumbago/plumbago/server/EntryPaths"), (0, u "encode"), (0, u "([B)Ljava/lang/String;"), (21, .class_ 41), (0, u "java/lang/StringBuilder"), (0, .methodref 40 43), (0, .nameAndType 5 44), (0, u "(I)V"), (0, .methodref 40 46), (0, .nameAndType 47 48), (0, u "append"), (0, u "(C)Ljava/lang/StringBuilder;"), (0, .fieldref 14 50), (0, .nameAndType 51 52), (0, u "HEX"), (0, u "[C"), (0, .methodref 40 54), (0, .nameAndType 55 56), (0, u "toString"), (0, u "()Ljava/lang/String;"), (64, u "FROM"), (0, u "Ljava/lang/String;"), (3, u "ENTRIES"), (2, u "DATA"), (2, u "REVISIONS")] 42

def k2m0 : Method := { name := "<init>", desc := "()V", sig := { parameters := [], returnType := none }, accessFlags := 2, code := none }
def k2c1 : Code := { maxStack := 4, maxLocals := 7, code := prog_50_method_7_code, exceptionTable := #[], attributes := #[] }
def k2m1 : Method := { name := "encode", desc := "([B)Ljava/lang/String;", sig := { parameters := [(.array .byte)], returnType := some (.object "java/lang/String") }, accessFlags := 8, code := some k2c1 }
/-- com/example/plumbago/plumbago/server/EntryPaths -/
def k2 : Class := { plain "com/example/plumbago/plumbago/server/EntryPaths" (some 0) with
  accessFlags := 48
  interfaces := #[]
  cf := some (fileOf pool2 14 #[] #[{ accessFlags := 2, nameIndex := 5, descriptorIndex := 6, attributes := #[] }, { accessFlags := 8, nameIndex := 17, descriptorIndex := 18, attributes := #[] }] 48 2 #[] #[{ accessFlags := 24, nameIndex := 121, descriptorIndex := 122, attributes := #[] }, { accessFlags := 24, nameIndex := 126, descriptorIndex := 122, attributes := #[] }, { accessFlags := 24, nameIndex := 129, descriptorIndex := 122, attributes := #[] }, { accessFlags := 24, nameIndex := 132, descriptorIndex := 122, attributes := #[] }, { accessFlags := 26, nameIndex := 51, descriptorIndex := 52, attributes := #[] }])
  fields := #[{ name := "FROM", type := (.object "java/lang/String"), accessFlags := 24, slot := 0, constantValue := 0 }, { name := "ENTRIES", type := (.object "java/lang/String"), accessFlags := 24, slot := 1, constantValue := 0 }, { name := "DATA", type := (.object "java/lang/String"), accessFlags := 24, slot := 2, constantValue := 0 }, { name := "REVISIONS", type := (.object "java/lang/String"), accessFlags := 24, slot := 3, constantValue := 0 }, { name := "HEX", type := (.array .char), accessFlags := 26, slot := 4, constantValue := 0 }]
  methods := #[k2m0, k2m1]
  instanceTypes := #[]
  staticTypes := #[(.object "java/lang/String"), (.object "java/lang/String"), (.object "java/lang/String"), (.object "java/lang/String"), (.array .char)]
  resolved := Array.replicate 175 none
  statics := some 0 }

def pool3 : Array CpInfo := pool [(1, .class_ 2), (0, u "java/lang/Appendable"), (0, .class_ 4), (0, u "java/lang/Object")] 9

/-- java/lang/Appendable -/
def k3 : Class := { plain "java/lang/Appendable" (some 0) with
  accessFlags := 1537
  interfaces := #[]
  cf := some (fileOf pool3 1 #[] #[] 1537 3 #[] #[])
  fields := #[]
  methods := #[]
  instanceTypes := #[]
  staticTypes := #[]
  resolved := Array.replicate 14 none
  statics := none }

def pool4 : Array CpInfo := pool [(2, .class_ 4), (1, u "java/lang/CharSequence"), (42, .class_ 48), (0, u "java/lang/CharSequence$1CodePointIterator"), (10, .class_ 60), (0, u "java/lang/CharSequence$1CharIterator"), (5, .class_ 67), (0, u "java/lang/Object")] 63

/-- java/lang/CharSequence -/
def k4 : Class := { plain "java/lang/CharSequence" (some 0) with
  accessFlags := 1537
  interfaces := #[]
  cf := some (fileOf pool4 2 #[.nestMembers #[47, 59]] #[] 1537 66 #[] #[])
  fields := #[]
  methods := #[]
  instanceTypes := #[]
  staticTypes := #[]
  resolved := Array.replicate 131 none
  statics := none }

def pool5 : Array CpInfo := pool [(1, .class_ 2), (0, u "java/lang/String"), (0, .methodref 4 5), (0, .class_ 6), (0, .nameAndType 7 8), (0, u "java/lang/Object"), (0, u "<init>"), (0, u "()V"), (1, .class_ 12), (1, u "java/lang/AbstractStringBuilder"), (0, u "EMPTYVALUE"), (0, u "[B"), (0, .fieldref 10 16), (0, .nameAndType 17 14), (0, u "value"), (0, .fieldref 1 19), (0, .nameAndType 20 21), (0, u "COMPACT_STRINGS"), (0, u "Z"), (0, .fieldref 10 23), (0, .nameAndType 24 25), (0, u "coder"), (0, u "B"), (8, u "length"), (0, u "()I"), (9, u "append"), (2, .class_ 49), (0, u "java/lang/CharSequence"), (25, u "maybeLatin1"), (3, .fieldref 10 80), (0, .nameAndType 81 82), (0, u "count"), (0, u "I"), (0, .methodref 10 84), (0, .nameAndType 85 86), (0, u "isLatin1"), (0, u "()Z"), (1, .class_ 90), (1, u "java/lang/StringLatin1"), (9, .methodref 10 101), (0, .nameAndType 102 103), (0, u "ensureCapacityInternal"), (0, u "(I)V"), (87, .methodref 88 192), (0, .nameAndType 193 194), (0, u "canEncode"), (0, u "(C)Z"), (97, u "(C)Ljava/lang/AbstractStringBuilder;"), (110, u "()[B"), (40, .class_ 445), (0, u "java/lang/Appendable"), (106, u "getValue")] 56

def k5m0 : Method := { name := "<init>", desc := "()V", sig := { parameters := [], returnType := none }, accessFlags := 0, code := none }
def k5c1 : Code := { maxStack := 2, maxLocals := 2, code := jdk_68_method_2_code, exceptionTable := #[], attributes := #[] }
def k5m1 : Method := { name := "<init>", desc := "(I)V", sig := { parameters := [.int], returnType := none }, accessFlags := 0, code := some k5c1 }
def k5c2 : Code := { maxStack := 1, maxLocals := 1, code := jdk_68_method_6_code, exceptionTable := #[], attributes := #[] }
def k5m2 : Method := { name := "length", desc := "()I", sig := { parameters := [], returnType := some .int }, accessFlags := 1, code := some k5c2 }
def k5c3 : Code := { maxStack := 4, maxLocals := 3, code := jdk_68_method_9_code, exceptionTable := #[], attributes := #[] }
def k5m3 : Method := { name := "ensureCapacityInternal", desc := "(I)V", sig := { parameters := [.int], returnType := none }, accessFlags := 2, code := some k5c3 }
def k5c4 : Code := { maxStack := 5, maxLocals := 2, code := jdk_68_method_31_code, exceptionTable := #[], attributes := #[] }
def k5m4 : Method := { name := "append", desc := "(C)Ljava/lang/AbstractStringBuilder;", sig := { parameters := [.char], returnType := some (.object "java/lang/AbstractStringBuilder") }, accessFlags := 1, code := some k5c4 }
def k5c5 : Code := { maxStack := 1, maxLocals := 1, code := jdk_68_method_64_code, exceptionTable := #[], attributes := #[] }
def k5m5 : Method := { name := "getValue", desc := "()[B", sig := { parameters := [], returnType := some (.array .byte) }, accessFlags := 16, code := some k5c5 }
def k5c6 : Code := { maxStack := 1, maxLocals := 1, code := jdk_68_method_68_code, exceptionTable := #[], attributes := #[] }
def k5m6 : Method := { name := "isLatin1", desc := "()Z", sig := { parameters := [], returnType := some .boolean }, accessFlags := 16, code := some k5c6 }
/-- java/lang/AbstractStringBuilder -/
def k5 : Class := { plain "java/lang/AbstractStringBuilder" (some 0) with
  accessFlags := 1056
  interfaces := #[3, 4]
  cf := some (fileOf pool5 10 #[] #[{ accessFlags := 0, nameIndex := 7, descriptorIndex := 8, attributes := #[] }, { accessFlags := 0, nameIndex := 7, descriptorIndex := 103, attributes := #[] }, { accessFlags := 1, nameIndex := 34, descriptorIndex := 35, attributes := #[] }, { accessFlags := 2, nameIndex := 102, descriptorIndex := 103, attributes := #[] }, { accessFlags := 1, nameIndex := 45, descriptorIndex := 292, attributes := #[] }, { accessFlags := 16, nameIndex := 552, descriptorIndex := 403, attributes := #[] }, { accessFlags := 16, nameIndex := 85, descriptorIndex := 86, attributes := #[] }] 1056 4 #[444, 48] #[{ accessFlags := 0, nameIndex := 17, descriptorIndex := 14, attributes := #[] }, { accessFlags := 0, nameIndex := 24, descriptorIndex := 25, attributes := #[] }, { accessFlags := 0, nameIndex := 75, descriptorIndex := 21, attributes := #[] }, { accessFlags := 0, nameIndex := 81, descriptorIndex := 82, attributes := #[] }, { accessFlags := 26, nameIndex := 13, descriptorIndex := 14, attributes := #[] }])
  fields := #[{ name := "value", type := (.array .byte), accessFlags := 0, slot := 0, constantValue := 0 }, { name := "coder", type := .byte, accessFlags := 0, slot := 1, constantValue := 0 }, { name := "maybeLatin1", type := .boolean, accessFlags := 0, slot := 2, constantValue := 0 }, { name := "count", type := .int, accessFlags := 0, slot := 3, constantValue := 0 }, { name := "EMPTYVALUE", type := (.array .byte), accessFlags := 26, slot := 0, constantValue := 0 }]
  methods := #[k5m0, k5m1, k5m2, k5m3, k5m4, k5m5, k5m6]
  instanceTypes := #[(.array .byte), .byte, .boolean, .int]
  staticTypes := #[(.array .byte)]
  resolved := Array.replicate 609 none
  statics := none }

def pool6 : Array CpInfo := pool [(1, .class_ 2), (0, u "java/io/Serializable"), (0, .class_ 4), (0, u "java/lang/Object")] 2

/-- java/io/Serializable -/
def k6 : Class := { plain "java/io/Serializable" (some 0) with
  accessFlags := 1537
  interfaces := #[]
  cf := some (fileOf pool6 1 #[] #[] 1537 3 #[] #[])
  fields := #[]
  methods := #[]
  instanceTypes := #[]
  staticTypes := #[]
  resolved := Array.replicate 7 none
  statics := none }

def pool7 : Array CpInfo := pool [(1, .class_ 2), (0, u "java/lang/Comparable"), (0, .class_ 4), (0, u "java/lang/Object")] 7

/-- java/lang/Comparable -/
def k7 : Class := { plain "java/lang/Comparable" (some 0) with
  accessFlags := 1537
  interfaces := #[]
  cf := some (fileOf pool7 1 #[] #[] 1537 3 #[] #[])
  fields := #[]
  methods := #[]
  instanceTypes := #[]
  staticTypes := #[]
  resolved := Array.replicate 12 none
  statics := none }

def pool8 : Array CpInfo := pool [(1, .methodref 2 3), (0, .class_ 4), (0, .nameAndType 5 6), (0, u "java/lang/AbstractStringBuilder"), (0, u "<init>"), (0, u "(I)V"), (11, .class_ 20), (1, u "java/lang/String"), (3, .class_ 26), (1, u "java/lang/StringBuilder"), (0, u "append"), (22, .methodref 2 51), (0, .nameAndType 27 52), (0, u "(C)Ljava/lang/AbstractStringBuilder;"), (84, .methodref 18 138), (0, .nameAndType 5 139), (0, u "(Ljava/lang/StringBuilder;)V"), (5, u "()V"), (10, u "()I"), (129, u "(C)Ljava/lang/StringBuilder;"), (56, .methodref 2 344), (0, .nameAndType 345 156), (0, u "length"), (3, .class_ 350), (0, u "java/lang/Appendable"), (0, .class_ 352), (0, u "java/io/Serializable"), (0, .class_ 354), (0, u "java/lang/Comparable"), (0, .class_ 356), (0, u "java/lang/CharSequence"), (0, u "serialVersionUID"), (0, u "J"), (40, u "toString"), (0, u "()Ljava/lang/String;")] 21

def k8m0 : Method := { name := "<init>", desc := "()V", sig := { parameters := [], returnType := none }, accessFlags := 1, code := none }
def k8c1 : Code := { maxStack := 2, maxLocals := 2, code := jdk_67_method_2_code, exceptionTable := #[], attributes := #[] }
def k8m1 : Method := { name := "<init>", desc := "(I)V", sig := { parameters := [.int], returnType := none }, accessFlags := 1, code := some k8c1 }
def k8c2 : Code := { maxStack := 2, maxLocals := 2, code := jdk_67_method_14_code, exceptionTable := #[], attributes := #[] }
def k8m2 : Method := { name := "append", desc := "(C)Ljava/lang/StringBuilder;", sig := { parameters := [.char], returnType := some (.object "java/lang/StringBuilder") }, accessFlags := 1, code := some k8c2 }
def k8c3 : Code := { maxStack := 3, maxLocals := 1, code := jdk_67_method_42_code, exceptionTable := #[], attributes := #[] }
def k8m3 : Method := { name := "toString", desc := "()Ljava/lang/String;", sig := { parameters := [], returnType := some (.object "java/lang/String") }, accessFlags := 1, code := some k8c3 }
def k8c4 : Code := { maxStack := 1, maxLocals := 1, code := jdk_67_method_93_code, exceptionTable := #[], attributes := #[] }
def k8m4 : Method := { name := "length", desc := "()I", sig := { parameters := [], returnType := some .int }, accessFlags := 4161, code := some k8c4 }
/-- java/lang/StringBuilder -/
def k8 : Class := { plain "java/lang/StringBuilder" (some 5) with
  accessFlags := 49
  interfaces := #[3, 6, 7, 4]
  cf := some (fileOf pool8 24 #[] #[{ accessFlags := 1, nameIndex := 5, descriptorIndex := 145, attributes := #[] }, { accessFlags := 1, nameIndex := 5, descriptorIndex := 6, attributes := #[] }, { accessFlags := 1, nameIndex := 27, descriptorIndex := 286, attributes := #[] }, { accessFlags := 1, nameIndex := 399, descriptorIndex := 400, attributes := #[] }, { accessFlags := 4161, nameIndex := 345, descriptorIndex := 156, attributes := #[] }] 49 2 #[349, 351, 353, 355] #[{ accessFlags := 24, nameIndex := 357, descriptorIndex := 358, attributes := #[] }])
  fields := #[{ name := "serialVersionUID", type := .long, accessFlags := 24, slot := 0, constantValue := 0 }]
  methods := #[k8m0, k8m1, k8m2, k8m3, k8m4]
  instanceTypes := #[(.array .byte), .byte, .boolean, .int]
  staticTypes := #[.long]
  resolved := Array.replicate 422 none
  statics := none }

def pool9 : Array CpInfo := pool [(1, .class_ 2), (0, u "java/lang/constant/Constable"), (0, .class_ 4), (0, u "java/lang/Object")] 6

/-- java/lang/constant/Constable -/
def k9 : Class := { plain "java/lang/constant/Constable" (some 0) with
  accessFlags := 1537
  interfaces := #[]
  cf := some (fileOf pool9 1 #[] #[] 1537 3 #[] #[])
  fields := #[]
  methods := #[]
  instanceTypes := #[]
  staticTypes := #[]
  resolved := Array.replicate 11 none
  statics := none }

def pool10 : Array CpInfo := pool [(1, .class_ 2), (0, u "java/lang/constant/ConstantDesc"), (0, .class_ 4), (0, u "java/lang/Object")] 32

/-- java/lang/constant/ConstantDesc -/
def k10 : Class := { plain "java/lang/constant/ConstantDesc" (some 0) with
  accessFlags := 1537
  interfaces := #[]
  cf := some (fileOf pool10 1 #[] #[] 1537 3 #[] #[])
  fields := #[]
  methods := #[]
  instanceTypes := #[]
  staticTypes := #[]
  resolved := Array.replicate 37 none
  statics := none }

def pool11 : Array CpInfo := pool [(1, .methodref 2 3), (0, .class_ 4), (0, .nameAndType 5 6), (0, u "java/lang/Object"), (0, u "<init>"), (0, u "()V"), (2, .fieldref 10 11), (0, .class_ 12), (0, .nameAndType 13 14), (0, u "java/lang/String"), (0, u "value"), (0, u "[B"), (0, .fieldref 10 16), (0, .nameAndType 17 18), (0, u "coder"), (0, u "B"), (2, u "hash"), (0, u "I"), (2, u "hashIsZero"), (0, u "Z"), (11, .fieldref 10 39), (0, .nameAndType 40 26), (0, u "COMPACT_STRINGS"), (13, .methodref 55 56), (0, .class_ 57), (0, .nameAndType 58 59), (0, u "java/util/Arrays"), (0, u "copyOfRange"), (0, u "([BII)[B"), (47, .class_ 109), (1, u "java/lang/StringLatin1"), (32, u "()Z"), (191, u "()I"), (0, .methodref 10 336), (0, .nameAndType 17 337), (0, u "()B"), (2, u "()[B"), (22, u "([BI)C"), (27, u "(II)V"), (35, u "(I)C"), (61, .methodref 10 490), (0, .nameAndType 5 491), (0, u "(Ljava/lang/AbstractStringBuilder;Ljava/lang/Void;)V"), (0, .methodref 10 493), (0, .nameAndType 494 142), (0, u "isLatin1"), (0, .methodref 107 496), (0, .nameAndType 497 363), (0, u "charAt"), (3, u "checkIndex"), (4, .nameAndType 507 334), (0, u "length"), (41, .methodref 550 506), (0, .class_ 551), (0, u "java/lang/AbstractStringBuilder"), (0, .methodref 550 553), (0, .nameAndType 554 340), (0, u "getValue"), (20, .class_ 576), (0, u "java/lang/CharSequence"), (22, u "CASE_INSENSITIVE_ORDER"), (0, u "Ljava/util/Comparator;"), (446, .methodref 550 493), (5, .fieldref 1054 1055), (0, .class_ 1056), (0, .nameAndType 1057 1058), (0, u "jdk/internal/util/Preconditions"), (0, u "SIOOBE_FORMATTER"), (0, u "Ljava/util/function/BiFunction;"), (0, .methodref 1054 1060), (0, .nameAndType 501 1061), (0, u "(IILjava/util/function/BiFunction;)I"), (39, u "serialPersistentFields"), (0, u "[Ljava/io/ObjectStreamField;"), (0, .class_ 1104), (0, u "java/lang/String$CaseInsensitiveComparator"), (1, .class_ 1107), (0, u "java/io/Serializable"), (0, .class_ 1109), (0, u "java/lang/Comparable"), (0, .class_ 1111), (0, u "java/lang/constant/Constable"), (0, .class_ 1113), (0, u "java/lang/constant/ConstantDesc"), (2, u "serialVersionUID"), (0, u "J"), (3, u "REPL"), (0, u "C"), (2, u "LATIN1"), (1, u "UTF16"), (105, u "(Ljava/lang/StringBuilder;)V")] 217

def k11m0 : Method := { name := "<init>", desc := "()V", sig := { parameters := [], returnType := none }, accessFlags := 1, code := none }
def k11c1 : Code := { maxStack := 3, maxLocals := 2, code := jdk_42_method_53_code, exceptionTable := #[], attributes := #[] }
def k11m1 : Method := { name := "<init>", desc := "(Ljava/lang/StringBuilder;)V", sig := { parameters := [(.object "java/lang/StringBuilder")], returnType := none }, accessFlags := 1, code := some k11c1 }
def k11c2 : Code := { maxStack := 2, maxLocals := 1, code := jdk_42_method_54_code, exceptionTable := #[], attributes := #[] }
def k11m2 : Method := { name := "length", desc := "()I", sig := { parameters := [], returnType := some .int }, accessFlags := 1, code := some k11c2 }
def k11c3 : Code := { maxStack := 2, maxLocals := 2, code := jdk_42_method_56_code, exceptionTable := #[], attributes := #[] }
def k11m3 : Method := { name := "charAt", desc := "(I)C", sig := { parameters := [.int], returnType := some .char }, accessFlags := 1, code := some k11c3 }
def k11c4 : Code := { maxStack := 5, maxLocals := 5, code := jdk_42_method_150_code, exceptionTable := #[], attributes := #[] }
def k11m4 : Method := { name := "<init>", desc := "(Ljava/lang/AbstractStringBuilder;Ljava/lang/Void;)V", sig := { parameters := [(.object "java/lang/AbstractStringBuilder"), (.object "java/lang/Void")], returnType := none }, accessFlags := 0, code := some k11c4 }
def k11c5 : Code := { maxStack := 1, maxLocals := 1, code := jdk_42_method_152_code, exceptionTable := #[], attributes := #[] }
def k11m5 : Method := { name := "coder", desc := "()B", sig := { parameters := [], returnType := some .byte }, accessFlags := 0, code := some k11c5 }
def k11c6 : Code := { maxStack := 1, maxLocals := 1, code := jdk_42_method_154_code, exceptionTable := #[], attributes := #[] }
def k11m6 : Method := { name := "isLatin1", desc := "()Z", sig := { parameters := [], returnType := some .boolean }, accessFlags := 0, code := some k11c6 }
def k11c7 : Code := { maxStack := 3, maxLocals := 2, code := jdk_42_method_155_code, exceptionTable := #[], attributes := #[] }
def k11m7 : Method := { name := "checkIndex", desc := "(II)V", sig := { parameters := [.int, .int], returnType := none }, accessFlags := 8, code := some k11c7 }
/-- java/lang/String -/
def k11 : Class := { plain "java/lang/String" (some 0) with
  accessFlags := 49
  interfaces := #[6, 7, 4, 9, 10]
  cf := some (fileOf pool11 10 #[.nestMembers #[1103]] #[{ accessFlags := 1, nameIndex := 5, descriptorIndex := 6, attributes := #[] }, { accessFlags := 1, nameIndex := 5, descriptorIndex := 1233, attributes := #[] }, { accessFlags := 1, nameIndex := 507, descriptorIndex := 334, attributes := #[] }, { accessFlags := 1, nameIndex := 497, descriptorIndex := 427, attributes := #[] }, { accessFlags := 0, nameIndex := 5, descriptorIndex := 491, attributes := #[] }, { accessFlags := 0, nameIndex := 17, descriptorIndex := 337, attributes := #[] }, { accessFlags := 0, nameIndex := 494, descriptorIndex := 142, attributes := #[] }, { accessFlags := 8, nameIndex := 501, descriptorIndex := 391, attributes := #[] }] 49 2 #[1106, 1108, 575, 1110, 1112] #[{ accessFlags := 18, nameIndex := 13, descriptorIndex := 14, attributes := #[] }, { accessFlags := 18, nameIndex := 17, descriptorIndex := 18, attributes := #[] }, { accessFlags := 2, nameIndex := 21, descriptorIndex := 22, attributes := #[] }, { accessFlags := 2, nameIndex := 25, descriptorIndex := 26, attributes := #[] }, { accessFlags := 26, nameIndex := 1116, descriptorIndex := 1117, attributes := #[] }, { accessFlags := 24, nameIndex := 40, descriptorIndex := 26, attributes := #[] }, { accessFlags := 26, nameIndex := 1101, descriptorIndex := 1102, attributes := #[] }, { accessFlags := 26, nameIndex := 1121, descriptorIndex := 1122, attributes := #[] }, { accessFlags := 25, nameIndex := 599, descriptorIndex := 600, attributes := #[] }, { accessFlags := 24, nameIndex := 1125, descriptorIndex := 18, attributes := #[] }, { accessFlags := 24, nameIndex := 1127, descriptorIndex := 18, attributes := #[] }])
  fields := #[{ name := "value", type := (.array .byte), accessFlags := 18, slot := 0, constantValue := 0 }, { name := "coder", type := .byte, accessFlags := 18, slot := 1, constantValue := 0 }, { name := "hash", type := .int, accessFlags := 2, slot := 2, constantValue := 0 }, { name := "hashIsZero", type := .boolean, accessFlags := 2, slot := 3, constantValue := 0 }, { name := "serialVersionUID", type := .long, accessFlags := 26, slot := 0, constantValue := 0 }, { name := "COMPACT_STRINGS", type := .boolean, accessFlags := 24, slot := 1, constantValue := 0 }, { name := "serialPersistentFields", type := (.array (.object "java/io/ObjectStreamField")), accessFlags := 26, slot := 2, constantValue := 0 }, { name := "REPL", type := .char, accessFlags := 26, slot := 3, constantValue := 0 }, { name := "CASE_INSENSITIVE_ORDER", type := (.object "java/util/Comparator"), accessFlags := 25, slot := 4, constantValue := 0 }, { name := "LATIN1", type := .byte, accessFlags := 24, slot := 5, constantValue := 0 }, { name := "UTF16", type := .byte, accessFlags := 24, slot := 6, constantValue := 0 }]
  methods := #[k11m0, k11m1, k11m2, k11m3, k11m4, k11m5, k11m6, k11m7]
  instanceTypes := #[(.array .byte), .byte, .int, .boolean]
  staticTypes := #[.long, .boolean, (.array (.object "java/io/ObjectStreamField")), .char, (.object "java/util/Comparator"), .byte, .byte]
  resolved := Array.replicate 1451 none
  statics := some 1 }

def pool12 : Array CpInfo := pool [(1, .class_ 2), (0, u "java/lang/String"), (1, .class_ 6), (1, u "java/lang/Object"), (0, u "<init>"), (0, u "()V"), (0, .methodref 1 10), (0, .nameAndType 11 12), (0, u "checkIndex"), (0, u "(II)V"), (1, .class_ 16), (1, u "java/lang/StringLatin1"), (36, u "([BI)C"), (36, u "canEncode"), (14, u "(C)Z"), (15, u "$assertionsDisabled"), (0, u "Z"), (98, .class_ 223), (1, u "java/lang/StringLatin1$LinesSpliterator"), (28, u "charAt"), (137, .class_ 391), (0, u "java/lang/StringLatin1$CharsSpliterator")] 3

def k12m0 : Method := { name := "<init>", desc := "()V", sig := { parameters := [], returnType := none }, accessFlags := 0, code := none }
def k12c1 : Code := { maxStack := 2, maxLocals := 2, code := jdk_43_method_2_code, exceptionTable := #[], attributes := #[] }
def k12m1 : Method := { name := "charAt", desc := "([BI)C", sig := { parameters := [(.array .byte), .int], returnType := some .char }, accessFlags := 9, code := some k12c1 }
def k12c2 : Code := { maxStack := 2, maxLocals := 1, code := jdk_43_method_3_code, exceptionTable := #[], attributes := #[] }
def k12m2 : Method := { name := "canEncode", desc := "(C)Z", sig := { parameters := [.char], returnType := some .boolean }, accessFlags := 9, code := some k12c2 }
/-- java/lang/StringLatin1 -/
def k12 : Class := { plain "java/lang/StringLatin1" (some 0) with
  accessFlags := 48
  interfaces := #[]
  cf := some (fileOf pool12 14 #[.nestMembers #[390, 221]] #[{ accessFlags := 0, nameIndex := 7, descriptorIndex := 8, attributes := #[] }, { accessFlags := 9, nameIndex := 252, descriptorIndex := 53, attributes := #[] }, { accessFlags := 9, nameIndex := 90, descriptorIndex := 105, attributes := #[] }] 48 4 #[] #[{ accessFlags := 4120, nameIndex := 121, descriptorIndex := 122, attributes := #[] }])
  fields := #[{ name := "$assertionsDisabled", type := .boolean, accessFlags := 4120, slot := 0, constantValue := 0 }]
  methods := #[k12m0, k12m1, k12m2]
  instanceTypes := #[]
  staticTypes := #[.boolean]
  resolved := Array.replicate 395 none
  statics := none }

def pool13 : Array CpInfo := pool [(2, .class_ 4), (1, u "java/lang/Object"), (0, u "<init>"), (0, u "()V"), (7, .class_ 16), (1, u "java/util/Arrays"), (57, .class_ 76), (1, u "java/util/Arrays$NaturalOrder"), (32, u "()Ljava/lang/Object;"), (3, .class_ 115), (1, u "java/util/Arrays$LegacyMergeSort"), (1, u "Z"), (10, .nameAndType 129 109), (0, u "clone"), (9, u "copyOfRange"), (10, .methodref 151 152), (0, .class_ 153), (0, .nameAndType 154 155), (0, u "java/lang/System"), (0, u "arraycopy"), (0, u "(Ljava/lang/Object;ILjava/lang/Object;II)V"), (148, .methodref 305 306), (0, .class_ 307), (0, .nameAndType 308 309), (0, u "java/lang/Math"), (0, u "min"), (0, u "(II)I"), (0, .methodref 311 128), (0, .class_ 312), (0, u "[B"), (26, .methodref 14 340), (0, .nameAndType 341 342), (0, u "copyOfRangeByte"), (0, u "([BII)[B"), (0, .methodref 14 344), (0, .nameAndType 345 346), (0, u "checkLength"), (0, u "(II)V"), (28, .class_ 376), (0, u "java/util/Arrays$ArrayList"), (68, u "$assertionsDisabled"), (269, u "MIN_ARRAY_SORT_GRAN"), (0, u "I"), (2, u "INSERTIONSORT_THRESHOLD"), (255, .class_ 976), (0, u "java/util/Arrays$ArrayItr")] 52

def k13m0 : Method := { name := "<init>", desc := "()V", sig := { parameters := [], returnType := none }, accessFlags := 2, code := none }
def k13c1 : Code := { maxStack := 4, maxLocals := 2, code := jdk_65_method_131_code, exceptionTable := #[], attributes := #[] }
def k13m1 : Method := { name := "checkLength", desc := "(II)V", sig := { parameters := [.int, .int], returnType := none }, accessFlags := 10, code := some k13c1 }
def k13c2 : Code := { maxStack := 3, maxLocals := 3, code := jdk_65_method_132_code, exceptionTable := #[], attributes := #[] }
def k13m2 : Method := { name := "copyOfRange", desc := "([BII)[B", sig := { parameters := [(.array .byte), .int, .int], returnType := some (.array .byte) }, accessFlags := 9, code := some k13c2 }
def k13c3 : Code := { maxStack := 6, maxLocals := 5, code := jdk_65_method_133_code, exceptionTable := #[], attributes := #[] }
def k13m3 : Method := { name := "copyOfRangeByte", desc := "([BII)[B", sig := { parameters := [(.array .byte), .int, .int], returnType := some (.array .byte) }, accessFlags := 10, code := some k13c3 }
/-- java/util/Arrays -/
def k13 : Class := { plain "java/util/Arrays" (some 0) with
  accessFlags := 49
  interfaces := #[]
  cf := some (fileOf pool13 14 #[.nestMembers #[975, 375, 113, 74]] #[{ accessFlags := 2, nameIndex := 5, descriptorIndex := 6, attributes := #[] }, { accessFlags := 10, nameIndex := 345, descriptorIndex := 346, attributes := #[] }, { accessFlags := 9, nameIndex := 139, descriptorIndex := 342, attributes := #[] }, { accessFlags := 10, nameIndex := 341, descriptorIndex := 342, attributes := #[] }] 49 2 #[] #[{ accessFlags := 26, nameIndex := 715, descriptorIndex := 716, attributes := #[] }, { accessFlags := 26, nameIndex := 719, descriptorIndex := 716, attributes := #[] }, { accessFlags := 4120, nameIndex := 445, descriptorIndex := 117, attributes := #[] }])
  fields := #[{ name := "MIN_ARRAY_SORT_GRAN", type := .int, accessFlags := 26, slot := 0, constantValue := 0 }, { name := "INSERTIONSORT_THRESHOLD", type := .int, accessFlags := 26, slot := 1, constantValue := 0 }, { name := "$assertionsDisabled", type := .boolean, accessFlags := 4120, slot := 2, constantValue := 0 }]
  methods := #[k13m0, k13m1, k13m2, k13m3]
  instanceTypes := #[]
  staticTypes := #[.int, .int, .boolean]
  resolved := Array.replicate 1029 none
  statics := none }

def pool14 : Array CpInfo := pool [(1, .class_ 2), (0, u "java/lang/Cloneable"), (0, .class_ 4), (0, u "java/lang/Object")] 2

/-- java/lang/Cloneable -/
def k14 : Class := { plain "java/lang/Cloneable" (some 0) with
  accessFlags := 1537
  interfaces := #[]
  cf := some (fileOf pool14 1 #[] #[] 1537 3 #[] #[])
  fields := #[]
  methods := #[]
  instanceTypes := #[]
  staticTypes := #[]
  resolved := Array.replicate 7 none
  statics := none }

def pool15 : Array CpInfo := pool [(2, .class_ 4), (1, u "java/lang/Object"), (0, u "<init>"), (0, u "()V"), (17, .class_ 26), (1, u "jdk/internal/util/Preconditions"), (6, u "checkIndex"), (21, .class_ 56), (0, u "jdk/internal/util/Preconditions$4"), (57, .class_ 115), (0, u "jdk/internal/util/Preconditions$1"), (7, u "SIOOBE_FORMATTER"), (0, u "Ljava/util/function/BiFunction;"), (0, .class_ 126), (0, u "jdk/internal/util/Preconditions$2"), (3, u "AIOOBE_FORMATTER"), (0, .class_ 132), (0, u "jdk/internal/util/Preconditions$3"), (3, u "IOOBE_FORMATTER"), (41, u "(IILjava/util/function/BiFunction;)I")] 15

def k15m0 : Method := { name := "<init>", desc := "()V", sig := { parameters := [], returnType := none }, accessFlags := 1, code := none }
def k15c1 : Code := { maxStack := 3, maxLocals := 3, code := jdk_41_method_11_code, exceptionTable := #[], attributes := #[] }
def k15m1 : Method := { name := "checkIndex", desc := "(IILjava/util/function/BiFunction;)I", sig := { parameters := [.int, .int, (.object "java/util/function/BiFunction")], returnType := some .int }, accessFlags := 9, code := some k15c1 }
/-- jdk/internal/util/Preconditions -/
def k15 : Class := { plain "jdk/internal/util/Preconditions" (some 0) with
  accessFlags := 33
  interfaces := #[]
  cf := some (fileOf pool15 24 #[.nestMembers #[55, 131, 125, 114]] #[{ accessFlags := 1, nameIndex := 5, descriptorIndex := 6, attributes := #[] }, { accessFlags := 9, nameIndex := 33, descriptorIndex := 178, attributes := #[] }] 33 2 #[] #[{ accessFlags := 25, nameIndex := 123, descriptorIndex := 124, attributes := #[] }, { accessFlags := 25, nameIndex := 130, descriptorIndex := 124, attributes := #[] }, { accessFlags := 25, nameIndex := 136, descriptorIndex := 124, attributes := #[] }])
  fields := #[{ name := "SIOOBE_FORMATTER", type := (.object "java/util/function/BiFunction"), accessFlags := 25, slot := 0, constantValue := 0 }, { name := "AIOOBE_FORMATTER", type := (.object "java/util/function/BiFunction"), accessFlags := 25, slot := 1, constantValue := 0 }, { name := "IOOBE_FORMATTER", type := (.object "java/util/function/BiFunction"), accessFlags := 25, slot := 2, constantValue := 0 }]
  methods := #[k15m0, k15m1]
  instanceTypes := #[]
  staticTypes := #[(.object "java/util/function/BiFunction"), (.object "java/util/function/BiFunction"), (.object "java/util/function/BiFunction")]
  resolved := Array.replicate 194 none
  statics := some 2 }

def pool16 : Array CpInfo := pool [(1, .class_ 2), (0, u "java/lang/Math"), (1, .class_ 6), (1, u "java/lang/Object"), (0, u "<init>"), (0, u "()V"), (89, .class_ 100), (1, u "java/lang/Math$RandomNumberGeneratorHolder"), (71, u "negativeZeroFloatBits"), (0, u "J"), (2, u "negativeZeroDoubleBits"), (24, u "min"), (43, u "$assertionsDisabled"), (0, u "Z"), (88, u "(II)I"), (2, u "twoToTheDoubleScaleDown"), (0, u "D"), (4, u "twoToTheDoubleScaleUp"), (9, u "E"), (3, u "PI"), (2, u "TAU"), (2, u "DEGREES_TO_RADIANS"), (0, u "RADIANS_TO_DEGREES")] 94

def k16m0 : Method := { name := "<init>", desc := "()V", sig := { parameters := [], returnType := none }, accessFlags := 2, code := none }
def k16c1 : Code := { maxStack := 2, maxLocals := 2, code := jdk_29_method_69_code, exceptionTable := #[], attributes := #[] }
def k16m1 : Method := { name := "min", desc := "(II)I", sig := { parameters := [.int, .int], returnType := some .int }, accessFlags := 9, code := some k16c1 }
/-- java/lang/Math -/
def k16 : Class := { plain "java/lang/Math" (some 0) with
  accessFlags := 49
  interfaces := #[]
  cf := some (fileOf pool16 1 #[.nestMembers #[98]] #[{ accessFlags := 2, nameIndex := 7, descriptorIndex := 8, attributes := #[] }, { accessFlags := 9, nameIndex := 201, descriptorIndex := 335, attributes := #[] }] 49 4 #[] #[{ accessFlags := 25, nameIndex := 354, descriptorIndex := 339, attributes := #[] }, { accessFlags := 25, nameIndex := 358, descriptorIndex := 339, attributes := #[] }, { accessFlags := 25, nameIndex := 361, descriptorIndex := 339, attributes := #[] }, { accessFlags := 26, nameIndex := 364, descriptorIndex := 339, attributes := #[] }, { accessFlags := 26, nameIndex := 365, descriptorIndex := 339, attributes := #[] }, { accessFlags := 26, nameIndex := 172, descriptorIndex := 173, attributes := #[] }, { accessFlags := 26, nameIndex := 176, descriptorIndex := 173, attributes := #[] }, { accessFlags := 8, nameIndex := 344, descriptorIndex := 339, attributes := #[] }, { accessFlags := 8, nameIndex := 338, descriptorIndex := 339, attributes := #[] }, { accessFlags := 4120, nameIndex := 245, descriptorIndex := 246, attributes := #[] }])
  fields := #[{ name := "E", type := .double, accessFlags := 25, slot := 0, constantValue := 0 }, { name := "PI", type := .double, accessFlags := 25, slot := 1, constantValue := 0 }, { name := "TAU", type := .double, accessFlags := 25, slot := 2, constantValue := 0 }, { name := "DEGREES_TO_RADIANS", type := .double, accessFlags := 26, slot := 3, constantValue := 0 }, { name := "RADIANS_TO_DEGREES", type := .double, accessFlags := 26, slot := 4, constantValue := 0 }, { name := "negativeZeroFloatBits", type := .long, accessFlags := 26, slot := 5, constantValue := 0 }, { name := "negativeZeroDoubleBits", type := .long, accessFlags := 26, slot := 6, constantValue := 0 }, { name := "twoToTheDoubleScaleUp", type := .double, accessFlags := 8, slot := 7, constantValue := 0 }, { name := "twoToTheDoubleScaleDown", type := .double, accessFlags := 8, slot := 8, constantValue := 0 }, { name := "$assertionsDisabled", type := .boolean, accessFlags := 4120, slot := 9, constantValue := 0 }]
  methods := #[k16m0, k16m1]
  instanceTypes := #[]
  staticTypes := #[.double, .double, .double, .double, .double, .long, .long, .double, .double, .boolean]
  resolved := Array.replicate 460 none
  statics := none }

def pool17 : Array CpInfo := pool [(2, .class_ 4), (1, u "java/lang/Object"), (0, u "<init>"), (0, u "()V"), (1, .class_ 10), (1, u "java/lang/System"), (0, u "allowSecurityManager"), (0, u "I"), (16, u "cons"), (0, u "Ljava/io/Console;"), (77, .class_ 110), (1, u "java/lang/System$CallersHolder"), (43, u "initialErrStream"), (0, u "Ljava/io/PrintStream;"), (19, u "security"), (0, u "Ljava/lang/SecurityManager;"), (31, .class_ 209), (0, u "java/lang/System$1"), (7, u "props"), (0, u "Ljava/util/Properties;"), (2, u "lineSeparator"), (0, u "Ljava/lang/String;"), (96, .class_ 321), (1, u "java/lang/System$LoggerFinder"), (5, .class_ 328), (0, u "java/lang/System$Logger"), (67, u "err"), (2, u "out"), (91, u "notSupportedJnuEncoding"), (15, u "in"), (17, u "initialIn"), (0, u "Ljava/io/InputStream;"), (35, u "bootLayer"), (0, u "Ljava/lang/ModuleLayer;"), (99, .class_ 664), (0, u "java/lang/System$2"), (9, u "NEVER"), (2, u "MAYBE"), (49, u "arraycopy"), (0, u "(Ljava/lang/Object;ILjava/lang/Object;II)V"), (72, .class_ 802), (0, u "java/lang/System$Logger$Level")] 31

def k17m0 : Method := { name := "<init>", desc := "()V", sig := { parameters := [], returnType := none }, accessFlags := 2, code := none }
def k17m1 : Method := { name := "arraycopy", desc := "(Ljava/lang/Object;ILjava/lang/Object;II)V", sig := { parameters := [(.object "java/lang/Object"), .int, (.object "java/lang/Object"), .int, .int], returnType := none }, accessFlags := 265, code := none }
/-- java/lang/System -/
def k17 : Class := { plain "java/lang/System" (some 0) with
  accessFlags := 49
  interfaces := #[]
  cf := some (fileOf pool17 8 #[.nestMembers #[319, 327, 801, 108, 663, 208]] #[{ accessFlags := 2, nameIndex := 5, descriptorIndex := 6, attributes := #[] }, { accessFlags := 265, nameIndex := 727, descriptorIndex := 728, attributes := #[] }] 49 2 #[] #[{ accessFlags := 25, nameIndex := 507, descriptorIndex := 526, attributes := #[] }, { accessFlags := 25, nameIndex := 399, descriptorIndex := 155, attributes := #[] }, { accessFlags := 25, nameIndex := 396, descriptorIndex := 155, attributes := #[] }, { accessFlags := 10, nameIndex := 525, descriptorIndex := 526, attributes := #[] }, { accessFlags := 26, nameIndex := 674, descriptorIndex := 12, attributes := #[] }, { accessFlags := 26, nameIndex := 677, descriptorIndex := 12, attributes := #[] }, { accessFlags := 10, nameIndex := 11, descriptorIndex := 12, attributes := #[] }, { accessFlags := 74, nameIndex := 175, descriptorIndex := 176, attributes := #[] }, { accessFlags := 10, nameIndex := 491, descriptorIndex := 222, attributes := #[] }, { accessFlags := 74, nameIndex := 29, descriptorIndex := 30, attributes := #[] }, { accessFlags := 74, nameIndex := 154, descriptorIndex := 155, attributes := #[] }, { accessFlags := 10, nameIndex := 217, descriptorIndex := 218, attributes := #[] }, { accessFlags := 10, nameIndex := 221, descriptorIndex := 222, attributes := #[] }, { accessFlags := 8, nameIndex := 562, descriptorIndex := 563, attributes := #[] }])
  fields := #[{ name := "in", type := (.object "java/io/InputStream"), accessFlags := 25, slot := 0, constantValue := 0 }, { name := "out", type := (.object "java/io/PrintStream"), accessFlags := 25, slot := 1, constantValue := 0 }, { name := "err", type := (.object "java/io/PrintStream"), accessFlags := 25, slot := 2, constantValue := 0 }, { name := "initialIn", type := (.object "java/io/InputStream"), accessFlags := 10, slot := 3, constantValue := 0 }, { name := "NEVER", type := .int, accessFlags := 26, slot := 4, constantValue := 0 }, { name := "MAYBE", type := .int, accessFlags := 26, slot := 5, constantValue := 0 }, { name := "allowSecurityManager", type := .int, accessFlags := 10, slot := 6, constantValue := 0 }, { name := "security", type := (.object "java/lang/SecurityManager"), accessFlags := 74, slot := 7, constantValue := 0 }, { name := "notSupportedJnuEncoding", type := (.object "java/lang/String"), accessFlags := 10, slot := 8, constantValue := 0 }, { name := "cons", type := (.object "java/io/Console"), accessFlags := 74, slot := 9, constantValue := 0 }, { name := "initialErrStream", type := (.object "java/io/PrintStream"), accessFlags := 74, slot := 10, constantValue := 0 }, { name := "props", type := (.object "java/util/Properties"), accessFlags := 10, slot := 11, constantValue := 0 }, { name := "lineSeparator", type := (.object "java/lang/String"), accessFlags := 10, slot := 12, constantValue := 0 }, { name := "bootLayer", type := (.object "java/lang/ModuleLayer"), accessFlags := 8, slot := 13, constantValue := 0 }]
  methods := #[k17m0, k17m1]
  instanceTypes := #[]
  staticTypes := #[(.object "java/io/InputStream"), (.object "java/io/PrintStream"), (.object "java/io/PrintStream"), (.object "java/io/InputStream"), .int, .int, .int, (.object "java/lang/SecurityManager"), (.object "java/lang/String"), (.object "java/io/Console"), (.object "java/io/PrintStream"), (.object "java/util/Properties"), (.object "java/lang/String"), (.object "java/lang/ModuleLayer")]
  resolved := Array.replicate 834 none
  statics := none }

def pool18 : Array CpInfo := pool [(9, u "<init>"), (6, .class_ 18), (1, u "java/lang/Object"), (0, u "()V"), (1, .class_ 23), (1, u "jdk/internal/util/ArraysSupport"), (0, u "LOG2_ARRAY_LONG_INDEX_SCALE"), (0, u "I"), (2, u "U"), (0, u "Ljdk/internal/misc/Unsafe;"), (8, u "BIG_ENDIAN"), (0, u "Z"), (8, u "LOG2_BYTE_BIT_SIZE"), (4, u "LOG2_ARRAY_INT_INDEX_SCALE"), (54, u "JLA"), (0, u "Ljdk/internal/access/JavaLangAccess;"), (11, u "LOG2_ARRAY_BOOLEAN_INDEX_SCALE"), (9, u "LOG2_ARRAY_BYTE_INDEX_SCALE"), (5, u "LOG2_ARRAY_CHAR_INDEX_SCALE"), (5, u "LOG2_ARRAY_SHORT_INDEX_SCALE"), (18, u "LOG2_ARRAY_FLOAT_INDEX_SCALE"), (24, u "LOG2_ARRAY_DOUBLE_INDEX_SCALE"), (89, u "T_BOOLEAN"), (2, u "T_CHAR"), (1, u "T_FLOAT"), (1, u "T_DOUBLE"), (1, u "T_BYTE"), (1, u "T_SHORT"), (1, u "T_INT"), (1, u "T_LONG"), (1, u "SOFT_MAX_ARRAY_LENGTH")] 83

def k18m0 : Method := { name := "<init>", desc := "()V", sig := { parameters := [], returnType := none }, accessFlags := 2, code := none }
/-- jdk/internal/util/ArraysSupport -/
def k18 : Class := { plain "jdk/internal/util/ArraysSupport" (some 0) with
  accessFlags := 33
  interfaces := #[]
  cf := some (fileOf pool18 21 #[] #[{ accessFlags := 2, nameIndex := 9, descriptorIndex := 19, attributes := #[] }] 33 16 #[] #[{ accessFlags := 24, nameIndex := 28, descriptorIndex := 29, attributes := #[] }, { accessFlags := 26, nameIndex := 38, descriptorIndex := 39, attributes := #[] }, { accessFlags := 25, nameIndex := 121, descriptorIndex := 25, attributes := #[] }, { accessFlags := 25, nameIndex := 131, descriptorIndex := 25, attributes := #[] }, { accessFlags := 25, nameIndex := 137, descriptorIndex := 25, attributes := #[] }, { accessFlags := 25, nameIndex := 143, descriptorIndex := 25, attributes := #[] }, { accessFlags := 25, nameIndex := 53, descriptorIndex := 25, attributes := #[] }, { accessFlags := 25, nameIndex := 24, descriptorIndex := 25, attributes := #[] }, { accessFlags := 25, nameIndex := 162, descriptorIndex := 25, attributes := #[] }, { accessFlags := 25, nameIndex := 187, descriptorIndex := 25, attributes := #[] }, { accessFlags := 26, nameIndex := 48, descriptorIndex := 25, attributes := #[] }, { accessFlags := 25, nameIndex := 277, descriptorIndex := 25, attributes := #[] }, { accessFlags := 25, nameIndex := 280, descriptorIndex := 25, attributes := #[] }, { accessFlags := 25, nameIndex := 282, descriptorIndex := 25, attributes := #[] }, { accessFlags := 25, nameIndex := 284, descriptorIndex := 25, attributes := #[] }, { accessFlags := 25, nameIndex := 286, descriptorIndex := 25, attributes := #[] }, { accessFlags := 25, nameIndex := 288, descriptorIndex := 25, attributes := #[] }, { accessFlags := 25, nameIndex := 290, descriptorIndex := 25, attributes := #[] }, { accessFlags := 25, nameIndex := 292, descriptorIndex := 25, attributes := #[] }, { accessFlags := 26, nameIndex := 108, descriptorIndex := 109, attributes := #[] }, { accessFlags := 25, nameIndex := 294, descriptorIndex := 25, attributes := #[] }])
  fields := #[{ name := "U", type := (.object "jdk/internal/misc/Unsafe"), accessFlags := 24, slot := 0, constantValue := 0 }, { name := "BIG_ENDIAN", type := .boolean, accessFlags := 26, slot := 1, constantValue := 0 }, { name := "LOG2_ARRAY_BOOLEAN_INDEX_SCALE", type := .int, accessFlags := 25, slot := 2, constantValue := 0 }, { name := "LOG2_ARRAY_BYTE_INDEX_SCALE", type := .int, accessFlags := 25, slot := 3, constantValue := 0 }, { name := "LOG2_ARRAY_CHAR_INDEX_SCALE", type := .int, accessFlags := 25, slot := 4, constantValue := 0 }, { name := "LOG2_ARRAY_SHORT_INDEX_SCALE", type := .int, accessFlags := 25, slot := 5, constantValue := 0 }, { name := "LOG2_ARRAY_INT_INDEX_SCALE", type := .int, accessFlags := 25, slot := 6, constantValue := 0 }, { name := "LOG2_ARRAY_LONG_INDEX_SCALE", type := .int, accessFlags := 25, slot := 7, constantValue := 0 }, { name := "LOG2_ARRAY_FLOAT_INDEX_SCALE", type := .int, accessFlags := 25, slot := 8, constantValue := 0 }, { name := "LOG2_ARRAY_DOUBLE_INDEX_SCALE", type := .int, accessFlags := 25, slot := 9, constantValue := 0 }, { name := "LOG2_BYTE_BIT_SIZE", type := .int, accessFlags := 26, slot := 10, constantValue := 0 }, { name := "T_BOOLEAN", type := .int, accessFlags := 25, slot := 11, constantValue := 0 }, { name := "T_CHAR", type := .int, accessFlags := 25, slot := 12, constantValue := 0 }, { name := "T_FLOAT", type := .int, accessFlags := 25, slot := 13, constantValue := 0 }, { name := "T_DOUBLE", type := .int, accessFlags := 25, slot := 14, constantValue := 0 }, { name := "T_BYTE", type := .int, accessFlags := 25, slot := 15, constantValue := 0 }, { name := "T_SHORT", type := .int, accessFlags := 25, slot := 16, constantValue := 0 }, { name := "T_INT", type := .int, accessFlags := 25, slot := 17, constantValue := 0 }, { name := "T_LONG", type := .int, accessFlags := 25, slot := 18, constantValue := 0 }, { name := "JLA", type := (.object "jdk/internal/access/JavaLangAccess"), accessFlags := 26, slot := 19, constantValue := 0 }, { name := "SOFT_MAX_ARRAY_LENGTH", type := .int, accessFlags := 25, slot := 20, constantValue := 0 }]
  methods := #[k18m0]
  instanceTypes := #[]
  staticTypes := #[(.object "jdk/internal/misc/Unsafe"), .boolean, .int, .int, .int, .int, .int, .int, .int, .int, .int, .int, .int, .int, .int, .int, .int, .int, .int, (.object "jdk/internal/access/JavaLangAccess"), .int]
  resolved := Array.replicate 378 none
  statics := none }

/-- the primitive byte -/
def k19 : Class := { plain "byte" none with kind := .primitive 'B', accessFlags := 0x411 }
/-- [B -/
def k20 : Class := { plain "[B" (some 0) with kind := .array 19 .byte, interfaces := #[14, 6], accessFlags := 1041 }

/-- the primitive char -/
def k21 : Class := { plain "char" none with kind := .primitive 'C', accessFlags := 0x411 }
/-- [C -/
def k22 : Class := { plain "[C" (some 0) with kind := .array 21 .char, interfaces := #[14, 6], accessFlags := 1041 }

/-- the primitive int -/
def k23 : Class := { plain "int" none with kind := .primitive 'I', accessFlags := 0x411 }
/-- [I -/
def k24 : Class := { plain "[I" (some 0) with kind := .array 23 .int, interfaces := #[14, 6], accessFlags := 1041 }

def heap : Heap := #[{ cls := 2, slots := #[.null, .null, .null, .null, .ref 3], vm := .statics 2 },
  { cls := 11, slots := #[.long 0, .int 1, .null, .int 0, .null, .int 0, .int 0], vm := .statics 11 },
  { cls := 15, slots := #[.null, .null, .null], vm := .statics 15 },
  { cls := 22, slots := #[.int 48, .int 49, .int 50, .int 51, .int 52, .int 53, .int 54, .int 55, .int 56, .int 57, .int 65, .int 66, .int 67, .int 68, .int 69, .int 70], vm := .none }]
def classes : Array Class := #[k0, k1, k2, k3, k4, k5, k6, k7, k8, k9, k10, k11, k12, k13, k14, k15, k16, k17, k18, k19, k20, k21, k22, k23, k24]
def interned : List (Array UInt16 × Addr) := []
def slotsUsed : Nat := 31
def theMethod : MethodId := ⟨1, 1⟩
def args0 : Array Value := #[.int 65, .int 32, .int 200, .int 3]
def aboutOver (below : List Frame) : State where
  vm := { classes := classes, interned := interned.toArray }
  heap := heap
  slotsUsed := slotsUsed
  threads := #[{ frames := .invoking theMethod args0 :: below }]
def below0 : List Frame := [.native { method := ⟨0, 0⟩, args := #[] }]
def about1 : State := aboutOver below0
def p0 : Program := .bare "" "" ""
def e0 : Env := launch0.env 0 0 0
theorem w_frames : about1.frames = Frame.invoking theMethod args0 :: below0 := rfl
set_option maxRecDepth 65536 in
theorem w_args : argsFit about1.vm theMethod args0 = true := by decide +kernel
set_option maxRecDepth 65536 in
theorem w_heap : heapFits about1 = true := by decide +kernel
set_option maxRecDepth 65536 in
theorem w_runnable : about1.curStatus? = some .runnable := by decide +kernel
set_option maxRecDepth 65536 in
theorem w_alone : about1.alone = true := by decide +kernel
set_option maxRecDepth 65536 in
theorem w_named : about1.methodNamed? x = some theMethod := by decide +kernel
set_option maxRecDepth 65536 in
theorem w_hears : about1.hears theMethod below0 = true := by decide +kernel
set_option maxRecDepth 65536 in
theorem w_ripe : about1.ripe theMethod args0 below0 = true := by decide +kernel
theorem w_running : about1.status = .running := rfl
set_option maxRecDepth 65536 in
theorem w_room : about1.hasRoom e0.platform room_1 = true :=
  launch0.hasRoom_least _ room_1 (by decide +kernel) (by decide +kernel) (by decide +kernel) (by decide +kernel) (by decide +kernel) (by decide +kernel)
theorem allAtoms_all (ts : List Jvm.Cond) (a : Array Jvm.Value) (st : Jvm.State) : (allAtoms ts).before a st = ts.all (fun c => c.before a st) := by
  induction ts with
  | nil => rfl
  | cons c t ih =>
    show (Jvm.Cond.and c (allAtoms t)).before a st = _
    rw [Jvm.Cond.before_and, ih, List.all_cons]
def words1 : List Jvm.Cond := Jvm.Cond.code x code maxLocals ret :: tables_1
/-- a 'code' word, met by the world's own term for the bytes: nothing is compared byte by byte -/
theorem code_word {y : MethodName} {bytes : ByteArray} {mx : Nat} {rt : Option FieldType} {a : Array Value} {s : State} {m : MethodId} {meth : Method} {c : Code} (h1 : s.methodNamed? y = some m) (h2 : s.vm.method? m = some meth) (h3 : meth.code = some c) (h4 : c.code = bytes)
    (h5 : (c.maxLocals == mx && c.exceptionTable.isEmpty && decide (c.maxStack ≤ mostOperands) && decide (meth.sig.returnType = rt) && !meth.locks && decide (parseMethodDescriptor y.desc = some meth.sig)) = true) : (Jvm.Cond.code y bytes mx rt).before a s = true := by
  simp only [Bool.and_eq_true, beq_iff_eq, Bool.not_eq_true', decide_eq_true_eq] at h5
  obtain ⟨⟨⟨⟨⟨g1, g2⟩, g3⟩, g4⟩, g5⟩, g6⟩ := h5
  simp [Cond.before, Cond.holds, Cond.value, h1, h2, h3, h4, g1, g2, g3, g4, g5, g6]
def isCode : Jvm.Cond → Bool
  | .code _ _ _ _ => true
  | _ => false
theorem all_split {L : List Jvm.Cond} {P : Jvm.Cond → Bool} (h1 : L.all (fun c => isCode c || P c) = true) (h2 : ∀ c ∈ L.filter isCode, P c = true) : L.all P = true := by
  refine List.all_eq_true.mpr fun c hc => ?_
  have h := List.all_eq_true.mp h1 c hc
  rcases Bool.eq_false_or_eq_true (isCode c) with hi | hi
  · exact h2 c (List.mem_filter.mpr ⟨hc, hi⟩)
  · simpa [hi] using h
set_option maxRecDepth 65536 in
theorem w_c0 : (Jvm.Cond.code x code maxLocals ret).before args0 about1 = true := code_word (m := ⟨1, 1⟩) (meth := k1m1) (c := k1c1) (by decide +kernel) rfl rfl rfl (by decide +kernel)
set_option maxRecDepth 65536 in
theorem w_c1 : (Jvm.Cond.code ({ cls := "com/example/plumbago/plumbago/server/EntryPaths", name := "encode", desc := "([B)Ljava/lang/String;" } : Jvm.MethodName) prog_50_method_7_code (7 : Nat) (Option.some (Jvm.ClassFile.FieldType.object "java/lang/String"))).before args0 about1 = true := code_word (m := ⟨2, 1⟩) (meth := k2m1) (c := k2c1) (by decide +kernel) rfl rfl rfl (by decide +kernel)
set_option maxRecDepth 65536 in
theorem w_c2 : (Jvm.Cond.code ({ cls := "java/lang/StringBuilder", name := "<init>", desc := "(I)V" } : Jvm.MethodName) jdk_67_method_2_code (2 : Nat) (Option.none : Option Jvm.ClassFile.FieldType)).before args0 about1 = true := code_word (m := ⟨8, 1⟩) (meth := k8m1) (c := k8c1) (by decide +kernel) rfl rfl rfl (by decide +kernel)
set_option maxRecDepth 65536 in
theorem w_c3 : (Jvm.Cond.code ({ cls := "java/lang/AbstractStringBuilder", name := "<init>", desc := "(I)V" } : Jvm.MethodName) jdk_68_method_2_code (2 : Nat) (Option.none : Option Jvm.ClassFile.FieldType)).before args0 about1 = true := code_word (m := ⟨5, 1⟩) (meth := k5m1) (c := k5c1) (by decide +kernel) rfl rfl rfl (by decide +kernel)
set_option maxRecDepth 65536 in
theorem w_c4 : (Jvm.Cond.code ({ cls := "java/lang/Object", name := "<init>", desc := "()V" } : Jvm.MethodName) object_method_1_code (1 : Nat) (Option.none : Option Jvm.ClassFile.FieldType)).before args0 about1 = true := code_word (m := ⟨0, 0⟩) (meth := k0m0) (c := k0c0) (by decide +kernel) rfl rfl rfl (by decide +kernel)
set_option maxRecDepth 65536 in
theorem w_c5 : (Jvm.Cond.code ({ cls := "java/lang/StringBuilder", name := "append", desc := "(C)Ljava/lang/StringBuilder;" } : Jvm.MethodName) jdk_67_method_14_code (2 : Nat) (Option.some (Jvm.ClassFile.FieldType.object "java/lang/StringBuilder"))).before args0 about1 = true := code_word (m := ⟨8, 2⟩) (meth := k8m2) (c := k8c2) (by decide +kernel) rfl rfl rfl (by decide +kernel)
set_option maxRecDepth 65536 in
theorem w_c6 : (Jvm.Cond.code ({ cls := "java/lang/AbstractStringBuilder", name := "append", desc := "(C)Ljava/lang/AbstractStringBuilder;" } : Jvm.MethodName) jdk_68_method_31_code (2 : Nat) (Option.some (Jvm.ClassFile.FieldType.object "java/lang/AbstractStringBuilder"))).before args0 about1 = true := code_word (m := ⟨5, 4⟩) (meth := k5m4) (c := k5c4) (by decide +kernel) rfl rfl rfl (by decide +kernel)
set_option maxRecDepth 65536 in
theorem w_c7 : (Jvm.Cond.code ({ cls := "java/lang/AbstractStringBuilder", name := "ensureCapacityInternal", desc := "(I)V" } : Jvm.MethodName) jdk_68_method_9_code (3 : Nat) (Option.none : Option Jvm.ClassFile.FieldType)).before args0 about1 = true := code_word (m := ⟨5, 3⟩) (meth := k5m3) (c := k5c3) (by decide +kernel) rfl rfl rfl (by decide +kernel)
set_option maxRecDepth 65536 in
theorem w_c8 : (Jvm.Cond.code ({ cls := "java/lang/AbstractStringBuilder", name := "isLatin1", desc := "()Z" } : Jvm.MethodName) jdk_68_method_68_code (1 : Nat) (Option.some Jvm.ClassFile.FieldType.boolean)).before args0 about1 = true := code_word (m := ⟨5, 6⟩) (meth := k5m6) (c := k5c6) (by decide +kernel) rfl rfl rfl (by decide +kernel)
set_option maxRecDepth 65536 in
theorem w_c9 : (Jvm.Cond.code ({ cls := "java/lang/StringLatin1", name := "canEncode", desc := "(C)Z" } : Jvm.MethodName) jdk_43_method_3_code (1 : Nat) (Option.some Jvm.ClassFile.FieldType.boolean)).before args0 about1 = true := code_word (m := ⟨12, 2⟩) (meth := k12m2) (c := k12c2) (by decide +kernel) rfl rfl rfl (by decide +kernel)
set_option maxRecDepth 65536 in
theorem w_c10 : (Jvm.Cond.code ({ cls := "java/lang/StringBuilder", name := "toString", desc := "()Ljava/lang/String;" } : Jvm.MethodName) jdk_67_method_42_code (1 : Nat) (Option.some (Jvm.ClassFile.FieldType.object "java/lang/String"))).before args0 about1 = true := code_word (m := ⟨8, 3⟩) (meth := k8m3) (c := k8c3) (by decide +kernel) rfl rfl rfl (by decide +kernel)
set_option maxRecDepth 65536 in
theorem w_c11 : (Jvm.Cond.code ({ cls := "java/lang/String", name := "<init>", desc := "(Ljava/lang/StringBuilder;)V" } : Jvm.MethodName) jdk_42_method_53_code (2 : Nat) (Option.none : Option Jvm.ClassFile.FieldType)).before args0 about1 = true := code_word (m := ⟨11, 1⟩) (meth := k11m1) (c := k11c1) (by decide +kernel) rfl rfl rfl (by decide +kernel)
set_option maxRecDepth 65536 in
theorem w_c12 : (Jvm.Cond.code ({ cls := "java/lang/String", name := "<init>", desc := "(Ljava/lang/AbstractStringBuilder;Ljava/lang/Void;)V" } : Jvm.MethodName) jdk_42_method_150_code (5 : Nat) (Option.none : Option Jvm.ClassFile.FieldType)).before args0 about1 = true := code_word (m := ⟨11, 4⟩) (meth := k11m4) (c := k11c4) (by decide +kernel) rfl rfl rfl (by decide +kernel)
set_option maxRecDepth 65536 in
theorem w_c13 : (Jvm.Cond.code ({ cls := "java/lang/AbstractStringBuilder", name := "getValue", desc := "()[B" } : Jvm.MethodName) jdk_68_method_64_code (1 : Nat) (Option.some (Jvm.ClassFile.FieldType.array Jvm.ClassFile.FieldType.byte))).before args0 about1 = true := code_word (m := ⟨5, 5⟩) (meth := k5m5) (c := k5c5) (by decide +kernel) rfl rfl rfl (by decide +kernel)
set_option maxRecDepth 65536 in
theorem w_c14 : (Jvm.Cond.code ({ cls := "java/lang/StringBuilder", name := "length", desc := "()I" } : Jvm.MethodName) jdk_67_method_93_code (1 : Nat) (Option.some Jvm.ClassFile.FieldType.int)).before args0 about1 = true := code_word (m := ⟨8, 4⟩) (meth := k8m4) (c := k8c4) (by decide +kernel) rfl rfl rfl (by decide +kernel)
set_option maxRecDepth 65536 in
theorem w_c15 : (Jvm.Cond.code ({ cls := "java/lang/AbstractStringBuilder", name := "length", desc := "()I" } : Jvm.MethodName) jdk_68_method_6_code (1 : Nat) (Option.some Jvm.ClassFile.FieldType.int)).before args0 about1 = true := code_word (m := ⟨5, 2⟩) (meth := k5m2) (c := k5c2) (by decide +kernel) rfl rfl rfl (by decide +kernel)
set_option maxRecDepth 65536 in
theorem w_c16 : (Jvm.Cond.code ({ cls := "java/util/Arrays", name := "copyOfRange", desc := "([BII)[B" } : Jvm.MethodName) jdk_65_method_132_code (3 : Nat) (Option.some (Jvm.ClassFile.FieldType.array Jvm.ClassFile.FieldType.byte))).before args0 about1 = true := code_word (m := ⟨13, 2⟩) (meth := k13m2) (c := k13c2) (by decide +kernel) rfl rfl rfl (by decide +kernel)
set_option maxRecDepth 65536 in
theorem w_c17 : (Jvm.Cond.code ({ cls := "com/example/plumbago/plumbago/server/EntryPathsEncodePinLaw", name := "match", desc := "(Ljava/lang/String;II)I" } : Jvm.MethodName) method_5_code (3 : Nat) (Option.some Jvm.ClassFile.FieldType.int)).before args0 about1 = true := code_word (m := ⟨1, 4⟩) (meth := k1m4) (c := k1c4) (by decide +kernel) rfl rfl rfl (by decide +kernel)
set_option maxRecDepth 65536 in
theorem w_c18 : (Jvm.Cond.code ({ cls := "com/example/plumbago/plumbago/server/EntryPathsEncodePinLaw", name := "unreserved", desc := "(I)Z" } : Jvm.MethodName) method_3_code (1 : Nat) (Option.some Jvm.ClassFile.FieldType.boolean)).before args0 about1 = true := code_word (m := ⟨1, 2⟩) (meth := k1m2) (c := k1c2) (by decide +kernel) rfl rfl rfl (by decide +kernel)
set_option maxRecDepth 65536 in
theorem w_c19 : (Jvm.Cond.code ({ cls := "java/lang/String", name := "length", desc := "()I" } : Jvm.MethodName) jdk_42_method_54_code (1 : Nat) (Option.some Jvm.ClassFile.FieldType.int)).before args0 about1 = true := code_word (m := ⟨11, 2⟩) (meth := k11m2) (c := k11c2) (by decide +kernel) rfl rfl rfl (by decide +kernel)
set_option maxRecDepth 65536 in
theorem w_c20 : (Jvm.Cond.code ({ cls := "java/lang/String", name := "coder", desc := "()B" } : Jvm.MethodName) jdk_42_method_152_code (1 : Nat) (Option.some Jvm.ClassFile.FieldType.byte)).before args0 about1 = true := code_word (m := ⟨11, 5⟩) (meth := k11m5) (c := k11c5) (by decide +kernel) rfl rfl rfl (by decide +kernel)
set_option maxRecDepth 65536 in
theorem w_c21 : (Jvm.Cond.code ({ cls := "java/lang/String", name := "charAt", desc := "(I)C" } : Jvm.MethodName) jdk_42_method_56_code (2 : Nat) (Option.some Jvm.ClassFile.FieldType.char)).before args0 about1 = true := code_word (m := ⟨11, 3⟩) (meth := k11m3) (c := k11c3) (by decide +kernel) rfl rfl rfl (by decide +kernel)
set_option maxRecDepth 65536 in
theorem w_c22 : (Jvm.Cond.code ({ cls := "java/lang/String", name := "isLatin1", desc := "()Z" } : Jvm.MethodName) jdk_42_method_154_code (1 : Nat) (Option.some Jvm.ClassFile.FieldType.boolean)).before args0 about1 = true := code_word (m := ⟨11, 6⟩) (meth := k11m6) (c := k11c6) (by decide +kernel) rfl rfl rfl (by decide +kernel)
set_option maxRecDepth 65536 in
theorem w_c23 : (Jvm.Cond.code ({ cls := "java/lang/StringLatin1", name := "charAt", desc := "([BI)C" } : Jvm.MethodName) jdk_43_method_2_code (2 : Nat) (Option.some Jvm.ClassFile.FieldType.char)).before args0 about1 = true := code_word (m := ⟨12, 1⟩) (meth := k12m1) (c := k12c1) (by decide +kernel) rfl rfl rfl (by decide +kernel)
set_option maxRecDepth 65536 in
theorem w_c24 : (Jvm.Cond.code ({ cls := "java/lang/String", name := "checkIndex", desc := "(II)V" } : Jvm.MethodName) jdk_42_method_155_code (2 : Nat) (Option.none : Option Jvm.ClassFile.FieldType)).before args0 about1 = true := code_word (m := ⟨11, 7⟩) (meth := k11m7) (c := k11c7) (by decide +kernel) rfl rfl rfl (by decide +kernel)
set_option maxRecDepth 65536 in
theorem w_c25 : (Jvm.Cond.code ({ cls := "jdk/internal/util/Preconditions", name := "checkIndex", desc := "(IILjava/util/function/BiFunction;)I" } : Jvm.MethodName) jdk_41_method_11_code (3 : Nat) (Option.some Jvm.ClassFile.FieldType.int)).before args0 about1 = true := code_word (m := ⟨15, 1⟩) (meth := k15m1) (c := k15c1) (by decide +kernel) rfl rfl rfl (by decide +kernel)
set_option maxRecDepth 65536 in
theorem w_c26 : (Jvm.Cond.code ({ cls := "com/example/plumbago/plumbago/server/EntryPathsEncodePinLaw", name := "hex", desc := "(I)C" } : Jvm.MethodName) method_4_code (1 : Nat) (Option.some Jvm.ClassFile.FieldType.char)).before args0 about1 = true := code_word (m := ⟨1, 3⟩) (meth := k1m3) (c := k1c3) (by decide +kernel) rfl rfl rfl (by decide +kernel)
set_option maxRecDepth 65536 in
theorem w_c27 : (Jvm.Cond.code ({ cls := "java/util/Arrays", name := "copyOfRangeByte", desc := "([BII)[B" } : Jvm.MethodName) jdk_65_method_133_code (5 : Nat) (Option.some (Jvm.ClassFile.FieldType.array Jvm.ClassFile.FieldType.byte))).before args0 about1 = true := code_word (m := ⟨13, 3⟩) (meth := k13m3) (c := k13c3) (by decide +kernel) rfl rfl rfl (by decide +kernel)
set_option maxRecDepth 65536 in
theorem w_c28 : (Jvm.Cond.code ({ cls := "java/util/Arrays", name := "checkLength", desc := "(II)V" } : Jvm.MethodName) jdk_65_method_131_code (2 : Nat) (Option.none : Option Jvm.ClassFile.FieldType)).before args0 about1 = true := code_word (m := ⟨13, 1⟩) (meth := k13m1) (c := k13c1) (by decide +kernel) rfl rfl rfl (by decide +kernel)
set_option maxRecDepth 65536 in
theorem w_c29 : (Jvm.Cond.code ({ cls := "java/lang/Math", name := "min", desc := "(II)I" } : Jvm.MethodName) jdk_29_method_69_code (2 : Nat) (Option.some Jvm.ClassFile.FieldType.int)).before args0 about1 = true := code_word (m := ⟨16, 1⟩) (meth := k16m1) (c := k16c1) (by decide +kernel) rfl rfl rfl (by decide +kernel)
def codes1 : List Jvm.Cond := [Jvm.Cond.code x code maxLocals ret, Jvm.Cond.code ({ cls := "com/example/plumbago/plumbago/server/EntryPaths", name := "encode", desc := "([B)Ljava/lang/String;" } : Jvm.MethodName) prog_50_method_7_code (7 : Nat) (Option.some (Jvm.ClassFile.FieldType.object "java/lang/String")), Jvm.Cond.code ({ cls := "java/lang/StringBuilder", name := "<init>", desc := "(I)V" } : Jvm.MethodName) jdk_67_method_2_code (2 : Nat) (Option.none : Option Jvm.ClassFile.FieldType), Jvm.Cond.code ({ cls := "java/lang/AbstractStringBuilder", name := "<init>", desc := "(I)V" } : Jvm.MethodName) jdk_68_method_2_code (2 : Nat) (Option.none : Option Jvm.ClassFile.FieldType), Jvm.Cond.code ({ cls := "java/lang/Object", name := "<init>", desc := "()V" } : Jvm.MethodName) object_method_1_code (1 : Nat) (Option.none : Option Jvm.ClassFile.FieldType), Jvm.Cond.code ({ cls := "java/lang/StringBuilder", name := "append", desc := "(C)Ljava/lang/StringBuilder;" } : Jvm.MethodName) jdk_67_method_14_code (2 : Nat) (Option.some (Jvm.ClassFile.FieldType.object "java/lang/StringBuilder")), Jvm.Cond.code ({ cls := "java/lang/AbstractStringBuilder", name := "append", desc := "(C)Ljava/lang/AbstractStringBuilder;" } : Jvm.MethodName) jdk_68_method_31_code (2 : Nat) (Option.some (Jvm.ClassFile.FieldType.object "java/lang/AbstractStringBuilder")), Jvm.Cond.code ({ cls := "java/lang/AbstractStringBuilder", name := "ensureCapacityInternal", desc := "(I)V" } : Jvm.MethodName) jdk_68_method_9_code (3 : Nat) (Option.none : Option Jvm.ClassFile.FieldType), Jvm.Cond.code ({ cls := "java/lang/AbstractStringBuilder", name := "isLatin1", desc := "()Z" } : Jvm.MethodName) jdk_68_method_68_code (1 : Nat) (Option.some Jvm.ClassFile.FieldType.boolean), Jvm.Cond.code ({ cls := "java/lang/StringLatin1", name := "canEncode", desc := "(C)Z" } : Jvm.MethodName) jdk_43_method_3_code (1 : Nat) (Option.some Jvm.ClassFile.FieldType.boolean), Jvm.Cond.code ({ cls := "java/lang/StringBuilder", name := "toString", desc := "()Ljava/lang/String;" } : Jvm.MethodName) jdk_67_method_42_code (1 : Nat) (Option.some (Jvm.ClassFile.FieldType.object "java/lang/String")), Jvm.Cond.code ({ cls := "java/lang/String", name := "<init>", desc := "(Ljava/lang/StringBuilder;)V" } : Jvm.MethodName) jdk_42_method_53_code (2 : Nat) (Option.none : Option Jvm.ClassFile.FieldType), Jvm.Cond.code ({ cls := "java/lang/String", name := "<init>", desc := "(Ljava/lang/AbstractStringBuilder;Ljava/lang/Void;)V" } : Jvm.MethodName) jdk_42_method_150_code (5 : Nat) (Option.none : Option Jvm.ClassFile.FieldType), Jvm.Cond.code ({ cls := "java/lang/AbstractStringBuilder", name := "getValue", desc := "()[B" } : Jvm.MethodName) jdk_68_method_64_code (1 : Nat) (Option.some (Jvm.ClassFile.FieldType.array Jvm.ClassFile.FieldType.byte)), Jvm.Cond.code ({ cls := "java/lang/StringBuilder", name := "length", desc := "()I" } : Jvm.MethodName) jdk_67_method_93_code (1 : Nat) (Option.some Jvm.ClassFile.FieldType.int), Jvm.Cond.code ({ cls := "java/lang/AbstractStringBuilder", name := "length", desc := "()I" } : Jvm.MethodName) jdk_68_method_6_code (1 : Nat) (Option.some Jvm.ClassFile.FieldType.int), Jvm.Cond.code ({ cls := "java/util/Arrays", name := "copyOfRange", desc := "([BII)[B" } : Jvm.MethodName) jdk_65_method_132_code (3 : Nat) (Option.some (Jvm.ClassFile.FieldType.array Jvm.ClassFile.FieldType.byte)), Jvm.Cond.code ({ cls := "com/example/plumbago/plumbago/server/EntryPathsEncodePinLaw", name := "match", desc := "(Ljava/lang/String;II)I" } : Jvm.MethodName) method_5_code (3 : Nat) (Option.some Jvm.ClassFile.FieldType.int), Jvm.Cond.code ({ cls := "com/example/plumbago/plumbago/server/EntryPathsEncodePinLaw", name := "unreserved", desc := "(I)Z" } : Jvm.MethodName) method_3_code (1 : Nat) (Option.some Jvm.ClassFile.FieldType.boolean), Jvm.Cond.code ({ cls := "java/lang/String", name := "length", desc := "()I" } : Jvm.MethodName) jdk_42_method_54_code (1 : Nat) (Option.some Jvm.ClassFile.FieldType.int), Jvm.Cond.code ({ cls := "java/lang/String", name := "coder", desc := "()B" } : Jvm.MethodName) jdk_42_method_152_code (1 : Nat) (Option.some Jvm.ClassFile.FieldType.byte), Jvm.Cond.code ({ cls := "java/lang/String", name := "charAt", desc := "(I)C" } : Jvm.MethodName) jdk_42_method_56_code (2 : Nat) (Option.some Jvm.ClassFile.FieldType.char), Jvm.Cond.code ({ cls := "java/lang/String", name := "isLatin1", desc := "()Z" } : Jvm.MethodName) jdk_42_method_154_code (1 : Nat) (Option.some Jvm.ClassFile.FieldType.boolean), Jvm.Cond.code ({ cls := "java/lang/StringLatin1", name := "charAt", desc := "([BI)C" } : Jvm.MethodName) jdk_43_method_2_code (2 : Nat) (Option.some Jvm.ClassFile.FieldType.char), Jvm.Cond.code ({ cls := "java/lang/String", name := "checkIndex", desc := "(II)V" } : Jvm.MethodName) jdk_42_method_155_code (2 : Nat) (Option.none : Option Jvm.ClassFile.FieldType), Jvm.Cond.code ({ cls := "jdk/internal/util/Preconditions", name := "checkIndex", desc := "(IILjava/util/function/BiFunction;)I" } : Jvm.MethodName) jdk_41_method_11_code (3 : Nat) (Option.some Jvm.ClassFile.FieldType.int), Jvm.Cond.code ({ cls := "com/example/plumbago/plumbago/server/EntryPathsEncodePinLaw", name := "hex", desc := "(I)C" } : Jvm.MethodName) method_4_code (1 : Nat) (Option.some Jvm.ClassFile.FieldType.char), Jvm.Cond.code ({ cls := "java/util/Arrays", name := "copyOfRangeByte", desc := "([BII)[B" } : Jvm.MethodName) jdk_65_method_133_code (5 : Nat) (Option.some (Jvm.ClassFile.FieldType.array Jvm.ClassFile.FieldType.byte)), Jvm.Cond.code ({ cls := "java/util/Arrays", name := "checkLength", desc := "(II)V" } : Jvm.MethodName) jdk_65_method_131_code (2 : Nat) (Option.none : Option Jvm.ClassFile.FieldType), Jvm.Cond.code ({ cls := "java/lang/Math", name := "min", desc := "(II)I" } : Jvm.MethodName) jdk_29_method_69_code (2 : Nat) (Option.some Jvm.ClassFile.FieldType.int)]
set_option maxRecDepth 65536 in
theorem codes_eq : words1.filter isCode = codes1 := rfl
theorem w_codes : ∀ c ∈ words1.filter isCode, c.before args0 about1 = true := by
  rw [codes_eq]
  intro c hc
  simp only [codes1, List.mem_cons, List.not_mem_nil, or_false] at hc
  rcases hc with rfl | rfl | rfl | rfl | rfl | rfl | rfl | rfl | rfl | rfl | rfl | rfl | rfl | rfl | rfl | rfl | rfl | rfl | rfl | rfl | rfl | rfl | rfl | rfl | rfl | rfl | rfl | rfl | rfl | rfl
  · exact w_c0
  · exact w_c1
  · exact w_c2
  · exact w_c3
  · exact w_c4
  · exact w_c5
  · exact w_c6
  · exact w_c7
  · exact w_c8
  · exact w_c9
  · exact w_c10
  · exact w_c11
  · exact w_c12
  · exact w_c13
  · exact w_c14
  · exact w_c15
  · exact w_c16
  · exact w_c17
  · exact w_c18
  · exact w_c19
  · exact w_c20
  · exact w_c21
  · exact w_c22
  · exact w_c23
  · exact w_c24
  · exact w_c25
  · exact w_c26
  · exact w_c27
  · exact w_c28
  · exact w_c29
set_option maxRecDepth 65536 in
theorem w_t1 : (words1.take 24).all (fun c => isCode c || c.before args0 about1) = true := by decide +kernel
set_option maxRecDepth 65536 in
theorem w_t2 : ((words1.drop 24).take 24).all (fun c => isCode c || c.before args0 about1) = true := by decide +kernel
set_option maxRecDepth 65536 in
theorem w_t3 : (((words1.drop 24).drop 24).take 24).all (fun c => isCode c || c.before args0 about1) = true := by decide +kernel
set_option maxRecDepth 65536 in
theorem w_t4 : ((((words1.drop 24).drop 24).drop 24).take 24).all (fun c => isCode c || c.before args0 about1) = true := by decide +kernel
set_option maxRecDepth 65536 in
theorem w_t5 : (((((words1.drop 24).drop 24).drop 24).drop 24).take 24).all (fun c => isCode c || c.before args0 about1) = true := by decide +kernel
set_option maxRecDepth 65536 in
theorem w_t6 : ((((((words1.drop 24).drop 24).drop 24).drop 24).drop 24).take 24).all (fun c => isCode c || c.before args0 about1) = true := by decide +kernel
set_option maxRecDepth 65536 in
theorem w_t7 : ((((((words1.drop 24).drop 24).drop 24).drop 24).drop 24).drop 24).all (fun c => isCode c || c.before args0 about1) = true := by decide +kernel
theorem w_tables : (allAtoms (Jvm.Cond.code x code maxLocals ret :: tables_1)).before args0 about1 = true := by
  rw [allAtoms_all]
  show words1.all (fun c => c.before args0 about1) = true
  refine all_split ?_ w_codes
  rw [← List.take_append_drop 24 words1, List.all_append, w_t1, ← List.take_append_drop 24 (words1.drop 24), List.all_append, w_t2, ← List.take_append_drop 24 ((words1.drop 24).drop 24), List.all_append, w_t3, ← List.take_append_drop 24 (((words1.drop 24).drop 24).drop 24), List.all_append, w_t4, ← List.take_append_drop 24 ((((words1.drop 24).drop 24).drop 24).drop 24), List.all_append, w_t5, ← List.take_append_drop 24 (((((words1.drop 24).drop 24).drop 24).drop 24).drop 24), List.all_append, w_t6, w_t7]
  rfl
set_option maxRecDepth 65536 in
theorem w_rest : rest_1_c.before args0 about1 = true := by decide +kernel
set_option maxRecDepth 65536 in
theorem w_case : (Jvm.Cond.and given_1 narrow_1).before args0 about1 = true := by decide +kernel
theorem w_applies : (headSpec (Jvm.Cond.code x code maxLocals ret :: tables_1) room_1).applies x e0.platform about1 = true :=
  (Spec.applies_iff w_frames).mpr ⟨w_running, w_runnable, w_alone, w_named, w_hears, w_ripe, w_room, w_tables⟩
theorem atStart : AtStart classFile x code maxLocals ret World_1 tables_1 room_1 Calls_1 rest_1 Pre_1 launch0 p0 e0 about1 theMethod args0 below0 :=
  ⟨lists_1, trivial, launch0.admits_env _ _ _, launch0.least_env, fairChoices_fair.cas, fairChoices_fair.clock, w_frames, w_args, w_heap, w_applies, trivial, w_rest, w_case⟩
end start1
theorem witness_1 : WitnessClaimed_1 := ⟨start1.p0, start1.e0, start1.about1, start1.theMethod, start1.args0, start1.below0, start1.atStart⟩
end Jvm.Pilot.@@N@@
