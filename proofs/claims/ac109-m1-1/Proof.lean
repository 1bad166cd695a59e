import JvmDerived
import JvmDerived.Pilot.@@N@@Statement
import JvmDerived.Pilot.@@N@@Code
set_option linter.unusedVariables false
set_option linter.unusedSimpArgs false
namespace Jvm.RoadKit
open Sem ClassFile Op Lib Jvm.Stand Jvm.Free Jvm.LawKit
section New
variable {p : Program} {l : Launch} {e : Env} {R : Room} {s : State} {m : MethodId} {args : Array Value} {below : List Frame} {meth : Method} {c : Code} {T : State} {locs : List Loc} {cells slots : Nat}
theorem retI (X : Stand p l e R s m args below meth c T locs cells slots) (hx : p.tables.exec = Jvm.exec) {pc : Nat} {Ls : Array Slot} {z : Int32} {rest : List Value} (hret : meth.sig.returnType = some .int) (hd : decode c.code pc = .ok (.ireturn, 1)) {fs : List Frame}
    (hl : ∀ (f : JFrame) (acts : List Action), f.method = m → f.locked = none → f.entered = [] → (doReturn e (T.setTop f) acts (some (.int z))).1 = T.setFrames fs) : Steps p.tables e below (T.setTop (mkF m pc Ls (.int z :: rest))) (T.setFrames fs) := by
  have hm' : T.vm.method? m = some meth := X.method'
  have hn : narrow .int (.int z) = .int z := rfl
  show Steps p.tables e below (T.setTop { method := m, pc := pc, locals := Ls, stack := _ :: rest, locked := none }) _
  jvm_step X.here [X.here.top, hx, hd, hm', hret, hn]
  first | (intro acts; rw [hl _ acts rfl rfl rfl]) | rw [hl _ _ rfl rfl rfl]
  exact Steps.refl _
end New
/-- from W the run comes to a state and an outcome of which K holds -/
def OwnEnds (tb : Tables) (e : Env) (below : List Frame) (K : State → Outcome → Prop) (W : State) : Prop := ∃ t o, Steps tb e below W t ∧ K t o
theorem OwnEnds.via {tb : Tables} {e : Env} {below : List Frame} {K : State → Outcome → Prop} {W W' : State} (f : ∀ t, Steps tb e below W' t → Steps tb e below W t) (h : OwnEnds tb e below K W') : OwnEnds tb e below K W := by
  obtain ⟨t, o, h1, h2⟩ := h
  exact ⟨t, o, f t h1, h2⟩
theorem OwnEnds.cut {tb : Tables} {e : Env} {below : List Frame} {K : State → Outcome → Prop} {W : State} (A : (State → Prop) → Prop) (h1 : A (OwnEnds tb e below K)) (h2 : A (OwnEnds tb e below K) → OwnEnds tb e below K W) : OwnEnds tb e below K W := h2 h1
end Jvm.RoadKit
namespace Jvm.Pilot.@@N@@
open Jvm Jvm.ClassFile Sem Op Lib Jvm.Free Jvm.Stand Jvm.LawKit Jvm.RoadKit Bundle Jvm.Pilot.@@N@@.Jvm.D
def own_X (c : Int32) : Prop := c.toInt = 9 ∨ c.toInt = 10 ∨ c.toInt = 13 ∨ (32 ≤ c.toInt ∧ c.toInt ≤ 55295) ∨ (57344 ≤ c.toInt ∧ c.toInt ≤ 65533) ∨ (65536 ≤ c.toInt ∧ c.toInt ≤ 1114111)
instance (c : Int32) : Decidable (own_X c) := inferInstanceAs (Decidable (_ ∨ _))
theorem own_k0 : (0 : Int32).toInt = 0 := by decide
theorem own_k9 : (9 : Int32).toInt = 9 := by decide
theorem own_k10 : (10 : Int32).toInt = 10 := by decide
theorem own_k13 : (13 : Int32).toInt = 13 := by decide
theorem own_k32 : (32 : Int32).toInt = 32 := by decide
theorem own_k55295 : (55295 : Int32).toInt = 55295 := by decide
theorem own_k55296 : (55296 : Int32).toInt = 55296 := by decide
theorem own_k57343 : (57343 : Int32).toInt = 57343 := by decide
theorem own_k57344 : (57344 : Int32).toInt = 57344 := by decide
theorem own_k65533 : (65533 : Int32).toInt = 65533 := by decide
theorem own_k65534 : (65534 : Int32).toInt = 65534 := by decide
theorem own_k65535 : (65535 : Int32).toInt = 65535 := by decide
theorem own_k65536 : (65536 : Int32).toInt = 65536 := by decide
theorem own_k1114111 : (1114111 : Int32).toInt = 1114111 := by decide
theorem own_fit {v : Value} (h : fits .int v = true) : ∃ x, v = .int x := by cases v <;> simp [fits] at h ⊢
theorem own_ix (p : Int32) : ¬ ((p &&& (2147483647 : Int32)) % (17 : Int32)) < 0 ∧ ((p &&& (2147483647 : Int32)) % (17 : Int32)) < (17 : Int32) := by
  rw [Int32.lt_iff_toInt_lt, Int32.lt_iff_toInt_lt]
  have hm := c_mask p (2147483647 : Int32) 31 (by decide) (by decide)
  have h0 : 0 ≤ (p &&& (2147483647 : Int32)).toInt := by rw [hm]; exact Int.emod_nonneg _ (by decide)
  have h := (c_irem (p &&& (2147483647 : Int32)) 17 17 (by decide)).1 h0
  rw [h]
  have z : (0 : Int32).toInt = 0 := by decide
  have z2 : (17 : Int32).toInt = 17 := by decide
  omega

theorem d1_0 : decode prog_37_method_2_code 0 = .ok (.iload_n 0, 1) := by decide +kernel
theorem d1_1 : decode prog_37_method_2_code 1 = .ok (.bipush 9, 2) := by decide +kernel
theorem d1_3 : decode prog_37_method_2_code 3 = .ok (.if_icmp .eq 51, 3) := by decide +kernel
theorem d1_6 : decode prog_37_method_2_code 6 = .ok (.iload_n 0, 1) := by decide +kernel
theorem d1_7 : decode prog_37_method_2_code 7 = .ok (.bipush 10, 2) := by decide +kernel
theorem d1_9 : decode prog_37_method_2_code 9 = .ok (.if_icmp .eq 45, 3) := by decide +kernel
theorem d1_12 : decode prog_37_method_2_code 12 = .ok (.iload_n 0, 1) := by decide +kernel
theorem d1_13 : decode prog_37_method_2_code 13 = .ok (.bipush 13, 2) := by decide +kernel
theorem d1_15 : decode prog_37_method_2_code 15 = .ok (.if_icmp .eq 39, 3) := by decide +kernel
theorem d1_18 : decode prog_37_method_2_code 18 = .ok (.iload_n 0, 1) := by decide +kernel
theorem d1_19 : decode prog_37_method_2_code 19 = .ok (.bipush 32, 2) := by decide +kernel
theorem d1_21 : decode prog_37_method_2_code 21 = .ok (.if_icmp .lt 9, 3) := by decide +kernel
theorem d1_24 : decode prog_37_method_2_code 24 = .ok (.iload_n 0, 1) := by decide +kernel
theorem d1_25 : decode prog_37_method_2_code 25 = .ok (.ldc 7, 2) := by decide +kernel
theorem d1_27 : decode prog_37_method_2_code 27 = .ok (.if_icmp .le 27, 3) := by decide +kernel
theorem d1_30 : decode prog_37_method_2_code 30 = .ok (.iload_n 0, 1) := by decide +kernel
theorem d1_31 : decode prog_37_method_2_code 31 = .ok (.ldc 8, 2) := by decide +kernel
theorem d1_33 : decode prog_37_method_2_code 33 = .ok (.if_icmp .lt 9, 3) := by decide +kernel
theorem d1_36 : decode prog_37_method_2_code 36 = .ok (.iload_n 0, 1) := by decide +kernel
theorem d1_37 : decode prog_37_method_2_code 37 = .ok (.ldc 9, 2) := by decide +kernel
theorem d1_39 : decode prog_37_method_2_code 39 = .ok (.if_icmp .le 15, 3) := by decide +kernel
theorem d1_42 : decode prog_37_method_2_code 42 = .ok (.iload_n 0, 1) := by decide +kernel
theorem d1_43 : decode prog_37_method_2_code 43 = .ok (.ldc 10, 2) := by decide +kernel
theorem d1_45 : decode prog_37_method_2_code 45 = .ok (.if_icmp .lt 13, 3) := by decide +kernel
theorem d1_48 : decode prog_37_method_2_code 48 = .ok (.iload_n 0, 1) := by decide +kernel
theorem d1_49 : decode prog_37_method_2_code 49 = .ok (.ldc 11, 2) := by decide +kernel
theorem d1_51 : decode prog_37_method_2_code 51 = .ok (.if_icmp .gt 7, 3) := by decide +kernel
theorem d1_54 : decode prog_37_method_2_code 54 = .ok (.iconst 1, 1) := by decide +kernel
theorem d1_55 : decode prog_37_method_2_code 55 = .ok (.goto 4, 3) := by decide +kernel
theorem d1_58 : decode prog_37_method_2_code 58 = .ok (.iconst 0, 1) := by decide +kernel
theorem d1_59 : decode prog_37_method_2_code 59 = .ok (.ireturn, 1) := by decide +kernel
theorem pn_rm1 : plainName "com/example/enlace/enlace/wire/XmlCharacters" = true := by first | (simp [plainName, overriddenIn]; done) | decide +kernel
theorem ef_rm1 (m : MethodId) (ch : Int32) : entryFrame m #[(.int ch)] 1 = mkF m 0 #[.val (.int ch)] [] := by first | (simp [entryFrame, mkF, argsToLocals, Value.category]; done) | rfl
def Q1 (Z : State) (ch : Int32) (h0 : Heap) (n0 : Nat) (v : Option Value) (h : Heap) (L : List Loc) : Prop := v = some (.int (if own_X ch then (1 : Int32) else (0 : Int32))) ∧ Fr n0 L ∧ h = h0
set_option maxRecDepth 65536 in
set_option maxHeartbeats 40000000 in
theorem rm1 (l : Launch) (Z : State) (a0 : Array Value) (hw : ∀ d ∈ tables_1, d.before a0 Z = true) (ws : List Jvm.Cond) (ch : Int32) (h0 : Heap) (n0 : Nat) (Z0 : n0 ≤ h0.size)  :
    MetFree l (⟨"com/example/enlace/enlace/wire/XmlCharacters", "allowed", "(I)Z"⟩ : MethodName) (head1 (Jvm.Cond.code (⟨"com/example/enlace/enlace/wire/XmlCharacters", "allowed", "(I)Z"⟩ : MethodName) prog_37_method_2_code 1 (some .boolean) :: ws) ({ frames := 0, cells := 0, slots := 0, locals := 0 } : Room)) (fun aa U => aa = #[(.int ch)] ∧ Z.Warmed39 U.vm ∧ U.heap = h0) (fun _ _ _ _ _ => True) (fun _ U o U' => ∃ v L, o = .returned v ∧ Q1 Z ch h0 n0 v U'.heap L ∧ FrameEnd U o U' L ({ frames := 0, cells := 0, slots := 0, locals := 0 } : Room).cells ({ frames := 0, cells := 0, slots := 0, locals := 0 } : Room).slots) := by
  refine MetFree.of_bodySF (plainFor_of_name pn_rm1) hisR ?_
  intro p e s m args below meth c s₁ Bd hml0 hP hK
  obtain ⟨rfl, hZ, hh⟩ := hP
  have hx := Bd.exec
  have hby := Bd.bytes
  have hml : c.maxLocals = 1 := hml0
  have hown : s.vm.findClass "com/example/enlace/enlace/wire/XmlCharacters" = some m.cls := findClass_of_methodNamed Bd.named
  have hnm := (name_of_methodNamed Bd.named Bd.method).1
  have X0 : Stand p l e ({ frames := 0, cells := 0, slots := 0, locals := 0 } : Room) s m #[(.int ch)] below meth c s₁ [] 0 0 := Stand.of_body Bd
  have e0 : s₁.heap = h0 := by rw [← hh, Bd.state]; rfl
  have N0 := Fr.nil n0
  change OwnEnds p.tables e below _ _
  refine OwnEnds.via (fun t k => castTop (ef_rm1 m ch) k) ?_
  show OwnEnds _ _ _ _ (s₁.setTop (mkF m 0 #[.val (.int ch)] []))
  refine OwnEnds.via (fun t k => XS.iloadN X0.here hx rfl (hb hby d1_0) rfl k) ?_
  show OwnEnds _ _ _ _ (s₁.setTop (mkF m 1 #[.val (.int ch)] [(.int ch)]))
  refine OwnEnds.via (fun t k => XS.bipush X0.here hx rfl (hb hby d1_1) k) ?_
  show OwnEnds _ _ _ _ (s₁.setTop (mkF m 3 #[.val (.int ch)] [(.int (9 : Int32)), (.int ch)]))
  by_cases hc3_1 : ch = (9 : Int32)
  ·
    refine OwnEnds.via (fun t k => XS.icmpYes X0.here hx rfl (pc0 := 3) (pc' := 54) rfl (hb hby d1_3) rfl (teq hc3_1).1 (by decide) (by decide) k) ?_
    show OwnEnds _ _ _ _ (s₁.setTop (mkF m 54 #[.val (.int ch)] []))
    refine OwnEnds.via (fun t k => XS.iconst X0.here hx rfl (hb hby d1_54) k) ?_
    show OwnEnds _ _ _ _ (s₁.setTop (mkF m 55 #[.val (.int ch)] [(.int (1 : Int32))]))
    refine OwnEnds.via (fun t k => XS.goto X0.here hx rfl (pc0 := 55) (pc' := 59) rfl (hb hby d1_55) (by decide) (by decide) k) ?_
    show OwnEnds _ _ _ _ (s₁.setTop (mkF m 59 #[.val (.int ch)] [(.int (1 : Int32))]))
    obtain ⟨fs, hr, hrun, hended, hW, hsame⟩ := X0.leave (v := some (.int (1 : Int32))) (fun h => by rw [Bd.returns] at h; cases h)
    refine ⟨_, _, ?_, hrun, hended, _, _, rfl, ?_, ⟨_, rfl⟩, hW, hsame.mono (by decide) (by decide)⟩
    · exact retN X0 hx (t := .boolean) Bd.returns (by simp) (hb hby d1_59) hr
    · show Q1 Z ch h0 n0 _ s₁.heap _
      rw [e0]
      exact ⟨(by rw [if_pos (by simp only [← Int32.toInt_inj, Int32.lt_iff_toInt_lt, own_k0, own_k9, own_k10, own_k13, own_k32, own_k55295, own_k55296, own_k57343, own_k57344, own_k65533, own_k65534, own_k65535, own_k65536, own_k1114111] at hc3_1; unfold own_X; omega)]), N0, rfl⟩
  ·
    refine OwnEnds.via (fun t k => XS.icmpNo X0.here hx rfl (hb hby d1_3) rfl (feq hc3_1).1 k) ?_
    show OwnEnds _ _ _ _ (s₁.setTop (mkF m 6 #[.val (.int ch)] []))
    refine OwnEnds.via (fun t k => XS.iloadN X0.here hx rfl (hb hby d1_6) rfl k) ?_
    show OwnEnds _ _ _ _ (s₁.setTop (mkF m 7 #[.val (.int ch)] [(.int ch)]))
    refine OwnEnds.via (fun t k => XS.bipush X0.here hx rfl (hb hby d1_7) k) ?_
    show OwnEnds _ _ _ _ (s₁.setTop (mkF m 9 #[.val (.int ch)] [(.int (10 : Int32)), (.int ch)]))
    by_cases hc9_2 : ch = (10 : Int32)
    ·
      refine OwnEnds.via (fun t k => XS.icmpYes X0.here hx rfl (pc0 := 9) (pc' := 54) rfl (hb hby d1_9) rfl (teq hc9_2).1 (by decide) (by decide) k) ?_
      show OwnEnds _ _ _ _ (s₁.setTop (mkF m 54 #[.val (.int ch)] []))
      refine OwnEnds.via (fun t k => XS.iconst X0.here hx rfl (hb hby d1_54) k) ?_
      show OwnEnds _ _ _ _ (s₁.setTop (mkF m 55 #[.val (.int ch)] [(.int (1 : Int32))]))
      refine OwnEnds.via (fun t k => XS.goto X0.here hx rfl (pc0 := 55) (pc' := 59) rfl (hb hby d1_55) (by decide) (by decide) k) ?_
      show OwnEnds _ _ _ _ (s₁.setTop (mkF m 59 #[.val (.int ch)] [(.int (1 : Int32))]))
      obtain ⟨fs, hr, hrun, hended, hW, hsame⟩ := X0.leave (v := some (.int (1 : Int32))) (fun h => by rw [Bd.returns] at h; cases h)
      refine ⟨_, _, ?_, hrun, hended, _, _, rfl, ?_, ⟨_, rfl⟩, hW, hsame.mono (by decide) (by decide)⟩
      · exact retN X0 hx (t := .boolean) Bd.returns (by simp) (hb hby d1_59) hr
      · show Q1 Z ch h0 n0 _ s₁.heap _
        rw [e0]
        exact ⟨(by rw [if_pos (by simp only [← Int32.toInt_inj, Int32.lt_iff_toInt_lt, own_k0, own_k9, own_k10, own_k13, own_k32, own_k55295, own_k55296, own_k57343, own_k57344, own_k65533, own_k65534, own_k65535, own_k65536, own_k1114111] at hc3_1 hc9_2; unfold own_X; omega)]), N0, rfl⟩
    ·
      refine OwnEnds.via (fun t k => XS.icmpNo X0.here hx rfl (hb hby d1_9) rfl (feq hc9_2).1 k) ?_
      show OwnEnds _ _ _ _ (s₁.setTop (mkF m 12 #[.val (.int ch)] []))
      refine OwnEnds.via (fun t k => XS.iloadN X0.here hx rfl (hb hby d1_12) rfl k) ?_
      show OwnEnds _ _ _ _ (s₁.setTop (mkF m 13 #[.val (.int ch)] [(.int ch)]))
      refine OwnEnds.via (fun t k => XS.bipush X0.here hx rfl (hb hby d1_13) k) ?_
      show OwnEnds _ _ _ _ (s₁.setTop (mkF m 15 #[.val (.int ch)] [(.int (13 : Int32)), (.int ch)]))
      by_cases hc15_3 : ch = (13 : Int32)
      ·
        refine OwnEnds.via (fun t k => XS.icmpYes X0.here hx rfl (pc0 := 15) (pc' := 54) rfl (hb hby d1_15) rfl (teq hc15_3).1 (by decide) (by decide) k) ?_
        show OwnEnds _ _ _ _ (s₁.setTop (mkF m 54 #[.val (.int ch)] []))
        refine OwnEnds.via (fun t k => XS.iconst X0.here hx rfl (hb hby d1_54) k) ?_
        show OwnEnds _ _ _ _ (s₁.setTop (mkF m 55 #[.val (.int ch)] [(.int (1 : Int32))]))
        refine OwnEnds.via (fun t k => XS.goto X0.here hx rfl (pc0 := 55) (pc' := 59) rfl (hb hby d1_55) (by decide) (by decide) k) ?_
        show OwnEnds _ _ _ _ (s₁.setTop (mkF m 59 #[.val (.int ch)] [(.int (1 : Int32))]))
        obtain ⟨fs, hr, hrun, hended, hW, hsame⟩ := X0.leave (v := some (.int (1 : Int32))) (fun h => by rw [Bd.returns] at h; cases h)
        refine ⟨_, _, ?_, hrun, hended, _, _, rfl, ?_, ⟨_, rfl⟩, hW, hsame.mono (by decide) (by decide)⟩
        · exact retN X0 hx (t := .boolean) Bd.returns (by simp) (hb hby d1_59) hr
        · show Q1 Z ch h0 n0 _ s₁.heap _
          rw [e0]
          exact ⟨(by rw [if_pos (by simp only [← Int32.toInt_inj, Int32.lt_iff_toInt_lt, own_k0, own_k9, own_k10, own_k13, own_k32, own_k55295, own_k55296, own_k57343, own_k57344, own_k65533, own_k65534, own_k65535, own_k65536, own_k1114111] at hc3_1 hc9_2 hc15_3; unfold own_X; omega)]), N0, rfl⟩
      ·
        refine OwnEnds.via (fun t k => XS.icmpNo X0.here hx rfl (hb hby d1_15) rfl (feq hc15_3).1 k) ?_
        show OwnEnds _ _ _ _ (s₁.setTop (mkF m 18 #[.val (.int ch)] []))
        refine OwnEnds.via (fun t k => XS.iloadN X0.here hx rfl (hb hby d1_18) rfl k) ?_
        show OwnEnds _ _ _ _ (s₁.setTop (mkF m 19 #[.val (.int ch)] [(.int ch)]))
        refine OwnEnds.via (fun t k => XS.bipush X0.here hx rfl (hb hby d1_19) k) ?_
        show OwnEnds _ _ _ _ (s₁.setTop (mkF m 21 #[.val (.int ch)] [(.int (32 : Int32)), (.int ch)]))
        by_cases hc21_4 : ch < (32 : Int32)
        ·
          refine OwnEnds.via (fun t k => XS.icmpYes X0.here hx rfl (pc0 := 21) (pc' := 30) rfl (hb hby d1_21) rfl (tlt hc21_4).1 (by decide) (by decide) k) ?_
          show OwnEnds _ _ _ _ (s₁.setTop (mkF m 30 #[.val (.int ch)] []))
          refine OwnEnds.via (fun t k => XS.iloadN X0.here hx rfl (hb hby d1_30) rfl k) ?_
          show OwnEnds _ _ _ _ (s₁.setTop (mkF m 31 #[.val (.int ch)] [(.int ch)]))
          refine OwnEnds.via (X0.ldcInt hx hown (mvT hZ (hw _ (List.mem_of_getElem? (i := 17) rfl))) (g := (mkF m 31 #[.val (.int ch)] [(.int ch)])) rfl (hb hby d1_31)) ?_
          show OwnEnds _ _ _ _ (s₁.setTop (mkF m 33 #[.val (.int ch)] [(.int (57344 : Int32)), (.int ch)]))
          by_cases hc33_5 : ch < (57344 : Int32)
          ·
            refine OwnEnds.via (fun t k => XS.icmpYes X0.here hx rfl (pc0 := 33) (pc' := 42) rfl (hb hby d1_33) rfl (tlt hc33_5).1 (by decide) (by decide) k) ?_
            show OwnEnds _ _ _ _ (s₁.setTop (mkF m 42 #[.val (.int ch)] []))
            refine OwnEnds.via (fun t k => XS.iloadN X0.here hx rfl (hb hby d1_42) rfl k) ?_
            show OwnEnds _ _ _ _ (s₁.setTop (mkF m 43 #[.val (.int ch)] [(.int ch)]))
            refine OwnEnds.via (X0.ldcInt hx hown (mvT hZ (hw _ (List.mem_of_getElem? (i := 18) rfl))) (g := (mkF m 43 #[.val (.int ch)] [(.int ch)])) rfl (hb hby d1_43)) ?_
            show OwnEnds _ _ _ _ (s₁.setTop (mkF m 45 #[.val (.int ch)] [(.int (65536 : Int32)), (.int ch)]))
            by_cases hc45_6 : ch < (65536 : Int32)
            ·
              refine OwnEnds.via (fun t k => XS.icmpYes X0.here hx rfl (pc0 := 45) (pc' := 58) rfl (hb hby d1_45) rfl (tlt hc45_6).1 (by decide) (by decide) k) ?_
              show OwnEnds _ _ _ _ (s₁.setTop (mkF m 58 #[.val (.int ch)] []))
              refine OwnEnds.via (fun t k => XS.iconst X0.here hx rfl (hb hby d1_58) k) ?_
              show OwnEnds _ _ _ _ (s₁.setTop (mkF m 59 #[.val (.int ch)] [(.int (0 : Int32))]))
              obtain ⟨fs, hr, hrun, hended, hW, hsame⟩ := X0.leave (v := some (.int (0 : Int32))) (fun h => by rw [Bd.returns] at h; cases h)
              refine ⟨_, _, ?_, hrun, hended, _, _, rfl, ?_, ⟨_, rfl⟩, hW, hsame.mono (by decide) (by decide)⟩
              · exact retN X0 hx (t := .boolean) Bd.returns (by simp) (hb hby d1_59) hr
              · show Q1 Z ch h0 n0 _ s₁.heap _
                rw [e0]
                exact ⟨(by rw [if_neg (by simp only [← Int32.toInt_inj, Int32.lt_iff_toInt_lt, own_k0, own_k9, own_k10, own_k13, own_k32, own_k55295, own_k55296, own_k57343, own_k57344, own_k65533, own_k65534, own_k65535, own_k65536, own_k1114111] at hc3_1 hc9_2 hc15_3 hc21_4 hc33_5 hc45_6; unfold own_X; omega)]), N0, rfl⟩
            ·
              refine OwnEnds.via (fun t k => XS.icmpNo X0.here hx rfl (hb hby d1_45) rfl (flt hc45_6).1 k) ?_
              show OwnEnds _ _ _ _ (s₁.setTop (mkF m 48 #[.val (.int ch)] []))
              refine OwnEnds.via (fun t k => XS.iloadN X0.here hx rfl (hb hby d1_48) rfl k) ?_
              show OwnEnds _ _ _ _ (s₁.setTop (mkF m 49 #[.val (.int ch)] [(.int ch)]))
              refine OwnEnds.via (X0.ldcInt hx hown (mvT hZ (hw _ (List.mem_of_getElem? (i := 25) rfl))) (g := (mkF m 49 #[.val (.int ch)] [(.int ch)])) rfl (hb hby d1_49)) ?_
              show OwnEnds _ _ _ _ (s₁.setTop (mkF m 51 #[.val (.int ch)] [(.int (1114111 : Int32)), (.int ch)]))
              by_cases hc51_7 : (1114111 : Int32) < ch
              ·
                refine OwnEnds.via (fun t k => XS.icmpYes X0.here hx rfl (pc0 := 51) (pc' := 58) rfl (hb hby d1_51) rfl (tlt hc51_7).2.2.1 (by decide) (by decide) k) ?_
                show OwnEnds _ _ _ _ (s₁.setTop (mkF m 58 #[.val (.int ch)] []))
                refine OwnEnds.via (fun t k => XS.iconst X0.here hx rfl (hb hby d1_58) k) ?_
                show OwnEnds _ _ _ _ (s₁.setTop (mkF m 59 #[.val (.int ch)] [(.int (0 : Int32))]))
                obtain ⟨fs, hr, hrun, hended, hW, hsame⟩ := X0.leave (v := some (.int (0 : Int32))) (fun h => by rw [Bd.returns] at h; cases h)
                refine ⟨_, _, ?_, hrun, hended, _, _, rfl, ?_, ⟨_, rfl⟩, hW, hsame.mono (by decide) (by decide)⟩
                · exact retN X0 hx (t := .boolean) Bd.returns (by simp) (hb hby d1_59) hr
                · show Q1 Z ch h0 n0 _ s₁.heap _
                  rw [e0]
                  exact ⟨(by rw [if_neg (by simp only [← Int32.toInt_inj, Int32.lt_iff_toInt_lt, own_k0, own_k9, own_k10, own_k13, own_k32, own_k55295, own_k55296, own_k57343, own_k57344, own_k65533, own_k65534, own_k65535, own_k65536, own_k1114111] at hc3_1 hc9_2 hc15_3 hc21_4 hc33_5 hc45_6 hc51_7; unfold own_X; omega)]), N0, rfl⟩
              ·
                refine OwnEnds.via (fun t k => XS.icmpNo X0.here hx rfl (hb hby d1_51) rfl (flt hc51_7).2.2.1 k) ?_
                show OwnEnds _ _ _ _ (s₁.setTop (mkF m 54 #[.val (.int ch)] []))
                refine OwnEnds.via (fun t k => XS.iconst X0.here hx rfl (hb hby d1_54) k) ?_
                show OwnEnds _ _ _ _ (s₁.setTop (mkF m 55 #[.val (.int ch)] [(.int (1 : Int32))]))
                refine OwnEnds.via (fun t k => XS.goto X0.here hx rfl (pc0 := 55) (pc' := 59) rfl (hb hby d1_55) (by decide) (by decide) k) ?_
                show OwnEnds _ _ _ _ (s₁.setTop (mkF m 59 #[.val (.int ch)] [(.int (1 : Int32))]))
                obtain ⟨fs, hr, hrun, hended, hW, hsame⟩ := X0.leave (v := some (.int (1 : Int32))) (fun h => by rw [Bd.returns] at h; cases h)
                refine ⟨_, _, ?_, hrun, hended, _, _, rfl, ?_, ⟨_, rfl⟩, hW, hsame.mono (by decide) (by decide)⟩
                · exact retN X0 hx (t := .boolean) Bd.returns (by simp) (hb hby d1_59) hr
                · show Q1 Z ch h0 n0 _ s₁.heap _
                  rw [e0]
                  exact ⟨(by rw [if_pos (by simp only [← Int32.toInt_inj, Int32.lt_iff_toInt_lt, own_k0, own_k9, own_k10, own_k13, own_k32, own_k55295, own_k55296, own_k57343, own_k57344, own_k65533, own_k65534, own_k65535, own_k65536, own_k1114111] at hc3_1 hc9_2 hc15_3 hc21_4 hc33_5 hc45_6 hc51_7; unfold own_X; omega)]), N0, rfl⟩
          ·
            refine OwnEnds.via (fun t k => XS.icmpNo X0.here hx rfl (hb hby d1_33) rfl (flt hc33_5).1 k) ?_
            show OwnEnds _ _ _ _ (s₁.setTop (mkF m 36 #[.val (.int ch)] []))
            refine OwnEnds.via (fun t k => XS.iloadN X0.here hx rfl (hb hby d1_36) rfl k) ?_
            show OwnEnds _ _ _ _ (s₁.setTop (mkF m 37 #[.val (.int ch)] [(.int ch)]))
            refine OwnEnds.via (X0.ldcInt hx hown (mvT hZ (hw _ (List.mem_of_getElem? (i := 24) rfl))) (g := (mkF m 37 #[.val (.int ch)] [(.int ch)])) rfl (hb hby d1_37)) ?_
            show OwnEnds _ _ _ _ (s₁.setTop (mkF m 39 #[.val (.int ch)] [(.int (65533 : Int32)), (.int ch)]))
            by_cases hc39_8 : (65533 : Int32) < ch
            ·
              refine OwnEnds.via (fun t k => XS.icmpNo X0.here hx rfl (hb hby d1_39) rfl (tlt hc39_8).2.2.2 k) ?_
              show OwnEnds _ _ _ _ (s₁.setTop (mkF m 42 #[.val (.int ch)] []))
              refine OwnEnds.via (fun t k => XS.iloadN X0.here hx rfl (hb hby d1_42) rfl k) ?_
              show OwnEnds _ _ _ _ (s₁.setTop (mkF m 43 #[.val (.int ch)] [(.int ch)]))
              refine OwnEnds.via (X0.ldcInt hx hown (mvT hZ (hw _ (List.mem_of_getElem? (i := 18) rfl))) (g := (mkF m 43 #[.val (.int ch)] [(.int ch)])) rfl (hb hby d1_43)) ?_
              show OwnEnds _ _ _ _ (s₁.setTop (mkF m 45 #[.val (.int ch)] [(.int (65536 : Int32)), (.int ch)]))
              by_cases hc45_9 : ch < (65536 : Int32)
              ·
                refine OwnEnds.via (fun t k => XS.icmpYes X0.here hx rfl (pc0 := 45) (pc' := 58) rfl (hb hby d1_45) rfl (tlt hc45_9).1 (by decide) (by decide) k) ?_
                show OwnEnds _ _ _ _ (s₁.setTop (mkF m 58 #[.val (.int ch)] []))
                refine OwnEnds.via (fun t k => XS.iconst X0.here hx rfl (hb hby d1_58) k) ?_
                show OwnEnds _ _ _ _ (s₁.setTop (mkF m 59 #[.val (.int ch)] [(.int (0 : Int32))]))
                obtain ⟨fs, hr, hrun, hended, hW, hsame⟩ := X0.leave (v := some (.int (0 : Int32))) (fun h => by rw [Bd.returns] at h; cases h)
                refine ⟨_, _, ?_, hrun, hended, _, _, rfl, ?_, ⟨_, rfl⟩, hW, hsame.mono (by decide) (by decide)⟩
                · exact retN X0 hx (t := .boolean) Bd.returns (by simp) (hb hby d1_59) hr
                · show Q1 Z ch h0 n0 _ s₁.heap _
                  rw [e0]
                  exact ⟨(by rw [if_neg (by simp only [← Int32.toInt_inj, Int32.lt_iff_toInt_lt, own_k0, own_k9, own_k10, own_k13, own_k32, own_k55295, own_k55296, own_k57343, own_k57344, own_k65533, own_k65534, own_k65535, own_k65536, own_k1114111] at hc3_1 hc9_2 hc15_3 hc21_4 hc33_5 hc39_8 hc45_9; unfold own_X; omega)]), N0, rfl⟩
              ·
                refine OwnEnds.via (fun t k => XS.icmpNo X0.here hx rfl (hb hby d1_45) rfl (flt hc45_9).1 k) ?_
                show OwnEnds _ _ _ _ (s₁.setTop (mkF m 48 #[.val (.int ch)] []))
                refine OwnEnds.via (fun t k => XS.iloadN X0.here hx rfl (hb hby d1_48) rfl k) ?_
                show OwnEnds _ _ _ _ (s₁.setTop (mkF m 49 #[.val (.int ch)] [(.int ch)]))
                refine OwnEnds.via (X0.ldcInt hx hown (mvT hZ (hw _ (List.mem_of_getElem? (i := 25) rfl))) (g := (mkF m 49 #[.val (.int ch)] [(.int ch)])) rfl (hb hby d1_49)) ?_
                show OwnEnds _ _ _ _ (s₁.setTop (mkF m 51 #[.val (.int ch)] [(.int (1114111 : Int32)), (.int ch)]))
                by_cases hc51_10 : (1114111 : Int32) < ch
                ·
                  refine OwnEnds.via (fun t k => XS.icmpYes X0.here hx rfl (pc0 := 51) (pc' := 58) rfl (hb hby d1_51) rfl (tlt hc51_10).2.2.1 (by decide) (by decide) k) ?_
                  show OwnEnds _ _ _ _ (s₁.setTop (mkF m 58 #[.val (.int ch)] []))
                  refine OwnEnds.via (fun t k => XS.iconst X0.here hx rfl (hb hby d1_58) k) ?_
                  show OwnEnds _ _ _ _ (s₁.setTop (mkF m 59 #[.val (.int ch)] [(.int (0 : Int32))]))
                  obtain ⟨fs, hr, hrun, hended, hW, hsame⟩ := X0.leave (v := some (.int (0 : Int32))) (fun h => by rw [Bd.returns] at h; cases h)
                  refine ⟨_, _, ?_, hrun, hended, _, _, rfl, ?_, ⟨_, rfl⟩, hW, hsame.mono (by decide) (by decide)⟩
                  · exact retN X0 hx (t := .boolean) Bd.returns (by simp) (hb hby d1_59) hr
                  · show Q1 Z ch h0 n0 _ s₁.heap _
                    rw [e0]
                    exact ⟨(by rw [if_neg (by simp only [← Int32.toInt_inj, Int32.lt_iff_toInt_lt, own_k0, own_k9, own_k10, own_k13, own_k32, own_k55295, own_k55296, own_k57343, own_k57344, own_k65533, own_k65534, own_k65535, own_k65536, own_k1114111] at hc3_1 hc9_2 hc15_3 hc21_4 hc33_5 hc39_8 hc45_9 hc51_10; unfold own_X; omega)]), N0, rfl⟩
                ·
                  refine OwnEnds.via (fun t k => XS.icmpNo X0.here hx rfl (hb hby d1_51) rfl (flt hc51_10).2.2.1 k) ?_
                  show OwnEnds _ _ _ _ (s₁.setTop (mkF m 54 #[.val (.int ch)] []))
                  refine OwnEnds.via (fun t k => XS.iconst X0.here hx rfl (hb hby d1_54) k) ?_
                  show OwnEnds _ _ _ _ (s₁.setTop (mkF m 55 #[.val (.int ch)] [(.int (1 : Int32))]))
                  refine OwnEnds.via (fun t k => XS.goto X0.here hx rfl (pc0 := 55) (pc' := 59) rfl (hb hby d1_55) (by decide) (by decide) k) ?_
                  show OwnEnds _ _ _ _ (s₁.setTop (mkF m 59 #[.val (.int ch)] [(.int (1 : Int32))]))
                  obtain ⟨fs, hr, hrun, hended, hW, hsame⟩ := X0.leave (v := some (.int (1 : Int32))) (fun h => by rw [Bd.returns] at h; cases h)
                  refine ⟨_, _, ?_, hrun, hended, _, _, rfl, ?_, ⟨_, rfl⟩, hW, hsame.mono (by decide) (by decide)⟩
                  · exact retN X0 hx (t := .boolean) Bd.returns (by simp) (hb hby d1_59) hr
                  · show Q1 Z ch h0 n0 _ s₁.heap _
                    rw [e0]
                    exact ⟨(by rw [if_pos (by simp only [← Int32.toInt_inj, Int32.lt_iff_toInt_lt, own_k0, own_k9, own_k10, own_k13, own_k32, own_k55295, own_k55296, own_k57343, own_k57344, own_k65533, own_k65534, own_k65535, own_k65536, own_k1114111] at hc3_1 hc9_2 hc15_3 hc21_4 hc33_5 hc39_8 hc45_9 hc51_10; unfold own_X; omega)]), N0, rfl⟩
            ·
              refine OwnEnds.via (fun t k => XS.icmpYes X0.here hx rfl (pc0 := 39) (pc' := 54) rfl (hb hby d1_39) rfl (flt hc39_8).2.2.2 (by decide) (by decide) k) ?_
              show OwnEnds _ _ _ _ (s₁.setTop (mkF m 54 #[.val (.int ch)] []))
              refine OwnEnds.via (fun t k => XS.iconst X0.here hx rfl (hb hby d1_54) k) ?_
              show OwnEnds _ _ _ _ (s₁.setTop (mkF m 55 #[.val (.int ch)] [(.int (1 : Int32))]))
              refine OwnEnds.via (fun t k => XS.goto X0.here hx rfl (pc0 := 55) (pc' := 59) rfl (hb hby d1_55) (by decide) (by decide) k) ?_
              show OwnEnds _ _ _ _ (s₁.setTop (mkF m 59 #[.val (.int ch)] [(.int (1 : Int32))]))
              obtain ⟨fs, hr, hrun, hended, hW, hsame⟩ := X0.leave (v := some (.int (1 : Int32))) (fun h => by rw [Bd.returns] at h; cases h)
              refine ⟨_, _, ?_, hrun, hended, _, _, rfl, ?_, ⟨_, rfl⟩, hW, hsame.mono (by decide) (by decide)⟩
              · exact retN X0 hx (t := .boolean) Bd.returns (by simp) (hb hby d1_59) hr
              · show Q1 Z ch h0 n0 _ s₁.heap _
                rw [e0]
                exact ⟨(by rw [if_pos (by simp only [← Int32.toInt_inj, Int32.lt_iff_toInt_lt, own_k0, own_k9, own_k10, own_k13, own_k32, own_k55295, own_k55296, own_k57343, own_k57344, own_k65533, own_k65534, own_k65535, own_k65536, own_k1114111] at hc3_1 hc9_2 hc15_3 hc21_4 hc33_5 hc39_8; unfold own_X; omega)]), N0, rfl⟩
        ·
          refine OwnEnds.via (fun t k => XS.icmpNo X0.here hx rfl (hb hby d1_21) rfl (flt hc21_4).1 k) ?_
          show OwnEnds _ _ _ _ (s₁.setTop (mkF m 24 #[.val (.int ch)] []))
          refine OwnEnds.via (fun t k => XS.iloadN X0.here hx rfl (hb hby d1_24) rfl k) ?_
          show OwnEnds _ _ _ _ (s₁.setTop (mkF m 25 #[.val (.int ch)] [(.int ch)]))
          refine OwnEnds.via (X0.ldcInt hx hown (mvT hZ (hw _ (List.mem_of_getElem? (i := 23) rfl))) (g := (mkF m 25 #[.val (.int ch)] [(.int ch)])) rfl (hb hby d1_25)) ?_
          show OwnEnds _ _ _ _ (s₁.setTop (mkF m 27 #[.val (.int ch)] [(.int (55295 : Int32)), (.int ch)]))
          by_cases hc27_11 : (55295 : Int32) < ch
          ·
            refine OwnEnds.via (fun t k => XS.icmpNo X0.here hx rfl (hb hby d1_27) rfl (tlt hc27_11).2.2.2 k) ?_
            show OwnEnds _ _ _ _ (s₁.setTop (mkF m 30 #[.val (.int ch)] []))
            refine OwnEnds.via (fun t k => XS.iloadN X0.here hx rfl (hb hby d1_30) rfl k) ?_
            show OwnEnds _ _ _ _ (s₁.setTop (mkF m 31 #[.val (.int ch)] [(.int ch)]))
            refine OwnEnds.via (X0.ldcInt hx hown (mvT hZ (hw _ (List.mem_of_getElem? (i := 17) rfl))) (g := (mkF m 31 #[.val (.int ch)] [(.int ch)])) rfl (hb hby d1_31)) ?_
            show OwnEnds _ _ _ _ (s₁.setTop (mkF m 33 #[.val (.int ch)] [(.int (57344 : Int32)), (.int ch)]))
            by_cases hc33_12 : ch < (57344 : Int32)
            ·
              refine OwnEnds.via (fun t k => XS.icmpYes X0.here hx rfl (pc0 := 33) (pc' := 42) rfl (hb hby d1_33) rfl (tlt hc33_12).1 (by decide) (by decide) k) ?_
              show OwnEnds _ _ _ _ (s₁.setTop (mkF m 42 #[.val (.int ch)] []))
              refine OwnEnds.via (fun t k => XS.iloadN X0.here hx rfl (hb hby d1_42) rfl k) ?_
              show OwnEnds _ _ _ _ (s₁.setTop (mkF m 43 #[.val (.int ch)] [(.int ch)]))
              refine OwnEnds.via (X0.ldcInt hx hown (mvT hZ (hw _ (List.mem_of_getElem? (i := 18) rfl))) (g := (mkF m 43 #[.val (.int ch)] [(.int ch)])) rfl (hb hby d1_43)) ?_
              show OwnEnds _ _ _ _ (s₁.setTop (mkF m 45 #[.val (.int ch)] [(.int (65536 : Int32)), (.int ch)]))
              by_cases hc45_13 : ch < (65536 : Int32)
              ·
                refine OwnEnds.via (fun t k => XS.icmpYes X0.here hx rfl (pc0 := 45) (pc' := 58) rfl (hb hby d1_45) rfl (tlt hc45_13).1 (by decide) (by decide) k) ?_
                show OwnEnds _ _ _ _ (s₁.setTop (mkF m 58 #[.val (.int ch)] []))
                refine OwnEnds.via (fun t k => XS.iconst X0.here hx rfl (hb hby d1_58) k) ?_
                show OwnEnds _ _ _ _ (s₁.setTop (mkF m 59 #[.val (.int ch)] [(.int (0 : Int32))]))
                obtain ⟨fs, hr, hrun, hended, hW, hsame⟩ := X0.leave (v := some (.int (0 : Int32))) (fun h => by rw [Bd.returns] at h; cases h)
                refine ⟨_, _, ?_, hrun, hended, _, _, rfl, ?_, ⟨_, rfl⟩, hW, hsame.mono (by decide) (by decide)⟩
                · exact retN X0 hx (t := .boolean) Bd.returns (by simp) (hb hby d1_59) hr
                · show Q1 Z ch h0 n0 _ s₁.heap _
                  rw [e0]
                  exact ⟨(by rw [if_neg (by simp only [← Int32.toInt_inj, Int32.lt_iff_toInt_lt, own_k0, own_k9, own_k10, own_k13, own_k32, own_k55295, own_k55296, own_k57343, own_k57344, own_k65533, own_k65534, own_k65535, own_k65536, own_k1114111] at hc3_1 hc9_2 hc15_3 hc21_4 hc27_11 hc33_12 hc45_13; unfold own_X; omega)]), N0, rfl⟩
              ·
                refine OwnEnds.via (fun t k => XS.icmpNo X0.here hx rfl (hb hby d1_45) rfl (flt hc45_13).1 k) ?_
                show OwnEnds _ _ _ _ (s₁.setTop (mkF m 48 #[.val (.int ch)] []))
                refine OwnEnds.via (fun t k => XS.iloadN X0.here hx rfl (hb hby d1_48) rfl k) ?_
                show OwnEnds _ _ _ _ (s₁.setTop (mkF m 49 #[.val (.int ch)] [(.int ch)]))
                refine OwnEnds.via (X0.ldcInt hx hown (mvT hZ (hw _ (List.mem_of_getElem? (i := 25) rfl))) (g := (mkF m 49 #[.val (.int ch)] [(.int ch)])) rfl (hb hby d1_49)) ?_
                show OwnEnds _ _ _ _ (s₁.setTop (mkF m 51 #[.val (.int ch)] [(.int (1114111 : Int32)), (.int ch)]))
                by_cases hc51_14 : (1114111 : Int32) < ch
                ·
                  refine OwnEnds.via (fun t k => XS.icmpYes X0.here hx rfl (pc0 := 51) (pc' := 58) rfl (hb hby d1_51) rfl (tlt hc51_14).2.2.1 (by decide) (by decide) k) ?_
                  show OwnEnds _ _ _ _ (s₁.setTop (mkF m 58 #[.val (.int ch)] []))
                  refine OwnEnds.via (fun t k => XS.iconst X0.here hx rfl (hb hby d1_58) k) ?_
                  show OwnEnds _ _ _ _ (s₁.setTop (mkF m 59 #[.val (.int ch)] [(.int (0 : Int32))]))
                  obtain ⟨fs, hr, hrun, hended, hW, hsame⟩ := X0.leave (v := some (.int (0 : Int32))) (fun h => by rw [Bd.returns] at h; cases h)
                  refine ⟨_, _, ?_, hrun, hended, _, _, rfl, ?_, ⟨_, rfl⟩, hW, hsame.mono (by decide) (by decide)⟩
                  · exact retN X0 hx (t := .boolean) Bd.returns (by simp) (hb hby d1_59) hr
                  · show Q1 Z ch h0 n0 _ s₁.heap _
                    rw [e0]
                    exact ⟨(by rw [if_neg (by simp only [← Int32.toInt_inj, Int32.lt_iff_toInt_lt, own_k0, own_k9, own_k10, own_k13, own_k32, own_k55295, own_k55296, own_k57343, own_k57344, own_k65533, own_k65534, own_k65535, own_k65536, own_k1114111] at hc3_1 hc9_2 hc15_3 hc21_4 hc27_11 hc33_12 hc45_13 hc51_14; unfold own_X; omega)]), N0, rfl⟩
                ·
                  refine OwnEnds.via (fun t k => XS.icmpNo X0.here hx rfl (hb hby d1_51) rfl (flt hc51_14).2.2.1 k) ?_
                  show OwnEnds _ _ _ _ (s₁.setTop (mkF m 54 #[.val (.int ch)] []))
                  refine OwnEnds.via (fun t k => XS.iconst X0.here hx rfl (hb hby d1_54) k) ?_
                  show OwnEnds _ _ _ _ (s₁.setTop (mkF m 55 #[.val (.int ch)] [(.int (1 : Int32))]))
                  refine OwnEnds.via (fun t k => XS.goto X0.here hx rfl (pc0 := 55) (pc' := 59) rfl (hb hby d1_55) (by decide) (by decide) k) ?_
                  show OwnEnds _ _ _ _ (s₁.setTop (mkF m 59 #[.val (.int ch)] [(.int (1 : Int32))]))
                  obtain ⟨fs, hr, hrun, hended, hW, hsame⟩ := X0.leave (v := some (.int (1 : Int32))) (fun h => by rw [Bd.returns] at h; cases h)
                  refine ⟨_, _, ?_, hrun, hended, _, _, rfl, ?_, ⟨_, rfl⟩, hW, hsame.mono (by decide) (by decide)⟩
                  · exact retN X0 hx (t := .boolean) Bd.returns (by simp) (hb hby d1_59) hr
                  · show Q1 Z ch h0 n0 _ s₁.heap _
                    rw [e0]
                    exact ⟨(by rw [if_pos (by simp only [← Int32.toInt_inj, Int32.lt_iff_toInt_lt, own_k0, own_k9, own_k10, own_k13, own_k32, own_k55295, own_k55296, own_k57343, own_k57344, own_k65533, own_k65534, own_k65535, own_k65536, own_k1114111] at hc3_1 hc9_2 hc15_3 hc21_4 hc27_11 hc33_12 hc45_13 hc51_14; unfold own_X; omega)]), N0, rfl⟩
            ·
              refine OwnEnds.via (fun t k => XS.icmpNo X0.here hx rfl (hb hby d1_33) rfl (flt hc33_12).1 k) ?_
              show OwnEnds _ _ _ _ (s₁.setTop (mkF m 36 #[.val (.int ch)] []))
              refine OwnEnds.via (fun t k => XS.iloadN X0.here hx rfl (hb hby d1_36) rfl k) ?_
              show OwnEnds _ _ _ _ (s₁.setTop (mkF m 37 #[.val (.int ch)] [(.int ch)]))
              refine OwnEnds.via (X0.ldcInt hx hown (mvT hZ (hw _ (List.mem_of_getElem? (i := 24) rfl))) (g := (mkF m 37 #[.val (.int ch)] [(.int ch)])) rfl (hb hby d1_37)) ?_
              show OwnEnds _ _ _ _ (s₁.setTop (mkF m 39 #[.val (.int ch)] [(.int (65533 : Int32)), (.int ch)]))
              by_cases hc39_15 : (65533 : Int32) < ch
              ·
                refine OwnEnds.via (fun t k => XS.icmpNo X0.here hx rfl (hb hby d1_39) rfl (tlt hc39_15).2.2.2 k) ?_
                show OwnEnds _ _ _ _ (s₁.setTop (mkF m 42 #[.val (.int ch)] []))
                refine OwnEnds.via (fun t k => XS.iloadN X0.here hx rfl (hb hby d1_42) rfl k) ?_
                show OwnEnds _ _ _ _ (s₁.setTop (mkF m 43 #[.val (.int ch)] [(.int ch)]))
                refine OwnEnds.via (X0.ldcInt hx hown (mvT hZ (hw _ (List.mem_of_getElem? (i := 18) rfl))) (g := (mkF m 43 #[.val (.int ch)] [(.int ch)])) rfl (hb hby d1_43)) ?_
                show OwnEnds _ _ _ _ (s₁.setTop (mkF m 45 #[.val (.int ch)] [(.int (65536 : Int32)), (.int ch)]))
                by_cases hc45_16 : ch < (65536 : Int32)
                ·
                  refine OwnEnds.via (fun t k => XS.icmpYes X0.here hx rfl (pc0 := 45) (pc' := 58) rfl (hb hby d1_45) rfl (tlt hc45_16).1 (by decide) (by decide) k) ?_
                  show OwnEnds _ _ _ _ (s₁.setTop (mkF m 58 #[.val (.int ch)] []))
                  refine OwnEnds.via (fun t k => XS.iconst X0.here hx rfl (hb hby d1_58) k) ?_
                  show OwnEnds _ _ _ _ (s₁.setTop (mkF m 59 #[.val (.int ch)] [(.int (0 : Int32))]))
                  obtain ⟨fs, hr, hrun, hended, hW, hsame⟩ := X0.leave (v := some (.int (0 : Int32))) (fun h => by rw [Bd.returns] at h; cases h)
                  refine ⟨_, _, ?_, hrun, hended, _, _, rfl, ?_, ⟨_, rfl⟩, hW, hsame.mono (by decide) (by decide)⟩
                  · exact retN X0 hx (t := .boolean) Bd.returns (by simp) (hb hby d1_59) hr
                  · show Q1 Z ch h0 n0 _ s₁.heap _
                    rw [e0]
                    exact ⟨(by rw [if_neg (by simp only [← Int32.toInt_inj, Int32.lt_iff_toInt_lt, own_k0, own_k9, own_k10, own_k13, own_k32, own_k55295, own_k55296, own_k57343, own_k57344, own_k65533, own_k65534, own_k65535, own_k65536, own_k1114111] at hc3_1 hc9_2 hc15_3 hc21_4 hc27_11 hc33_12 hc39_15 hc45_16; unfold own_X; omega)]), N0, rfl⟩
                ·
                  refine OwnEnds.via (fun t k => XS.icmpNo X0.here hx rfl (hb hby d1_45) rfl (flt hc45_16).1 k) ?_
                  show OwnEnds _ _ _ _ (s₁.setTop (mkF m 48 #[.val (.int ch)] []))
                  refine OwnEnds.via (fun t k => XS.iloadN X0.here hx rfl (hb hby d1_48) rfl k) ?_
                  show OwnEnds _ _ _ _ (s₁.setTop (mkF m 49 #[.val (.int ch)] [(.int ch)]))
                  refine OwnEnds.via (X0.ldcInt hx hown (mvT hZ (hw _ (List.mem_of_getElem? (i := 25) rfl))) (g := (mkF m 49 #[.val (.int ch)] [(.int ch)])) rfl (hb hby d1_49)) ?_
                  show OwnEnds _ _ _ _ (s₁.setTop (mkF m 51 #[.val (.int ch)] [(.int (1114111 : Int32)), (.int ch)]))
                  by_cases hc51_17 : (1114111 : Int32) < ch
                  ·
                    refine OwnEnds.via (fun t k => XS.icmpYes X0.here hx rfl (pc0 := 51) (pc' := 58) rfl (hb hby d1_51) rfl (tlt hc51_17).2.2.1 (by decide) (by decide) k) ?_
                    show OwnEnds _ _ _ _ (s₁.setTop (mkF m 58 #[.val (.int ch)] []))
                    refine OwnEnds.via (fun t k => XS.iconst X0.here hx rfl (hb hby d1_58) k) ?_
                    show OwnEnds _ _ _ _ (s₁.setTop (mkF m 59 #[.val (.int ch)] [(.int (0 : Int32))]))
                    obtain ⟨fs, hr, hrun, hended, hW, hsame⟩ := X0.leave (v := some (.int (0 : Int32))) (fun h => by rw [Bd.returns] at h; cases h)
                    refine ⟨_, _, ?_, hrun, hended, _, _, rfl, ?_, ⟨_, rfl⟩, hW, hsame.mono (by decide) (by decide)⟩
                    · exact retN X0 hx (t := .boolean) Bd.returns (by simp) (hb hby d1_59) hr
                    · show Q1 Z ch h0 n0 _ s₁.heap _
                      rw [e0]
                      exact ⟨(by rw [if_neg (by simp only [← Int32.toInt_inj, Int32.lt_iff_toInt_lt, own_k0, own_k9, own_k10, own_k13, own_k32, own_k55295, own_k55296, own_k57343, own_k57344, own_k65533, own_k65534, own_k65535, own_k65536, own_k1114111] at hc3_1 hc9_2 hc15_3 hc21_4 hc27_11 hc33_12 hc39_15 hc45_16 hc51_17; unfold own_X; omega)]), N0, rfl⟩
                  ·
                    refine OwnEnds.via (fun t k => XS.icmpNo X0.here hx rfl (hb hby d1_51) rfl (flt hc51_17).2.2.1 k) ?_
                    show OwnEnds _ _ _ _ (s₁.setTop (mkF m 54 #[.val (.int ch)] []))
                    refine OwnEnds.via (fun t k => XS.iconst X0.here hx rfl (hb hby d1_54) k) ?_
                    show OwnEnds _ _ _ _ (s₁.setTop (mkF m 55 #[.val (.int ch)] [(.int (1 : Int32))]))
                    refine OwnEnds.via (fun t k => XS.goto X0.here hx rfl (pc0 := 55) (pc' := 59) rfl (hb hby d1_55) (by decide) (by decide) k) ?_
                    show OwnEnds _ _ _ _ (s₁.setTop (mkF m 59 #[.val (.int ch)] [(.int (1 : Int32))]))
                    obtain ⟨fs, hr, hrun, hended, hW, hsame⟩ := X0.leave (v := some (.int (1 : Int32))) (fun h => by rw [Bd.returns] at h; cases h)
                    refine ⟨_, _, ?_, hrun, hended, _, _, rfl, ?_, ⟨_, rfl⟩, hW, hsame.mono (by decide) (by decide)⟩
                    · exact retN X0 hx (t := .boolean) Bd.returns (by simp) (hb hby d1_59) hr
                    · show Q1 Z ch h0 n0 _ s₁.heap _
                      rw [e0]
                      exact ⟨(by rw [if_pos (by simp only [← Int32.toInt_inj, Int32.lt_iff_toInt_lt, own_k0, own_k9, own_k10, own_k13, own_k32, own_k55295, own_k55296, own_k57343, own_k57344, own_k65533, own_k65534, own_k65535, own_k65536, own_k1114111] at hc3_1 hc9_2 hc15_3 hc21_4 hc27_11 hc33_12 hc39_15 hc45_16 hc51_17; unfold own_X; omega)]), N0, rfl⟩
              ·
                refine OwnEnds.via (fun t k => XS.icmpYes X0.here hx rfl (pc0 := 39) (pc' := 54) rfl (hb hby d1_39) rfl (flt hc39_15).2.2.2 (by decide) (by decide) k) ?_
                show OwnEnds _ _ _ _ (s₁.setTop (mkF m 54 #[.val (.int ch)] []))
                refine OwnEnds.via (fun t k => XS.iconst X0.here hx rfl (hb hby d1_54) k) ?_
                show OwnEnds _ _ _ _ (s₁.setTop (mkF m 55 #[.val (.int ch)] [(.int (1 : Int32))]))
                refine OwnEnds.via (fun t k => XS.goto X0.here hx rfl (pc0 := 55) (pc' := 59) rfl (hb hby d1_55) (by decide) (by decide) k) ?_
                show OwnEnds _ _ _ _ (s₁.setTop (mkF m 59 #[.val (.int ch)] [(.int (1 : Int32))]))
                obtain ⟨fs, hr, hrun, hended, hW, hsame⟩ := X0.leave (v := some (.int (1 : Int32))) (fun h => by rw [Bd.returns] at h; cases h)
                refine ⟨_, _, ?_, hrun, hended, _, _, rfl, ?_, ⟨_, rfl⟩, hW, hsame.mono (by decide) (by decide)⟩
                · exact retN X0 hx (t := .boolean) Bd.returns (by simp) (hb hby d1_59) hr
                · show Q1 Z ch h0 n0 _ s₁.heap _
                  rw [e0]
                  exact ⟨(by rw [if_pos (by simp only [← Int32.toInt_inj, Int32.lt_iff_toInt_lt, own_k0, own_k9, own_k10, own_k13, own_k32, own_k55295, own_k55296, own_k57343, own_k57344, own_k65533, own_k65534, own_k65535, own_k65536, own_k1114111] at hc3_1 hc9_2 hc15_3 hc21_4 hc27_11 hc33_12 hc39_15; unfold own_X; omega)]), N0, rfl⟩
          ·
            refine OwnEnds.via (fun t k => XS.icmpYes X0.here hx rfl (pc0 := 27) (pc' := 54) rfl (hb hby d1_27) rfl (flt hc27_11).2.2.2 (by decide) (by decide) k) ?_
            show OwnEnds _ _ _ _ (s₁.setTop (mkF m 54 #[.val (.int ch)] []))
            refine OwnEnds.via (fun t k => XS.iconst X0.here hx rfl (hb hby d1_54) k) ?_
            show OwnEnds _ _ _ _ (s₁.setTop (mkF m 55 #[.val (.int ch)] [(.int (1 : Int32))]))
            refine OwnEnds.via (fun t k => XS.goto X0.here hx rfl (pc0 := 55) (pc' := 59) rfl (hb hby d1_55) (by decide) (by decide) k) ?_
            show OwnEnds _ _ _ _ (s₁.setTop (mkF m 59 #[.val (.int ch)] [(.int (1 : Int32))]))
            obtain ⟨fs, hr, hrun, hended, hW, hsame⟩ := X0.leave (v := some (.int (1 : Int32))) (fun h => by rw [Bd.returns] at h; cases h)
            refine ⟨_, _, ?_, hrun, hended, _, _, rfl, ?_, ⟨_, rfl⟩, hW, hsame.mono (by decide) (by decide)⟩
            · exact retN X0 hx (t := .boolean) Bd.returns (by simp) (hb hby d1_59) hr
            · show Q1 Z ch h0 n0 _ s₁.heap _
              rw [e0]
              exact ⟨(by rw [if_pos (by simp only [← Int32.toInt_inj, Int32.lt_iff_toInt_lt, own_k0, own_k9, own_k10, own_k13, own_k32, own_k55295, own_k55296, own_k57343, own_k57344, own_k65533, own_k65534, own_k65535, own_k65536, own_k1114111] at hc3_1 hc9_2 hc15_3 hc21_4 hc27_11; unfold own_X; omega)]), N0, rfl⟩

theorem d2_0 : decode method_2_code 0 = .ok (.iload_n 0, 1) := by decide +kernel
theorem d2_1 : decode method_2_code 1 = .ok (.ifCond .lt 9, 3) := by decide +kernel
theorem d2_4 : decode method_2_code 4 = .ok (.iload_n 0, 1) := by decide +kernel
theorem d2_5 : decode method_2_code 5 = .ok (.ldc 7, 2) := by decide +kernel
theorem d2_7 : decode method_2_code 7 = .ok (.if_icmp .le 5, 3) := by decide +kernel
theorem d2_10 : decode method_2_code 10 = .ok (.iconst 0, 1) := by decide +kernel
theorem d2_11 : decode method_2_code 11 = .ok (.ireturn, 1) := by decide +kernel
theorem d2_12 : decode method_2_code 12 = .ok (.iload_n 0, 1) := by decide +kernel
theorem d2_13 : decode method_2_code 13 = .ok (.bipush 32, 2) := by decide +kernel
theorem d2_15 : decode method_2_code 15 = .ok (.if_icmp .ge 27, 3) := by decide +kernel
theorem d2_18 : decode method_2_code 18 = .ok (.iload_n 0, 1) := by decide +kernel
theorem d2_19 : decode method_2_code 19 = .ok (.bipush 9, 2) := by decide +kernel
theorem d2_21 : decode method_2_code 21 = .ok (.if_icmp .eq 15, 3) := by decide +kernel
theorem d2_24 : decode method_2_code 24 = .ok (.iload_n 0, 1) := by decide +kernel
theorem d2_25 : decode method_2_code 25 = .ok (.bipush 10, 2) := by decide +kernel
theorem d2_27 : decode method_2_code 27 = .ok (.if_icmp .eq 9, 3) := by decide +kernel
theorem d2_30 : decode method_2_code 30 = .ok (.iload_n 0, 1) := by decide +kernel
theorem d2_31 : decode method_2_code 31 = .ok (.bipush 13, 2) := by decide +kernel
theorem d2_33 : decode method_2_code 33 = .ok (.if_icmp .ne 7, 3) := by decide +kernel
theorem d2_36 : decode method_2_code 36 = .ok (.iconst 1, 1) := by decide +kernel
theorem d2_37 : decode method_2_code 37 = .ok (.goto 4, 3) := by decide +kernel
theorem d2_40 : decode method_2_code 40 = .ok (.iconst 0, 1) := by decide +kernel
theorem d2_41 : decode method_2_code 41 = .ok (.ireturn, 1) := by decide +kernel
theorem d2_42 : decode method_2_code 42 = .ok (.iload_n 0, 1) := by decide +kernel
theorem d2_43 : decode method_2_code 43 = .ok (.ldc 8, 2) := by decide +kernel
theorem d2_45 : decode method_2_code 45 = .ok (.if_icmp .lt 11, 3) := by decide +kernel
theorem d2_48 : decode method_2_code 48 = .ok (.iload_n 0, 1) := by decide +kernel
theorem d2_49 : decode method_2_code 49 = .ok (.ldc 9, 2) := by decide +kernel
theorem d2_51 : decode method_2_code 51 = .ok (.if_icmp .gt 5, 3) := by decide +kernel
theorem d2_54 : decode method_2_code 54 = .ok (.iconst 0, 1) := by decide +kernel
theorem d2_55 : decode method_2_code 55 = .ok (.ireturn, 1) := by decide +kernel
theorem d2_56 : decode method_2_code 56 = .ok (.iload_n 0, 1) := by decide +kernel
theorem d2_57 : decode method_2_code 57 = .ok (.ldc 10, 2) := by decide +kernel
theorem d2_59 : decode method_2_code 59 = .ok (.if_icmp .eq 9, 3) := by decide +kernel
theorem d2_62 : decode method_2_code 62 = .ok (.iload_n 0, 1) := by decide +kernel
theorem d2_63 : decode method_2_code 63 = .ok (.ldc 11, 2) := by decide +kernel
theorem d2_65 : decode method_2_code 65 = .ok (.if_icmp .ne 5, 3) := by decide +kernel
theorem d2_68 : decode method_2_code 68 = .ok (.iconst 0, 1) := by decide +kernel
theorem d2_69 : decode method_2_code 69 = .ok (.ireturn, 1) := by decide +kernel
theorem d2_70 : decode method_2_code 70 = .ok (.iconst 1, 1) := by decide +kernel
theorem d2_71 : decode method_2_code 71 = .ok (.ireturn, 1) := by decide +kernel
theorem pn_rm2 : plainName "com/example/enlace/enlace/wire/XmlCharactersAllowedPinLaw" = true := by first | (simp [plainName, overriddenIn]; done) | decide +kernel
theorem ef_rm2 (m : MethodId) (ch : Int32) : entryFrame m #[(.int ch)] 1 = mkF m 0 #[.val (.int ch)] [] := by first | (simp [entryFrame, mkF, argsToLocals, Value.category]; done) | rfl
def Q2 (Z : State) (ch : Int32) (h0 : Heap) (n0 : Nat) (v : Option Value) (h : Heap) (L : List Loc) : Prop := v = some (.int (if own_X ch then (1 : Int32) else (0 : Int32))) ∧ Fr n0 L ∧ h = h0
set_option maxRecDepth 65536 in
set_option maxHeartbeats 40000000 in
theorem rm2 (l : Launch) (Z : State) (a0 : Array Value) (hw : ∀ d ∈ tables_1, d.before a0 Z = true) (ws : List Jvm.Cond) (ch : Int32) (h0 : Heap) (n0 : Nat) (Z0 : n0 ≤ h0.size)  :
    MetFree l (⟨"com/example/enlace/enlace/wire/XmlCharactersAllowedPinLaw", "ref", "(I)Z"⟩ : MethodName) (head1 (Jvm.Cond.code (⟨"com/example/enlace/enlace/wire/XmlCharactersAllowedPinLaw", "ref", "(I)Z"⟩ : MethodName) method_2_code 1 (some .boolean) :: ws) ({ frames := 0, cells := 0, slots := 0, locals := 0 } : Room)) (fun aa U => aa = #[(.int ch)] ∧ Z.Warmed39 U.vm ∧ U.heap = h0) (fun _ _ _ _ _ => True) (fun _ U o U' => ∃ v L, o = .returned v ∧ Q2 Z ch h0 n0 v U'.heap L ∧ FrameEnd U o U' L ({ frames := 0, cells := 0, slots := 0, locals := 0 } : Room).cells ({ frames := 0, cells := 0, slots := 0, locals := 0 } : Room).slots) := by
  refine MetFree.of_bodySF (plainFor_of_name pn_rm2) hisR ?_
  intro p e s m args below meth c s₁ Bd hml0 hP hK
  obtain ⟨rfl, hZ, hh⟩ := hP
  have hx := Bd.exec
  have hby := Bd.bytes
  have hml : c.maxLocals = 1 := hml0
  have hown : s.vm.findClass "com/example/enlace/enlace/wire/XmlCharactersAllowedPinLaw" = some m.cls := findClass_of_methodNamed Bd.named
  have hnm := (name_of_methodNamed Bd.named Bd.method).1
  have X0 : Stand p l e ({ frames := 0, cells := 0, slots := 0, locals := 0 } : Room) s m #[(.int ch)] below meth c s₁ [] 0 0 := Stand.of_body Bd
  have e0 : s₁.heap = h0 := by rw [← hh, Bd.state]; rfl
  have N0 := Fr.nil n0
  change OwnEnds p.tables e below _ _
  refine OwnEnds.via (fun t k => castTop (ef_rm2 m ch) k) ?_
  show OwnEnds _ _ _ _ (s₁.setTop (mkF m 0 #[.val (.int ch)] []))
  refine OwnEnds.via (fun t k => XS.iloadN X0.here hx rfl (hb hby d2_0) rfl k) ?_
  show OwnEnds _ _ _ _ (s₁.setTop (mkF m 1 #[.val (.int ch)] [(.int ch)]))
  by_cases hc1_1 : ch < (0 : Int32)
  ·
    refine OwnEnds.via (fun t k => XS.ifYes X0.here hx rfl (pc0 := 1) (pc' := 10) rfl (hb hby d2_1) rfl ((if0 _ _).trans (tlt hc1_1).1) (by decide) (by decide) k) ?_
    show OwnEnds _ _ _ _ (s₁.setTop (mkF m 10 #[.val (.int ch)] []))
    refine OwnEnds.via (fun t k => XS.iconst X0.here hx rfl (hb hby d2_10) k) ?_
    show OwnEnds _ _ _ _ (s₁.setTop (mkF m 11 #[.val (.int ch)] [(.int (0 : Int32))]))
    obtain ⟨fs, hr, hrun, hended, hW, hsame⟩ := X0.leave (v := some (.int (0 : Int32))) (fun h => by rw [Bd.returns] at h; cases h)
    refine ⟨_, _, ?_, hrun, hended, _, _, rfl, ?_, ⟨_, rfl⟩, hW, hsame.mono (by decide) (by decide)⟩
    · exact retN X0 hx (t := .boolean) Bd.returns (by simp) (hb hby d2_11) hr
    · show Q2 Z ch h0 n0 _ s₁.heap _
      rw [e0]
      exact ⟨(by rw [if_neg (by simp only [← Int32.toInt_inj, Int32.lt_iff_toInt_lt, own_k0, own_k9, own_k10, own_k13, own_k32, own_k55295, own_k55296, own_k57343, own_k57344, own_k65533, own_k65534, own_k65535, own_k65536, own_k1114111] at hc1_1; unfold own_X; omega)]), N0, rfl⟩
  ·
    refine OwnEnds.via (fun t k => XS.ifNo X0.here hx rfl (hb hby d2_1) rfl ((if0 _ _).trans (flt hc1_1).1) k) ?_
    show OwnEnds _ _ _ _ (s₁.setTop (mkF m 4 #[.val (.int ch)] []))
    refine OwnEnds.via (fun t k => XS.iloadN X0.here hx rfl (hb hby d2_4) rfl k) ?_
    show OwnEnds _ _ _ _ (s₁.setTop (mkF m 5 #[.val (.int ch)] [(.int ch)]))
    refine OwnEnds.via (X0.ldcInt hx hown (mvT hZ (hw _ (List.mem_of_getElem? (i := 9) rfl))) (g := (mkF m 5 #[.val (.int ch)] [(.int ch)])) rfl (hb hby d2_5)) ?_
    show OwnEnds _ _ _ _ (s₁.setTop (mkF m 7 #[.val (.int ch)] [(.int (1114111 : Int32)), (.int ch)]))
    by_cases hc7_2 : (1114111 : Int32) < ch
    ·
      refine OwnEnds.via (fun t k => XS.icmpNo X0.here hx rfl (hb hby d2_7) rfl (tlt hc7_2).2.2.2 k) ?_
      show OwnEnds _ _ _ _ (s₁.setTop (mkF m 10 #[.val (.int ch)] []))
      refine OwnEnds.via (fun t k => XS.iconst X0.here hx rfl (hb hby d2_10) k) ?_
      show OwnEnds _ _ _ _ (s₁.setTop (mkF m 11 #[.val (.int ch)] [(.int (0 : Int32))]))
      obtain ⟨fs, hr, hrun, hended, hW, hsame⟩ := X0.leave (v := some (.int (0 : Int32))) (fun h => by rw [Bd.returns] at h; cases h)
      refine ⟨_, _, ?_, hrun, hended, _, _, rfl, ?_, ⟨_, rfl⟩, hW, hsame.mono (by decide) (by decide)⟩
      · exact retN X0 hx (t := .boolean) Bd.returns (by simp) (hb hby d2_11) hr
      · show Q2 Z ch h0 n0 _ s₁.heap _
        rw [e0]
        exact ⟨(by rw [if_neg (by simp only [← Int32.toInt_inj, Int32.lt_iff_toInt_lt, own_k0, own_k9, own_k10, own_k13, own_k32, own_k55295, own_k55296, own_k57343, own_k57344, own_k65533, own_k65534, own_k65535, own_k65536, own_k1114111] at hc1_1 hc7_2; unfold own_X; omega)]), N0, rfl⟩
    ·
      refine OwnEnds.via (fun t k => XS.icmpYes X0.here hx rfl (pc0 := 7) (pc' := 12) rfl (hb hby d2_7) rfl (flt hc7_2).2.2.2 (by decide) (by decide) k) ?_
      show OwnEnds _ _ _ _ (s₁.setTop (mkF m 12 #[.val (.int ch)] []))
      refine OwnEnds.via (fun t k => XS.iloadN X0.here hx rfl (hb hby d2_12) rfl k) ?_
      show OwnEnds _ _ _ _ (s₁.setTop (mkF m 13 #[.val (.int ch)] [(.int ch)]))
      refine OwnEnds.via (fun t k => XS.bipush X0.here hx rfl (hb hby d2_13) k) ?_
      show OwnEnds _ _ _ _ (s₁.setTop (mkF m 15 #[.val (.int ch)] [(.int (32 : Int32)), (.int ch)]))
      by_cases hc15_3 : ch < (32 : Int32)
      ·
        refine OwnEnds.via (fun t k => XS.icmpNo X0.here hx rfl (hb hby d2_15) rfl (tlt hc15_3).2.1 k) ?_
        show OwnEnds _ _ _ _ (s₁.setTop (mkF m 18 #[.val (.int ch)] []))
        refine OwnEnds.via (fun t k => XS.iloadN X0.here hx rfl (hb hby d2_18) rfl k) ?_
        show OwnEnds _ _ _ _ (s₁.setTop (mkF m 19 #[.val (.int ch)] [(.int ch)]))
        refine OwnEnds.via (fun t k => XS.bipush X0.here hx rfl (hb hby d2_19) k) ?_
        show OwnEnds _ _ _ _ (s₁.setTop (mkF m 21 #[.val (.int ch)] [(.int (9 : Int32)), (.int ch)]))
        by_cases hc21_4 : ch = (9 : Int32)
        ·
          refine OwnEnds.via (fun t k => XS.icmpYes X0.here hx rfl (pc0 := 21) (pc' := 36) rfl (hb hby d2_21) rfl (teq hc21_4).1 (by decide) (by decide) k) ?_
          show OwnEnds _ _ _ _ (s₁.setTop (mkF m 36 #[.val (.int ch)] []))
          refine OwnEnds.via (fun t k => XS.iconst X0.here hx rfl (hb hby d2_36) k) ?_
          show OwnEnds _ _ _ _ (s₁.setTop (mkF m 37 #[.val (.int ch)] [(.int (1 : Int32))]))
          refine OwnEnds.via (fun t k => XS.goto X0.here hx rfl (pc0 := 37) (pc' := 41) rfl (hb hby d2_37) (by decide) (by decide) k) ?_
          show OwnEnds _ _ _ _ (s₁.setTop (mkF m 41 #[.val (.int ch)] [(.int (1 : Int32))]))
          obtain ⟨fs, hr, hrun, hended, hW, hsame⟩ := X0.leave (v := some (.int (1 : Int32))) (fun h => by rw [Bd.returns] at h; cases h)
          refine ⟨_, _, ?_, hrun, hended, _, _, rfl, ?_, ⟨_, rfl⟩, hW, hsame.mono (by decide) (by decide)⟩
          · exact retN X0 hx (t := .boolean) Bd.returns (by simp) (hb hby d2_41) hr
          · show Q2 Z ch h0 n0 _ s₁.heap _
            rw [e0]
            exact ⟨(by rw [if_pos (by simp only [← Int32.toInt_inj, Int32.lt_iff_toInt_lt, own_k0, own_k9, own_k10, own_k13, own_k32, own_k55295, own_k55296, own_k57343, own_k57344, own_k65533, own_k65534, own_k65535, own_k65536, own_k1114111] at hc1_1 hc7_2 hc15_3 hc21_4; unfold own_X; omega)]), N0, rfl⟩
        ·
          refine OwnEnds.via (fun t k => XS.icmpNo X0.here hx rfl (hb hby d2_21) rfl (feq hc21_4).1 k) ?_
          show OwnEnds _ _ _ _ (s₁.setTop (mkF m 24 #[.val (.int ch)] []))
          refine OwnEnds.via (fun t k => XS.iloadN X0.here hx rfl (hb hby d2_24) rfl k) ?_
          show OwnEnds _ _ _ _ (s₁.setTop (mkF m 25 #[.val (.int ch)] [(.int ch)]))
          refine OwnEnds.via (fun t k => XS.bipush X0.here hx rfl (hb hby d2_25) k) ?_
          show OwnEnds _ _ _ _ (s₁.setTop (mkF m 27 #[.val (.int ch)] [(.int (10 : Int32)), (.int ch)]))
          by_cases hc27_5 : ch = (10 : Int32)
          ·
            refine OwnEnds.via (fun t k => XS.icmpYes X0.here hx rfl (pc0 := 27) (pc' := 36) rfl (hb hby d2_27) rfl (teq hc27_5).1 (by decide) (by decide) k) ?_
            show OwnEnds _ _ _ _ (s₁.setTop (mkF m 36 #[.val (.int ch)] []))
            refine OwnEnds.via (fun t k => XS.iconst X0.here hx rfl (hb hby d2_36) k) ?_
            show OwnEnds _ _ _ _ (s₁.setTop (mkF m 37 #[.val (.int ch)] [(.int (1 : Int32))]))
            refine OwnEnds.via (fun t k => XS.goto X0.here hx rfl (pc0 := 37) (pc' := 41) rfl (hb hby d2_37) (by decide) (by decide) k) ?_
            show OwnEnds _ _ _ _ (s₁.setTop (mkF m 41 #[.val (.int ch)] [(.int (1 : Int32))]))
            obtain ⟨fs, hr, hrun, hended, hW, hsame⟩ := X0.leave (v := some (.int (1 : Int32))) (fun h => by rw [Bd.returns] at h; cases h)
            refine ⟨_, _, ?_, hrun, hended, _, _, rfl, ?_, ⟨_, rfl⟩, hW, hsame.mono (by decide) (by decide)⟩
            · exact retN X0 hx (t := .boolean) Bd.returns (by simp) (hb hby d2_41) hr
            · show Q2 Z ch h0 n0 _ s₁.heap _
              rw [e0]
              exact ⟨(by rw [if_pos (by simp only [← Int32.toInt_inj, Int32.lt_iff_toInt_lt, own_k0, own_k9, own_k10, own_k13, own_k32, own_k55295, own_k55296, own_k57343, own_k57344, own_k65533, own_k65534, own_k65535, own_k65536, own_k1114111] at hc1_1 hc7_2 hc15_3 hc21_4 hc27_5; unfold own_X; omega)]), N0, rfl⟩
          ·
            refine OwnEnds.via (fun t k => XS.icmpNo X0.here hx rfl (hb hby d2_27) rfl (feq hc27_5).1 k) ?_
            show OwnEnds _ _ _ _ (s₁.setTop (mkF m 30 #[.val (.int ch)] []))
            refine OwnEnds.via (fun t k => XS.iloadN X0.here hx rfl (hb hby d2_30) rfl k) ?_
            show OwnEnds _ _ _ _ (s₁.setTop (mkF m 31 #[.val (.int ch)] [(.int ch)]))
            refine OwnEnds.via (fun t k => XS.bipush X0.here hx rfl (hb hby d2_31) k) ?_
            show OwnEnds _ _ _ _ (s₁.setTop (mkF m 33 #[.val (.int ch)] [(.int (13 : Int32)), (.int ch)]))
            by_cases hc33_6 : ch = (13 : Int32)
            ·
              refine OwnEnds.via (fun t k => XS.icmpNo X0.here hx rfl (hb hby d2_33) rfl (teq hc33_6).2 k) ?_
              show OwnEnds _ _ _ _ (s₁.setTop (mkF m 36 #[.val (.int ch)] []))
              refine OwnEnds.via (fun t k => XS.iconst X0.here hx rfl (hb hby d2_36) k) ?_
              show OwnEnds _ _ _ _ (s₁.setTop (mkF m 37 #[.val (.int ch)] [(.int (1 : Int32))]))
              refine OwnEnds.via (fun t k => XS.goto X0.here hx rfl (pc0 := 37) (pc' := 41) rfl (hb hby d2_37) (by decide) (by decide) k) ?_
              show OwnEnds _ _ _ _ (s₁.setTop (mkF m 41 #[.val (.int ch)] [(.int (1 : Int32))]))
              obtain ⟨fs, hr, hrun, hended, hW, hsame⟩ := X0.leave (v := some (.int (1 : Int32))) (fun h => by rw [Bd.returns] at h; cases h)
              refine ⟨_, _, ?_, hrun, hended, _, _, rfl, ?_, ⟨_, rfl⟩, hW, hsame.mono (by decide) (by decide)⟩
              · exact retN X0 hx (t := .boolean) Bd.returns (by simp) (hb hby d2_41) hr
              · show Q2 Z ch h0 n0 _ s₁.heap _
                rw [e0]
                exact ⟨(by rw [if_pos (by simp only [← Int32.toInt_inj, Int32.lt_iff_toInt_lt, own_k0, own_k9, own_k10, own_k13, own_k32, own_k55295, own_k55296, own_k57343, own_k57344, own_k65533, own_k65534, own_k65535, own_k65536, own_k1114111] at hc1_1 hc7_2 hc15_3 hc21_4 hc27_5 hc33_6; unfold own_X; omega)]), N0, rfl⟩
            ·
              refine OwnEnds.via (fun t k => XS.icmpYes X0.here hx rfl (pc0 := 33) (pc' := 40) rfl (hb hby d2_33) rfl (feq hc33_6).2 (by decide) (by decide) k) ?_
              show OwnEnds _ _ _ _ (s₁.setTop (mkF m 40 #[.val (.int ch)] []))
              refine OwnEnds.via (fun t k => XS.iconst X0.here hx rfl (hb hby d2_40) k) ?_
              show OwnEnds _ _ _ _ (s₁.setTop (mkF m 41 #[.val (.int ch)] [(.int (0 : Int32))]))
              obtain ⟨fs, hr, hrun, hended, hW, hsame⟩ := X0.leave (v := some (.int (0 : Int32))) (fun h => by rw [Bd.returns] at h; cases h)
              refine ⟨_, _, ?_, hrun, hended, _, _, rfl, ?_, ⟨_, rfl⟩, hW, hsame.mono (by decide) (by decide)⟩
              · exact retN X0 hx (t := .boolean) Bd.returns (by simp) (hb hby d2_41) hr
              · show Q2 Z ch h0 n0 _ s₁.heap _
                rw [e0]
                exact ⟨(by rw [if_neg (by simp only [← Int32.toInt_inj, Int32.lt_iff_toInt_lt, own_k0, own_k9, own_k10, own_k13, own_k32, own_k55295, own_k55296, own_k57343, own_k57344, own_k65533, own_k65534, own_k65535, own_k65536, own_k1114111] at hc1_1 hc7_2 hc15_3 hc21_4 hc27_5 hc33_6; unfold own_X; omega)]), N0, rfl⟩
      ·
        refine OwnEnds.via (fun t k => XS.icmpYes X0.here hx rfl (pc0 := 15) (pc' := 42) rfl (hb hby d2_15) rfl (flt hc15_3).2.1 (by decide) (by decide) k) ?_
        show OwnEnds _ _ _ _ (s₁.setTop (mkF m 42 #[.val (.int ch)] []))
        refine OwnEnds.via (fun t k => XS.iloadN X0.here hx rfl (hb hby d2_42) rfl k) ?_
        show OwnEnds _ _ _ _ (s₁.setTop (mkF m 43 #[.val (.int ch)] [(.int ch)]))
        refine OwnEnds.via (X0.ldcInt hx hown (mvT hZ (hw _ (List.mem_of_getElem? (i := 2) rfl))) (g := (mkF m 43 #[.val (.int ch)] [(.int ch)])) rfl (hb hby d2_43)) ?_
        show OwnEnds _ _ _ _ (s₁.setTop (mkF m 45 #[.val (.int ch)] [(.int (55296 : Int32)), (.int ch)]))
        by_cases hc45_7 : ch < (55296 : Int32)
        ·
          refine OwnEnds.via (fun t k => XS.icmpYes X0.here hx rfl (pc0 := 45) (pc' := 56) rfl (hb hby d2_45) rfl (tlt hc45_7).1 (by decide) (by decide) k) ?_
          show OwnEnds _ _ _ _ (s₁.setTop (mkF m 56 #[.val (.int ch)] []))
          refine OwnEnds.via (fun t k => XS.iloadN X0.here hx rfl (hb hby d2_56) rfl k) ?_
          show OwnEnds _ _ _ _ (s₁.setTop (mkF m 57 #[.val (.int ch)] [(.int ch)]))
          refine OwnEnds.via (X0.ldcInt hx hown (mvT hZ (hw _ (List.mem_of_getElem? (i := 6) rfl))) (g := (mkF m 57 #[.val (.int ch)] [(.int ch)])) rfl (hb hby d2_57)) ?_
          show OwnEnds _ _ _ _ (s₁.setTop (mkF m 59 #[.val (.int ch)] [(.int (65534 : Int32)), (.int ch)]))
          by_cases hc59_8 : ch = (65534 : Int32)
          ·
            refine OwnEnds.via (fun t k => XS.icmpYes X0.here hx rfl (pc0 := 59) (pc' := 68) rfl (hb hby d2_59) rfl (teq hc59_8).1 (by decide) (by decide) k) ?_
            show OwnEnds _ _ _ _ (s₁.setTop (mkF m 68 #[.val (.int ch)] []))
            refine OwnEnds.via (fun t k => XS.iconst X0.here hx rfl (hb hby d2_68) k) ?_
            show OwnEnds _ _ _ _ (s₁.setTop (mkF m 69 #[.val (.int ch)] [(.int (0 : Int32))]))
            obtain ⟨fs, hr, hrun, hended, hW, hsame⟩ := X0.leave (v := some (.int (0 : Int32))) (fun h => by rw [Bd.returns] at h; cases h)
            refine ⟨_, _, ?_, hrun, hended, _, _, rfl, ?_, ⟨_, rfl⟩, hW, hsame.mono (by decide) (by decide)⟩
            · exact retN X0 hx (t := .boolean) Bd.returns (by simp) (hb hby d2_69) hr
            · show Q2 Z ch h0 n0 _ s₁.heap _
              rw [e0]
              exact ⟨(by rw [if_neg (by simp only [← Int32.toInt_inj, Int32.lt_iff_toInt_lt, own_k0, own_k9, own_k10, own_k13, own_k32, own_k55295, own_k55296, own_k57343, own_k57344, own_k65533, own_k65534, own_k65535, own_k65536, own_k1114111] at hc1_1 hc7_2 hc15_3 hc45_7 hc59_8; unfold own_X; omega)]), N0, rfl⟩
          ·
            refine OwnEnds.via (fun t k => XS.icmpNo X0.here hx rfl (hb hby d2_59) rfl (feq hc59_8).1 k) ?_
            show OwnEnds _ _ _ _ (s₁.setTop (mkF m 62 #[.val (.int ch)] []))
            refine OwnEnds.via (fun t k => XS.iloadN X0.here hx rfl (hb hby d2_62) rfl k) ?_
            show OwnEnds _ _ _ _ (s₁.setTop (mkF m 63 #[.val (.int ch)] [(.int ch)]))
            refine OwnEnds.via (X0.ldcInt hx hown (mvT hZ (hw _ (List.mem_of_getElem? (i := 7) rfl))) (g := (mkF m 63 #[.val (.int ch)] [(.int ch)])) rfl (hb hby d2_63)) ?_
            show OwnEnds _ _ _ _ (s₁.setTop (mkF m 65 #[.val (.int ch)] [(.int (65535 : Int32)), (.int ch)]))
            by_cases hc65_9 : ch = (65535 : Int32)
            ·
              refine OwnEnds.via (fun t k => XS.icmpNo X0.here hx rfl (hb hby d2_65) rfl (teq hc65_9).2 k) ?_
              show OwnEnds _ _ _ _ (s₁.setTop (mkF m 68 #[.val (.int ch)] []))
              refine OwnEnds.via (fun t k => XS.iconst X0.here hx rfl (hb hby d2_68) k) ?_
              show OwnEnds _ _ _ _ (s₁.setTop (mkF m 69 #[.val (.int ch)] [(.int (0 : Int32))]))
              obtain ⟨fs, hr, hrun, hended, hW, hsame⟩ := X0.leave (v := some (.int (0 : Int32))) (fun h => by rw [Bd.returns] at h; cases h)
              refine ⟨_, _, ?_, hrun, hended, _, _, rfl, ?_, ⟨_, rfl⟩, hW, hsame.mono (by decide) (by decide)⟩
              · exact retN X0 hx (t := .boolean) Bd.returns (by simp) (hb hby d2_69) hr
              · show Q2 Z ch h0 n0 _ s₁.heap _
                rw [e0]
                exact ⟨(by rw [if_neg (by simp only [← Int32.toInt_inj, Int32.lt_iff_toInt_lt, own_k0, own_k9, own_k10, own_k13, own_k32, own_k55295, own_k55296, own_k57343, own_k57344, own_k65533, own_k65534, own_k65535, own_k65536, own_k1114111] at hc1_1 hc7_2 hc15_3 hc45_7 hc59_8 hc65_9; unfold own_X; omega)]), N0, rfl⟩
            ·
              refine OwnEnds.via (fun t k => XS.icmpYes X0.here hx rfl (pc0 := 65) (pc' := 70) rfl (hb hby d2_65) rfl (feq hc65_9).2 (by decide) (by decide) k) ?_
              show OwnEnds _ _ _ _ (s₁.setTop (mkF m 70 #[.val (.int ch)] []))
              refine OwnEnds.via (fun t k => XS.iconst X0.here hx rfl (hb hby d2_70) k) ?_
              show OwnEnds _ _ _ _ (s₁.setTop (mkF m 71 #[.val (.int ch)] [(.int (1 : Int32))]))
              obtain ⟨fs, hr, hrun, hended, hW, hsame⟩ := X0.leave (v := some (.int (1 : Int32))) (fun h => by rw [Bd.returns] at h; cases h)
              refine ⟨_, _, ?_, hrun, hended, _, _, rfl, ?_, ⟨_, rfl⟩, hW, hsame.mono (by decide) (by decide)⟩
              · exact retN X0 hx (t := .boolean) Bd.returns (by simp) (hb hby d2_71) hr
              · show Q2 Z ch h0 n0 _ s₁.heap _
                rw [e0]
                exact ⟨(by rw [if_pos (by simp only [← Int32.toInt_inj, Int32.lt_iff_toInt_lt, own_k0, own_k9, own_k10, own_k13, own_k32, own_k55295, own_k55296, own_k57343, own_k57344, own_k65533, own_k65534, own_k65535, own_k65536, own_k1114111] at hc1_1 hc7_2 hc15_3 hc45_7 hc59_8 hc65_9; unfold own_X; omega)]), N0, rfl⟩
        ·
          refine OwnEnds.via (fun t k => XS.icmpNo X0.here hx rfl (hb hby d2_45) rfl (flt hc45_7).1 k) ?_
          show OwnEnds _ _ _ _ (s₁.setTop (mkF m 48 #[.val (.int ch)] []))
          refine OwnEnds.via (fun t k => XS.iloadN X0.here hx rfl (hb hby d2_48) rfl k) ?_
          show OwnEnds _ _ _ _ (s₁.setTop (mkF m 49 #[.val (.int ch)] [(.int ch)]))
          refine OwnEnds.via (X0.ldcInt hx hown (mvT hZ (hw _ (List.mem_of_getElem? (i := 3) rfl))) (g := (mkF m 49 #[.val (.int ch)] [(.int ch)])) rfl (hb hby d2_49)) ?_
          show OwnEnds _ _ _ _ (s₁.setTop (mkF m 51 #[.val (.int ch)] [(.int (57343 : Int32)), (.int ch)]))
          by_cases hc51_10 : (57343 : Int32) < ch
          ·
            refine OwnEnds.via (fun t k => XS.icmpYes X0.here hx rfl (pc0 := 51) (pc' := 56) rfl (hb hby d2_51) rfl (tlt hc51_10).2.2.1 (by decide) (by decide) k) ?_
            show OwnEnds _ _ _ _ (s₁.setTop (mkF m 56 #[.val (.int ch)] []))
            refine OwnEnds.via (fun t k => XS.iloadN X0.here hx rfl (hb hby d2_56) rfl k) ?_
            show OwnEnds _ _ _ _ (s₁.setTop (mkF m 57 #[.val (.int ch)] [(.int ch)]))
            refine OwnEnds.via (X0.ldcInt hx hown (mvT hZ (hw _ (List.mem_of_getElem? (i := 6) rfl))) (g := (mkF m 57 #[.val (.int ch)] [(.int ch)])) rfl (hb hby d2_57)) ?_
            show OwnEnds _ _ _ _ (s₁.setTop (mkF m 59 #[.val (.int ch)] [(.int (65534 : Int32)), (.int ch)]))
            by_cases hc59_11 : ch = (65534 : Int32)
            ·
              refine OwnEnds.via (fun t k => XS.icmpYes X0.here hx rfl (pc0 := 59) (pc' := 68) rfl (hb hby d2_59) rfl (teq hc59_11).1 (by decide) (by decide) k) ?_
              show OwnEnds _ _ _ _ (s₁.setTop (mkF m 68 #[.val (.int ch)] []))
              refine OwnEnds.via (fun t k => XS.iconst X0.here hx rfl (hb hby d2_68) k) ?_
              show OwnEnds _ _ _ _ (s₁.setTop (mkF m 69 #[.val (.int ch)] [(.int (0 : Int32))]))
              obtain ⟨fs, hr, hrun, hended, hW, hsame⟩ := X0.leave (v := some (.int (0 : Int32))) (fun h => by rw [Bd.returns] at h; cases h)
              refine ⟨_, _, ?_, hrun, hended, _, _, rfl, ?_, ⟨_, rfl⟩, hW, hsame.mono (by decide) (by decide)⟩
              · exact retN X0 hx (t := .boolean) Bd.returns (by simp) (hb hby d2_69) hr
              · show Q2 Z ch h0 n0 _ s₁.heap _
                rw [e0]
                exact ⟨(by rw [if_neg (by simp only [← Int32.toInt_inj, Int32.lt_iff_toInt_lt, own_k0, own_k9, own_k10, own_k13, own_k32, own_k55295, own_k55296, own_k57343, own_k57344, own_k65533, own_k65534, own_k65535, own_k65536, own_k1114111] at hc1_1 hc7_2 hc15_3 hc45_7 hc51_10 hc59_11; unfold own_X; omega)]), N0, rfl⟩
            ·
              refine OwnEnds.via (fun t k => XS.icmpNo X0.here hx rfl (hb hby d2_59) rfl (feq hc59_11).1 k) ?_
              show OwnEnds _ _ _ _ (s₁.setTop (mkF m 62 #[.val (.int ch)] []))
              refine OwnEnds.via (fun t k => XS.iloadN X0.here hx rfl (hb hby d2_62) rfl k) ?_
              show OwnEnds _ _ _ _ (s₁.setTop (mkF m 63 #[.val (.int ch)] [(.int ch)]))
              refine OwnEnds.via (X0.ldcInt hx hown (mvT hZ (hw _ (List.mem_of_getElem? (i := 7) rfl))) (g := (mkF m 63 #[.val (.int ch)] [(.int ch)])) rfl (hb hby d2_63)) ?_
              show OwnEnds _ _ _ _ (s₁.setTop (mkF m 65 #[.val (.int ch)] [(.int (65535 : Int32)), (.int ch)]))
              by_cases hc65_12 : ch = (65535 : Int32)
              ·
                refine OwnEnds.via (fun t k => XS.icmpNo X0.here hx rfl (hb hby d2_65) rfl (teq hc65_12).2 k) ?_
                show OwnEnds _ _ _ _ (s₁.setTop (mkF m 68 #[.val (.int ch)] []))
                refine OwnEnds.via (fun t k => XS.iconst X0.here hx rfl (hb hby d2_68) k) ?_
                show OwnEnds _ _ _ _ (s₁.setTop (mkF m 69 #[.val (.int ch)] [(.int (0 : Int32))]))
                obtain ⟨fs, hr, hrun, hended, hW, hsame⟩ := X0.leave (v := some (.int (0 : Int32))) (fun h => by rw [Bd.returns] at h; cases h)
                refine ⟨_, _, ?_, hrun, hended, _, _, rfl, ?_, ⟨_, rfl⟩, hW, hsame.mono (by decide) (by decide)⟩
                · exact retN X0 hx (t := .boolean) Bd.returns (by simp) (hb hby d2_69) hr
                · show Q2 Z ch h0 n0 _ s₁.heap _
                  rw [e0]
                  exact ⟨(by rw [if_neg (by simp only [← Int32.toInt_inj, Int32.lt_iff_toInt_lt, own_k0, own_k9, own_k10, own_k13, own_k32, own_k55295, own_k55296, own_k57343, own_k57344, own_k65533, own_k65534, own_k65535, own_k65536, own_k1114111] at hc1_1 hc7_2 hc15_3 hc45_7 hc51_10 hc59_11 hc65_12; unfold own_X; omega)]), N0, rfl⟩
              ·
                refine OwnEnds.via (fun t k => XS.icmpYes X0.here hx rfl (pc0 := 65) (pc' := 70) rfl (hb hby d2_65) rfl (feq hc65_12).2 (by decide) (by decide) k) ?_
                show OwnEnds _ _ _ _ (s₁.setTop (mkF m 70 #[.val (.int ch)] []))
                refine OwnEnds.via (fun t k => XS.iconst X0.here hx rfl (hb hby d2_70) k) ?_
                show OwnEnds _ _ _ _ (s₁.setTop (mkF m 71 #[.val (.int ch)] [(.int (1 : Int32))]))
                obtain ⟨fs, hr, hrun, hended, hW, hsame⟩ := X0.leave (v := some (.int (1 : Int32))) (fun h => by rw [Bd.returns] at h; cases h)
                refine ⟨_, _, ?_, hrun, hended, _, _, rfl, ?_, ⟨_, rfl⟩, hW, hsame.mono (by decide) (by decide)⟩
                · exact retN X0 hx (t := .boolean) Bd.returns (by simp) (hb hby d2_71) hr
                · show Q2 Z ch h0 n0 _ s₁.heap _
                  rw [e0]
                  exact ⟨(by rw [if_pos (by simp only [← Int32.toInt_inj, Int32.lt_iff_toInt_lt, own_k0, own_k9, own_k10, own_k13, own_k32, own_k55295, own_k55296, own_k57343, own_k57344, own_k65533, own_k65534, own_k65535, own_k65536, own_k1114111] at hc1_1 hc7_2 hc15_3 hc45_7 hc51_10 hc59_11 hc65_12; unfold own_X; omega)]), N0, rfl⟩
          ·
            refine OwnEnds.via (fun t k => XS.icmpNo X0.here hx rfl (hb hby d2_51) rfl (flt hc51_10).2.2.1 k) ?_
            show OwnEnds _ _ _ _ (s₁.setTop (mkF m 54 #[.val (.int ch)] []))
            refine OwnEnds.via (fun t k => XS.iconst X0.here hx rfl (hb hby d2_54) k) ?_
            show OwnEnds _ _ _ _ (s₁.setTop (mkF m 55 #[.val (.int ch)] [(.int (0 : Int32))]))
            obtain ⟨fs, hr, hrun, hended, hW, hsame⟩ := X0.leave (v := some (.int (0 : Int32))) (fun h => by rw [Bd.returns] at h; cases h)
            refine ⟨_, _, ?_, hrun, hended, _, _, rfl, ?_, ⟨_, rfl⟩, hW, hsame.mono (by decide) (by decide)⟩
            · exact retN X0 hx (t := .boolean) Bd.returns (by simp) (hb hby d2_55) hr
            · show Q2 Z ch h0 n0 _ s₁.heap _
              rw [e0]
              exact ⟨(by rw [if_neg (by simp only [← Int32.toInt_inj, Int32.lt_iff_toInt_lt, own_k0, own_k9, own_k10, own_k13, own_k32, own_k55295, own_k55296, own_k57343, own_k57344, own_k65533, own_k65534, own_k65535, own_k65536, own_k1114111] at hc1_1 hc7_2 hc15_3 hc45_7 hc51_10; unfold own_X; omega)]), N0, rfl⟩

theorem pn_rm0 : plainName "com/example/enlace/enlace/wire/XmlCharactersAllowedPinLaw" = true := by first | (simp [plainName, overriddenIn]; done) | decide +kernel
theorem pd_0 : parseMethodDescriptor "(I)Z" = some ⟨[.int], some .boolean⟩ := by decide +kernel
theorem ef_rm0 (m : MethodId) (px : Int32) (pk : Int32) (po : Int32) : entryFrame m #[(.int px), (.int pk), (.int po)] maxLocals = mkF m 0 #[.val (.int px), .val (.int pk), .val (.int po), .unset, .unset, .unset, .unset] [] := by first | (simp [entryFrame, mkF, argsToLocals, Value.category, maxLocals]; done) | rfl
def Q0 (Z : State) (px : Int32) (pk : Int32) (po : Int32) (h0 : Heap) (n0 : Nat) (v : Option Value) (h : Heap) (L : List Loc) : Prop := v = some (.int (1 : Int32)) ∧ Fr n0 L
set_option maxRecDepth 65536 in
set_option maxHeartbeats 40000000 in
theorem rm0 (l : Launch) (Z : State) (a0 : Array Value) (hw : ∀ d ∈ tables_1, d.before a0 Z = true) (ws : List Jvm.Cond) (px : Int32) (pk : Int32) (po : Int32) (h0 : Heap) (n0 : Nat) (Z0 : n0 ≤ h0.size)  :
    MetFree l x (head1 (Jvm.Cond.code x code maxLocals ret :: ws) room_1) (fun aa U => aa = #[(.int px), (.int pk), (.int po)] ∧ Z.Warmed39 U.vm ∧ U.heap = h0) (fun _ _ _ _ _ => True) (fun _ U o U' => ∃ v L, o = .returned v ∧ Q0 Z px pk po h0 n0 v U'.heap L ∧ FrameEnd U o U' L room_1.cells room_1.slots) := by
  refine MetFree.of_bodySF (plainFor_of_name pn_rm0) hisR ?_
  intro p e s m args below meth c s₁ Bd hml0 hP hK
  obtain ⟨rfl, hZ, hh⟩ := hP
  have hx := Bd.exec
  have hby := Bd.bytes
  have hml : c.maxLocals = 7 := hml0
  have hown : s.vm.findClass "com/example/enlace/enlace/wire/XmlCharactersAllowedPinLaw" = some m.cls := findClass_of_methodNamed Bd.named
  have hnm := (name_of_methodNamed Bd.named Bd.method).1
  have X0 : Stand p l e room_1 s m #[(.int px), (.int pk), (.int po)] below meth c s₁ [] 0 0 := Stand.of_body Bd
  have e0 : s₁.heap = h0 := by rw [← hh, Bd.state]; rfl
  have N0 := Fr.nil n0
  change OwnEnds p.tables e below _ _
  refine OwnEnds.via (fun t k => castTop (ef_rm0 m px pk po) k) ?_
  show OwnEnds _ _ _ _ (s₁.setTop (mkF m 0 #[.val (.int px), .val (.int pk), .val (.int po), .unset, .unset, .unset, .unset] []))
  refine OwnEnds.via (fun t k => XS.bipush X0.here hx rfl (hb hby at_0) k) ?_
  show OwnEnds _ _ _ _ (s₁.setTop (mkF m 2 #[.val (.int px), .val (.int pk), .val (.int po), .unset, .unset, .unset, .unset] [(.int (17 : Int32))]))
  obtain ⟨T1, h1, k1, X1, e1, E1, A1, st1⟩ := newP X0 hx hZ (hw _ (List.mem_of_getElem? (i := 0) rfl)) e0 (g := (mkF m 2 #[.val (.int px), .val (.int pk), .val (.int po), .unset, .unset, .unset, .unset] [(.int (17 : Int32))])) rfl (hb hby at_2) rfl (by decide) (cap := 17) (by decide) (by decide) (by decide) (by decide)
  obtain ⟨b1, g1⟩ : ∃ z, z = h0.size := ⟨_, rfl⟩
  have ge_b1 : n0 ≤ b1 := Nat.le_trans Z0 (Nat.le_of_eq g1.symm)
  have Z1 : n0 ≤ h1.size := Nat.le_trans Z0 E1.1
  rw [← g1] at A1 st1
  have V1 : Arv Z h1 b1 k1 .int (17 : Int32) [(.int (0 : Int32)), (.int (0 : Int32)), (.int (0 : Int32)), (.int (0 : Int32)), (.int (0 : Int32)), (.int (0 : Int32)), (.int (0 : Int32)), (.int (0 : Int32)), (.int (0 : Int32)), (.int (0 : Int32)), (.int (0 : Int32)), (.int (0 : Int32)), (.int (0 : Int32)), (.int (0 : Int32)), (.int (0 : Int32)), (.int (0 : Int32)), (.int (0 : Int32))] (.int (0 : Int32)) := (Arv.new A1 (by decide)).pad (pad_rep [] (.int (0 : Int32)) 17)
  refine OwnEnds.via st1 ?_
  show OwnEnds _ _ _ _ (T1.setTop (mkF m 4 #[.val (.int px), .val (.int pk), .val (.int po), .unset, .unset, .unset, .unset] [(.ref b1)]))
  refine OwnEnds.via (fun t k => XS.dup X1.here hx rfl (hb hby at_4) rfl rfl k) ?_
  show OwnEnds _ _ _ _ (T1.setTop (mkF m 5 #[.val (.int px), .val (.int pk), .val (.int po), .unset, .unset, .unset, .unset] [(.ref b1), (.ref b1)]))
  refine OwnEnds.via (fun t k => XS.iconst X1.here hx rfl (hb hby at_5) k) ?_
  show OwnEnds _ _ _ _ (T1.setTop (mkF m 6 #[.val (.int px), .val (.int pk), .val (.int po), .unset, .unset, .unset, .unset] [(.int (0 : Int32)), (.ref b1), (.ref b1)]))
  refine OwnEnds.via (fun t k => XS.iconst X1.here hx rfl (hb hby at_6) k) ?_
  show OwnEnds _ _ _ _ (T1.setTop (mkF m 7 #[.val (.int px), .val (.int pk), .val (.int po), .unset, .unset, .unset, .unset] [(.int (0 : Int32)), (.int (0 : Int32)), (.ref b1), (.ref b1)]))
  obtain ⟨cl2, Ar2, q2, S2, M2, H2, G2⟩ := id V1
  have hin2 : ¬ ((0 : Int32) < 0 ∨ cl2.slots.size ≤ ((0 : Int32)).toNatClampNeg) := inb_of S2 ⟨by decide, by decide⟩
  obtain ⟨T2, h2, X2, e2, W2, st2⟩ := stI X1 hx hZ e1 Ar2 (j := (0 : Int32)) hin2 (g := (mkF m 7 #[.val (.int px), .val (.int pk), .val (.int po), .unset, .unset, .unset, .unset] [(.int (0 : Int32)), (.int (0 : Int32)), (.ref b1), (.ref b1)])) rfl rfl (hb hby at_7)
  have V2 : Arv Z h2 b1 k1 .int (17 : Int32) [(.int (0 : Int32)), (.int (0 : Int32)), (.int (0 : Int32)), (.int (0 : Int32)), (.int (0 : Int32)), (.int (0 : Int32)), (.int (0 : Int32)), (.int (0 : Int32)), (.int (0 : Int32)), (.int (0 : Int32)), (.int (0 : Int32)), (.int (0 : Int32)), (.int (0 : Int32)), (.int (0 : Int32)), (.int (0 : Int32)), (.int (0 : Int32)), (.int (0 : Int32))] (.int (0 : Int32)) := Arv.set Ar2 q2 S2 M2 H2 G2 rfl W2 0 rfl (Nat.le_of_ble_eq_true rfl)
  have N2 := Fr.snoc X2 N0 ge_b1
  have Z2 : n0 ≤ h2.size := Nat.le_trans Z1 (Nat.le_of_eq W2.size.symm)
  refine OwnEnds.via st2 ?_
  show OwnEnds _ _ _ _ (T2.setTop (mkF m 8 #[.val (.int px), .val (.int pk), .val (.int po), .unset, .unset, .unset, .unset] [(.ref b1)]))
  refine OwnEnds.via (fun t k => XS.dup X2.here hx rfl (hb hby at_8) rfl rfl k) ?_
  show OwnEnds _ _ _ _ (T2.setTop (mkF m 9 #[.val (.int px), .val (.int pk), .val (.int po), .unset, .unset, .unset, .unset] [(.ref b1), (.ref b1)]))
  refine OwnEnds.via (fun t k => XS.iconst X2.here hx rfl (hb hby at_9) k) ?_
  show OwnEnds _ _ _ _ (T2.setTop (mkF m 10 #[.val (.int px), .val (.int pk), .val (.int po), .unset, .unset, .unset, .unset] [(.int (1 : Int32)), (.ref b1), (.ref b1)]))
  refine OwnEnds.via (fun t k => XS.bipush X2.here hx rfl (hb hby at_10) k) ?_
  show OwnEnds _ _ _ _ (T2.setTop (mkF m 12 #[.val (.int px), .val (.int pk), .val (.int po), .unset, .unset, .unset, .unset] [(.int (9 : Int32)), (.int (1 : Int32)), (.ref b1), (.ref b1)]))
  obtain ⟨cl3, Ar3, q3, S3, M3, H3, G3⟩ := id V2
  have hin3 : ¬ ((1 : Int32) < 0 ∨ cl3.slots.size ≤ ((1 : Int32)).toNatClampNeg) := inb_of S3 ⟨by decide, by decide⟩
  obtain ⟨T3, h3, X3, e3, W3, st3⟩ := stI X2 hx hZ e2 Ar3 (j := (1 : Int32)) hin3 (g := (mkF m 12 #[.val (.int px), .val (.int pk), .val (.int po), .unset, .unset, .unset, .unset] [(.int (9 : Int32)), (.int (1 : Int32)), (.ref b1), (.ref b1)])) rfl rfl (hb hby at_12)
  have V3 : Arv Z h3 b1 k1 .int (17 : Int32) [(.int (0 : Int32)), (.int (9 : Int32)), (.int (0 : Int32)), (.int (0 : Int32)), (.int (0 : Int32)), (.int (0 : Int32)), (.int (0 : Int32)), (.int (0 : Int32)), (.int (0 : Int32)), (.int (0 : Int32)), (.int (0 : Int32)), (.int (0 : Int32)), (.int (0 : Int32)), (.int (0 : Int32)), (.int (0 : Int32)), (.int (0 : Int32)), (.int (0 : Int32))] (.int (0 : Int32)) := Arv.set Ar3 q3 S3 M3 H3 G3 rfl W3 1 rfl (Nat.le_of_ble_eq_true rfl)
  have N3 := Fr.snoc X3 N2 ge_b1
  have Z3 : n0 ≤ h3.size := Nat.le_trans Z2 (Nat.le_of_eq W3.size.symm)
  refine OwnEnds.via st3 ?_
  show OwnEnds _ _ _ _ (T3.setTop (mkF m 13 #[.val (.int px), .val (.int pk), .val (.int po), .unset, .unset, .unset, .unset] [(.ref b1)]))
  refine OwnEnds.via (fun t k => XS.dup X3.here hx rfl (hb hby at_13) rfl rfl k) ?_
  show OwnEnds _ _ _ _ (T3.setTop (mkF m 14 #[.val (.int px), .val (.int pk), .val (.int po), .unset, .unset, .unset, .unset] [(.ref b1), (.ref b1)]))
  refine OwnEnds.via (fun t k => XS.iconst X3.here hx rfl (hb hby at_14) k) ?_
  show OwnEnds _ _ _ _ (T3.setTop (mkF m 15 #[.val (.int px), .val (.int pk), .val (.int po), .unset, .unset, .unset, .unset] [(.int (2 : Int32)), (.ref b1), (.ref b1)]))
  refine OwnEnds.via (fun t k => XS.bipush X3.here hx rfl (hb hby at_15) k) ?_
  show OwnEnds _ _ _ _ (T3.setTop (mkF m 17 #[.val (.int px), .val (.int pk), .val (.int po), .unset, .unset, .unset, .unset] [(.int (10 : Int32)), (.int (2 : Int32)), (.ref b1), (.ref b1)]))
  obtain ⟨cl4, Ar4, q4, S4, M4, H4, G4⟩ := id V3
  have hin4 : ¬ ((2 : Int32) < 0 ∨ cl4.slots.size ≤ ((2 : Int32)).toNatClampNeg) := inb_of S4 ⟨by decide, by decide⟩
  obtain ⟨T4, h4, X4, e4, W4, st4⟩ := stI X3 hx hZ e3 Ar4 (j := (2 : Int32)) hin4 (g := (mkF m 17 #[.val (.int px), .val (.int pk), .val (.int po), .unset, .unset, .unset, .unset] [(.int (10 : Int32)), (.int (2 : Int32)), (.ref b1), (.ref b1)])) rfl rfl (hb hby at_17)
  have V4 : Arv Z h4 b1 k1 .int (17 : Int32) [(.int (0 : Int32)), (.int (9 : Int32)), (.int (10 : Int32)), (.int (0 : Int32)), (.int (0 : Int32)), (.int (0 : Int32)), (.int (0 : Int32)), (.int (0 : Int32)), (.int (0 : Int32)), (.int (0 : Int32)), (.int (0 : Int32)), (.int (0 : Int32)), (.int (0 : Int32)), (.int (0 : Int32)), (.int (0 : Int32)), (.int (0 : Int32)), (.int (0 : Int32))] (.int (0 : Int32)) := Arv.set Ar4 q4 S4 M4 H4 G4 rfl W4 2 rfl (Nat.le_of_ble_eq_true rfl)
  have N4 := Fr.snoc X4 N3 ge_b1
  have Z4 : n0 ≤ h4.size := Nat.le_trans Z3 (Nat.le_of_eq W4.size.symm)
  refine OwnEnds.via st4 ?_
  show OwnEnds _ _ _ _ (T4.setTop (mkF m 18 #[.val (.int px), .val (.int pk), .val (.int po), .unset, .unset, .unset, .unset] [(.ref b1)]))
  refine OwnEnds.via (fun t k => XS.dup X4.here hx rfl (hb hby at_18) rfl rfl k) ?_
  show OwnEnds _ _ _ _ (T4.setTop (mkF m 19 #[.val (.int px), .val (.int pk), .val (.int po), .unset, .unset, .unset, .unset] [(.ref b1), (.ref b1)]))
  refine OwnEnds.via (fun t k => XS.iconst X4.here hx rfl (hb hby at_19) k) ?_
  show OwnEnds _ _ _ _ (T4.setTop (mkF m 20 #[.val (.int px), .val (.int pk), .val (.int po), .unset, .unset, .unset, .unset] [(.int (3 : Int32)), (.ref b1), (.ref b1)]))
  refine OwnEnds.via (fun t k => XS.bipush X4.here hx rfl (hb hby at_20) k) ?_
  show OwnEnds _ _ _ _ (T4.setTop (mkF m 22 #[.val (.int px), .val (.int pk), .val (.int po), .unset, .unset, .unset, .unset] [(.int (13 : Int32)), (.int (3 : Int32)), (.ref b1), (.ref b1)]))
  obtain ⟨cl5, Ar5, q5, S5, M5, H5, G5⟩ := id V4
  have hin5 : ¬ ((3 : Int32) < 0 ∨ cl5.slots.size ≤ ((3 : Int32)).toNatClampNeg) := inb_of S5 ⟨by decide, by decide⟩
  obtain ⟨T5, h5, X5, e5, W5, st5⟩ := stI X4 hx hZ e4 Ar5 (j := (3 : Int32)) hin5 (g := (mkF m 22 #[.val (.int px), .val (.int pk), .val (.int po), .unset, .unset, .unset, .unset] [(.int (13 : Int32)), (.int (3 : Int32)), (.ref b1), (.ref b1)])) rfl rfl (hb hby at_22)
  have V5 : Arv Z h5 b1 k1 .int (17 : Int32) [(.int (0 : Int32)), (.int (9 : Int32)), (.int (10 : Int32)), (.int (13 : Int32)), (.int (0 : Int32)), (.int (0 : Int32)), (.int (0 : Int32)), (.int (0 : Int32)), (.int (0 : Int32)), (.int (0 : Int32)), (.int (0 : Int32)), (.int (0 : Int32)), (.int (0 : Int32)), (.int (0 : Int32)), (.int (0 : Int32)), (.int (0 : Int32)), (.int (0 : Int32))] (.int (0 : Int32)) := Arv.set Ar5 q5 S5 M5 H5 G5 rfl W5 3 rfl (Nat.le_of_ble_eq_true rfl)
  have N5 := Fr.snoc X5 N4 ge_b1
  have Z5 : n0 ≤ h5.size := Nat.le_trans Z4 (Nat.le_of_eq W5.size.symm)
  refine OwnEnds.via st5 ?_
  show OwnEnds _ _ _ _ (T5.setTop (mkF m 23 #[.val (.int px), .val (.int pk), .val (.int po), .unset, .unset, .unset, .unset] [(.ref b1)]))
  refine OwnEnds.via (fun t k => XS.dup X5.here hx rfl (hb hby at_23) rfl rfl k) ?_
  show OwnEnds _ _ _ _ (T5.setTop (mkF m 24 #[.val (.int px), .val (.int pk), .val (.int po), .unset, .unset, .unset, .unset] [(.ref b1), (.ref b1)]))
  refine OwnEnds.via (fun t k => XS.iconst X5.here hx rfl (hb hby at_24) k) ?_
  show OwnEnds _ _ _ _ (T5.setTop (mkF m 25 #[.val (.int px), .val (.int pk), .val (.int po), .unset, .unset, .unset, .unset] [(.int (4 : Int32)), (.ref b1), (.ref b1)]))
  refine OwnEnds.via (fun t k => XS.bipush X5.here hx rfl (hb hby at_25) k) ?_
  show OwnEnds _ _ _ _ (T5.setTop (mkF m 27 #[.val (.int px), .val (.int pk), .val (.int po), .unset, .unset, .unset, .unset] [(.int (32 : Int32)), (.int (4 : Int32)), (.ref b1), (.ref b1)]))
  obtain ⟨cl6, Ar6, q6, S6, M6, H6, G6⟩ := id V5
  have hin6 : ¬ ((4 : Int32) < 0 ∨ cl6.slots.size ≤ ((4 : Int32)).toNatClampNeg) := inb_of S6 ⟨by decide, by decide⟩
  obtain ⟨T6, h6, X6, e6, W6, st6⟩ := stI X5 hx hZ e5 Ar6 (j := (4 : Int32)) hin6 (g := (mkF m 27 #[.val (.int px), .val (.int pk), .val (.int po), .unset, .unset, .unset, .unset] [(.int (32 : Int32)), (.int (4 : Int32)), (.ref b1), (.ref b1)])) rfl rfl (hb hby at_27)
  have V6 : Arv Z h6 b1 k1 .int (17 : Int32) [(.int (0 : Int32)), (.int (9 : Int32)), (.int (10 : Int32)), (.int (13 : Int32)), (.int (32 : Int32)), (.int (0 : Int32)), (.int (0 : Int32)), (.int (0 : Int32)), (.int (0 : Int32)), (.int (0 : Int32)), (.int (0 : Int32)), (.int (0 : Int32)), (.int (0 : Int32)), (.int (0 : Int32)), (.int (0 : Int32)), (.int (0 : Int32)), (.int (0 : Int32))] (.int (0 : Int32)) := Arv.set Ar6 q6 S6 M6 H6 G6 rfl W6 4 rfl (Nat.le_of_ble_eq_true rfl)
  have N6 := Fr.snoc X6 N5 ge_b1
  have Z6 : n0 ≤ h6.size := Nat.le_trans Z5 (Nat.le_of_eq W6.size.symm)
  refine OwnEnds.via st6 ?_
  show OwnEnds _ _ _ _ (T6.setTop (mkF m 28 #[.val (.int px), .val (.int pk), .val (.int po), .unset, .unset, .unset, .unset] [(.ref b1)]))
  refine OwnEnds.via (fun t k => XS.dup X6.here hx rfl (hb hby at_28) rfl rfl k) ?_
  show OwnEnds _ _ _ _ (T6.setTop (mkF m 29 #[.val (.int px), .val (.int pk), .val (.int po), .unset, .unset, .unset, .unset] [(.ref b1), (.ref b1)]))
  refine OwnEnds.via (fun t k => XS.iconst X6.here hx rfl (hb hby at_29) k) ?_
  show OwnEnds _ _ _ _ (T6.setTop (mkF m 30 #[.val (.int px), .val (.int pk), .val (.int po), .unset, .unset, .unset, .unset] [(.int (5 : Int32)), (.ref b1), (.ref b1)]))
  refine OwnEnds.via (X6.ldcInt hx hown (mvT hZ (hw _ (List.mem_of_getElem? (i := 1) rfl))) (g := (mkF m 30 #[.val (.int px), .val (.int pk), .val (.int po), .unset, .unset, .unset, .unset] [(.int (5 : Int32)), (.ref b1), (.ref b1)])) rfl (hb hby at_30)) ?_
  show OwnEnds _ _ _ _ (T6.setTop (mkF m 32 #[.val (.int px), .val (.int pk), .val (.int po), .unset, .unset, .unset, .unset] [(.int (55295 : Int32)), (.int (5 : Int32)), (.ref b1), (.ref b1)]))
  obtain ⟨cl7, Ar7, q7, S7, M7, H7, G7⟩ := id V6
  have hin7 : ¬ ((5 : Int32) < 0 ∨ cl7.slots.size ≤ ((5 : Int32)).toNatClampNeg) := inb_of S7 ⟨by decide, by decide⟩
  obtain ⟨T7, h7, X7, e7, W7, st7⟩ := stI X6 hx hZ e6 Ar7 (j := (5 : Int32)) hin7 (g := (mkF m 32 #[.val (.int px), .val (.int pk), .val (.int po), .unset, .unset, .unset, .unset] [(.int (55295 : Int32)), (.int (5 : Int32)), (.ref b1), (.ref b1)])) rfl rfl (hb hby at_32)
  have V7 : Arv Z h7 b1 k1 .int (17 : Int32) [(.int (0 : Int32)), (.int (9 : Int32)), (.int (10 : Int32)), (.int (13 : Int32)), (.int (32 : Int32)), (.int (55295 : Int32)), (.int (0 : Int32)), (.int (0 : Int32)), (.int (0 : Int32)), (.int (0 : Int32)), (.int (0 : Int32)), (.int (0 : Int32)), (.int (0 : Int32)), (.int (0 : Int32)), (.int (0 : Int32)), (.int (0 : Int32)), (.int (0 : Int32))] (.int (0 : Int32)) := Arv.set Ar7 q7 S7 M7 H7 G7 rfl W7 5 rfl (Nat.le_of_ble_eq_true rfl)
  have N7 := Fr.snoc X7 N6 ge_b1
  have Z7 : n0 ≤ h7.size := Nat.le_trans Z6 (Nat.le_of_eq W7.size.symm)
  refine OwnEnds.via st7 ?_
  show OwnEnds _ _ _ _ (T7.setTop (mkF m 33 #[.val (.int px), .val (.int pk), .val (.int po), .unset, .unset, .unset, .unset] [(.ref b1)]))
  refine OwnEnds.via (fun t k => XS.dup X7.here hx rfl (hb hby at_33) rfl rfl k) ?_
  show OwnEnds _ _ _ _ (T7.setTop (mkF m 34 #[.val (.int px), .val (.int pk), .val (.int po), .unset, .unset, .unset, .unset] [(.ref b1), (.ref b1)]))
  refine OwnEnds.via (fun t k => XS.bipush X7.here hx rfl (hb hby at_34) k) ?_
  show OwnEnds _ _ _ _ (T7.setTop (mkF m 36 #[.val (.int px), .val (.int pk), .val (.int po), .unset, .unset, .unset, .unset] [(.int (6 : Int32)), (.ref b1), (.ref b1)]))
  refine OwnEnds.via (X7.ldcInt hx hown (mvT hZ (hw _ (List.mem_of_getElem? (i := 2) rfl))) (g := (mkF m 36 #[.val (.int px), .val (.int pk), .val (.int po), .unset, .unset, .unset, .unset] [(.int (6 : Int32)), (.ref b1), (.ref b1)])) rfl (hb hby at_36)) ?_
  show OwnEnds _ _ _ _ (T7.setTop (mkF m 38 #[.val (.int px), .val (.int pk), .val (.int po), .unset, .unset, .unset, .unset] [(.int (55296 : Int32)), (.int (6 : Int32)), (.ref b1), (.ref b1)]))
  obtain ⟨cl8, Ar8, q8, S8, M8, H8, G8⟩ := id V7
  have hin8 : ¬ ((6 : Int32) < 0 ∨ cl8.slots.size ≤ ((6 : Int32)).toNatClampNeg) := inb_of S8 ⟨by decide, by decide⟩
  obtain ⟨T8, h8, X8, e8, W8, st8⟩ := stI X7 hx hZ e7 Ar8 (j := (6 : Int32)) hin8 (g := (mkF m 38 #[.val (.int px), .val (.int pk), .val (.int po), .unset, .unset, .unset, .unset] [(.int (55296 : Int32)), (.int (6 : Int32)), (.ref b1), (.ref b1)])) rfl rfl (hb hby at_38)
  have V8 : Arv Z h8 b1 k1 .int (17 : Int32) [(.int (0 : Int32)), (.int (9 : Int32)), (.int (10 : Int32)), (.int (13 : Int32)), (.int (32 : Int32)), (.int (55295 : Int32)), (.int (55296 : Int32)), (.int (0 : Int32)), (.int (0 : Int32)), (.int (0 : Int32)), (.int (0 : Int32)), (.int (0 : Int32)), (.int (0 : Int32)), (.int (0 : Int32)), (.int (0 : Int32)), (.int (0 : Int32)), (.int (0 : Int32))] (.int (0 : Int32)) := Arv.set Ar8 q8 S8 M8 H8 G8 rfl W8 6 rfl (Nat.le_of_ble_eq_true rfl)
  have N8 := Fr.snoc X8 N7 ge_b1
  have Z8 : n0 ≤ h8.size := Nat.le_trans Z7 (Nat.le_of_eq W8.size.symm)
  refine OwnEnds.via st8 ?_
  show OwnEnds _ _ _ _ (T8.setTop (mkF m 39 #[.val (.int px), .val (.int pk), .val (.int po), .unset, .unset, .unset, .unset] [(.ref b1)]))
  refine OwnEnds.via (fun t k => XS.dup X8.here hx rfl (hb hby at_39) rfl rfl k) ?_
  show OwnEnds _ _ _ _ (T8.setTop (mkF m 40 #[.val (.int px), .val (.int pk), .val (.int po), .unset, .unset, .unset, .unset] [(.ref b1), (.ref b1)]))
  refine OwnEnds.via (fun t k => XS.bipush X8.here hx rfl (hb hby at_40) k) ?_
  show OwnEnds _ _ _ _ (T8.setTop (mkF m 42 #[.val (.int px), .val (.int pk), .val (.int po), .unset, .unset, .unset, .unset] [(.int (7 : Int32)), (.ref b1), (.ref b1)]))
  refine OwnEnds.via (X8.ldcInt hx hown (mvT hZ (hw _ (List.mem_of_getElem? (i := 3) rfl))) (g := (mkF m 42 #[.val (.int px), .val (.int pk), .val (.int po), .unset, .unset, .unset, .unset] [(.int (7 : Int32)), (.ref b1), (.ref b1)])) rfl (hb hby at_42)) ?_
  show OwnEnds _ _ _ _ (T8.setTop (mkF m 44 #[.val (.int px), .val (.int pk), .val (.int po), .unset, .unset, .unset, .unset] [(.int (57343 : Int32)), (.int (7 : Int32)), (.ref b1), (.ref b1)]))
  obtain ⟨cl9, Ar9, q9, S9, M9, H9, G9⟩ := id V8
  have hin9 : ¬ ((7 : Int32) < 0 ∨ cl9.slots.size ≤ ((7 : Int32)).toNatClampNeg) := inb_of S9 ⟨by decide, by decide⟩
  obtain ⟨T9, h9, X9, e9, W9, st9⟩ := stI X8 hx hZ e8 Ar9 (j := (7 : Int32)) hin9 (g := (mkF m 44 #[.val (.int px), .val (.int pk), .val (.int po), .unset, .unset, .unset, .unset] [(.int (57343 : Int32)), (.int (7 : Int32)), (.ref b1), (.ref b1)])) rfl rfl (hb hby at_44)
  have V9 : Arv Z h9 b1 k1 .int (17 : Int32) [(.int (0 : Int32)), (.int (9 : Int32)), (.int (10 : Int32)), (.int (13 : Int32)), (.int (32 : Int32)), (.int (55295 : Int32)), (.int (55296 : Int32)), (.int (57343 : Int32)), (.int (0 : Int32)), (.int (0 : Int32)), (.int (0 : Int32)), (.int (0 : Int32)), (.int (0 : Int32)), (.int (0 : Int32)), (.int (0 : Int32)), (.int (0 : Int32)), (.int (0 : Int32))] (.int (0 : Int32)) := Arv.set Ar9 q9 S9 M9 H9 G9 rfl W9 7 rfl (Nat.le_of_ble_eq_true rfl)
  have N9 := Fr.snoc X9 N8 ge_b1
  have Z9 : n0 ≤ h9.size := Nat.le_trans Z8 (Nat.le_of_eq W9.size.symm)
  refine OwnEnds.via st9 ?_
  show OwnEnds _ _ _ _ (T9.setTop (mkF m 45 #[.val (.int px), .val (.int pk), .val (.int po), .unset, .unset, .unset, .unset] [(.ref b1)]))
  refine OwnEnds.via (fun t k => XS.dup X9.here hx rfl (hb hby at_45) rfl rfl k) ?_
  show OwnEnds _ _ _ _ (T9.setTop (mkF m 46 #[.val (.int px), .val (.int pk), .val (.int po), .unset, .unset, .unset, .unset] [(.ref b1), (.ref b1)]))
  refine OwnEnds.via (fun t k => XS.bipush X9.here hx rfl (hb hby at_46) k) ?_
  show OwnEnds _ _ _ _ (T9.setTop (mkF m 48 #[.val (.int px), .val (.int pk), .val (.int po), .unset, .unset, .unset, .unset] [(.int (8 : Int32)), (.ref b1), (.ref b1)]))
  refine OwnEnds.via (X9.ldcInt hx hown (mvT hZ (hw _ (List.mem_of_getElem? (i := 4) rfl))) (g := (mkF m 48 #[.val (.int px), .val (.int pk), .val (.int po), .unset, .unset, .unset, .unset] [(.int (8 : Int32)), (.ref b1), (.ref b1)])) rfl (hb hby at_48)) ?_
  show OwnEnds _ _ _ _ (T9.setTop (mkF m 50 #[.val (.int px), .val (.int pk), .val (.int po), .unset, .unset, .unset, .unset] [(.int (57344 : Int32)), (.int (8 : Int32)), (.ref b1), (.ref b1)]))
  obtain ⟨cl10, Ar10, q10, S10, M10, H10, G10⟩ := id V9
  have hin10 : ¬ ((8 : Int32) < 0 ∨ cl10.slots.size ≤ ((8 : Int32)).toNatClampNeg) := inb_of S10 ⟨by decide, by decide⟩
  obtain ⟨T10, h10, X10, e10, W10, st10⟩ := stI X9 hx hZ e9 Ar10 (j := (8 : Int32)) hin10 (g := (mkF m 50 #[.val (.int px), .val (.int pk), .val (.int po), .unset, .unset, .unset, .unset] [(.int (57344 : Int32)), (.int (8 : Int32)), (.ref b1), (.ref b1)])) rfl rfl (hb hby at_50)
  have V10 : Arv Z h10 b1 k1 .int (17 : Int32) [(.int (0 : Int32)), (.int (9 : Int32)), (.int (10 : Int32)), (.int (13 : Int32)), (.int (32 : Int32)), (.int (55295 : Int32)), (.int (55296 : Int32)), (.int (57343 : Int32)), (.int (57344 : Int32)), (.int (0 : Int32)), (.int (0 : Int32)), (.int (0 : Int32)), (.int (0 : Int32)), (.int (0 : Int32)), (.int (0 : Int32)), (.int (0 : Int32)), (.int (0 : Int32))] (.int (0 : Int32)) := Arv.set Ar10 q10 S10 M10 H10 G10 rfl W10 8 rfl (Nat.le_of_ble_eq_true rfl)
  have N10 := Fr.snoc X10 N9 ge_b1
  have Z10 : n0 ≤ h10.size := Nat.le_trans Z9 (Nat.le_of_eq W10.size.symm)
  refine OwnEnds.via st10 ?_
  show OwnEnds _ _ _ _ (T10.setTop (mkF m 51 #[.val (.int px), .val (.int pk), .val (.int po), .unset, .unset, .unset, .unset] [(.ref b1)]))
  refine OwnEnds.via (fun t k => XS.dup X10.here hx rfl (hb hby at_51) rfl rfl k) ?_
  show OwnEnds _ _ _ _ (T10.setTop (mkF m 52 #[.val (.int px), .val (.int pk), .val (.int po), .unset, .unset, .unset, .unset] [(.ref b1), (.ref b1)]))
  refine OwnEnds.via (fun t k => XS.bipush X10.here hx rfl (hb hby at_52) k) ?_
  show OwnEnds _ _ _ _ (T10.setTop (mkF m 54 #[.val (.int px), .val (.int pk), .val (.int po), .unset, .unset, .unset, .unset] [(.int (9 : Int32)), (.ref b1), (.ref b1)]))
  refine OwnEnds.via (X10.ldcInt hx hown (mvT hZ (hw _ (List.mem_of_getElem? (i := 5) rfl))) (g := (mkF m 54 #[.val (.int px), .val (.int pk), .val (.int po), .unset, .unset, .unset, .unset] [(.int (9 : Int32)), (.ref b1), (.ref b1)])) rfl (hb hby at_54)) ?_
  show OwnEnds _ _ _ _ (T10.setTop (mkF m 56 #[.val (.int px), .val (.int pk), .val (.int po), .unset, .unset, .unset, .unset] [(.int (65533 : Int32)), (.int (9 : Int32)), (.ref b1), (.ref b1)]))
  obtain ⟨cl11, Ar11, q11, S11, M11, H11, G11⟩ := id V10
  have hin11 : ¬ ((9 : Int32) < 0 ∨ cl11.slots.size ≤ ((9 : Int32)).toNatClampNeg) := inb_of S11 ⟨by decide, by decide⟩
  obtain ⟨T11, h11, X11, e11, W11, st11⟩ := stI X10 hx hZ e10 Ar11 (j := (9 : Int32)) hin11 (g := (mkF m 56 #[.val (.int px), .val (.int pk), .val (.int po), .unset, .unset, .unset, .unset] [(.int (65533 : Int32)), (.int (9 : Int32)), (.ref b1), (.ref b1)])) rfl rfl (hb hby at_56)
  have V11 : Arv Z h11 b1 k1 .int (17 : Int32) [(.int (0 : Int32)), (.int (9 : Int32)), (.int (10 : Int32)), (.int (13 : Int32)), (.int (32 : Int32)), (.int (55295 : Int32)), (.int (55296 : Int32)), (.int (57343 : Int32)), (.int (57344 : Int32)), (.int (65533 : Int32)), (.int (0 : Int32)), (.int (0 : Int32)), (.int (0 : Int32)), (.int (0 : Int32)), (.int (0 : Int32)), (.int (0 : Int32)), (.int (0 : Int32))] (.int (0 : Int32)) := Arv.set Ar11 q11 S11 M11 H11 G11 rfl W11 9 rfl (Nat.le_of_ble_eq_true rfl)
  have N11 := Fr.snoc X11 N10 ge_b1
  have Z11 : n0 ≤ h11.size := Nat.le_trans Z10 (Nat.le_of_eq W11.size.symm)
  refine OwnEnds.via st11 ?_
  show OwnEnds _ _ _ _ (T11.setTop (mkF m 57 #[.val (.int px), .val (.int pk), .val (.int po), .unset, .unset, .unset, .unset] [(.ref b1)]))
  refine OwnEnds.via (fun t k => XS.dup X11.here hx rfl (hb hby at_57) rfl rfl k) ?_
  show OwnEnds _ _ _ _ (T11.setTop (mkF m 58 #[.val (.int px), .val (.int pk), .val (.int po), .unset, .unset, .unset, .unset] [(.ref b1), (.ref b1)]))
  refine OwnEnds.via (fun t k => XS.bipush X11.here hx rfl (hb hby at_58) k) ?_
  show OwnEnds _ _ _ _ (T11.setTop (mkF m 60 #[.val (.int px), .val (.int pk), .val (.int po), .unset, .unset, .unset, .unset] [(.int (10 : Int32)), (.ref b1), (.ref b1)]))
  refine OwnEnds.via (X11.ldcInt hx hown (mvT hZ (hw _ (List.mem_of_getElem? (i := 6) rfl))) (g := (mkF m 60 #[.val (.int px), .val (.int pk), .val (.int po), .unset, .unset, .unset, .unset] [(.int (10 : Int32)), (.ref b1), (.ref b1)])) rfl (hb hby at_60)) ?_
  show OwnEnds _ _ _ _ (T11.setTop (mkF m 62 #[.val (.int px), .val (.int pk), .val (.int po), .unset, .unset, .unset, .unset] [(.int (65534 : Int32)), (.int (10 : Int32)), (.ref b1), (.ref b1)]))
  obtain ⟨cl12, Ar12, q12, S12, M12, H12, G12⟩ := id V11
  have hin12 : ¬ ((10 : Int32) < 0 ∨ cl12.slots.size ≤ ((10 : Int32)).toNatClampNeg) := inb_of S12 ⟨by decide, by decide⟩
  obtain ⟨T12, h12, X12, e12, W12, st12⟩ := stI X11 hx hZ e11 Ar12 (j := (10 : Int32)) hin12 (g := (mkF m 62 #[.val (.int px), .val (.int pk), .val (.int po), .unset, .unset, .unset, .unset] [(.int (65534 : Int32)), (.int (10 : Int32)), (.ref b1), (.ref b1)])) rfl rfl (hb hby at_62)
  have V12 : Arv Z h12 b1 k1 .int (17 : Int32) [(.int (0 : Int32)), (.int (9 : Int32)), (.int (10 : Int32)), (.int (13 : Int32)), (.int (32 : Int32)), (.int (55295 : Int32)), (.int (55296 : Int32)), (.int (57343 : Int32)), (.int (57344 : Int32)), (.int (65533 : Int32)), (.int (65534 : Int32)), (.int (0 : Int32)), (.int (0 : Int32)), (.int (0 : Int32)), (.int (0 : Int32)), (.int (0 : Int32)), (.int (0 : Int32))] (.int (0 : Int32)) := Arv.set Ar12 q12 S12 M12 H12 G12 rfl W12 10 rfl (Nat.le_of_ble_eq_true rfl)
  have N12 := Fr.snoc X12 N11 ge_b1
  have Z12 : n0 ≤ h12.size := Nat.le_trans Z11 (Nat.le_of_eq W12.size.symm)
  refine OwnEnds.via st12 ?_
  show OwnEnds _ _ _ _ (T12.setTop (mkF m 63 #[.val (.int px), .val (.int pk), .val (.int po), .unset, .unset, .unset, .unset] [(.ref b1)]))
  refine OwnEnds.via (fun t k => XS.dup X12.here hx rfl (hb hby at_63) rfl rfl k) ?_
  show OwnEnds _ _ _ _ (T12.setTop (mkF m 64 #[.val (.int px), .val (.int pk), .val (.int po), .unset, .unset, .unset, .unset] [(.ref b1), (.ref b1)]))
  refine OwnEnds.via (fun t k => XS.bipush X12.here hx rfl (hb hby at_64) k) ?_
  show OwnEnds _ _ _ _ (T12.setTop (mkF m 66 #[.val (.int px), .val (.int pk), .val (.int po), .unset, .unset, .unset, .unset] [(.int (11 : Int32)), (.ref b1), (.ref b1)]))
  refine OwnEnds.via (X12.ldcInt hx hown (mvT hZ (hw _ (List.mem_of_getElem? (i := 7) rfl))) (g := (mkF m 66 #[.val (.int px), .val (.int pk), .val (.int po), .unset, .unset, .unset, .unset] [(.int (11 : Int32)), (.ref b1), (.ref b1)])) rfl (hb hby at_66)) ?_
  show OwnEnds _ _ _ _ (T12.setTop (mkF m 68 #[.val (.int px), .val (.int pk), .val (.int po), .unset, .unset, .unset, .unset] [(.int (65535 : Int32)), (.int (11 : Int32)), (.ref b1), (.ref b1)]))
  obtain ⟨cl13, Ar13, q13, S13, M13, H13, G13⟩ := id V12
  have hin13 : ¬ ((11 : Int32) < 0 ∨ cl13.slots.size ≤ ((11 : Int32)).toNatClampNeg) := inb_of S13 ⟨by decide, by decide⟩
  obtain ⟨T13, h13, X13, e13, W13, st13⟩ := stI X12 hx hZ e12 Ar13 (j := (11 : Int32)) hin13 (g := (mkF m 68 #[.val (.int px), .val (.int pk), .val (.int po), .unset, .unset, .unset, .unset] [(.int (65535 : Int32)), (.int (11 : Int32)), (.ref b1), (.ref b1)])) rfl rfl (hb hby at_68)
  have V13 : Arv Z h13 b1 k1 .int (17 : Int32) [(.int (0 : Int32)), (.int (9 : Int32)), (.int (10 : Int32)), (.int (13 : Int32)), (.int (32 : Int32)), (.int (55295 : Int32)), (.int (55296 : Int32)), (.int (57343 : Int32)), (.int (57344 : Int32)), (.int (65533 : Int32)), (.int (65534 : Int32)), (.int (65535 : Int32)), (.int (0 : Int32)), (.int (0 : Int32)), (.int (0 : Int32)), (.int (0 : Int32)), (.int (0 : Int32))] (.int (0 : Int32)) := Arv.set Ar13 q13 S13 M13 H13 G13 rfl W13 11 rfl (Nat.le_of_ble_eq_true rfl)
  have N13 := Fr.snoc X13 N12 ge_b1
  have Z13 : n0 ≤ h13.size := Nat.le_trans Z12 (Nat.le_of_eq W13.size.symm)
  refine OwnEnds.via st13 ?_
  show OwnEnds _ _ _ _ (T13.setTop (mkF m 69 #[.val (.int px), .val (.int pk), .val (.int po), .unset, .unset, .unset, .unset] [(.ref b1)]))
  refine OwnEnds.via (fun t k => XS.dup X13.here hx rfl (hb hby at_69) rfl rfl k) ?_
  show OwnEnds _ _ _ _ (T13.setTop (mkF m 70 #[.val (.int px), .val (.int pk), .val (.int po), .unset, .unset, .unset, .unset] [(.ref b1), (.ref b1)]))
  refine OwnEnds.via (fun t k => XS.bipush X13.here hx rfl (hb hby at_70) k) ?_
  show OwnEnds _ _ _ _ (T13.setTop (mkF m 72 #[.val (.int px), .val (.int pk), .val (.int po), .unset, .unset, .unset, .unset] [(.int (12 : Int32)), (.ref b1), (.ref b1)]))
  refine OwnEnds.via (X13.ldcInt hx hown (mvT hZ (hw _ (List.mem_of_getElem? (i := 8) rfl))) (g := (mkF m 72 #[.val (.int px), .val (.int pk), .val (.int po), .unset, .unset, .unset, .unset] [(.int (12 : Int32)), (.ref b1), (.ref b1)])) rfl (hb hby at_72)) ?_
  show OwnEnds _ _ _ _ (T13.setTop (mkF m 74 #[.val (.int px), .val (.int pk), .val (.int po), .unset, .unset, .unset, .unset] [(.int (65536 : Int32)), (.int (12 : Int32)), (.ref b1), (.ref b1)]))
  obtain ⟨cl14, Ar14, q14, S14, M14, H14, G14⟩ := id V13
  have hin14 : ¬ ((12 : Int32) < 0 ∨ cl14.slots.size ≤ ((12 : Int32)).toNatClampNeg) := inb_of S14 ⟨by decide, by decide⟩
  obtain ⟨T14, h14, X14, e14, W14, st14⟩ := stI X13 hx hZ e13 Ar14 (j := (12 : Int32)) hin14 (g := (mkF m 74 #[.val (.int px), .val (.int pk), .val (.int po), .unset, .unset, .unset, .unset] [(.int (65536 : Int32)), (.int (12 : Int32)), (.ref b1), (.ref b1)])) rfl rfl (hb hby at_74)
  have V14 : Arv Z h14 b1 k1 .int (17 : Int32) [(.int (0 : Int32)), (.int (9 : Int32)), (.int (10 : Int32)), (.int (13 : Int32)), (.int (32 : Int32)), (.int (55295 : Int32)), (.int (55296 : Int32)), (.int (57343 : Int32)), (.int (57344 : Int32)), (.int (65533 : Int32)), (.int (65534 : Int32)), (.int (65535 : Int32)), (.int (65536 : Int32)), (.int (0 : Int32)), (.int (0 : Int32)), (.int (0 : Int32)), (.int (0 : Int32))] (.int (0 : Int32)) := Arv.set Ar14 q14 S14 M14 H14 G14 rfl W14 12 rfl (Nat.le_of_ble_eq_true rfl)
  have N14 := Fr.snoc X14 N13 ge_b1
  have Z14 : n0 ≤ h14.size := Nat.le_trans Z13 (Nat.le_of_eq W14.size.symm)
  refine OwnEnds.via st14 ?_
  show OwnEnds _ _ _ _ (T14.setTop (mkF m 75 #[.val (.int px), .val (.int pk), .val (.int po), .unset, .unset, .unset, .unset] [(.ref b1)]))
  refine OwnEnds.via (fun t k => XS.dup X14.here hx rfl (hb hby at_75) rfl rfl k) ?_
  show OwnEnds _ _ _ _ (T14.setTop (mkF m 76 #[.val (.int px), .val (.int pk), .val (.int po), .unset, .unset, .unset, .unset] [(.ref b1), (.ref b1)]))
  refine OwnEnds.via (fun t k => XS.bipush X14.here hx rfl (hb hby at_76) k) ?_
  show OwnEnds _ _ _ _ (T14.setTop (mkF m 78 #[.val (.int px), .val (.int pk), .val (.int po), .unset, .unset, .unset, .unset] [(.int (13 : Int32)), (.ref b1), (.ref b1)]))
  refine OwnEnds.via (X14.ldcInt hx hown (mvT hZ (hw _ (List.mem_of_getElem? (i := 9) rfl))) (g := (mkF m 78 #[.val (.int px), .val (.int pk), .val (.int po), .unset, .unset, .unset, .unset] [(.int (13 : Int32)), (.ref b1), (.ref b1)])) rfl (hb hby at_78)) ?_
  show OwnEnds _ _ _ _ (T14.setTop (mkF m 80 #[.val (.int px), .val (.int pk), .val (.int po), .unset, .unset, .unset, .unset] [(.int (1114111 : Int32)), (.int (13 : Int32)), (.ref b1), (.ref b1)]))
  obtain ⟨cl15, Ar15, q15, S15, M15, H15, G15⟩ := id V14
  have hin15 : ¬ ((13 : Int32) < 0 ∨ cl15.slots.size ≤ ((13 : Int32)).toNatClampNeg) := inb_of S15 ⟨by decide, by decide⟩
  obtain ⟨T15, h15, X15, e15, W15, st15⟩ := stI X14 hx hZ e14 Ar15 (j := (13 : Int32)) hin15 (g := (mkF m 80 #[.val (.int px), .val (.int pk), .val (.int po), .unset, .unset, .unset, .unset] [(.int (1114111 : Int32)), (.int (13 : Int32)), (.ref b1), (.ref b1)])) rfl rfl (hb hby at_80)
  have V15 : Arv Z h15 b1 k1 .int (17 : Int32) [(.int (0 : Int32)), (.int (9 : Int32)), (.int (10 : Int32)), (.int (13 : Int32)), (.int (32 : Int32)), (.int (55295 : Int32)), (.int (55296 : Int32)), (.int (57343 : Int32)), (.int (57344 : Int32)), (.int (65533 : Int32)), (.int (65534 : Int32)), (.int (65535 : Int32)), (.int (65536 : Int32)), (.int (1114111 : Int32)), (.int (0 : Int32)), (.int (0 : Int32)), (.int (0 : Int32))] (.int (0 : Int32)) := Arv.set Ar15 q15 S15 M15 H15 G15 rfl W15 13 rfl (Nat.le_of_ble_eq_true rfl)
  have N15 := Fr.snoc X15 N14 ge_b1
  have Z15 : n0 ≤ h15.size := Nat.le_trans Z14 (Nat.le_of_eq W15.size.symm)
  refine OwnEnds.via st15 ?_
  show OwnEnds _ _ _ _ (T15.setTop (mkF m 81 #[.val (.int px), .val (.int pk), .val (.int po), .unset, .unset, .unset, .unset] [(.ref b1)]))
  refine OwnEnds.via (fun t k => XS.dup X15.here hx rfl (hb hby at_81) rfl rfl k) ?_
  show OwnEnds _ _ _ _ (T15.setTop (mkF m 82 #[.val (.int px), .val (.int pk), .val (.int po), .unset, .unset, .unset, .unset] [(.ref b1), (.ref b1)]))
  refine OwnEnds.via (fun t k => XS.bipush X15.here hx rfl (hb hby at_82) k) ?_
  show OwnEnds _ _ _ _ (T15.setTop (mkF m 84 #[.val (.int px), .val (.int pk), .val (.int po), .unset, .unset, .unset, .unset] [(.int (14 : Int32)), (.ref b1), (.ref b1)]))
  refine OwnEnds.via (X15.ldcInt hx hown (mvT hZ (hw _ (List.mem_of_getElem? (i := 10) rfl))) (g := (mkF m 84 #[.val (.int px), .val (.int pk), .val (.int po), .unset, .unset, .unset, .unset] [(.int (14 : Int32)), (.ref b1), (.ref b1)])) rfl (hb hby at_84)) ?_
  show OwnEnds _ _ _ _ (T15.setTop (mkF m 86 #[.val (.int px), .val (.int pk), .val (.int po), .unset, .unset, .unset, .unset] [(.int (1114112 : Int32)), (.int (14 : Int32)), (.ref b1), (.ref b1)]))
  obtain ⟨cl16, Ar16, q16, S16, M16, H16, G16⟩ := id V15
  have hin16 : ¬ ((14 : Int32) < 0 ∨ cl16.slots.size ≤ ((14 : Int32)).toNatClampNeg) := inb_of S16 ⟨by decide, by decide⟩
  obtain ⟨T16, h16, X16, e16, W16, st16⟩ := stI X15 hx hZ e15 Ar16 (j := (14 : Int32)) hin16 (g := (mkF m 86 #[.val (.int px), .val (.int pk), .val (.int po), .unset, .unset, .unset, .unset] [(.int (1114112 : Int32)), (.int (14 : Int32)), (.ref b1), (.ref b1)])) rfl rfl (hb hby at_86)
  have V16 : Arv Z h16 b1 k1 .int (17 : Int32) [(.int (0 : Int32)), (.int (9 : Int32)), (.int (10 : Int32)), (.int (13 : Int32)), (.int (32 : Int32)), (.int (55295 : Int32)), (.int (55296 : Int32)), (.int (57343 : Int32)), (.int (57344 : Int32)), (.int (65533 : Int32)), (.int (65534 : Int32)), (.int (65535 : Int32)), (.int (65536 : Int32)), (.int (1114111 : Int32)), (.int (1114112 : Int32)), (.int (0 : Int32)), (.int (0 : Int32))] (.int (0 : Int32)) := Arv.set Ar16 q16 S16 M16 H16 G16 rfl W16 14 rfl (Nat.le_of_ble_eq_true rfl)
  have N16 := Fr.snoc X16 N15 ge_b1
  have Z16 : n0 ≤ h16.size := Nat.le_trans Z15 (Nat.le_of_eq W16.size.symm)
  refine OwnEnds.via st16 ?_
  show OwnEnds _ _ _ _ (T16.setTop (mkF m 87 #[.val (.int px), .val (.int pk), .val (.int po), .unset, .unset, .unset, .unset] [(.ref b1)]))
  refine OwnEnds.via (fun t k => XS.dup X16.here hx rfl (hb hby at_87) rfl rfl k) ?_
  show OwnEnds _ _ _ _ (T16.setTop (mkF m 88 #[.val (.int px), .val (.int pk), .val (.int po), .unset, .unset, .unset, .unset] [(.ref b1), (.ref b1)]))
  refine OwnEnds.via (fun t k => XS.bipush X16.here hx rfl (hb hby at_88) k) ?_
  show OwnEnds _ _ _ _ (T16.setTop (mkF m 90 #[.val (.int px), .val (.int pk), .val (.int po), .unset, .unset, .unset, .unset] [(.int (15 : Int32)), (.ref b1), (.ref b1)]))
  refine OwnEnds.via (X16.ldcInt hx hown (mvT hZ (hw _ (List.mem_of_getElem? (i := 11) rfl))) (g := (mkF m 90 #[.val (.int px), .val (.int pk), .val (.int po), .unset, .unset, .unset, .unset] [(.int (15 : Int32)), (.ref b1), (.ref b1)])) rfl (hb hby at_90)) ?_
  show OwnEnds _ _ _ _ (T16.setTop (mkF m 92 #[.val (.int px), .val (.int pk), .val (.int po), .unset, .unset, .unset, .unset] [(.int (-2147483648 : Int32)), (.int (15 : Int32)), (.ref b1), (.ref b1)]))
  obtain ⟨cl17, Ar17, q17, S17, M17, H17, G17⟩ := id V16
  have hin17 : ¬ ((15 : Int32) < 0 ∨ cl17.slots.size ≤ ((15 : Int32)).toNatClampNeg) := inb_of S17 ⟨by decide, by decide⟩
  obtain ⟨T17, h17, X17, e17, W17, st17⟩ := stI X16 hx hZ e16 Ar17 (j := (15 : Int32)) hin17 (g := (mkF m 92 #[.val (.int px), .val (.int pk), .val (.int po), .unset, .unset, .unset, .unset] [(.int (-2147483648 : Int32)), (.int (15 : Int32)), (.ref b1), (.ref b1)])) rfl rfl (hb hby at_92)
  have V17 : Arv Z h17 b1 k1 .int (17 : Int32) [(.int (0 : Int32)), (.int (9 : Int32)), (.int (10 : Int32)), (.int (13 : Int32)), (.int (32 : Int32)), (.int (55295 : Int32)), (.int (55296 : Int32)), (.int (57343 : Int32)), (.int (57344 : Int32)), (.int (65533 : Int32)), (.int (65534 : Int32)), (.int (65535 : Int32)), (.int (65536 : Int32)), (.int (1114111 : Int32)), (.int (1114112 : Int32)), (.int (-2147483648 : Int32)), (.int (0 : Int32))] (.int (0 : Int32)) := Arv.set Ar17 q17 S17 M17 H17 G17 rfl W17 15 rfl (Nat.le_of_ble_eq_true rfl)
  have N17 := Fr.snoc X17 N16 ge_b1
  have Z17 : n0 ≤ h17.size := Nat.le_trans Z16 (Nat.le_of_eq W17.size.symm)
  refine OwnEnds.via st17 ?_
  show OwnEnds _ _ _ _ (T17.setTop (mkF m 93 #[.val (.int px), .val (.int pk), .val (.int po), .unset, .unset, .unset, .unset] [(.ref b1)]))
  refine OwnEnds.via (fun t k => XS.dup X17.here hx rfl (hb hby at_93) rfl rfl k) ?_
  show OwnEnds _ _ _ _ (T17.setTop (mkF m 94 #[.val (.int px), .val (.int pk), .val (.int po), .unset, .unset, .unset, .unset] [(.ref b1), (.ref b1)]))
  refine OwnEnds.via (fun t k => XS.bipush X17.here hx rfl (hb hby at_94) k) ?_
  show OwnEnds _ _ _ _ (T17.setTop (mkF m 96 #[.val (.int px), .val (.int pk), .val (.int po), .unset, .unset, .unset, .unset] [(.int (16 : Int32)), (.ref b1), (.ref b1)]))
  refine OwnEnds.via (X17.ldcInt hx hown (mvT hZ (hw _ (List.mem_of_getElem? (i := 12) rfl))) (g := (mkF m 96 #[.val (.int px), .val (.int pk), .val (.int po), .unset, .unset, .unset, .unset] [(.int (16 : Int32)), (.ref b1), (.ref b1)])) rfl (hb hby at_96)) ?_
  show OwnEnds _ _ _ _ (T17.setTop (mkF m 98 #[.val (.int px), .val (.int pk), .val (.int po), .unset, .unset, .unset, .unset] [(.int (2147483647 : Int32)), (.int (16 : Int32)), (.ref b1), (.ref b1)]))
  obtain ⟨cl18, Ar18, q18, S18, M18, H18, G18⟩ := id V17
  have hin18 : ¬ ((16 : Int32) < 0 ∨ cl18.slots.size ≤ ((16 : Int32)).toNatClampNeg) := inb_of S18 ⟨by decide, by decide⟩
  obtain ⟨T18, h18, X18, e18, W18, st18⟩ := stI X17 hx hZ e17 Ar18 (j := (16 : Int32)) hin18 (g := (mkF m 98 #[.val (.int px), .val (.int pk), .val (.int po), .unset, .unset, .unset, .unset] [(.int (2147483647 : Int32)), (.int (16 : Int32)), (.ref b1), (.ref b1)])) rfl rfl (hb hby at_98)
  have V18 : Arv Z h18 b1 k1 .int (17 : Int32) [(.int (0 : Int32)), (.int (9 : Int32)), (.int (10 : Int32)), (.int (13 : Int32)), (.int (32 : Int32)), (.int (55295 : Int32)), (.int (55296 : Int32)), (.int (57343 : Int32)), (.int (57344 : Int32)), (.int (65533 : Int32)), (.int (65534 : Int32)), (.int (65535 : Int32)), (.int (65536 : Int32)), (.int (1114111 : Int32)), (.int (1114112 : Int32)), (.int (-2147483648 : Int32)), (.int (2147483647 : Int32))] (.int (0 : Int32)) := Arv.set Ar18 q18 S18 M18 H18 G18 rfl W18 16 rfl (Nat.le_of_ble_eq_true rfl)
  have N18 := Fr.snoc X18 N17 ge_b1
  have Z18 : n0 ≤ h18.size := Nat.le_trans Z17 (Nat.le_of_eq W18.size.symm)
  refine OwnEnds.via st18 ?_
  show OwnEnds _ _ _ _ (T18.setTop (mkF m 99 #[.val (.int px), .val (.int pk), .val (.int po), .unset, .unset, .unset, .unset] [(.ref b1)]))
  refine OwnEnds.via (fun t k => XS.astoreN X18.here hx rfl (hb hby at_99) rfl rfl (l' := #[.val (.int px), .val (.int pk), .val (.int po), .val (.ref b1), .unset, .unset, .unset]) rfl k) ?_
  show OwnEnds _ _ _ _ (T18.setTop (mkF m 100 #[.val (.int px), .val (.int pk), .val (.int po), .val (.ref b1), .unset, .unset, .unset] []))
  refine OwnEnds.via (fun t k => XS.aloadN X18.here hx rfl (hb hby at_100) rfl rfl k) ?_
  show OwnEnds _ _ _ _ (T18.setTop (mkF m 101 #[.val (.int px), .val (.int pk), .val (.int po), .val (.ref b1), .unset, .unset, .unset] [(.ref b1)]))
  refine OwnEnds.via (fun t k => XS.iloadN X18.here hx rfl (hb hby at_101) rfl k) ?_
  show OwnEnds _ _ _ _ (T18.setTop (mkF m 102 #[.val (.int px), .val (.int pk), .val (.int po), .val (.ref b1), .unset, .unset, .unset] [(.int pk), (.ref b1)]))
  refine OwnEnds.via (X18.ldcInt hx hown (mvT hZ (hw _ (List.mem_of_getElem? (i := 12) rfl))) (g := (mkF m 102 #[.val (.int px), .val (.int pk), .val (.int po), .val (.ref b1), .unset, .unset, .unset] [(.int pk), (.ref b1)])) rfl (hb hby at_102)) ?_
  show OwnEnds _ _ _ _ (T18.setTop (mkF m 104 #[.val (.int px), .val (.int pk), .val (.int po), .val (.ref b1), .unset, .unset, .unset] [(.int (2147483647 : Int32)), (.int pk), (.ref b1)]))
  refine OwnEnds.via (fun t k => XS.iand X18.here hx rfl (hb hby at_104) rfl k) ?_
  show OwnEnds _ _ _ _ (T18.setTop (mkF m 105 #[.val (.int px), .val (.int pk), .val (.int po), .val (.ref b1), .unset, .unset, .unset] [(.int (pk &&& (2147483647 : Int32))), (.ref b1)]))
  refine OwnEnds.via (fun t k => XS.aloadN X18.here hx rfl (hb hby at_105) rfl rfl k) ?_
  show OwnEnds _ _ _ _ (T18.setTop (mkF m 106 #[.val (.int px), .val (.int pk), .val (.int po), .val (.ref b1), .unset, .unset, .unset] [(.ref b1), (.int (pk &&& (2147483647 : Int32))), (.ref b1)]))
  obtain ⟨cl19, Ar19, q19, S19, M19, H19, G19⟩ := id V18
  refine OwnEnds.via (X18.arraylength hx (by rw [e18]; exact Ar19.1) (State.isArrayOf_alike hZ.alike Ar19.2.1) (g := (mkF m 106 #[.val (.int px), .val (.int pk), .val (.int po), .val (.ref b1), .unset, .unset, .unset] [(.ref b1), (.int (pk &&& (2147483647 : Int32))), (.ref b1)])) rfl rfl (hb hby at_106)) ?_
  rw [len_of S19 M19]
  show OwnEnds _ _ _ _ (T18.setTop (mkF m 107 #[.val (.int px), .val (.int pk), .val (.int po), .val (.ref b1), .unset, .unset, .unset] [(.int (17 : Int32)), (.int (pk &&& (2147483647 : Int32))), (.ref b1)]))
  refine OwnEnds.via (fun t k => XS.irem X18.here hx rfl (hb hby at_107) rfl (by decide) k) ?_
  rw [Jvm.irem_eq_mod]
  obtain ⟨cl20, Ar20, q20, S20, M20, H20, G20⟩ := id V18
  have hin20 := inb_of S20 (own_ix pk)
  obtain ⟨u20, hu20⟩ := own_fit (G20 _ (Nat.lt_of_not_le fun y => hin20 (Or.inr y)))
  have hat20 := H20.at hin20 hu20
  refine OwnEnds.via (X18.iaload hx (j := ((pk &&& (2147483647 : Int32)) % (17 : Int32))) (v := .int u20) (by rw [e18]; exact Ar20.1) (State.isArrayOf_alike hZ.alike Ar20.2.1) Ar20.2.2 hin20 hat20 (g := (mkF m 108 #[.val (.int px), .val (.int pk), .val (.int po), .val (.ref b1), .unset, .unset, .unset] [(.int ((pk &&& (2147483647 : Int32)) % (17 : Int32))), (.ref b1)])) rfl rfl (hb hby at_108)) ?_
  show OwnEnds _ _ _ _ (T18.setTop (mkF m 109 #[.val (.int px), .val (.int pk), .val (.int po), .val (.ref b1), .unset, .unset, .unset] [(.int u20)]))
  refine OwnEnds.via (fun t k => XS.iloadN X18.here hx rfl (hb hby at_109) rfl k) ?_
  show OwnEnds _ _ _ _ (T18.setTop (mkF m 110 #[.val (.int px), .val (.int pk), .val (.int po), .val (.ref b1), .unset, .unset, .unset] [(.int po), (.int u20)]))
  refine OwnEnds.via (fun t k => XS.iconst X18.here hx rfl (hb hby at_110) k) ?_
  show OwnEnds _ _ _ _ (T18.setTop (mkF m 111 #[.val (.int px), .val (.int pk), .val (.int po), .val (.ref b1), .unset, .unset, .unset] [(.int (3 : Int32)), (.int po), (.int u20)]))
  refine OwnEnds.via (fun t k => XS.iand X18.here hx rfl (hb hby at_111) rfl k) ?_
  show OwnEnds _ _ _ _ (T18.setTop (mkF m 112 #[.val (.int px), .val (.int pk), .val (.int po), .val (.ref b1), .unset, .unset, .unset] [(.int (po &&& (3 : Int32))), (.int u20)]))
  refine OwnEnds.via (fun t k => XS.iconst X18.here hx rfl (hb hby at_112) k) ?_
  show OwnEnds _ _ _ _ (T18.setTop (mkF m 113 #[.val (.int px), .val (.int pk), .val (.int po), .val (.ref b1), .unset, .unset, .unset] [(.int (1 : Int32)), (.int (po &&& (3 : Int32))), (.int u20)]))
  refine OwnEnds.via (fun t k => XS.isub X18.here hx rfl (hb hby at_113) rfl k) ?_
  show OwnEnds _ _ _ _ (T18.setTop (mkF m 114 #[.val (.int px), .val (.int pk), .val (.int po), .val (.ref b1), .unset, .unset, .unset] [(.int ((po &&& (3 : Int32)) - (1 : Int32))), (.int u20)]))
  refine OwnEnds.via (fun t k => XS.iadd X18.here hx rfl (hb hby at_114) rfl k) ?_
  show OwnEnds _ _ _ _ (T18.setTop (mkF m 115 #[.val (.int px), .val (.int pk), .val (.int po), .val (.ref b1), .unset, .unset, .unset] [(.int (u20 + ((po &&& (3 : Int32)) - (1 : Int32))))]))
  refine OwnEnds.via (fun t k => XS.istore X18.here hx rfl (hb hby at_115) rfl (l' := #[.val (.int px), .val (.int pk), .val (.int po), .val (.ref b1), .val (.int (u20 + ((po &&& (3 : Int32)) - (1 : Int32)))), .unset, .unset]) rfl k) ?_
  show OwnEnds _ _ _ _ (T18.setTop (mkF m 117 #[.val (.int px), .val (.int pk), .val (.int po), .val (.ref b1), .val (.int (u20 + ((po &&& (3 : Int32)) - (1 : Int32)))), .unset, .unset] []))
  refine OwnEnds.via (fun t k => XS.iloadN X18.here hx rfl (hb hby at_117) rfl k) ?_
  show OwnEnds _ _ _ _ (T18.setTop (mkF m 118 #[.val (.int px), .val (.int pk), .val (.int po), .val (.ref b1), .val (.int (u20 + ((po &&& (3 : Int32)) - (1 : Int32)))), .unset, .unset] [(.int px)]))
  obtain ⟨_, _, ⟨T21, L21, k21, n21⟩, -, X21, ⟨Lc21, hQ21, l21, y21, z21⟩, st21⟩ := Jvm.LawKit.callS X18 hx (y := (⟨"com/example/enlace/enlace/wire/XmlCharacters", "allowed", "(I)Z"⟩ : MethodName)) hown (mvT hZ (hw _ (List.mem_of_getElem? (i := 13) rfl))) (mvT hZ (hw _ (List.mem_of_getElem? (i := 14) rfl))) (mvT hZ (hw _ (List.mem_of_getElem? (i := 15) rfl))) (mvT hZ (hw _ (List.mem_of_getElem? (i := 16) rfl))) (by decide) (backOf (W := 0) (rm1 l Z a0 hw [] px h18 n0 Z18 ) hZ (hw _ (List.mem_of_getElem? (i := 16) rfl)) (hw _ (List.mem_of_getElem? (i := 15) rfl)) (by decide) (by decide)) (g := (mkF m 118 #[.val (.int px), .val (.int pk), .val (.int po), .val (.ref b1), .val (.int (u20 + ((po &&& (3 : Int32)) - (1 : Int32)))), .unset, .unset] [(.int px)])) rfl (by rw [hml]; rfl) (argsL := [(.int px)]) (rest := []) (lenOf pd_0 rfl) rfl (by show 2 * 0 + _ ≤ _; exact Nat.le_of_eq rfl) (hb hby at_118) (fun _ _ => ⟨rfl, e18, (by decide : 1 + 0 ≤ _), (by decide : 17 + 0 ≤ _)⟩)
  dsimp only [Pt.U, Pt.locs, Pt.cells, Pt.slots] at X21 l21 y21 z21 st21 hQ21
  subst l21 y21 z21
  obtain ⟨rfl, Nq21, e21⟩ := hQ21
  have N21 := Fr.app N18 Nq21
  refine OwnEnds.via st21 ?_
  show OwnEnds _ _ _ _ (T21.setTop (mkF m 121 #[.val (.int px), .val (.int pk), .val (.int po), .val (.ref b1), .val (.int (u20 + ((po &&& (3 : Int32)) - (1 : Int32)))), .unset, .unset] [(.int (if own_X px then (1 : Int32) else (0 : Int32)))]))
  refine OwnEnds.via (fun t k => XS.iloadN X21.here hx rfl (hb hby at_121) rfl k) ?_
  show OwnEnds _ _ _ _ (T21.setTop (mkF m 122 #[.val (.int px), .val (.int pk), .val (.int po), .val (.ref b1), .val (.int (u20 + ((po &&& (3 : Int32)) - (1 : Int32)))), .unset, .unset] [(.int px), (.int (if own_X px then (1 : Int32) else (0 : Int32)))]))
  obtain ⟨_, _, ⟨T22, L22, k22, n22⟩, -, X22, ⟨Lc22, hQ22, l22, y22, z22⟩, st22⟩ := Jvm.LawKit.callS X21 hx (y := (⟨"com/example/enlace/enlace/wire/XmlCharactersAllowedPinLaw", "ref", "(I)Z"⟩ : MethodName)) hown (mvT hZ (hw _ (List.mem_of_getElem? (i := 19) rfl))) (mvT hZ (hw _ (List.mem_of_getElem? (i := 20) rfl))) (mvT hZ (hw _ (List.mem_of_getElem? (i := 21) rfl))) (mvT hZ (hw _ (List.mem_of_getElem? (i := 22) rfl))) (by decide) (backOf (W := 1) (rm2 l Z a0 hw [] px h18 n0 Z18 ) hZ (hw _ (List.mem_of_getElem? (i := 22) rfl)) (hw _ (List.mem_of_getElem? (i := 21) rfl)) (by decide) (by decide)) (g := (mkF m 122 #[.val (.int px), .val (.int pk), .val (.int po), .val (.ref b1), .val (.int (u20 + ((po &&& (3 : Int32)) - (1 : Int32)))), .unset, .unset] [(.int px), (.int (if own_X px then (1 : Int32) else (0 : Int32)))])) rfl (by rw [hml]; rfl) (argsL := [(.int px)]) (rest := [(.int (if own_X px then (1 : Int32) else (0 : Int32)))]) (lenOf pd_0 rfl) rfl (by show 2 * 0 + _ ≤ _; exact Nat.le_of_eq rfl) (hb hby at_122) (fun _ _ => ⟨rfl, e21, (by decide : 1 + 0 ≤ _), (by decide : 17 + 0 ≤ _)⟩)
  dsimp only [Pt.U, Pt.locs, Pt.cells, Pt.slots] at X22 l22 y22 z22 st22 hQ22
  subst l22 y22 z22
  obtain ⟨rfl, Nq22, e22⟩ := hQ22
  have N22 := Fr.app N21 Nq22
  refine OwnEnds.via st22 ?_
  show OwnEnds _ _ _ _ (T22.setTop (mkF m 125 #[.val (.int px), .val (.int pk), .val (.int po), .val (.ref b1), .val (.int (u20 + ((po &&& (3 : Int32)) - (1 : Int32)))), .unset, .unset] [(.int (if own_X px then (1 : Int32) else (0 : Int32))), (.int (if own_X px then (1 : Int32) else (0 : Int32)))]))
  refine OwnEnds.via (fun t k => XS.icmpNo X22.here hx rfl (hb hby at_125) rfl (teq rfl).2 k) ?_
  show OwnEnds _ _ _ _ (T22.setTop (mkF m 128 #[.val (.int px), .val (.int pk), .val (.int po), .val (.ref b1), .val (.int (u20 + ((po &&& (3 : Int32)) - (1 : Int32)))), .unset, .unset] []))
  refine OwnEnds.via (fun t k => XS.iconst X22.here hx rfl (hb hby at_128) k) ?_
  show OwnEnds _ _ _ _ (T22.setTop (mkF m 129 #[.val (.int px), .val (.int pk), .val (.int po), .val (.ref b1), .val (.int (u20 + ((po &&& (3 : Int32)) - (1 : Int32)))), .unset, .unset] [(.int (1 : Int32))]))
  refine OwnEnds.via (fun t k => XS.goto X22.here hx rfl (pc0 := 129) (pc' := 133) rfl (hb hby at_129) (by decide) (by decide) k) ?_
  show OwnEnds _ _ _ _ (T22.setTop (mkF m 133 #[.val (.int px), .val (.int pk), .val (.int po), .val (.ref b1), .val (.int (u20 + ((po &&& (3 : Int32)) - (1 : Int32)))), .unset, .unset] [(.int (1 : Int32))]))
  refine OwnEnds.via (fun t k => XS.istore X22.here hx rfl (hb hby at_133) rfl (l' := #[.val (.int px), .val (.int pk), .val (.int po), .val (.ref b1), .val (.int (u20 + ((po &&& (3 : Int32)) - (1 : Int32)))), .val (.int (1 : Int32)), .unset]) rfl k) ?_
  show OwnEnds _ _ _ _ (T22.setTop (mkF m 135 #[.val (.int px), .val (.int pk), .val (.int po), .val (.ref b1), .val (.int (u20 + ((po &&& (3 : Int32)) - (1 : Int32)))), .val (.int (1 : Int32)), .unset] []))
  refine OwnEnds.via (fun t k => XS.iload X22.here hx rfl (hb hby at_135) rfl k) ?_
  show OwnEnds _ _ _ _ (T22.setTop (mkF m 137 #[.val (.int px), .val (.int pk), .val (.int po), .val (.ref b1), .val (.int (u20 + ((po &&& (3 : Int32)) - (1 : Int32)))), .val (.int (1 : Int32)), .unset] [(.int (u20 + ((po &&& (3 : Int32)) - (1 : Int32))))]))
  obtain ⟨_, _, ⟨T23, L23, k23, n23⟩, -, X23, ⟨Lc23, hQ23, l23, y23, z23⟩, st23⟩ := Jvm.LawKit.callS X22 hx (y := (⟨"com/example/enlace/enlace/wire/XmlCharacters", "allowed", "(I)Z"⟩ : MethodName)) hown (mvT hZ (hw _ (List.mem_of_getElem? (i := 13) rfl))) (mvT hZ (hw _ (List.mem_of_getElem? (i := 14) rfl))) (mvT hZ (hw _ (List.mem_of_getElem? (i := 15) rfl))) (mvT hZ (hw _ (List.mem_of_getElem? (i := 16) rfl))) (by decide) (backOf (W := 0) (rm1 l Z a0 hw [] (u20 + ((po &&& (3 : Int32)) - (1 : Int32))) h18 n0 Z18 ) hZ (hw _ (List.mem_of_getElem? (i := 16) rfl)) (hw _ (List.mem_of_getElem? (i := 15) rfl)) (by decide) (by decide)) (g := (mkF m 137 #[.val (.int px), .val (.int pk), .val (.int po), .val (.ref b1), .val (.int (u20 + ((po &&& (3 : Int32)) - (1 : Int32)))), .val (.int (1 : Int32)), .unset] [(.int (u20 + ((po &&& (3 : Int32)) - (1 : Int32))))])) rfl (by rw [hml]; rfl) (argsL := [(.int (u20 + ((po &&& (3 : Int32)) - (1 : Int32))))]) (rest := []) (lenOf pd_0 rfl) rfl (by show 2 * 0 + _ ≤ _; exact Nat.le_of_eq rfl) (hb hby at_137) (fun _ _ => ⟨rfl, e22, (by decide : 1 + 0 ≤ _), (by decide : 17 + 0 ≤ _)⟩)
  dsimp only [Pt.U, Pt.locs, Pt.cells, Pt.slots] at X23 l23 y23 z23 st23 hQ23
  subst l23 y23 z23
  obtain ⟨rfl, Nq23, e23⟩ := hQ23
  have N23 := Fr.app N22 Nq23
  refine OwnEnds.via st23 ?_
  show OwnEnds _ _ _ _ (T23.setTop (mkF m 140 #[.val (.int px), .val (.int pk), .val (.int po), .val (.ref b1), .val (.int (u20 + ((po &&& (3 : Int32)) - (1 : Int32)))), .val (.int (1 : Int32)), .unset] [(.int (if own_X (u20 + ((po &&& (3 : Int32)) - (1 : Int32))) then (1 : Int32) else (0 : Int32)))]))
  refine OwnEnds.via (fun t k => XS.iload X23.here hx rfl (hb hby at_140) rfl k) ?_
  show OwnEnds _ _ _ _ (T23.setTop (mkF m 142 #[.val (.int px), .val (.int pk), .val (.int po), .val (.ref b1), .val (.int (u20 + ((po &&& (3 : Int32)) - (1 : Int32)))), .val (.int (1 : Int32)), .unset] [(.int (u20 + ((po &&& (3 : Int32)) - (1 : Int32)))), (.int (if own_X (u20 + ((po &&& (3 : Int32)) - (1 : Int32))) then (1 : Int32) else (0 : Int32)))]))
  obtain ⟨_, _, ⟨T24, L24, k24, n24⟩, -, X24, ⟨Lc24, hQ24, l24, y24, z24⟩, st24⟩ := Jvm.LawKit.callS X23 hx (y := (⟨"com/example/enlace/enlace/wire/XmlCharactersAllowedPinLaw", "ref", "(I)Z"⟩ : MethodName)) hown (mvT hZ (hw _ (List.mem_of_getElem? (i := 19) rfl))) (mvT hZ (hw _ (List.mem_of_getElem? (i := 20) rfl))) (mvT hZ (hw _ (List.mem_of_getElem? (i := 21) rfl))) (mvT hZ (hw _ (List.mem_of_getElem? (i := 22) rfl))) (by decide) (backOf (W := 1) (rm2 l Z a0 hw [] (u20 + ((po &&& (3 : Int32)) - (1 : Int32))) h18 n0 Z18 ) hZ (hw _ (List.mem_of_getElem? (i := 22) rfl)) (hw _ (List.mem_of_getElem? (i := 21) rfl)) (by decide) (by decide)) (g := (mkF m 142 #[.val (.int px), .val (.int pk), .val (.int po), .val (.ref b1), .val (.int (u20 + ((po &&& (3 : Int32)) - (1 : Int32)))), .val (.int (1 : Int32)), .unset] [(.int (u20 + ((po &&& (3 : Int32)) - (1 : Int32)))), (.int (if own_X (u20 + ((po &&& (3 : Int32)) - (1 : Int32))) then (1 : Int32) else (0 : Int32)))])) rfl (by rw [hml]; rfl) (argsL := [(.int (u20 + ((po &&& (3 : Int32)) - (1 : Int32))))]) (rest := [(.int (if own_X (u20 + ((po &&& (3 : Int32)) - (1 : Int32))) then (1 : Int32) else (0 : Int32)))]) (lenOf pd_0 rfl) rfl (by show 2 * 0 + _ ≤ _; exact Nat.le_of_eq rfl) (hb hby at_142) (fun _ _ => ⟨rfl, e23, (by decide : 1 + 0 ≤ _), (by decide : 17 + 0 ≤ _)⟩)
  dsimp only [Pt.U, Pt.locs, Pt.cells, Pt.slots] at X24 l24 y24 z24 st24 hQ24
  subst l24 y24 z24
  obtain ⟨rfl, Nq24, e24⟩ := hQ24
  have N24 := Fr.app N23 Nq24
  refine OwnEnds.via st24 ?_
  show OwnEnds _ _ _ _ (T24.setTop (mkF m 145 #[.val (.int px), .val (.int pk), .val (.int po), .val (.ref b1), .val (.int (u20 + ((po &&& (3 : Int32)) - (1 : Int32)))), .val (.int (1 : Int32)), .unset] [(.int (if own_X (u20 + ((po &&& (3 : Int32)) - (1 : Int32))) then (1 : Int32) else (0 : Int32))), (.int (if own_X (u20 + ((po &&& (3 : Int32)) - (1 : Int32))) then (1 : Int32) else (0 : Int32)))]))
  refine OwnEnds.via (fun t k => XS.icmpNo X24.here hx rfl (hb hby at_145) rfl (teq rfl).2 k) ?_
  show OwnEnds _ _ _ _ (T24.setTop (mkF m 148 #[.val (.int px), .val (.int pk), .val (.int po), .val (.ref b1), .val (.int (u20 + ((po &&& (3 : Int32)) - (1 : Int32)))), .val (.int (1 : Int32)), .unset] []))
  refine OwnEnds.via (fun t k => XS.iconst X24.here hx rfl (hb hby at_148) k) ?_
  show OwnEnds _ _ _ _ (T24.setTop (mkF m 149 #[.val (.int px), .val (.int pk), .val (.int po), .val (.ref b1), .val (.int (u20 + ((po &&& (3 : Int32)) - (1 : Int32)))), .val (.int (1 : Int32)), .unset] [(.int (1 : Int32))]))
  refine OwnEnds.via (fun t k => XS.goto X24.here hx rfl (pc0 := 149) (pc' := 153) rfl (hb hby at_149) (by decide) (by decide) k) ?_
  show OwnEnds _ _ _ _ (T24.setTop (mkF m 153 #[.val (.int px), .val (.int pk), .val (.int po), .val (.ref b1), .val (.int (u20 + ((po &&& (3 : Int32)) - (1 : Int32)))), .val (.int (1 : Int32)), .unset] [(.int (1 : Int32))]))
  refine OwnEnds.via (fun t k => XS.istore X24.here hx rfl (hb hby at_153) rfl (l' := #[.val (.int px), .val (.int pk), .val (.int po), .val (.ref b1), .val (.int (u20 + ((po &&& (3 : Int32)) - (1 : Int32)))), .val (.int (1 : Int32)), .val (.int (1 : Int32))]) rfl k) ?_
  show OwnEnds _ _ _ _ (T24.setTop (mkF m 155 #[.val (.int px), .val (.int pk), .val (.int po), .val (.ref b1), .val (.int (u20 + ((po &&& (3 : Int32)) - (1 : Int32)))), .val (.int (1 : Int32)), .val (.int (1 : Int32))] []))
  refine OwnEnds.via (fun t k => XS.iload X24.here hx rfl (hb hby at_155) rfl k) ?_
  show OwnEnds _ _ _ _ (T24.setTop (mkF m 157 #[.val (.int px), .val (.int pk), .val (.int po), .val (.ref b1), .val (.int (u20 + ((po &&& (3 : Int32)) - (1 : Int32)))), .val (.int (1 : Int32)), .val (.int (1 : Int32))] [(.int (1 : Int32))]))
  refine OwnEnds.via (fun t k => XS.ifNo X24.here hx rfl (hb hby at_157) rfl ((if0 _ _).trans (feq (by decide)).1) k) ?_
  show OwnEnds _ _ _ _ (T24.setTop (mkF m 160 #[.val (.int px), .val (.int pk), .val (.int po), .val (.ref b1), .val (.int (u20 + ((po &&& (3 : Int32)) - (1 : Int32)))), .val (.int (1 : Int32)), .val (.int (1 : Int32))] []))
  refine OwnEnds.via (fun t k => XS.iload X24.here hx rfl (hb hby at_160) rfl k) ?_
  show OwnEnds _ _ _ _ (T24.setTop (mkF m 162 #[.val (.int px), .val (.int pk), .val (.int po), .val (.ref b1), .val (.int (u20 + ((po &&& (3 : Int32)) - (1 : Int32)))), .val (.int (1 : Int32)), .val (.int (1 : Int32))] [(.int (1 : Int32))]))
  refine OwnEnds.via (fun t k => XS.ifNo X24.here hx rfl (hb hby at_162) rfl ((if0 _ _).trans (feq (by decide)).1) k) ?_
  show OwnEnds _ _ _ _ (T24.setTop (mkF m 165 #[.val (.int px), .val (.int pk), .val (.int po), .val (.ref b1), .val (.int (u20 + ((po &&& (3 : Int32)) - (1 : Int32)))), .val (.int (1 : Int32)), .val (.int (1 : Int32))] []))
  refine OwnEnds.via (fun t k => XS.iconst X24.here hx rfl (hb hby at_165) k) ?_
  show OwnEnds _ _ _ _ (T24.setTop (mkF m 166 #[.val (.int px), .val (.int pk), .val (.int po), .val (.ref b1), .val (.int (u20 + ((po &&& (3 : Int32)) - (1 : Int32)))), .val (.int (1 : Int32)), .val (.int (1 : Int32))] [(.int (1 : Int32))]))
  refine OwnEnds.via (fun t k => XS.goto X24.here hx rfl (pc0 := 166) (pc' := 170) rfl (hb hby at_166) (by decide) (by decide) k) ?_
  show OwnEnds _ _ _ _ (T24.setTop (mkF m 170 #[.val (.int px), .val (.int pk), .val (.int po), .val (.ref b1), .val (.int (u20 + ((po &&& (3 : Int32)) - (1 : Int32)))), .val (.int (1 : Int32)), .val (.int (1 : Int32))] [(.int (1 : Int32))]))
  obtain ⟨fs, hr, hrun, hended, hW, hsame⟩ := X24.leave (v := some (.int (1 : Int32))) (fun h => by rw [Bd.returns] at h; cases h)
  refine ⟨_, _, ?_, hrun, hended, _, _, rfl, ?_, ⟨_, rfl⟩, hW, hsame.mono (by decide) (by decide)⟩
  · exact retN X24 hx (t := .boolean) Bd.returns (by simp) (hb hby at_170) hr
  · show Q0 Z px pk po h0 n0 _ T24.heap _
    rw [e24]
    exact ⟨rfl, N24⟩

set_option maxRecDepth 65536 in
set_option maxHeartbeats 40000000 in
theorem comes_1 {Post : Tables → Env → Array Value → State → Outcome → State → Prop} (hpost : ∀ tb e args s v u, (limb_1_1.after args s (.returned v) u = true ∧ limb_1_2.after args s (.returned v) u = true ∧ True) → FrameEnd s (.returned v) u (Jvm.fieldLocs frame_1_writes args s ++ Jvm.arrayLocs frame_1_arrays args s ++ Jvm.staticLocs frame_1_statics s) 16 128 → Post tb e args s (.returned v) u) :
    ArmFor flags0 classFile x code maxLocals ret World_1 tables_1 room_1 Calls_1 rest_1 Pre_1 Post := by
  intro l hfl _ _ p e ha hc hk s m args below hf hA hF happ hP
  obtain ⟨hcalls, hrest, hpre⟩ := hP
  obtain ⟨-, -, -, hnamed, -, -, -, hat⟩ := (Spec.applies_iff hf).mp happ
  obtain ⟨hg, hn⟩ := and_e (Cond.before_iff.mp (show (Jvm.Cond.and given_1 narrow_1).before args s = true from hpre))
  obtain ⟨hg0, hh0⟩ := and_e hg
  obtain ⟨hg1, hh1⟩ := and_e hh0
  obtain ⟨hg2, hh2⟩ := and_e hh1
  obtain ⟨w0, w1, w2, rfl⟩ : ∃ w0 w1 w2 : Value, args = #[w0, w1, w2] := by
    have hs : args.size = 3 := by simpa [Cond.value, given_1] using hg0
    obtain ⟨L⟩ := args
    match L, hs with
    | [w0, w1, w2], _ => exact ⟨w0, w1, w2, rfl⟩
  have hw := fun d (hd : d ∈ tables_1) => atoms_spec (ws := Jvm.Cond.code x code maxLocals ret :: tables_1) hat d (List.mem_cons_of_mem _ hd)
  have hfit : Fit s := fun {y c} hc i hi => by
    obtain ⟨ha, rfl⟩ := Array.getElem?_eq_some_iff.mp hc
    have q := List.all_eq_true.mp ((Array.all_eq_true_iff_forall_mem.mp hF) _ (Array.getElem_mem ha)) i (List.mem_range.mpr hi)
    simpa [Array.getElem?_eq_getElem hi] using q
  obtain ⟨i0, ei0⟩ := is_v hg1
  obtain rfl : w0 = (.int i0) := Option.some.inj ei0
  obtain ⟨i1, ei1⟩ := is_v hg2
  obtain rfl : w1 = (.int i1) := Option.some.inj ei1
  obtain ⟨i2, ei2⟩ := is_v hh2
  obtain rfl : w2 = (.int i2) := Option.some.inj ei2
  obtain ⟨n, o, h1, h2, h3, _, L, rfl, ⟨rfl, N⟩, hq⟩ := rm0 l s _ hw tables_1 i0 i1 i2 s.heap s.heap.size (Nat.le_refl _) p e ha hc hk s m _ below hf ((Spec.applies_iff_loose hf).mp happ).1 ⟨rfl, State.Warmed39.refl s, rfl⟩ trivial
  refine ⟨n, _, h1, h2, h3, hpost _ _ _ _ _ _ ⟨Cond.after_iff.mpr rfl, Cond.after_iff.mpr (eq_i res_at (Term.int_eval (1)) rfl), trivial⟩ ⟨hq.1, hq.2.1, (hq.2.2.sift fun y hy => Or.inr (N y hy)).mono (by decide) (by decide)⟩⟩
theorem main_1_1 : Claimed_1_1 := comes_1 fun _ _ _ _ _ _ h hF => ⟨h.1, hF⟩
theorem main_1_2 : Claimed_1_2 := comes_1 fun _ _ _ _ _ _ h hF => ⟨h.2.1, hF⟩
end Jvm.Pilot.@@N@@
namespace Jvm.Pilot.@@N@@
open Jvm Jvm.ClassFile Sem Op Lib Jvm.Free Jvm.Stand Jvm.Pilot.@@N@@.Jvm.D
/-! MADE BY PROGRAM (witnessworld.py) out of the Statement's table words and the real class files: 9 classes; the members and pool entries that the words name. The judged class is class 1, her method 2. -/
namespace start1
open Jvm.ClassFile
def u (s : String) : CpInfo := .utf8 (stringToUtf16 s)
/-- a pool by its gaps: so many unusable entries, then the entry; so many at the end -/
def gap : Nat → List CpInfo → List CpInfo
  | 0, r => r
  | n + 1, r => .unusable :: gap n r
def poolList (es : List (Nat × CpInfo)) (last : Nat) : List CpInfo := es.foldr (fun e r => gap e.1 (e.2 :: r)) (gap last [])
def pool (es : List (Nat × CpInfo)) (last : Nat) : Array CpInfo := ⟨poolList es last⟩
def fileOf (pool : Array CpInfo) (this : Nat) (attrs : Array Attribute := #[]) (ms : Array MethodInfo := #[]) (fl : Nat := 33) (sup : Nat := 0) (ifs : Array Nat := #[]) (fds : Array FieldInfo := #[]) : ClassFile where
  minorVersion := 0
  majorVersion := 65
  constantPool := pool
  accessFlags := fl
  thisClass := this
  superClass := sup
  interfaces := ifs
  fields := fds
  methods := ms
  attributes := attrs
def plain (name : String) (sup : Option ClassId) : Class where
  name := name
  kind := .ordinary
  loader := none
  accessFlags := 33
  super := sup
  interfaces := #[]
  cf := none
  fields := #[]
  methods := #[]
  instanceTypes := #[]
  staticTypes := #[]
  resolved := #[]
  callSites := []
  init := .initialized
  statics := none
  mirror := none

def pool0 : Array CpInfo := pool [(5, u "<init>"), (0, u "()V"), (1, .class_ 10), (1, u "java/lang/Object")] 113

def k0m0 : Method := { name := "<init>", desc := "()V", sig := { parameters := [], returnType := none }, accessFlags := 1, code := none }
/-- java/lang/Object -/
def k0 : Class := { plain "java/lang/Object" none with
  accessFlags := 33
  interfaces := #[]
  cf := some (fileOf pool0 8 #[] #[{ accessFlags := 1, nameIndex := 5, descriptorIndex := 6, attributes := #[] }] 33 0 #[] #[])
  fields := #[]
  methods := #[k0m0]
  instanceTypes := #[]
  staticTypes := #[]
  resolved := Array.replicate 124 none
  statics := none }

def pool1 : Array CpInfo := pool [(2, .class_ 4), (1, u "java/lang/Object"), (0, u "<init>"), (0, u "()V"), (0, .integer 1114111), (0, .integer 55296), (0, .integer 57343), (0, .integer 65534), (0, .integer 65535), (0, .integer 55295), (0, .integer 57344), (0, .integer 65533), (0, .integer 65536), (0, .integer 1114112), (2, .integer 2147483648), (0, .integer 2147483647), (0, .methodref 22 23), (0, .class_ 24), (0, .nameAndType 25 26), (0, u "com/example/enlace/enlace/wire/XmlCharacters"), (0, u "allowed"), (0, u "(I)Z"), (0, .methodref 28 29), (0, .class_ 30), (0, .nameAndType 31 26), (0, u "com/example/enlace/enlace/wire/XmlCharactersAllowedPinLaw"), (0, u "ref"), (3, u "law"), (0, u "(III)Z")] 4

def k1m0 : Method := { name := "<init>", desc := "()V", sig := { parameters := [], returnType := none }, accessFlags := 2, code := none }
def k1c1 : Code := { maxStack := 2, maxLocals := 1, code := method_2_code, exceptionTable := #[], attributes := #[] }
def k1m1 : Method := { name := "ref", desc := "(I)Z", sig := { parameters := [.int], returnType := some .boolean }, accessFlags := 10, code := some k1c1 }
def k1c2 : Code := { maxStack := 4, maxLocals := 7, code := code, exceptionTable := #[], attributes := #[] }
def k1m2 : Method := { name := "law", desc := "(III)Z", sig := { parameters := [.int, .int, .int], returnType := some .boolean }, accessFlags := 9, code := some k1c2 }
/-- com/example/enlace/enlace/wire/XmlCharactersAllowedPinLaw -/
def k1 : Class := { plain "com/example/enlace/enlace/wire/XmlCharactersAllowedPinLaw" (some 0) with
  accessFlags := 49
  interfaces := #[]
  cf := some (fileOf pool1 28 #[] #[{ accessFlags := 2, nameIndex := 5, descriptorIndex := 6, attributes := #[] }, { accessFlags := 10, nameIndex := 31, descriptorIndex := 26, attributes := #[] }, { accessFlags := 9, nameIndex := 35, descriptorIndex := 36, attributes := #[] }] 49 2 #[] #[])
  fields := #[]
  methods := #[k1m0, k1m1, k1m2]
  instanceTypes := #[]
  staticTypes := #[]
  resolved := Array.replicate 41 none
  statics := none }

def pool2 : Array CpInfo := pool [(2, .class_ 4), (1, u "java/lang/Object"), (0, u "<init>"), (0, u "()V"), (0, .integer 55295), (0, .integer 57344), (0, .integer 65533), (0, .integer 65536), (0, .integer 1114111), (16, .class_ 30), (1, u "com/example/enlace/enlace/wire/XmlCharacters"), (0, u "allowed"), (0, u "(I)Z"), (16, u "REPLACEMENT"), (0, u "C")] 8

def k2m0 : Method := { name := "<init>", desc := "()V", sig := { parameters := [], returnType := none }, accessFlags := 2, code := none }
def k2c1 : Code := { maxStack := 2, maxLocals := 1, code := prog_37_method_2_code, exceptionTable := #[], attributes := #[] }
def k2m1 : Method := { name := "allowed", desc := "(I)Z", sig := { parameters := [.int], returnType := some .boolean }, accessFlags := 8, code := some k2c1 }
/-- com/example/enlace/enlace/wire/XmlCharacters -/
def k2 : Class := { plain "com/example/enlace/enlace/wire/XmlCharacters" (some 0) with
  accessFlags := 48
  interfaces := #[]
  cf := some (fileOf pool2 28 #[] #[{ accessFlags := 2, nameIndex := 5, descriptorIndex := 6, attributes := #[] }, { accessFlags := 8, nameIndex := 31, descriptorIndex := 32, attributes := #[] }] 48 2 #[] #[{ accessFlags := 26, nameIndex := 49, descriptorIndex := 50, attributes := #[] }])
  fields := #[{ name := "REPLACEMENT", type := .char, accessFlags := 26, slot := 0, constantValue := 0 }]
  methods := #[k2m0, k2m1]
  instanceTypes := #[]
  staticTypes := #[.char]
  resolved := Array.replicate 59 none
  statics := none }

def pool3 : Array CpInfo := pool [(1, u "java/lang/Cloneable"), (0, .class_ 1), (0, u "java/lang/Object"), (0, .class_ 3)] 3

/-- java/lang/Cloneable -/
def k3 : Class := { plain "java/lang/Cloneable" (some 0) with
  accessFlags := 1537
  interfaces := #[]
  cf := some (fileOf pool3 2 #[] #[] 1537 4 #[] #[])
  fields := #[]
  methods := #[]
  instanceTypes := #[]
  staticTypes := #[]
  resolved := Array.replicate 8 none
  statics := none }

def pool4 : Array CpInfo := pool [(1, u "java/io/Serializable"), (0, .class_ 1), (0, u "java/lang/Object"), (0, .class_ 3)] 3

/-- java/io/Serializable -/
def k4 : Class := { plain "java/io/Serializable" (some 0) with
  accessFlags := 1537
  interfaces := #[]
  cf := some (fileOf pool4 2 #[] #[] 1537 4 #[] #[])
  fields := #[]
  methods := #[]
  instanceTypes := #[]
  staticTypes := #[]
  resolved := Array.replicate 8 none
  statics := none }

/-- the primitive byte -/
def k5 : Class := { plain "byte" none with kind := .primitive 'B', accessFlags := 0x411 }
/-- [B -/
def k6 : Class := { plain "[B" (some 0) with kind := .array 5 .byte, interfaces := #[3, 4], accessFlags := 1041 }

/-- the primitive int -/
def k7 : Class := { plain "int" none with kind := .primitive 'I', accessFlags := 0x411 }
/-- [I -/
def k8 : Class := { plain "[I" (some 0) with kind := .array 7 .int, interfaces := #[3, 4], accessFlags := 1041 }

def heap : Heap := #[]
def classes : Array Class := #[k0, k1, k2, k3, k4, k5, k6, k7, k8]
def interned : List (Array UInt16 × Addr) := []
def slotsUsed : Nat := 0
def theMethod : MethodId := ⟨1, 2⟩
def args0 : Array Value := #[.int 3, .int 7, .int 5]
def aboutOver (below : List Frame) : State where
  vm := { classes := classes, interned := interned.toArray }
  heap := heap
  slotsUsed := slotsUsed
  threads := #[{ frames := .invoking theMethod args0 :: below }]
def below0 : List Frame := [.native { method := ⟨0, 0⟩, args := #[] }]
def about1 : State := aboutOver below0
def p0 : Program := .bare "" "" ""
def e0 : Env := launch0.env 0 0 0
theorem w_frames : about1.frames = Frame.invoking theMethod args0 :: below0 := rfl
set_option maxRecDepth 65536 in
theorem w_args : argsFit about1.vm theMethod args0 = true := by decide +kernel
set_option maxRecDepth 65536 in
theorem w_heap : heapFits about1 = true := by decide +kernel
set_option maxRecDepth 65536 in
theorem w_runnable : about1.curStatus? = some .runnable := by decide +kernel
set_option maxRecDepth 65536 in
theorem w_alone : about1.alone = true := by decide +kernel
set_option maxRecDepth 65536 in
theorem w_named : about1.methodNamed? x = some theMethod := by decide +kernel
set_option maxRecDepth 65536 in
theorem w_hears : about1.hears theMethod below0 = true := by decide +kernel
set_option maxRecDepth 65536 in
theorem w_ripe : about1.ripe theMethod args0 below0 = true := by decide +kernel
theorem w_running : about1.status = .running := rfl
set_option maxRecDepth 65536 in
theorem w_room : about1.hasRoom e0.platform room_1 = true :=
  launch0.hasRoom_least _ room_1 (by decide +kernel) (by decide +kernel) (by decide +kernel) (by decide +kernel) (by decide +kernel) (by decide +kernel)
theorem allAtoms_all (ts : List Jvm.Cond) (a : Array Jvm.Value) (st : Jvm.State) : (allAtoms ts).before a st = ts.all (fun c => c.before a st) := by
  induction ts with
  | nil => rfl
  | cons c t ih =>
    show (Jvm.Cond.and c (allAtoms t)).before a st = _
    rw [Jvm.Cond.before_and, ih, List.all_cons]
def words1 : List Jvm.Cond := Jvm.Cond.code x code maxLocals ret :: tables_1
/-- a 'code' word, met by the world's own term for the bytes: nothing is compared byte by byte -/
theorem code_word {y : MethodName} {bytes : ByteArray} {mx : Nat} {rt : Option FieldType} {a : Array Value} {s : State} {m : MethodId} {meth : Method} {c : Code} (h1 : s.methodNamed? y = some m) (h2 : s.vm.method? m = some meth) (h3 : meth.code = some c) (h4 : c.code = bytes)
    (h5 : (c.maxLocals == mx && c.exceptionTable.isEmpty && decide (c.maxStack ≤ mostOperands) && decide (meth.sig.returnType = rt) && !meth.locks && decide (parseMethodDescriptor y.desc = some meth.sig)) = true) : (Jvm.Cond.code y bytes mx rt).before a s = true := by
  simp only [Bool.and_eq_true, beq_iff_eq, Bool.not_eq_true', decide_eq_true_eq] at h5
  obtain ⟨⟨⟨⟨⟨g1, g2⟩, g3⟩, g4⟩, g5⟩, g6⟩ := h5
  simp [Cond.before, Cond.holds, Cond.value, h1, h2, h3, h4, g1, g2, g3, g4, g5, g6]
def isCode : Jvm.Cond → Bool
  | .code _ _ _ _ => true
  | _ => false
theorem all_split {L : List Jvm.Cond} {P : Jvm.Cond → Bool} (h1 : L.all (fun c => isCode c || P c) = true) (h2 : ∀ c ∈ L.filter isCode, P c = true) : L.all P = true := by
  refine List.all_eq_true.mpr fun c hc => ?_
  have h := List.all_eq_true.mp h1 c hc
  rcases Bool.eq_false_or_eq_true (isCode c) with hi | hi
  · exact h2 c (List.mem_filter.mpr ⟨hc, hi⟩)
  · simpa [hi] using h
set_option maxRecDepth 65536 in
theorem w_c0 : (Jvm.Cond.code x code maxLocals ret).before args0 about1 = true := code_word (m := ⟨1, 2⟩) (meth := k1m2) (c := k1c2) (by decide +kernel) rfl rfl rfl (by decide +kernel)
set_option maxRecDepth 65536 in
theorem w_c1 : (Jvm.Cond.code ({ cls := "com/example/enlace/enlace/wire/XmlCharacters", name := "allowed", desc := "(I)Z" } : Jvm.MethodName) prog_37_method_2_code (1 : Nat) (Option.some Jvm.ClassFile.FieldType.boolean)).before args0 about1 = true := code_word (m := ⟨2, 1⟩) (meth := k2m1) (c := k2c1) (by decide +kernel) rfl rfl rfl (by decide +kernel)
set_option maxRecDepth 65536 in
theorem w_c2 : (Jvm.Cond.code ({ cls := "com/example/enlace/enlace/wire/XmlCharactersAllowedPinLaw", name := "ref", desc := "(I)Z" } : Jvm.MethodName) method_2_code (1 : Nat) (Option.some Jvm.ClassFile.FieldType.boolean)).before args0 about1 = true := code_word (m := ⟨1, 1⟩) (meth := k1m1) (c := k1c1) (by decide +kernel) rfl rfl rfl (by decide +kernel)
def codes1 : List Jvm.Cond := [Jvm.Cond.code x code maxLocals ret, Jvm.Cond.code ({ cls := "com/example/enlace/enlace/wire/XmlCharacters", name := "allowed", desc := "(I)Z" } : Jvm.MethodName) prog_37_method_2_code (1 : Nat) (Option.some Jvm.ClassFile.FieldType.boolean), Jvm.Cond.code ({ cls := "com/example/enlace/enlace/wire/XmlCharactersAllowedPinLaw", name := "ref", desc := "(I)Z" } : Jvm.MethodName) method_2_code (1 : Nat) (Option.some Jvm.ClassFile.FieldType.boolean)]
set_option maxRecDepth 65536 in
theorem codes_eq : words1.filter isCode = codes1 := rfl
theorem w_codes : ∀ c ∈ words1.filter isCode, c.before args0 about1 = true := by
  rw [codes_eq]
  intro c hc
  simp only [codes1, List.mem_cons, List.not_mem_nil, or_false] at hc
  rcases hc with rfl | rfl | rfl
  · exact w_c0
  · exact w_c1
  · exact w_c2
set_option maxRecDepth 65536 in
theorem w_t1 : (words1.take 24).all (fun c => isCode c || c.before args0 about1) = true := by decide +kernel
set_option maxRecDepth 65536 in
theorem w_t2 : (words1.drop 24).all (fun c => isCode c || c.before args0 about1) = true := by decide +kernel
theorem w_tables : (allAtoms (Jvm.Cond.code x code maxLocals ret :: tables_1)).before args0 about1 = true := by
  rw [allAtoms_all]
  show words1.all (fun c => c.before args0 about1) = true
  refine all_split ?_ w_codes
  rw [← List.take_append_drop 24 words1, List.all_append, w_t1, w_t2]
  rfl
set_option maxRecDepth 65536 in
theorem w_case : (Jvm.Cond.and given_1 narrow_1).before args0 about1 = true := by decide +kernel
theorem w_applies : (headSpec (Jvm.Cond.code x code maxLocals ret :: tables_1) room_1).applies x e0.platform about1 = true :=
  (Spec.applies_iff w_frames).mpr ⟨w_running, w_runnable, w_alone, w_named, w_hears, w_ripe, w_room, w_tables⟩
theorem atStart : AtStart classFile x code maxLocals ret World_1 tables_1 room_1 Calls_1 rest_1 Pre_1 launch0 p0 e0 about1 theMethod args0 below0 :=
  ⟨lists_1, trivial, launch0.admits_env _ _ _, launch0.least_env, fairChoices_fair.cas, fairChoices_fair.clock, w_frames, w_args, w_heap, w_applies, trivial, trivial, w_case⟩
end start1
theorem witness_1 : WitnessClaimed_1 := ⟨start1.p0, start1.e0, start1.about1, start1.theMethod, start1.args0, start1.below0, start1.atStart⟩
end Jvm.Pilot.@@N@@
