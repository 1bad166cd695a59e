import JvmDerived
import JvmDerived.Pilot.@@N@@Statement
import JvmDerived.Pilot.@@N@@Code
set_option linter.unusedVariables false
set_option linter.unusedSimpArgs false
namespace Jvm.RoadKit
open Sem ClassFile Op Lib Jvm.Stand Jvm.Free Jvm.LawKit
section New
variable {p : Program} {l : Launch} {e : Env} {R : Room} {s : State} {m : MethodId} {args : Array Value} {below : List Frame} {meth : Method} {c : Code} {T : State} {locs : List Loc} {cells slots : Nat}
theorem retI (X : Stand p l e R s m args below meth c T locs cells slots) (hx : p.tables.exec = Jvm.exec) {pc : Nat} {Ls : Array Slot} {z : Int32} {rest : List Value} (hret : meth.sig.returnType = some .int) (hd : decode c.code pc = .ok (.ireturn, 1)) {fs : List Frame}
    (hl : ∀ (f : JFrame) (acts : List Action), f.method = m → f.locked = none → f.entered = [] → (doReturn e (T.setTop f) acts (some (.int z))).1 = T.setFrames fs) : Steps p.tables e below (T.setTop (mkF m pc Ls (.int z :: rest))) (T.setFrames fs) := by
  have hm' : T.vm.method? m = some meth := X.method'
  have hn : narrow .int (.int z) = .int z := rfl
  show Steps p.tables e below (T.setTop { method := m, pc := pc, locals := Ls, stack := _ :: rest, locked := none }) _
  jvm_step X.here [X.here.top, hx, hd, hm', hret, hn]
  first | (intro acts; rw [hl _ acts rfl rfl rfl]) | rw [hl _ _ rfl rfl rfl]
  exact Steps.refl _
end New
/-- from W the run comes to a state and an outcome of which K holds -/
def OwnEnds (tb : Tables) (e : Env) (below : List Frame) (K : State → Outcome → Prop) (W : State) : Prop := ∃ t o, Steps tb e below W t ∧ K t o
theorem OwnEnds.via {tb : Tables} {e : Env} {below : List Frame} {K : State → Outcome → Prop} {W W' : State} (f : ∀ t, Steps tb e below W' t → Steps tb e below W t) (h : OwnEnds tb e below K W') : OwnEnds tb e below K W := by
  obtain ⟨t, o, h1, h2⟩ := h
  exact ⟨t, o, f t h1, h2⟩
theorem OwnEnds.cut {tb : Tables} {e : Env} {below : List Frame} {K : State → Outcome → Prop} {W : State} (A : (State → Prop) → Prop) (h1 : A (OwnEnds tb e below K)) (h2 : A (OwnEnds tb e below K) → OwnEnds tb e below K W) : OwnEnds tb e below K W := h2 h1
end Jvm.RoadKit
namespace Jvm.Pilot.@@N@@
open Jvm Jvm.ClassFile Sem Op Lib Jvm.Free Jvm.Stand Jvm.LawKit Jvm.RoadKit Bundle Jvm.Pilot.@@N@@.Jvm.D
theorem d6_0 : decode jdk_37_method_2_code 0 = .ok (.aload_n 0, 1) := by decide +kernel
theorem d6_1 : decode jdk_37_method_2_code 1 = .ok (.getfield 7, 3) := by decide +kernel
theorem d6_4 : decode jdk_37_method_2_code 4 = .ok (.ireturn, 1) := by decide +kernel
theorem pn_rm6 : plainName "java/lang/Enum" = true := by first | (simp [plainName, overriddenIn]; done) | decide +kernel
theorem ef_rm6 (m : MethodId) (a : Addr) : entryFrame m #[(.ref a)] 1 = mkF m 0 #[.val (.ref a)] [] := by first | (simp [entryFrame, mkF, argsToLocals, Value.category]; done) | rfl
def Q6 (Z : State) (a : Addr) (od : Int32) (h0 : Heap) (n0 : Nat) (v : Option Value) (h : Heap) (L : List Loc) : Prop := v = some (.int od) ∧ Fr n0 L ∧ h = h0
set_option maxRecDepth 65536 in
set_option maxHeartbeats 40000000 in
theorem rm6 (l : Launch) (Z : State) (a0 : Array Value) (hw : ∀ d ∈ tables_1, d.before a0 Z = true) (ws : List Jvm.Cond) (a : Addr) (od : Int32) (h0 : Heap) (n0 : Nat) (Z0 : n0 ≤ h0.size) (P0 : Fld Z h0 a "java/lang/Enum" "ordinal" "I" (.int od)) :
    MetFree l (⟨"java/lang/Enum", "ordinal", "()I"⟩ : MethodName) (head1 (Jvm.Cond.code (⟨"java/lang/Enum", "ordinal", "()I"⟩ : MethodName) jdk_37_method_2_code 1 (some .int) :: ws) ({ frames := 0, cells := 0, slots := 0, locals := 0 } : Room)) (fun aa U => aa = #[(.ref a)] ∧ Z.Warmed39 U.vm ∧ U.heap = h0) (fun _ _ _ _ _ => True) (fun _ U o U' => ∃ v L, o = .returned v ∧ Q6 Z a od h0 n0 v U'.heap L ∧ FrameEnd U o U' L ({ frames := 0, cells := 0, slots := 0, locals := 0 } : Room).cells ({ frames := 0, cells := 0, slots := 0, locals := 0 } : Room).slots) := by
  refine MetFree.of_bodySF (plainFor_of_name pn_rm6) hisR ?_
  intro p e s m args below meth c s₁ Bd hml0 hP hK
  obtain ⟨rfl, hZ, hh⟩ := hP
  have hx := Bd.exec
  have hby := Bd.bytes
  have hml : c.maxLocals = 1 := hml0
  have hown : s.vm.findClass "java/lang/Enum" = some m.cls := findClass_of_methodNamed Bd.named
  have hnm := (name_of_methodNamed Bd.named Bd.method).1
  have X0 : Stand p l e ({ frames := 0, cells := 0, slots := 0, locals := 0 } : Room) s m #[(.ref a)] below meth c s₁ [] 0 0 := Stand.of_body Bd
  have e0 : s₁.heap = h0 := by rw [← hh, Bd.state]; rfl
  have N0 := Fr.nil n0
  change OwnEnds p.tables e below _ _
  refine OwnEnds.via (fun t k => castTop (ef_rm6 m a) k) ?_
  show OwnEnds _ _ _ _ (s₁.setTop (mkF m 0 #[.val (.ref a)] []))
  refine OwnEnds.via (fun t k => XS.aloadN X0.here hx rfl (hb hby d6_0) rfl rfl k) ?_
  show OwnEnds _ _ _ _ (s₁.setTop (mkF m 1 #[.val (.ref a)] [(.ref a)]))
  obtain ⟨T1, X1, e1, st1⟩ := getF X0 hx hZ hown (host := "") (Or.inl (hw _ (List.mem_of_getElem? (i := 50) rfl))) Via.refl e0 P0 (g := (mkF m 1 #[.val (.ref a)] [(.ref a)])) rfl rfl (hb hby d6_1)
  refine OwnEnds.via st1 ?_
  show OwnEnds _ _ _ _ (T1.setTop (mkF m 4 #[.val (.ref a)] [(.int od)]))
  obtain ⟨fs, hr, hrun, hended, hW, hsame⟩ := X1.leave (v := some (.int od)) (fun h => by rw [Bd.returns] at h; cases h)
  refine ⟨_, _, ?_, hrun, hended, _, _, rfl, ?_, ⟨_, rfl⟩, hW, hsame.mono (by decide) (by decide)⟩
  · exact retI X1 hx Bd.returns (hb hby d6_4) hr
  · show Q6 Z a od h0 n0 _ T1.heap _
    rw [e1]
    exact ⟨rfl, N0, rfl⟩

theorem d5_0 : decode prog_35_method_7_code 0 = .ok (.iconst 1, 1) := by decide +kernel
theorem d5_1 : decode prog_35_method_7_code 1 = .ok (.aload_n 0, 1) := by decide +kernel
theorem d5_2 : decode prog_35_method_7_code 2 = .ok (.invokevirtual 109, 3) := by decide +kernel
theorem d5_5 : decode prog_35_method_7_code 5 = .ok (.ishl, 1) := by decide +kernel
theorem d5_6 : decode prog_35_method_7_code 6 = .ok (.ireturn, 1) := by decide +kernel
theorem pn_rm5 : plainName "com/example/stratal/stratal/logic/Kind" = true := by first | (simp [plainName, overriddenIn]; done) | decide +kernel
theorem pd_0 : parseMethodDescriptor "()I" = some ⟨[], some .int⟩ := by decide +kernel
theorem ef_rm5 (m : MethodId) (a : Addr) : entryFrame m #[(.ref a)] 1 = mkF m 0 #[.val (.ref a)] [] := by first | (simp [entryFrame, mkF, argsToLocals, Value.category]; done) | rfl
def Q5 (Z : State) (a : Addr) (od : Int32) (h0 : Heap) (n0 : Nat) (v : Option Value) (h : Heap) (L : List Loc) : Prop := v = some (.int ((1 : Int32) <<< (od &&& 31))) ∧ Fr n0 L ∧ h = h0
set_option maxRecDepth 65536 in
set_option maxHeartbeats 40000000 in
theorem rm5 (l : Launch) (Z : State) (a0 : Array Value) (hw : ∀ d ∈ tables_1, d.before a0 Z = true) (ws : List Jvm.Cond) (a : Addr) (od : Int32) (h0 : Heap) (n0 : Nat) (Z0 : n0 ≤ h0.size) (P0 : Exa Z h0 a "com/example/stratal/stratal/logic/Kind") (P1 : Fld Z h0 a "java/lang/Enum" "ordinal" "I" (.int od)) :
    MetFree l (⟨"com/example/stratal/stratal/logic/Kind", "bit", "()I"⟩ : MethodName) (head1 (Jvm.Cond.code (⟨"com/example/stratal/stratal/logic/Kind", "bit", "()I"⟩ : MethodName) prog_35_method_7_code 1 (some .int) :: ws) ({ frames := 1, cells := 0, slots := 0, locals := 13 } : Room)) (fun aa U => aa = #[(.ref a)] ∧ Z.Warmed39 U.vm ∧ U.heap = h0) (fun _ _ _ _ _ => True) (fun _ U o U' => ∃ v L, o = .returned v ∧ Q5 Z a od h0 n0 v U'.heap L ∧ FrameEnd U o U' L ({ frames := 1, cells := 0, slots := 0, locals := 13 } : Room).cells ({ frames := 1, cells := 0, slots := 0, locals := 13 } : Room).slots) := by
  refine MetFree.of_bodySF (plainFor_of_name pn_rm5) hisR ?_
  intro p e s m args below meth c s₁ Bd hml0 hP hK
  obtain ⟨rfl, hZ, hh⟩ := hP
  have hx := Bd.exec
  have hby := Bd.bytes
  have hml : c.maxLocals = 1 := hml0
  have hown : s.vm.findClass "com/example/stratal/stratal/logic/Kind" = some m.cls := findClass_of_methodNamed Bd.named
  have hnm := (name_of_methodNamed Bd.named Bd.method).1
  have X0 : Stand p l e ({ frames := 1, cells := 0, slots := 0, locals := 13 } : Room) s m #[(.ref a)] below meth c s₁ [] 0 0 := Stand.of_body Bd
  have e0 : s₁.heap = h0 := by rw [← hh, Bd.state]; rfl
  have N0 := Fr.nil n0
  change OwnEnds p.tables e below _ _
  refine OwnEnds.via (fun t k => castTop (ef_rm5 m a) k) ?_
  show OwnEnds _ _ _ _ (s₁.setTop (mkF m 0 #[.val (.ref a)] []))
  refine OwnEnds.via (fun t k => XS.iconst X0.here hx rfl (hb hby d5_0) k) ?_
  show OwnEnds _ _ _ _ (s₁.setTop (mkF m 1 #[.val (.ref a)] [(.int (1 : Int32))]))
  refine OwnEnds.via (fun t k => XS.aloadN X0.here hx rfl (hb hby d5_1) rfl rfl k) ?_
  show OwnEnds _ _ _ _ (s₁.setTop (mkF m 2 #[.val (.ref a)] [(.ref a), (.int (1 : Int32))]))
  obtain ⟨cq1, kq1, q1a, q1b, q1c⟩ := isOf hZ e0 P0
  obtain ⟨_, _, ⟨T1, L1, k1, n1⟩, -, X1, ⟨Lc1, hQ1, l1, y1, z1⟩, st1⟩ := X0.virtualBackUp hx (owner := "java/lang/Enum") (x := (⟨"com/example/stratal/stratal/logic/Kind", "ordinal", "()I"⟩ : MethodName)) (y := (⟨"java/lang/Enum", "ordinal", "()I"⟩ : MethodName)) hown (mvT hZ (hw _ (List.mem_of_getElem? (i := 43) rfl))) (mvT hZ (hw _ (List.mem_of_getElem? (i := 44) rfl))) (mvT hZ (hw _ (List.mem_of_getElem? (i := 45) rfl))) (by decide) (mvT hZ (hw _ (List.mem_of_getElem? (i := 47) rfl))) (mvT hZ (hw _ (List.mem_of_getElem? (i := 46) rfl))) (backOf (W := 1) (rm6 l Z a0 hw [] a od h0 n0 Z0 P1) hZ (hw _ (List.mem_of_getElem? (i := 49) rfl)) (hw _ (List.mem_of_getElem? (i := 48) rfl)) (by decide) (by decide)) q1a q1c (g := (mkF m 2 #[.val (.ref a)] [(.ref a), (.int (1 : Int32))])) rfl (by rw [hml]; rfl) (Steps.refl _) (argsL := []) (rest := [(.int (1 : Int32))]) (lenOf pd_0 rfl) rfl (by show 2 * 0 + _ ≤ _; exact Nat.le_of_eq rfl) (hb hby d5_2) (fun _ _ => ⟨rfl, e0, (by decide : 0 + 0 ≤ _), (by decide : 0 + 0 ≤ _)⟩)
  dsimp only [Pt.U, Pt.locs, Pt.cells, Pt.slots] at X1 l1 y1 z1 st1 hQ1
  subst l1 y1 z1
  obtain ⟨rfl, Nq1, e1⟩ := hQ1
  have N1 := Fr.app N0 Nq1
  refine OwnEnds.via (fun t k => st1.trans k) ?_
  show OwnEnds _ _ _ _ (T1.setTop (mkF m 5 #[.val (.ref a)] [(.int od), (.int (1 : Int32))]))
  refine OwnEnds.via (fun t k => XS.ishl X1.here hx rfl (hb hby d5_5) rfl k) ?_
  show OwnEnds _ _ _ _ (T1.setTop (mkF m 6 #[.val (.ref a)] [(.int ((1 : Int32) <<< (od &&& 31)))]))
  obtain ⟨fs, hr, hrun, hended, hW, hsame⟩ := X1.leave (v := some (.int ((1 : Int32) <<< (od &&& 31)))) (fun h => by rw [Bd.returns] at h; cases h)
  refine ⟨_, _, ?_, hrun, hended, _, _, rfl, ?_, ⟨_, rfl⟩, hW, hsame.mono (by decide) (by decide)⟩
  · exact retI X1 hx Bd.returns (hb hby d5_6) hr
  · show Q5 Z a od h0 n0 _ T1.heap _
    rw [e1]
    exact ⟨rfl, N1, rfl⟩

def own_bc (ip : Int32) : Int32 := ((((((((ip - (((ip.toUInt32 >>> ((1 : Int32) &&& 31).toUInt32).toInt32) &&& (1431655765 : Int32))) &&& (858993459 : Int32)) + ((((ip - (((ip.toUInt32 >>> ((1 : Int32) &&& 31).toUInt32).toInt32) &&& (1431655765 : Int32))).toUInt32 >>> ((2 : Int32) &&& 31).toUInt32).toInt32) &&& (858993459 : Int32))) + (((((ip - (((ip.toUInt32 >>> ((1 : Int32) &&& 31).toUInt32).toInt32) &&& (1431655765 : Int32))) &&& (858993459 : Int32)) + ((((ip - (((ip.toUInt32 >>> ((1 : Int32) &&& 31).toUInt32).toInt32) &&& (1431655765 : Int32))).toUInt32 >>> ((2 : Int32) &&& 31).toUInt32).toInt32) &&& (858993459 : Int32))).toUInt32 >>> ((4 : Int32) &&& 31).toUInt32).toInt32)) &&& (252645135 : Int32)) + (((((((ip - (((ip.toUInt32 >>> ((1 : Int32) &&& 31).toUInt32).toInt32) &&& (1431655765 : Int32))) &&& (858993459 : Int32)) + ((((ip - (((ip.toUInt32 >>> ((1 : Int32) &&& 31).toUInt32).toInt32) &&& (1431655765 : Int32))).toUInt32 >>> ((2 : Int32) &&& 31).toUInt32).toInt32) &&& (858993459 : Int32))) + (((((ip - (((ip.toUInt32 >>> ((1 : Int32) &&& 31).toUInt32).toInt32) &&& (1431655765 : Int32))) &&& (858993459 : Int32)) + ((((ip - (((ip.toUInt32 >>> ((1 : Int32) &&& 31).toUInt32).toInt32) &&& (1431655765 : Int32))).toUInt32 >>> ((2 : Int32) &&& 31).toUInt32).toInt32) &&& (858993459 : Int32))).toUInt32 >>> ((4 : Int32) &&& 31).toUInt32).toInt32)) &&& (252645135 : Int32)).toUInt32 >>> ((8 : Int32) &&& 31).toUInt32).toInt32)) + ((((((((ip - (((ip.toUInt32 >>> ((1 : Int32) &&& 31).toUInt32).toInt32) &&& (1431655765 : Int32))) &&& (858993459 : Int32)) + ((((ip - (((ip.toUInt32 >>> ((1 : Int32) &&& 31).toUInt32).toInt32) &&& (1431655765 : Int32))).toUInt32 >>> ((2 : Int32) &&& 31).toUInt32).toInt32) &&& (858993459 : Int32))) + (((((ip - (((ip.toUInt32 >>> ((1 : Int32) &&& 31).toUInt32).toInt32) &&& (1431655765 : Int32))) &&& (858993459 : Int32)) + ((((ip - (((ip.toUInt32 >>> ((1 : Int32) &&& 31).toUInt32).toInt32) &&& (1431655765 : Int32))).toUInt32 >>> ((2 : Int32) &&& 31).toUInt32).toInt32) &&& (858993459 : Int32))).toUInt32 >>> ((4 : Int32) &&& 31).toUInt32).toInt32)) &&& (252645135 : Int32)) + (((((((ip - (((ip.toUInt32 >>> ((1 : Int32) &&& 31).toUInt32).toInt32) &&& (1431655765 : Int32))) &&& (858993459 : Int32)) + ((((ip - (((ip.toUInt32 >>> ((1 : Int32) &&& 31).toUInt32).toInt32) &&& (1431655765 : Int32))).toUInt32 >>> ((2 : Int32) &&& 31).toUInt32).toInt32) &&& (858993459 : Int32))) + (((((ip - (((ip.toUInt32 >>> ((1 : Int32) &&& 31).toUInt32).toInt32) &&& (1431655765 : Int32))) &&& (858993459 : Int32)) + ((((ip - (((ip.toUInt32 >>> ((1 : Int32) &&& 31).toUInt32).toInt32) &&& (1431655765 : Int32))).toUInt32 >>> ((2 : Int32) &&& 31).toUInt32).toInt32) &&& (858993459 : Int32))).toUInt32 >>> ((4 : Int32) &&& 31).toUInt32).toInt32)) &&& (252645135 : Int32)).toUInt32 >>> ((8 : Int32) &&& 31).toUInt32).toInt32)).toUInt32 >>> ((16 : Int32) &&& 31).toUInt32).toInt32)) &&& (63 : Int32))

theorem d4_0 : decode jdk_33_method_49_code 0 = .ok (.iload_n 0, 1) := by decide +kernel
theorem d4_1 : decode jdk_33_method_49_code 1 = .ok (.iload_n 0, 1) := by decide +kernel
theorem d4_2 : decode jdk_33_method_49_code 2 = .ok (.iconst 1, 1) := by decide +kernel
theorem d4_3 : decode jdk_33_method_49_code 3 = .ok (.iushr, 1) := by decide +kernel
theorem d4_4 : decode jdk_33_method_49_code 4 = .ok (.ldc_w 265, 3) := by decide +kernel
theorem d4_7 : decode jdk_33_method_49_code 7 = .ok (.iand, 1) := by decide +kernel
theorem d4_8 : decode jdk_33_method_49_code 8 = .ok (.isub, 1) := by decide +kernel
theorem d4_9 : decode jdk_33_method_49_code 9 = .ok (.istore_n 0, 1) := by decide +kernel
theorem d4_10 : decode jdk_33_method_49_code 10 = .ok (.iload_n 0, 1) := by decide +kernel
theorem d4_11 : decode jdk_33_method_49_code 11 = .ok (.ldc_w 266, 3) := by decide +kernel
theorem d4_14 : decode jdk_33_method_49_code 14 = .ok (.iand, 1) := by decide +kernel
theorem d4_15 : decode jdk_33_method_49_code 15 = .ok (.iload_n 0, 1) := by decide +kernel
theorem d4_16 : decode jdk_33_method_49_code 16 = .ok (.iconst 2, 1) := by decide +kernel
theorem d4_17 : decode jdk_33_method_49_code 17 = .ok (.iushr, 1) := by decide +kernel
theorem d4_18 : decode jdk_33_method_49_code 18 = .ok (.ldc_w 266, 3) := by decide +kernel
theorem d4_21 : decode jdk_33_method_49_code 21 = .ok (.iand, 1) := by decide +kernel
theorem d4_22 : decode jdk_33_method_49_code 22 = .ok (.iadd, 1) := by decide +kernel
theorem d4_23 : decode jdk_33_method_49_code 23 = .ok (.istore_n 0, 1) := by decide +kernel
theorem d4_24 : decode jdk_33_method_49_code 24 = .ok (.iload_n 0, 1) := by decide +kernel
theorem d4_25 : decode jdk_33_method_49_code 25 = .ok (.iload_n 0, 1) := by decide +kernel
theorem d4_26 : decode jdk_33_method_49_code 26 = .ok (.iconst 4, 1) := by decide +kernel
theorem d4_27 : decode jdk_33_method_49_code 27 = .ok (.iushr, 1) := by decide +kernel
theorem d4_28 : decode jdk_33_method_49_code 28 = .ok (.iadd, 1) := by decide +kernel
theorem d4_29 : decode jdk_33_method_49_code 29 = .ok (.ldc_w 267, 3) := by decide +kernel
theorem d4_32 : decode jdk_33_method_49_code 32 = .ok (.iand, 1) := by decide +kernel
theorem d4_33 : decode jdk_33_method_49_code 33 = .ok (.istore_n 0, 1) := by decide +kernel
theorem d4_34 : decode jdk_33_method_49_code 34 = .ok (.iload_n 0, 1) := by decide +kernel
theorem d4_35 : decode jdk_33_method_49_code 35 = .ok (.iload_n 0, 1) := by decide +kernel
theorem d4_36 : decode jdk_33_method_49_code 36 = .ok (.bipush 8, 2) := by decide +kernel
theorem d4_38 : decode jdk_33_method_49_code 38 = .ok (.iushr, 1) := by decide +kernel
theorem d4_39 : decode jdk_33_method_49_code 39 = .ok (.iadd, 1) := by decide +kernel
theorem d4_40 : decode jdk_33_method_49_code 40 = .ok (.istore_n 0, 1) := by decide +kernel
theorem d4_41 : decode jdk_33_method_49_code 41 = .ok (.iload_n 0, 1) := by decide +kernel
theorem d4_42 : decode jdk_33_method_49_code 42 = .ok (.iload_n 0, 1) := by decide +kernel
theorem d4_43 : decode jdk_33_method_49_code 43 = .ok (.bipush 16, 2) := by decide +kernel
theorem d4_45 : decode jdk_33_method_49_code 45 = .ok (.iushr, 1) := by decide +kernel
theorem d4_46 : decode jdk_33_method_49_code 46 = .ok (.iadd, 1) := by decide +kernel
theorem d4_47 : decode jdk_33_method_49_code 47 = .ok (.istore_n 0, 1) := by decide +kernel
theorem d4_48 : decode jdk_33_method_49_code 48 = .ok (.iload_n 0, 1) := by decide +kernel
theorem d4_49 : decode jdk_33_method_49_code 49 = .ok (.bipush 63, 2) := by decide +kernel
theorem d4_51 : decode jdk_33_method_49_code 51 = .ok (.iand, 1) := by decide +kernel
theorem d4_52 : decode jdk_33_method_49_code 52 = .ok (.ireturn, 1) := by decide +kernel
theorem pn_rm4 : plainName "java/lang/Integer" = true := by first | (simp [plainName, overriddenIn]; done) | decide +kernel
theorem ef_rm4 (m : MethodId) (ip : Int32) : entryFrame m #[(.int ip)] 1 = mkF m 0 #[.val (.int ip)] [] := by first | (simp [entryFrame, mkF, argsToLocals, Value.category]; done) | rfl
def Q4 (Z : State) (ip : Int32) (h0 : Heap) (n0 : Nat) (v : Option Value) (h : Heap) (L : List Loc) : Prop := v = some (.int (own_bc ip)) ∧ Fr n0 L ∧ h = h0
set_option maxRecDepth 65536 in
set_option maxHeartbeats 40000000 in
theorem rm4 (l : Launch) (Z : State) (a0 : Array Value) (hw : ∀ d ∈ tables_1, d.before a0 Z = true) (ws : List Jvm.Cond) (ip : Int32) (h0 : Heap) (n0 : Nat) (Z0 : n0 ≤ h0.size)  :
    MetFree l (⟨"java/lang/Integer", "bitCount", "(I)I"⟩ : MethodName) (head1 (Jvm.Cond.code (⟨"java/lang/Integer", "bitCount", "(I)I"⟩ : MethodName) jdk_33_method_49_code 1 (some .int) :: ws) ({ frames := 0, cells := 0, slots := 0, locals := 0 } : Room)) (fun aa U => aa = #[(.int ip)] ∧ Z.Warmed39 U.vm ∧ U.heap = h0) (fun _ _ _ _ _ => True) (fun _ U o U' => ∃ v L, o = .returned v ∧ Q4 Z ip h0 n0 v U'.heap L ∧ FrameEnd U o U' L ({ frames := 0, cells := 0, slots := 0, locals := 0 } : Room).cells ({ frames := 0, cells := 0, slots := 0, locals := 0 } : Room).slots) := by
  refine MetFree.of_bodySF (plainFor_of_name pn_rm4) hisR ?_
  intro p e s m args below meth c s₁ Bd hml0 hP hK
  obtain ⟨rfl, hZ, hh⟩ := hP
  have hx := Bd.exec
  have hby := Bd.bytes
  have hml : c.maxLocals = 1 := hml0
  have hown : s.vm.findClass "java/lang/Integer" = some m.cls := findClass_of_methodNamed Bd.named
  have hnm := (name_of_methodNamed Bd.named Bd.method).1
  have X0 : Stand p l e ({ frames := 0, cells := 0, slots := 0, locals := 0 } : Room) s m #[(.int ip)] below meth c s₁ [] 0 0 := Stand.of_body Bd
  have e0 : s₁.heap = h0 := by rw [← hh, Bd.state]; rfl
  have N0 := Fr.nil n0
  change OwnEnds p.tables e below _ _
  refine OwnEnds.via (fun t k => castTop (ef_rm4 m ip) k) ?_
  show OwnEnds _ _ _ _ (s₁.setTop (mkF m 0 #[.val (.int ip)] []))
  refine OwnEnds.via (fun t k => XS.iloadN X0.here hx rfl (hb hby d4_0) rfl k) ?_
  show OwnEnds _ _ _ _ (s₁.setTop (mkF m 1 #[.val (.int ip)] [(.int ip)]))
  refine OwnEnds.via (fun t k => XS.iloadN X0.here hx rfl (hb hby d4_1) rfl k) ?_
  show OwnEnds _ _ _ _ (s₁.setTop (mkF m 2 #[.val (.int ip)] [(.int ip), (.int ip)]))
  refine OwnEnds.via (fun t k => XS.iconst X0.here hx rfl (hb hby d4_2) k) ?_
  show OwnEnds _ _ _ _ (s₁.setTop (mkF m 3 #[.val (.int ip)] [(.int (1 : Int32)), (.int ip), (.int ip)]))
  refine OwnEnds.via (fun t k => XS.iushr X0.here hx rfl (hb hby d4_3) rfl k) ?_
  show OwnEnds _ _ _ _ (s₁.setTop (mkF m 4 #[.val (.int ip)] [(.int ((ip.toUInt32 >>> ((1 : Int32) &&& 31).toUInt32).toInt32)), (.int ip)]))
  refine OwnEnds.via (X0.ldcwInt hx hown (mvT hZ (hw _ (List.mem_of_getElem? (i := 32) rfl))) (g := (mkF m 4 #[.val (.int ip)] [(.int ((ip.toUInt32 >>> ((1 : Int32) &&& 31).toUInt32).toInt32)), (.int ip)])) rfl (hb hby d4_4)) ?_
  show OwnEnds _ _ _ _ (s₁.setTop (mkF m 7 #[.val (.int ip)] [(.int (1431655765 : Int32)), (.int ((ip.toUInt32 >>> ((1 : Int32) &&& 31).toUInt32).toInt32)), (.int ip)]))
  refine OwnEnds.via (fun t k => XS.iand X0.here hx rfl (hb hby d4_7) rfl k) ?_
  show OwnEnds _ _ _ _ (s₁.setTop (mkF m 8 #[.val (.int ip)] [(.int (((ip.toUInt32 >>> ((1 : Int32) &&& 31).toUInt32).toInt32) &&& (1431655765 : Int32))), (.int ip)]))
  refine OwnEnds.via (fun t k => XS.isub X0.here hx rfl (hb hby d4_8) rfl k) ?_
  show OwnEnds _ _ _ _ (s₁.setTop (mkF m 9 #[.val (.int ip)] [(.int (ip - (((ip.toUInt32 >>> ((1 : Int32) &&& 31).toUInt32).toInt32) &&& (1431655765 : Int32))))]))
  refine OwnEnds.via (fun t k => XS.istoreN X0.here hx rfl (hb hby d4_9) rfl (l' := #[.val (.int (ip - (((ip.toUInt32 >>> ((1 : Int32) &&& 31).toUInt32).toInt32) &&& (1431655765 : Int32))))]) rfl k) ?_
  show OwnEnds _ _ _ _ (s₁.setTop (mkF m 10 #[.val (.int (ip - (((ip.toUInt32 >>> ((1 : Int32) &&& 31).toUInt32).toInt32) &&& (1431655765 : Int32))))] []))
  refine OwnEnds.via (fun t k => XS.iloadN X0.here hx rfl (hb hby d4_10) rfl k) ?_
  show OwnEnds _ _ _ _ (s₁.setTop (mkF m 11 #[.val (.int (ip - (((ip.toUInt32 >>> ((1 : Int32) &&& 31).toUInt32).toInt32) &&& (1431655765 : Int32))))] [(.int (ip - (((ip.toUInt32 >>> ((1 : Int32) &&& 31).toUInt32).toInt32) &&& (1431655765 : Int32))))]))
  refine OwnEnds.via (X0.ldcwInt hx hown (mvT hZ (hw _ (List.mem_of_getElem? (i := 33) rfl))) (g := (mkF m 11 #[.val (.int (ip - (((ip.toUInt32 >>> ((1 : Int32) &&& 31).toUInt32).toInt32) &&& (1431655765 : Int32))))] [(.int (ip - (((ip.toUInt32 >>> ((1 : Int32) &&& 31).toUInt32).toInt32) &&& (1431655765 : Int32))))])) rfl (hb hby d4_11)) ?_
  show OwnEnds _ _ _ _ (s₁.setTop (mkF m 14 #[.val (.int (ip - (((ip.toUInt32 >>> ((1 : Int32) &&& 31).toUInt32).toInt32) &&& (1431655765 : Int32))))] [(.int (858993459 : Int32)), (.int (ip - (((ip.toUInt32 >>> ((1 : Int32) &&& 31).toUInt32).toInt32) &&& (1431655765 : Int32))))]))
  refine OwnEnds.via (fun t k => XS.iand X0.here hx rfl (hb hby d4_14) rfl k) ?_
  show OwnEnds _ _ _ _ (s₁.setTop (mkF m 15 #[.val (.int (ip - (((ip.toUInt32 >>> ((1 : Int32) &&& 31).toUInt32).toInt32) &&& (1431655765 : Int32))))] [(.int ((ip - (((ip.toUInt32 >>> ((1 : Int32) &&& 31).toUInt32).toInt32) &&& (1431655765 : Int32))) &&& (858993459 : Int32)))]))
  refine OwnEnds.via (fun t k => XS.iloadN X0.here hx rfl (hb hby d4_15) rfl k) ?_
  show OwnEnds _ _ _ _ (s₁.setTop (mkF m 16 #[.val (.int (ip - (((ip.toUInt32 >>> ((1 : Int32) &&& 31).toUInt32).toInt32) &&& (1431655765 : Int32))))] [(.int (ip - (((ip.toUInt32 >>> ((1 : Int32) &&& 31).toUInt32).toInt32) &&& (1431655765 : Int32)))), (.int ((ip - (((ip.toUInt32 >>> ((1 : Int32) &&& 31).toUInt32).toInt32) &&& (1431655765 : Int32))) &&& (858993459 : Int32)))]))
  refine OwnEnds.via (fun t k => XS.iconst X0.here hx rfl (hb hby d4_16) k) ?_
  show OwnEnds _ _ _ _ (s₁.setTop (mkF m 17 #[.val (.int (ip - (((ip.toUInt32 >>> ((1 : Int32) &&& 31).toUInt32).toInt32) &&& (1431655765 : Int32))))] [(.int (2 : Int32)), (.int (ip - (((ip.toUInt32 >>> ((1 : Int32) &&& 31).toUInt32).toInt32) &&& (1431655765 : Int32)))), (.int ((ip - (((ip.toUInt32 >>> ((1 : Int32) &&& 31).toUInt32).toInt32) &&& (1431655765 : Int32))) &&& (858993459 : Int32)))]))
  refine OwnEnds.via (fun t k => XS.iushr X0.here hx rfl (hb hby d4_17) rfl k) ?_
  show OwnEnds _ _ _ _ (s₁.setTop (mkF m 18 #[.val (.int (ip - (((ip.toUInt32 >>> ((1 : Int32) &&& 31).toUInt32).toInt32) &&& (1431655765 : Int32))))] [(.int (((ip - (((ip.toUInt32 >>> ((1 : Int32) &&& 31).toUInt32).toInt32) &&& (1431655765 : Int32))).toUInt32 >>> ((2 : Int32) &&& 31).toUInt32).toInt32)), (.int ((ip - (((ip.toUInt32 >>> ((1 : Int32) &&& 31).toUInt32).toInt32) &&& (1431655765 : Int32))) &&& (858993459 : Int32)))]))
  refine OwnEnds.via (X0.ldcwInt hx hown (mvT hZ (hw _ (List.mem_of_getElem? (i := 33) rfl))) (g := (mkF m 18 #[.val (.int (ip - (((ip.toUInt32 >>> ((1 : Int32) &&& 31).toUInt32).toInt32) &&& (1431655765 : Int32))))] [(.int (((ip - (((ip.toUInt32 >>> ((1 : Int32) &&& 31).toUInt32).toInt32) &&& (1431655765 : Int32))).toUInt32 >>> ((2 : Int32) &&& 31).toUInt32).toInt32)), (.int ((ip - (((ip.toUInt32 >>> ((1 : Int32) &&& 31).toUInt32).toInt32) &&& (1431655765 : Int32))) &&& (858993459 : Int32)))])) rfl (hb hby d4_18)) ?_
  show OwnEnds _ _ _ _ (s₁.setTop (mkF m 21 #[.val (.int (ip - (((ip.toUInt32 >>> ((1 : Int32) &&& 31).toUInt32).toInt32) &&& (1431655765 : Int32))))] [(.int (858993459 : Int32)), (.int (((ip - (((ip.toUInt32 >>> ((1 : Int32) &&& 31).toUInt32).toInt32) &&& (1431655765 : Int32))).toUInt32 >>> ((2 : Int32) &&& 31).toUInt32).toInt32)), (.int ((ip - (((ip.toUInt32 >>> ((1 : Int32) &&& 31).toUInt32).toInt32) &&& (1431655765 : Int32))) &&& (858993459 : Int32)))]))
  refine OwnEnds.via (fun t k => XS.iand X0.here hx rfl (hb hby d4_21) rfl k) ?_
  show OwnEnds _ _ _ _ (s₁.setTop (mkF m 22 #[.val (.int (ip - (((ip.toUInt32 >>> ((1 : Int32) &&& 31).toUInt32).toInt32) &&& (1431655765 : Int32))))] [(.int ((((ip - (((ip.toUInt32 >>> ((1 : Int32) &&& 31).toUInt32).toInt32) &&& (1431655765 : Int32))).toUInt32 >>> ((2 : Int32) &&& 31).toUInt32).toInt32) &&& (858993459 : Int32))), (.int ((ip - (((ip.toUInt32 >>> ((1 : Int32) &&& 31).toUInt32).toInt32) &&& (1431655765 : Int32))) &&& (858993459 : Int32)))]))
  refine OwnEnds.via (fun t k => XS.iadd X0.here hx rfl (hb hby d4_22) rfl k) ?_
  show OwnEnds _ _ _ _ (s₁.setTop (mkF m 23 #[.val (.int (ip - (((ip.toUInt32 >>> ((1 : Int32) &&& 31).toUInt32).toInt32) &&& (1431655765 : Int32))))] [(.int (((ip - (((ip.toUInt32 >>> ((1 : Int32) &&& 31).toUInt32).toInt32) &&& (1431655765 : Int32))) &&& (858993459 : Int32)) + ((((ip - (((ip.toUInt32 >>> ((1 : Int32) &&& 31).toUInt32).toInt32) &&& (1431655765 : Int32))).toUInt32 >>> ((2 : Int32) &&& 31).toUInt32).toInt32) &&& (858993459 : Int32))))]))
  refine OwnEnds.via (fun t k => XS.istoreN X0.here hx rfl (hb hby d4_23) rfl (l' := #[.val (.int (((ip - (((ip.toUInt32 >>> ((1 : Int32) &&& 31).toUInt32).toInt32) &&& (1431655765 : Int32))) &&& (858993459 : Int32)) + ((((ip - (((ip.toUInt32 >>> ((1 : Int32) &&& 31).toUInt32).toInt32) &&& (1431655765 : Int32))).toUInt32 >>> ((2 : Int32) &&& 31).toUInt32).toInt32) &&& (858993459 : Int32))))]) rfl k) ?_
  show OwnEnds _ _ _ _ (s₁.setTop (mkF m 24 #[.val (.int (((ip - (((ip.toUInt32 >>> ((1 : Int32) &&& 31).toUInt32).toInt32) &&& (1431655765 : Int32))) &&& (858993459 : Int32)) + ((((ip - (((ip.toUInt32 >>> ((1 : Int32) &&& 31).toUInt32).toInt32) &&& (1431655765 : Int32))).toUInt32 >>> ((2 : Int32) &&& 31).toUInt32).toInt32) &&& (858993459 : Int32))))] []))
  refine OwnEnds.via (fun t k => XS.iloadN X0.here hx rfl (hb hby d4_24) rfl k) ?_
  show OwnEnds _ _ _ _ (s₁.setTop (mkF m 25 #[.val (.int (((ip - (((ip.toUInt32 >>> ((1 : Int32) &&& 31).toUInt32).toInt32) &&& (1431655765 : Int32))) &&& (858993459 : Int32)) + ((((ip - (((ip.toUInt32 >>> ((1 : Int32) &&& 31).toUInt32).toInt32) &&& (1431655765 : Int32))).toUInt32 >>> ((2 : Int32) &&& 31).toUInt32).toInt32) &&& (858993459 : Int32))))] [(.int (((ip - (((ip.toUInt32 >>> ((1 : Int32) &&& 31).toUInt32).toInt32) &&& (1431655765 : Int32))) &&& (858993459 : Int32)) + ((((ip - (((ip.toUInt32 >>> ((1 : Int32) &&& 31).toUInt32).toInt32) &&& (1431655765 : Int32))).toUInt32 >>> ((2 : Int32) &&& 31).toUInt32).toInt32) &&& (858993459 : Int32))))]))
  refine OwnEnds.via (fun t k => XS.iloadN X0.here hx rfl (hb hby d4_25) rfl k) ?_
  show OwnEnds _ _ _ _ (s₁.setTop (mkF m 26 #[.val (.int (((ip - (((ip.toUInt32 >>> ((1 : Int32) &&& 31).toUInt32).toInt32) &&& (1431655765 : Int32))) &&& (858993459 : Int32)) + ((((ip - (((ip.toUInt32 >>> ((1 : Int32) &&& 31).toUInt32).toInt32) &&& (1431655765 : Int32))).toUInt32 >>> ((2 : Int32) &&& 31).toUInt32).toInt32) &&& (858993459 : Int32))))] [(.int (((ip - (((ip.toUInt32 >>> ((1 : Int32) &&& 31).toUInt32).toInt32) &&& (1431655765 : Int32))) &&& (858993459 : Int32)) + ((((ip - (((ip.toUInt32 >>> ((1 : Int32) &&& 31).toUInt32).toInt32) &&& (1431655765 : Int32))).toUInt32 >>> ((2 : Int32) &&& 31).toUInt32).toInt32) &&& (858993459 : Int32)))), (.int (((ip - (((ip.toUInt32 >>> ((1 : Int32) &&& 31).toUInt32).toInt32) &&& (1431655765 : Int32))) &&& (858993459 : Int32)) + ((((ip - (((ip.toUInt32 >>> ((1 : Int32) &&& 31).toUInt32).toInt32) &&& (1431655765 : Int32))).toUInt32 >>> ((2 : Int32) &&& 31).toUInt32).toInt32) &&& (858993459 : Int32))))]))
  refine OwnEnds.via (fun t k => XS.iconst X0.here hx rfl (hb hby d4_26) k) ?_
  show OwnEnds _ _ _ _ (s₁.setTop (mkF m 27 #[.val (.int (((ip - (((ip.toUInt32 >>> ((1 : Int32) &&& 31).toUInt32).toInt32) &&& (1431655765 : Int32))) &&& (858993459 : Int32)) + ((((ip - (((ip.toUInt32 >>> ((1 : Int32) &&& 31).toUInt32).toInt32) &&& (1431655765 : Int32))).toUInt32 >>> ((2 : Int32) &&& 31).toUInt32).toInt32) &&& (858993459 : Int32))))] [(.int (4 : Int32)), (.int (((ip - (((ip.toUInt32 >>> ((1 : Int32) &&& 31).toUInt32).toInt32) &&& (1431655765 : Int32))) &&& (858993459 : Int32)) + ((((ip - (((ip.toUInt32 >>> ((1 : Int32) &&& 31).toUInt32).toInt32) &&& (1431655765 : Int32))).toUInt32 >>> ((2 : Int32) &&& 31).toUInt32).toInt32) &&& (858993459 : Int32)))), (.int (((ip - (((ip.toUInt32 >>> ((1 : Int32) &&& 31).toUInt32).toInt32) &&& (1431655765 : Int32))) &&& (858993459 : Int32)) + ((((ip - (((ip.toUInt32 >>> ((1 : Int32) &&& 31).toUInt32).toInt32) &&& (1431655765 : Int32))).toUInt32 >>> ((2 : Int32) &&& 31).toUInt32).toInt32) &&& (858993459 : Int32))))]))
  refine OwnEnds.via (fun t k => XS.iushr X0.here hx rfl (hb hby d4_27) rfl k) ?_
  show OwnEnds _ _ _ _ (s₁.setTop (mkF m 28 #[.val (.int (((ip - (((ip.toUInt32 >>> ((1 : Int32) &&& 31).toUInt32).toInt32) &&& (1431655765 : Int32))) &&& (858993459 : Int32)) + ((((ip - (((ip.toUInt32 >>> ((1 : Int32) &&& 31).toUInt32).toInt32) &&& (1431655765 : Int32))).toUInt32 >>> ((2 : Int32) &&& 31).toUInt32).toInt32) &&& (858993459 : Int32))))] [(.int (((((ip - (((ip.toUInt32 >>> ((1 : Int32) &&& 31).toUInt32).toInt32) &&& (1431655765 : Int32))) &&& (858993459 : Int32)) + ((((ip - (((ip.toUInt32 >>> ((1 : Int32) &&& 31).toUInt32).toInt32) &&& (1431655765 : Int32))).toUInt32 >>> ((2 : Int32) &&& 31).toUInt32).toInt32) &&& (858993459 : Int32))).toUInt32 >>> ((4 : Int32) &&& 31).toUInt32).toInt32)), (.int (((ip - (((ip.toUInt32 >>> ((1 : Int32) &&& 31).toUInt32).toInt32) &&& (1431655765 : Int32))) &&& (858993459 : Int32)) + ((((ip - (((ip.toUInt32 >>> ((1 : Int32) &&& 31).toUInt32).toInt32) &&& (1431655765 : Int32))).toUInt32 >>> ((2 : Int32) &&& 31).toUInt32).toInt32) &&& (858993459 : Int32))))]))
  refine OwnEnds.via (fun t k => XS.iadd X0.here hx rfl (hb hby d4_28) rfl k) ?_
  show OwnEnds _ _ _ _ (s₁.setTop (mkF m 29 #[.val (.int (((ip - (((ip.toUInt32 >>> ((1 : Int32) &&& 31).toUInt32).toInt32) &&& (1431655765 : Int32))) &&& (858993459 : Int32)) + ((((ip - (((ip.toUInt32 >>> ((1 : Int32) &&& 31).toUInt32).toInt32) &&& (1431655765 : Int32))).toUInt32 >>> ((2 : Int32) &&& 31).toUInt32).toInt32) &&& (858993459 : Int32))))] [(.int ((((ip - (((ip.toUInt32 >>> ((1 : Int32) &&& 31).toUInt32).toInt32) &&& (1431655765 : Int32))) &&& (858993459 : Int32)) + ((((ip - (((ip.toUInt32 >>> ((1 : Int32) &&& 31).toUInt32).toInt32) &&& (1431655765 : Int32))).toUInt32 >>> ((2 : Int32) &&& 31).toUInt32).toInt32) &&& (858993459 : Int32))) + (((((ip - (((ip.toUInt32 >>> ((1 : Int32) &&& 31).toUInt32).toInt32) &&& (1431655765 : Int32))) &&& (858993459 : Int32)) + ((((ip - (((ip.toUInt32 >>> ((1 : Int32) &&& 31).toUInt32).toInt32) &&& (1431655765 : Int32))).toUInt32 >>> ((2 : Int32) &&& 31).toUInt32).toInt32) &&& (858993459 : Int32))).toUInt32 >>> ((4 : Int32) &&& 31).toUInt32).toInt32)))]))
  refine OwnEnds.via (X0.ldcwInt hx hown (mvT hZ (hw _ (List.mem_of_getElem? (i := 34) rfl))) (g := (mkF m 29 #[.val (.int (((ip - (((ip.toUInt32 >>> ((1 : Int32) &&& 31).toUInt32).toInt32) &&& (1431655765 : Int32))) &&& (858993459 : Int32)) + ((((ip - (((ip.toUInt32 >>> ((1 : Int32) &&& 31).toUInt32).toInt32) &&& (1431655765 : Int32))).toUInt32 >>> ((2 : Int32) &&& 31).toUInt32).toInt32) &&& (858993459 : Int32))))] [(.int ((((ip - (((ip.toUInt32 >>> ((1 : Int32) &&& 31).toUInt32).toInt32) &&& (1431655765 : Int32))) &&& (858993459 : Int32)) + ((((ip - (((ip.toUInt32 >>> ((1 : Int32) &&& 31).toUInt32).toInt32) &&& (1431655765 : Int32))).toUInt32 >>> ((2 : Int32) &&& 31).toUInt32).toInt32) &&& (858993459 : Int32))) + (((((ip - (((ip.toUInt32 >>> ((1 : Int32) &&& 31).toUInt32).toInt32) &&& (1431655765 : Int32))) &&& (858993459 : Int32)) + ((((ip - (((ip.toUInt32 >>> ((1 : Int32) &&& 31).toUInt32).toInt32) &&& (1431655765 : Int32))).toUInt32 >>> ((2 : Int32) &&& 31).toUInt32).toInt32) &&& (858993459 : Int32))).toUInt32 >>> ((4 : Int32) &&& 31).toUInt32).toInt32)))])) rfl (hb hby d4_29)) ?_
  show OwnEnds _ _ _ _ (s₁.setTop (mkF m 32 #[.val (.int (((ip - (((ip.toUInt32 >>> ((1 : Int32) &&& 31).toUInt32).toInt32) &&& (1431655765 : Int32))) &&& (858993459 : Int32)) + ((((ip - (((ip.toUInt32 >>> ((1 : Int32) &&& 31).toUInt32).toInt32) &&& (1431655765 : Int32))).toUInt32 >>> ((2 : Int32) &&& 31).toUInt32).toInt32) &&& (858993459 : Int32))))] [(.int (252645135 : Int32)), (.int ((((ip - (((ip.toUInt32 >>> ((1 : Int32) &&& 31).toUInt32).toInt32) &&& (1431655765 : Int32))) &&& (858993459 : Int32)) + ((((ip - (((ip.toUInt32 >>> ((1 : Int32) &&& 31).toUInt32).toInt32) &&& (1431655765 : Int32))).toUInt32 >>> ((2 : Int32) &&& 31).toUInt32).toInt32) &&& (858993459 : Int32))) + (((((ip - (((ip.toUInt32 >>> ((1 : Int32) &&& 31).toUInt32).toInt32) &&& (1431655765 : Int32))) &&& (858993459 : Int32)) + ((((ip - (((ip.toUInt32 >>> ((1 : Int32) &&& 31).toUInt32).toInt32) &&& (1431655765 : Int32))).toUInt32 >>> ((2 : Int32) &&& 31).toUInt32).toInt32) &&& (858993459 : Int32))).toUInt32 >>> ((4 : Int32) &&& 31).toUInt32).toInt32)))]))
  refine OwnEnds.via (fun t k => XS.iand X0.here hx rfl (hb hby d4_32) rfl k) ?_
  show OwnEnds _ _ _ _ (s₁.setTop (mkF m 33 #[.val (.int (((ip - (((ip.toUInt32 >>> ((1 : Int32) &&& 31).toUInt32).toInt32) &&& (1431655765 : Int32))) &&& (858993459 : Int32)) + ((((ip - (((ip.toUInt32 >>> ((1 : Int32) &&& 31).toUInt32).toInt32) &&& (1431655765 : Int32))).toUInt32 >>> ((2 : Int32) &&& 31).toUInt32).toInt32) &&& (858993459 : Int32))))] [(.int (((((ip - (((ip.toUInt32 >>> ((1 : Int32) &&& 31).toUInt32).toInt32) &&& (1431655765 : Int32))) &&& (858993459 : Int32)) + ((((ip - (((ip.toUInt32 >>> ((1 : Int32) &&& 31).toUInt32).toInt32) &&& (1431655765 : Int32))).toUInt32 >>> ((2 : Int32) &&& 31).toUInt32).toInt32) &&& (858993459 : Int32))) + (((((ip - (((ip.toUInt32 >>> ((1 : Int32) &&& 31).toUInt32).toInt32) &&& (1431655765 : Int32))) &&& (858993459 : Int32)) + ((((ip - (((ip.toUInt32 >>> ((1 : Int32) &&& 31).toUInt32).toInt32) &&& (1431655765 : Int32))).toUInt32 >>> ((2 : Int32) &&& 31).toUInt32).toInt32) &&& (858993459 : Int32))).toUInt32 >>> ((4 : Int32) &&& 31).toUInt32).toInt32)) &&& (252645135 : Int32)))]))
  refine OwnEnds.via (fun t k => XS.istoreN X0.here hx rfl (hb hby d4_33) rfl (l' := #[.val (.int (((((ip - (((ip.toUInt32 >>> ((1 : Int32) &&& 31).toUInt32).toInt32) &&& (1431655765 : Int32))) &&& (858993459 : Int32)) + ((((ip - (((ip.toUInt32 >>> ((1 : Int32) &&& 31).toUInt32).toInt32) &&& (1431655765 : Int32))).toUInt32 >>> ((2 : Int32) &&& 31).toUInt32).toInt32) &&& (858993459 : Int32))) + (((((ip - (((ip.toUInt32 >>> ((1 : Int32) &&& 31).toUInt32).toInt32) &&& (1431655765 : Int32))) &&& (858993459 : Int32)) + ((((ip - (((ip.toUInt32 >>> ((1 : Int32) &&& 31).toUInt32).toInt32) &&& (1431655765 : Int32))).toUInt32 >>> ((2 : Int32) &&& 31).toUInt32).toInt32) &&& (858993459 : Int32))).toUInt32 >>> ((4 : Int32) &&& 31).toUInt32).toInt32)) &&& (252645135 : Int32)))]) rfl k) ?_
  show OwnEnds _ _ _ _ (s₁.setTop (mkF m 34 #[.val (.int (((((ip - (((ip.toUInt32 >>> ((1 : Int32) &&& 31).toUInt32).toInt32) &&& (1431655765 : Int32))) &&& (858993459 : Int32)) + ((((ip - (((ip.toUInt32 >>> ((1 : Int32) &&& 31).toUInt32).toInt32) &&& (1431655765 : Int32))).toUInt32 >>> ((2 : Int32) &&& 31).toUInt32).toInt32) &&& (858993459 : Int32))) + (((((ip - (((ip.toUInt32 >>> ((1 : Int32) &&& 31).toUInt32).toInt32) &&& (1431655765 : Int32))) &&& (858993459 : Int32)) + ((((ip - (((ip.toUInt32 >>> ((1 : Int32) &&& 31).toUInt32).toInt32) &&& (1431655765 : Int32))).toUInt32 >>> ((2 : Int32) &&& 31).toUInt32).toInt32) &&& (858993459 : Int32))).toUInt32 >>> ((4 : Int32) &&& 31).toUInt32).toInt32)) &&& (252645135 : Int32)))] []))
  refine OwnEnds.via (fun t k => XS.iloadN X0.here hx rfl (hb hby d4_34) rfl k) ?_
  show OwnEnds _ _ _ _ (s₁.setTop (mkF m 35 #[.val (.int (((((ip - (((ip.toUInt32 >>> ((1 : Int32) &&& 31).toUInt32).toInt32) &&& (1431655765 : Int32))) &&& (858993459 : Int32)) + ((((ip - (((ip.toUInt32 >>> ((1 : Int32) &&& 31).toUInt32).toInt32) &&& (1431655765 : Int32))).toUInt32 >>> ((2 : Int32) &&& 31).toUInt32).toInt32) &&& (858993459 : Int32))) + (((((ip - (((ip.toUInt32 >>> ((1 : Int32) &&& 31).toUInt32).toInt32) &&& (1431655765 : Int32))) &&& (858993459 : Int32)) + ((((ip - (((ip.toUInt32 >>> ((1 : Int32) &&& 31).toUInt32).toInt32) &&& (1431655765 : Int32))).toUInt32 >>> ((2 : Int32) &&& 31).toUInt32).toInt32) &&& (858993459 : Int32))).toUInt32 >>> ((4 : Int32) &&& 31).toUInt32).toInt32)) &&& (252645135 : Int32)))] [(.int (((((ip - (((ip.toUInt32 >>> ((1 : Int32) &&& 31).toUInt32).toInt32) &&& (1431655765 : Int32))) &&& (858993459 : Int32)) + ((((ip - (((ip.toUInt32 >>> ((1 : Int32) &&& 31).toUInt32).toInt32) &&& (1431655765 : Int32))).toUInt32 >>> ((2 : Int32) &&& 31).toUInt32).toInt32) &&& (858993459 : Int32))) + (((((ip - (((ip.toUInt32 >>> ((1 : Int32) &&& 31).toUInt32).toInt32) &&& (1431655765 : Int32))) &&& (858993459 : Int32)) + ((((ip - (((ip.toUInt32 >>> ((1 : Int32) &&& 31).toUInt32).toInt32) &&& (1431655765 : Int32))).toUInt32 >>> ((2 : Int32) &&& 31).toUInt32).toInt32) &&& (858993459 : Int32))).toUInt32 >>> ((4 : Int32) &&& 31).toUInt32).toInt32)) &&& (252645135 : Int32)))]))
  refine OwnEnds.via (fun t k => XS.iloadN X0.here hx rfl (hb hby d4_35) rfl k) ?_
  show OwnEnds _ _ _ _ (s₁.setTop (mkF m 36 #[.val (.int (((((ip - (((ip.toUInt32 >>> ((1 : Int32) &&& 31).toUInt32).toInt32) &&& (1431655765 : Int32))) &&& (858993459 : Int32)) + ((((ip - (((ip.toUInt32 >>> ((1 : Int32) &&& 31).toUInt32).toInt32) &&& (1431655765 : Int32))).toUInt32 >>> ((2 : Int32) &&& 31).toUInt32).toInt32) &&& (858993459 : Int32))) + (((((ip - (((ip.toUInt32 >>> ((1 : Int32) &&& 31).toUInt32).toInt32) &&& (1431655765 : Int32))) &&& (858993459 : Int32)) + ((((ip - (((ip.toUInt32 >>> ((1 : Int32) &&& 31).toUInt32).toInt32) &&& (1431655765 : Int32))).toUInt32 >>> ((2 : Int32) &&& 31).toUInt32).toInt32) &&& (858993459 : Int32))).toUInt32 >>> ((4 : Int32) &&& 31).toUInt32).toInt32)) &&& (252645135 : Int32)))] [(.int (((((ip - (((ip.toUInt32 >>> ((1 : Int32) &&& 31).toUInt32).toInt32) &&& (1431655765 : Int32))) &&& (858993459 : Int32)) + ((((ip - (((ip.toUInt32 >>> ((1 : Int32) &&& 31).toUInt32).toInt32) &&& (1431655765 : Int32))).toUInt32 >>> ((2 : Int32) &&& 31).toUInt32).toInt32) &&& (858993459 : Int32))) + (((((ip - (((ip.toUInt32 >>> ((1 : Int32) &&& 31).toUInt32).toInt32) &&& (1431655765 : Int32))) &&& (858993459 : Int32)) + ((((ip - (((ip.toUInt32 >>> ((1 : Int32) &&& 31).toUInt32).toInt32) &&& (1431655765 : Int32))).toUInt32 >>> ((2 : Int32) &&& 31).toUInt32).toInt32) &&& (858993459 : Int32))).toUInt32 >>> ((4 : Int32) &&& 31).toUInt32).toInt32)) &&& (252645135 : Int32))), (.int (((((ip - (((ip.toUInt32 >>> ((1 : Int32) &&& 31).toUInt32).toInt32) &&& (1431655765 : Int32))) &&& (858993459 : Int32)) + ((((ip - (((ip.toUInt32 >>> ((1 : Int32) &&& 31).toUInt32).toInt32) &&& (1431655765 : Int32))).toUInt32 >>> ((2 : Int32) &&& 31).toUInt32).toInt32) &&& (858993459 : Int32))) + (((((ip - (((ip.toUInt32 >>> ((1 : Int32) &&& 31).toUInt32).toInt32) &&& (1431655765 : Int32))) &&& (858993459 : Int32)) + ((((ip - (((ip.toUInt32 >>> ((1 : Int32) &&& 31).toUInt32).toInt32) &&& (1431655765 : Int32))).toUInt32 >>> ((2 : Int32) &&& 31).toUInt32).toInt32) &&& (858993459 : Int32))).toUInt32 >>> ((4 : Int32) &&& 31).toUInt32).toInt32)) &&& (252645135 : Int32)))]))
  refine OwnEnds.via (fun t k => XS.bipush X0.here hx rfl (hb hby d4_36) k) ?_
  show OwnEnds _ _ _ _ (s₁.setTop (mkF m 38 #[.val (.int (((((ip - (((ip.toUInt32 >>> ((1 : Int32) &&& 31).toUInt32).toInt32) &&& (1431655765 : Int32))) &&& (858993459 : Int32)) + ((((ip - (((ip.toUInt32 >>> ((1 : Int32) &&& 31).toUInt32).toInt32) &&& (1431655765 : Int32))).toUInt32 >>> ((2 : Int32) &&& 31).toUInt32).toInt32) &&& (858993459 : Int32))) + (((((ip - (((ip.toUInt32 >>> ((1 : Int32) &&& 31).toUInt32).toInt32) &&& (1431655765 : Int32))) &&& (858993459 : Int32)) + ((((ip - (((ip.toUInt32 >>> ((1 : Int32) &&& 31).toUInt32).toInt32) &&& (1431655765 : Int32))).toUInt32 >>> ((2 : Int32) &&& 31).toUInt32).toInt32) &&& (858993459 : Int32))).toUInt32 >>> ((4 : Int32) &&& 31).toUInt32).toInt32)) &&& (252645135 : Int32)))] [(.int (8 : Int32)), (.int (((((ip - (((ip.toUInt32 >>> ((1 : Int32) &&& 31).toUInt32).toInt32) &&& (1431655765 : Int32))) &&& (858993459 : Int32)) + ((((ip - (((ip.toUInt32 >>> ((1 : Int32) &&& 31).toUInt32).toInt32) &&& (1431655765 : Int32))).toUInt32 >>> ((2 : Int32) &&& 31).toUInt32).toInt32) &&& (858993459 : Int32))) + (((((ip - (((ip.toUInt32 >>> ((1 : Int32) &&& 31).toUInt32).toInt32) &&& (1431655765 : Int32))) &&& (858993459 : Int32)) + ((((ip - (((ip.toUInt32 >>> ((1 : Int32) &&& 31).toUInt32).toInt32) &&& (1431655765 : Int32))).toUInt32 >>> ((2 : Int32) &&& 31).toUInt32).toInt32) &&& (858993459 : Int32))).toUInt32 >>> ((4 : Int32) &&& 31).toUInt32).toInt32)) &&& (252645135 : Int32))), (.int (((((ip - (((ip.toUInt32 >>> ((1 : Int32) &&& 31).toUInt32).toInt32) &&& (1431655765 : Int32))) &&& (858993459 : Int32)) + ((((ip - (((ip.toUInt32 >>> ((1 : Int32) &&& 31).toUInt32).toInt32) &&& (1431655765 : Int32))).toUInt32 >>> ((2 : Int32) &&& 31).toUInt32).toInt32) &&& (858993459 : Int32))) + (((((ip - (((ip.toUInt32 >>> ((1 : Int32) &&& 31).toUInt32).toInt32) &&& (1431655765 : Int32))) &&& (858993459 : Int32)) + ((((ip - (((ip.toUInt32 >>> ((1 : Int32) &&& 31).toUInt32).toInt32) &&& (1431655765 : Int32))).toUInt32 >>> ((2 : Int32) &&& 31).toUInt32).toInt32) &&& (858993459 : Int32))).toUInt32 >>> ((4 : Int32) &&& 31).toUInt32).toInt32)) &&& (252645135 : Int32)))]))
  refine OwnEnds.via (fun t k => XS.iushr X0.here hx rfl (hb hby d4_38) rfl k) ?_
  show OwnEnds _ _ _ _ (s₁.setTop (mkF m 39 #[.val (.int (((((ip - (((ip.toUInt32 >>> ((1 : Int32) &&& 31).toUInt32).toInt32) &&& (1431655765 : Int32))) &&& (858993459 : Int32)) + ((((ip - (((ip.toUInt32 >>> ((1 : Int32) &&& 31).toUInt32).toInt32) &&& (1431655765 : Int32))).toUInt32 >>> ((2 : Int32) &&& 31).toUInt32).toInt32) &&& (858993459 : Int32))) + (((((ip - (((ip.toUInt32 >>> ((1 : Int32) &&& 31).toUInt32).toInt32) &&& (1431655765 : Int32))) &&& (858993459 : Int32)) + ((((ip - (((ip.toUInt32 >>> ((1 : Int32) &&& 31).toUInt32).toInt32) &&& (1431655765 : Int32))).toUInt32 >>> ((2 : Int32) &&& 31).toUInt32).toInt32) &&& (858993459 : Int32))).toUInt32 >>> ((4 : Int32) &&& 31).toUInt32).toInt32)) &&& (252645135 : Int32)))] [(.int (((((((ip - (((ip.toUInt32 >>> ((1 : Int32) &&& 31).toUInt32).toInt32) &&& (1431655765 : Int32))) &&& (858993459 : Int32)) + ((((ip - (((ip.toUInt32 >>> ((1 : Int32) &&& 31).toUInt32).toInt32) &&& (1431655765 : Int32))).toUInt32 >>> ((2 : Int32) &&& 31).toUInt32).toInt32) &&& (858993459 : Int32))) + (((((ip - (((ip.toUInt32 >>> ((1 : Int32) &&& 31).toUInt32).toInt32) &&& (1431655765 : Int32))) &&& (858993459 : Int32)) + ((((ip - (((ip.toUInt32 >>> ((1 : Int32) &&& 31).toUInt32).toInt32) &&& (1431655765 : Int32))).toUInt32 >>> ((2 : Int32) &&& 31).toUInt32).toInt32) &&& (858993459 : Int32))).toUInt32 >>> ((4 : Int32) &&& 31).toUInt32).toInt32)) &&& (252645135 : Int32)).toUInt32 >>> ((8 : Int32) &&& 31).toUInt32).toInt32)), (.int (((((ip - (((ip.toUInt32 >>> ((1 : Int32) &&& 31).toUInt32).toInt32) &&& (1431655765 : Int32))) &&& (858993459 : Int32)) + ((((ip - (((ip.toUInt32 >>> ((1 : Int32) &&& 31).toUInt32).toInt32) &&& (1431655765 : Int32))).toUInt32 >>> ((2 : Int32) &&& 31).toUInt32).toInt32) &&& (858993459 : Int32))) + (((((ip - (((ip.toUInt32 >>> ((1 : Int32) &&& 31).toUInt32).toInt32) &&& (1431655765 : Int32))) &&& (858993459 : Int32)) + ((((ip - (((ip.toUInt32 >>> ((1 : Int32) &&& 31).toUInt32).toInt32) &&& (1431655765 : Int32))).toUInt32 >>> ((2 : Int32) &&& 31).toUInt32).toInt32) &&& (858993459 : Int32))).toUInt32 >>> ((4 : Int32) &&& 31).toUInt32).toInt32)) &&& (252645135 : Int32)))]))
  refine OwnEnds.via (fun t k => XS.iadd X0.here hx rfl (hb hby d4_39) rfl k) ?_
  show OwnEnds _ _ _ _ (s₁.setTop (mkF m 40 #[.val (.int (((((ip - (((ip.toUInt32 >>> ((1 : Int32) &&& 31).toUInt32).toInt32) &&& (1431655765 : Int32))) &&& (858993459 : Int32)) + ((((ip - (((ip.toUInt32 >>> ((1 : Int32) &&& 31).toUInt32).toInt32) &&& (1431655765 : Int32))).toUInt32 >>> ((2 : Int32) &&& 31).toUInt32).toInt32) &&& (858993459 : Int32))) + (((((ip - (((ip.toUInt32 >>> ((1 : Int32) &&& 31).toUInt32).toInt32) &&& (1431655765 : Int32))) &&& (858993459 : Int32)) + ((((ip - (((ip.toUInt32 >>> ((1 : Int32) &&& 31).toUInt32).toInt32) &&& (1431655765 : Int32))).toUInt32 >>> ((2 : Int32) &&& 31).toUInt32).toInt32) &&& (858993459 : Int32))).toUInt32 >>> ((4 : Int32) &&& 31).toUInt32).toInt32)) &&& (252645135 : Int32)))] [(.int ((((((ip - (((ip.toUInt32 >>> ((1 : Int32) &&& 31).toUInt32).toInt32) &&& (1431655765 : Int32))) &&& (858993459 : Int32)) + ((((ip - (((ip.toUInt32 >>> ((1 : Int32) &&& 31).toUInt32).toInt32) &&& (1431655765 : Int32))).toUInt32 >>> ((2 : Int32) &&& 31).toUInt32).toInt32) &&& (858993459 : Int32))) + (((((ip - (((ip.toUInt32 >>> ((1 : Int32) &&& 31).toUInt32).toInt32) &&& (1431655765 : Int32))) &&& (858993459 : Int32)) + ((((ip - (((ip.toUInt32 >>> ((1 : Int32) &&& 31).toUInt32).toInt32) &&& (1431655765 : Int32))).toUInt32 >>> ((2 : Int32) &&& 31).toUInt32).toInt32) &&& (858993459 : Int32))).toUInt32 >>> ((4 : Int32) &&& 31).toUInt32).toInt32)) &&& (252645135 : Int32)) + (((((((ip - (((ip.toUInt32 >>> ((1 : Int32) &&& 31).toUInt32).toInt32) &&& (1431655765 : Int32))) &&& (858993459 : Int32)) + ((((ip - (((ip.toUInt32 >>> ((1 : Int32) &&& 31).toUInt32).toInt32) &&& (1431655765 : Int32))).toUInt32 >>> ((2 : Int32) &&& 31).toUInt32).toInt32) &&& (858993459 : Int32))) + (((((ip - (((ip.toUInt32 >>> ((1 : Int32) &&& 31).toUInt32).toInt32) &&& (1431655765 : Int32))) &&& (858993459 : Int32)) + ((((ip - (((ip.toUInt32 >>> ((1 : Int32) &&& 31).toUInt32).toInt32) &&& (1431655765 : Int32))).toUInt32 >>> ((2 : Int32) &&& 31).toUInt32).toInt32) &&& (858993459 : Int32))).toUInt32 >>> ((4 : Int32) &&& 31).toUInt32).toInt32)) &&& (252645135 : Int32)).toUInt32 >>> ((8 : Int32) &&& 31).toUInt32).toInt32)))]))
  refine OwnEnds.via (fun t k => XS.istoreN X0.here hx rfl (hb hby d4_40) rfl (l' := #[.val (.int ((((((ip - (((ip.toUInt32 >>> ((1 : Int32) &&& 31).toUInt32).toInt32) &&& (1431655765 : Int32))) &&& (858993459 : Int32)) + ((((ip - (((ip.toUInt32 >>> ((1 : Int32) &&& 31).toUInt32).toInt32) &&& (1431655765 : Int32))).toUInt32 >>> ((2 : Int32) &&& 31).toUInt32).toInt32) &&& (858993459 : Int32))) + (((((ip - (((ip.toUInt32 >>> ((1 : Int32) &&& 31).toUInt32).toInt32) &&& (1431655765 : Int32))) &&& (858993459 : Int32)) + ((((ip - (((ip.toUInt32 >>> ((1 : Int32) &&& 31).toUInt32).toInt32) &&& (1431655765 : Int32))).toUInt32 >>> ((2 : Int32) &&& 31).toUInt32).toInt32) &&& (858993459 : Int32))).toUInt32 >>> ((4 : Int32) &&& 31).toUInt32).toInt32)) &&& (252645135 : Int32)) + (((((((ip - (((ip.toUInt32 >>> ((1 : Int32) &&& 31).toUInt32).toInt32) &&& (1431655765 : Int32))) &&& (858993459 : Int32)) + ((((ip - (((ip.toUInt32 >>> ((1 : Int32) &&& 31).toUInt32).toInt32) &&& (1431655765 : Int32))).toUInt32 >>> ((2 : Int32) &&& 31).toUInt32).toInt32) &&& (858993459 : Int32))) + (((((ip - (((ip.toUInt32 >>> ((1 : Int32) &&& 31).toUInt32).toInt32) &&& (1431655765 : Int32))) &&& (858993459 : Int32)) + ((((ip - (((ip.toUInt32 >>> ((1 : Int32) &&& 31).toUInt32).toInt32) &&& (1431655765 : Int32))).toUInt32 >>> ((2 : Int32) &&& 31).toUInt32).toInt32) &&& (858993459 : Int32))).toUInt32 >>> ((4 : Int32) &&& 31).toUInt32).toInt32)) &&& (252645135 : Int32)).toUInt32 >>> ((8 : Int32) &&& 31).toUInt32).toInt32)))]) rfl k) ?_
  show OwnEnds _ _ _ _ (s₁.setTop (mkF m 41 #[.val (.int ((((((ip - (((ip.toUInt32 >>> ((1 : Int32) &&& 31).toUInt32).toInt32) &&& (1431655765 : Int32))) &&& (858993459 : Int32)) + ((((ip - (((ip.toUInt32 >>> ((1 : Int32) &&& 31).toUInt32).toInt32) &&& (1431655765 : Int32))).toUInt32 >>> ((2 : Int32) &&& 31).toUInt32).toInt32) &&& (858993459 : Int32))) + (((((ip - (((ip.toUInt32 >>> ((1 : Int32) &&& 31).toUInt32).toInt32) &&& (1431655765 : Int32))) &&& (858993459 : Int32)) + ((((ip - (((ip.toUInt32 >>> ((1 : Int32) &&& 31).toUInt32).toInt32) &&& (1431655765 : Int32))).toUInt32 >>> ((2 : Int32) &&& 31).toUInt32).toInt32) &&& (858993459 : Int32))).toUInt32 >>> ((4 : Int32) &&& 31).toUInt32).toInt32)) &&& (252645135 : Int32)) + (((((((ip - (((ip.toUInt32 >>> ((1 : Int32) &&& 31).toUInt32).toInt32) &&& (1431655765 : Int32))) &&& (858993459 : Int32)) + ((((ip - (((ip.toUInt32 >>> ((1 : Int32) &&& 31).toUInt32).toInt32) &&& (1431655765 : Int32))).toUInt32 >>> ((2 : Int32) &&& 31).toUInt32).toInt32) &&& (858993459 : Int32))) + (((((ip - (((ip.toUInt32 >>> ((1 : Int32) &&& 31).toUInt32).toInt32) &&& (1431655765 : Int32))) &&& (858993459 : Int32)) + ((((ip - (((ip.toUInt32 >>> ((1 : Int32) &&& 31).toUInt32).toInt32) &&& (1431655765 : Int32))).toUInt32 >>> ((2 : Int32) &&& 31).toUInt32).toInt32) &&& (858993459 : Int32))).toUInt32 >>> ((4 : Int32) &&& 31).toUInt32).toInt32)) &&& (252645135 : Int32)).toUInt32 >>> ((8 : Int32) &&& 31).toUInt32).toInt32)))] []))
  refine OwnEnds.via (fun t k => XS.iloadN X0.here hx rfl (hb hby d4_41) rfl k) ?_
  show OwnEnds _ _ _ _ (s₁.setTop (mkF m 42 #[.val (.int ((((((ip - (((ip.toUInt32 >>> ((1 : Int32) &&& 31).toUInt32).toInt32) &&& (1431655765 : Int32))) &&& (858993459 : Int32)) + ((((ip - (((ip.toUInt32 >>> ((1 : Int32) &&& 31).toUInt32).toInt32) &&& (1431655765 : Int32))).toUInt32 >>> ((2 : Int32) &&& 31).toUInt32).toInt32) &&& (858993459 : Int32))) + (((((ip - (((ip.toUInt32 >>> ((1 : Int32) &&& 31).toUInt32).toInt32) &&& (1431655765 : Int32))) &&& (858993459 : Int32)) + ((((ip - (((ip.toUInt32 >>> ((1 : Int32) &&& 31).toUInt32).toInt32) &&& (1431655765 : Int32))).toUInt32 >>> ((2 : Int32) &&& 31).toUInt32).toInt32) &&& (858993459 : Int32))).toUInt32 >>> ((4 : Int32) &&& 31).toUInt32).toInt32)) &&& (252645135 : Int32)) + (((((((ip - (((ip.toUInt32 >>> ((1 : Int32) &&& 31).toUInt32).toInt32) &&& (1431655765 : Int32))) &&& (858993459 : Int32)) + ((((ip - (((ip.toUInt32 >>> ((1 : Int32) &&& 31).toUInt32).toInt32) &&& (1431655765 : Int32))).toUInt32 >>> ((2 : Int32) &&& 31).toUInt32).toInt32) &&& (858993459 : Int32))) + (((((ip - (((ip.toUInt32 >>> ((1 : Int32) &&& 31).toUInt32).toInt32) &&& (1431655765 : Int32))) &&& (858993459 : Int32)) + ((((ip - (((ip.toUInt32 >>> ((1 : Int32) &&& 31).toUInt32).toInt32) &&& (1431655765 : Int32))).toUInt32 >>> ((2 : Int32) &&& 31).toUInt32).toInt32) &&& (858993459 : Int32))).toUInt32 >>> ((4 : Int32) &&& 31).toUInt32).toInt32)) &&& (252645135 : Int32)).toUInt32 >>> ((8 : Int32) &&& 31).toUInt32).toInt32)))] [(.int ((((((ip - (((ip.toUInt32 >>> ((1 : Int32) &&& 31).toUInt32).toInt32) &&& (1431655765 : Int32))) &&& (858993459 : Int32)) + ((((ip - (((ip.toUInt32 >>> ((1 : Int32) &&& 31).toUInt32).toInt32) &&& (1431655765 : Int32))).toUInt32 >>> ((2 : Int32) &&& 31).toUInt32).toInt32) &&& (858993459 : Int32))) + (((((ip - (((ip.toUInt32 >>> ((1 : Int32) &&& 31).toUInt32).toInt32) &&& (1431655765 : Int32))) &&& (858993459 : Int32)) + ((((ip - (((ip.toUInt32 >>> ((1 : Int32) &&& 31).toUInt32).toInt32) &&& (1431655765 : Int32))).toUInt32 >>> ((2 : Int32) &&& 31).toUInt32).toInt32) &&& (858993459 : Int32))).toUInt32 >>> ((4 : Int32) &&& 31).toUInt32).toInt32)) &&& (252645135 : Int32)) + (((((((ip - (((ip.toUInt32 >>> ((1 : Int32) &&& 31).toUInt32).toInt32) &&& (1431655765 : Int32))) &&& (858993459 : Int32)) + ((((ip - (((ip.toUInt32 >>> ((1 : Int32) &&& 31).toUInt32).toInt32) &&& (1431655765 : Int32))).toUInt32 >>> ((2 : Int32) &&& 31).toUInt32).toInt32) &&& (858993459 : Int32))) + (((((ip - (((ip.toUInt32 >>> ((1 : Int32) &&& 31).toUInt32).toInt32) &&& (1431655765 : Int32))) &&& (858993459 : Int32)) + ((((ip - (((ip.toUInt32 >>> ((1 : Int32) &&& 31).toUInt32).toInt32) &&& (1431655765 : Int32))).toUInt32 >>> ((2 : Int32) &&& 31).toUInt32).toInt32) &&& (858993459 : Int32))).toUInt32 >>> ((4 : Int32) &&& 31).toUInt32).toInt32)) &&& (252645135 : Int32)).toUInt32 >>> ((8 : Int32) &&& 31).toUInt32).toInt32)))]))
  refine OwnEnds.via (fun t k => XS.iloadN X0.here hx rfl (hb hby d4_42) rfl k) ?_
  show OwnEnds _ _ _ _ (s₁.setTop (mkF m 43 #[.val (.int ((((((ip - (((ip.toUInt32 >>> ((1 : Int32) &&& 31).toUInt32).toInt32) &&& (1431655765 : Int32))) &&& (858993459 : Int32)) + ((((ip - (((ip.toUInt32 >>> ((1 : Int32) &&& 31).toUInt32).toInt32) &&& (1431655765 : Int32))).toUInt32 >>> ((2 : Int32) &&& 31).toUInt32).toInt32) &&& (858993459 : Int32))) + (((((ip - (((ip.toUInt32 >>> ((1 : Int32) &&& 31).toUInt32).toInt32) &&& (1431655765 : Int32))) &&& (858993459 : Int32)) + ((((ip - (((ip.toUInt32 >>> ((1 : Int32) &&& 31).toUInt32).toInt32) &&& (1431655765 : Int32))).toUInt32 >>> ((2 : Int32) &&& 31).toUInt32).toInt32) &&& (858993459 : Int32))).toUInt32 >>> ((4 : Int32) &&& 31).toUInt32).toInt32)) &&& (252645135 : Int32)) + (((((((ip - (((ip.toUInt32 >>> ((1 : Int32) &&& 31).toUInt32).toInt32) &&& (1431655765 : Int32))) &&& (858993459 : Int32)) + ((((ip - (((ip.toUInt32 >>> ((1 : Int32) &&& 31).toUInt32).toInt32) &&& (1431655765 : Int32))).toUInt32 >>> ((2 : Int32) &&& 31).toUInt32).toInt32) &&& (858993459 : Int32))) + (((((ip - (((ip.toUInt32 >>> ((1 : Int32) &&& 31).toUInt32).toInt32) &&& (1431655765 : Int32))) &&& (858993459 : Int32)) + ((((ip - (((ip.toUInt32 >>> ((1 : Int32) &&& 31).toUInt32).toInt32) &&& (1431655765 : Int32))).toUInt32 >>> ((2 : Int32) &&& 31).toUInt32).toInt32) &&& (858993459 : Int32))).toUInt32 >>> ((4 : Int32) &&& 31).toUInt32).toInt32)) &&& (252645135 : Int32)).toUInt32 >>> ((8 : Int32) &&& 31).toUInt32).toInt32)))] [(.int ((((((ip - (((ip.toUInt32 >>> ((1 : Int32) &&& 31).toUInt32).toInt32) &&& (1431655765 : Int32))) &&& (858993459 : Int32)) + ((((ip - (((ip.toUInt32 >>> ((1 : Int32) &&& 31).toUInt32).toInt32) &&& (1431655765 : Int32))).toUInt32 >>> ((2 : Int32) &&& 31).toUInt32).toInt32) &&& (858993459 : Int32))) + (((((ip - (((ip.toUInt32 >>> ((1 : Int32) &&& 31).toUInt32).toInt32) &&& (1431655765 : Int32))) &&& (858993459 : Int32)) + ((((ip - (((ip.toUInt32 >>> ((1 : Int32) &&& 31).toUInt32).toInt32) &&& (1431655765 : Int32))).toUInt32 >>> ((2 : Int32) &&& 31).toUInt32).toInt32) &&& (858993459 : Int32))).toUInt32 >>> ((4 : Int32) &&& 31).toUInt32).toInt32)) &&& (252645135 : Int32)) + (((((((ip - (((ip.toUInt32 >>> ((1 : Int32) &&& 31).toUInt32).toInt32) &&& (1431655765 : Int32))) &&& (858993459 : Int32)) + ((((ip - (((ip.toUInt32 >>> ((1 : Int32) &&& 31).toUInt32).toInt32) &&& (1431655765 : Int32))).toUInt32 >>> ((2 : Int32) &&& 31).toUInt32).toInt32) &&& (858993459 : Int32))) + (((((ip - (((ip.toUInt32 >>> ((1 : Int32) &&& 31).toUInt32).toInt32) &&& (1431655765 : Int32))) &&& (858993459 : Int32)) + ((((ip - (((ip.toUInt32 >>> ((1 : Int32) &&& 31).toUInt32).toInt32) &&& (1431655765 : Int32))).toUInt32 >>> ((2 : Int32) &&& 31).toUInt32).toInt32) &&& (858993459 : Int32))).toUInt32 >>> ((4 : Int32) &&& 31).toUInt32).toInt32)) &&& (252645135 : Int32)).toUInt32 >>> ((8 : Int32) &&& 31).toUInt32).toInt32))), (.int ((((((ip - (((ip.toUInt32 >>> ((1 : Int32) &&& 31).toUInt32).toInt32) &&& (1431655765 : Int32))) &&& (858993459 : Int32)) + ((((ip - (((ip.toUInt32 >>> ((1 : Int32) &&& 31).toUInt32).toInt32) &&& (1431655765 : Int32))).toUInt32 >>> ((2 : Int32) &&& 31).toUInt32).toInt32) &&& (858993459 : Int32))) + (((((ip - (((ip.toUInt32 >>> ((1 : Int32) &&& 31).toUInt32).toInt32) &&& (1431655765 : Int32))) &&& (858993459 : Int32)) + ((((ip - (((ip.toUInt32 >>> ((1 : Int32) &&& 31).toUInt32).toInt32) &&& (1431655765 : Int32))).toUInt32 >>> ((2 : Int32) &&& 31).toUInt32).toInt32) &&& (858993459 : Int32))).toUInt32 >>> ((4 : Int32) &&& 31).toUInt32).toInt32)) &&& (252645135 : Int32)) + (((((((ip - (((ip.toUInt32 >>> ((1 : Int32) &&& 31).toUInt32).toInt32) &&& (1431655765 : Int32))) &&& (858993459 : Int32)) + ((((ip - (((ip.toUInt32 >>> ((1 : Int32) &&& 31).toUInt32).toInt32) &&& (1431655765 : Int32))).toUInt32 >>> ((2 : Int32) &&& 31).toUInt32).toInt32) &&& (858993459 : Int32))) + (((((ip - (((ip.toUInt32 >>> ((1 : Int32) &&& 31).toUInt32).toInt32) &&& (1431655765 : Int32))) &&& (858993459 : Int32)) + ((((ip - (((ip.toUInt32 >>> ((1 : Int32) &&& 31).toUInt32).toInt32) &&& (1431655765 : Int32))).toUInt32 >>> ((2 : Int32) &&& 31).toUInt32).toInt32) &&& (858993459 : Int32))).toUInt32 >>> ((4 : Int32) &&& 31).toUInt32).toInt32)) &&& (252645135 : Int32)).toUInt32 >>> ((8 : Int32) &&& 31).toUInt32).toInt32)))]))
  refine OwnEnds.via (fun t k => XS.bipush X0.here hx rfl (hb hby d4_43) k) ?_
  show OwnEnds _ _ _ _ (s₁.setTop (mkF m 45 #[.val (.int ((((((ip - (((ip.toUInt32 >>> ((1 : Int32) &&& 31).toUInt32).toInt32) &&& (1431655765 : Int32))) &&& (858993459 : Int32)) + ((((ip - (((ip.toUInt32 >>> ((1 : Int32) &&& 31).toUInt32).toInt32) &&& (1431655765 : Int32))).toUInt32 >>> ((2 : Int32) &&& 31).toUInt32).toInt32) &&& (858993459 : Int32))) + (((((ip - (((ip.toUInt32 >>> ((1 : Int32) &&& 31).toUInt32).toInt32) &&& (1431655765 : Int32))) &&& (858993459 : Int32)) + ((((ip - (((ip.toUInt32 >>> ((1 : Int32) &&& 31).toUInt32).toInt32) &&& (1431655765 : Int32))).toUInt32 >>> ((2 : Int32) &&& 31).toUInt32).toInt32) &&& (858993459 : Int32))).toUInt32 >>> ((4 : Int32) &&& 31).toUInt32).toInt32)) &&& (252645135 : Int32)) + (((((((ip - (((ip.toUInt32 >>> ((1 : Int32) &&& 31).toUInt32).toInt32) &&& (1431655765 : Int32))) &&& (858993459 : Int32)) + ((((ip - (((ip.toUInt32 >>> ((1 : Int32) &&& 31).toUInt32).toInt32) &&& (1431655765 : Int32))).toUInt32 >>> ((2 : Int32) &&& 31).toUInt32).toInt32) &&& (858993459 : Int32))) + (((((ip - (((ip.toUInt32 >>> ((1 : Int32) &&& 31).toUInt32).toInt32) &&& (1431655765 : Int32))) &&& (858993459 : Int32)) + ((((ip - (((ip.toUInt32 >>> ((1 : Int32) &&& 31).toUInt32).toInt32) &&& (1431655765 : Int32))).toUInt32 >>> ((2 : Int32) &&& 31).toUInt32).toInt32) &&& (858993459 : Int32))).toUInt32 >>> ((4 : Int32) &&& 31).toUInt32).toInt32)) &&& (252645135 : Int32)).toUInt32 >>> ((8 : Int32) &&& 31).toUInt32).toInt32)))] [(.int (16 : Int32)), (.int ((((((ip - (((ip.toUInt32 >>> ((1 : Int32) &&& 31).toUInt32).toInt32) &&& (1431655765 : Int32))) &&& (858993459 : Int32)) + ((((ip - (((ip.toUInt32 >>> ((1 : Int32) &&& 31).toUInt32).toInt32) &&& (1431655765 : Int32))).toUInt32 >>> ((2 : Int32) &&& 31).toUInt32).toInt32) &&& (858993459 : Int32))) + (((((ip - (((ip.toUInt32 >>> ((1 : Int32) &&& 31).toUInt32).toInt32) &&& (1431655765 : Int32))) &&& (858993459 : Int32)) + ((((ip - (((ip.toUInt32 >>> ((1 : Int32) &&& 31).toUInt32).toInt32) &&& (1431655765 : Int32))).toUInt32 >>> ((2 : Int32) &&& 31).toUInt32).toInt32) &&& (858993459 : Int32))).toUInt32 >>> ((4 : Int32) &&& 31).toUInt32).toInt32)) &&& (252645135 : Int32)) + (((((((ip - (((ip.toUInt32 >>> ((1 : Int32) &&& 31).toUInt32).toInt32) &&& (1431655765 : Int32))) &&& (858993459 : Int32)) + ((((ip - (((ip.toUInt32 >>> ((1 : Int32) &&& 31).toUInt32).toInt32) &&& (1431655765 : Int32))).toUInt32 >>> ((2 : Int32) &&& 31).toUInt32).toInt32) &&& (858993459 : Int32))) + (((((ip - (((ip.toUInt32 >>> ((1 : Int32) &&& 31).toUInt32).toInt32) &&& (1431655765 : Int32))) &&& (858993459 : Int32)) + ((((ip - (((ip.toUInt32 >>> ((1 : Int32) &&& 31).toUInt32).toInt32) &&& (1431655765 : Int32))).toUInt32 >>> ((2 : Int32) &&& 31).toUInt32).toInt32) &&& (858993459 : Int32))).toUInt32 >>> ((4 : Int32) &&& 31).toUInt32).toInt32)) &&& (252645135 : Int32)).toUInt32 >>> ((8 : Int32) &&& 31).toUInt32).toInt32))), (.int ((((((ip - (((ip.toUInt32 >>> ((1 : Int32) &&& 31).toUInt32).toInt32) &&& (1431655765 : Int32))) &&& (858993459 : Int32)) + ((((ip - (((ip.toUInt32 >>> ((1 : Int32) &&& 31).toUInt32).toInt32) &&& (1431655765 : Int32))).toUInt32 >>> ((2 : Int32) &&& 31).toUInt32).toInt32) &&& (858993459 : Int32))) + (((((ip - (((ip.toUInt32 >>> ((1 : Int32) &&& 31).toUInt32).toInt32) &&& (1431655765 : Int32))) &&& (858993459 : Int32)) + ((((ip - (((ip.toUInt32 >>> ((1 : Int32) &&& 31).toUInt32).toInt32) &&& (1431655765 : Int32))).toUInt32 >>> ((2 : Int32) &&& 31).toUInt32).toInt32) &&& (858993459 : Int32))).toUInt32 >>> ((4 : Int32) &&& 31).toUInt32).toInt32)) &&& (252645135 : Int32)) + (((((((ip - (((ip.toUInt32 >>> ((1 : Int32) &&& 31).toUInt32).toInt32) &&& (1431655765 : Int32))) &&& (858993459 : Int32)) + ((((ip - (((ip.toUInt32 >>> ((1 : Int32) &&& 31).toUInt32).toInt32) &&& (1431655765 : Int32))).toUInt32 >>> ((2 : Int32) &&& 31).toUInt32).toInt32) &&& (858993459 : Int32))) + (((((ip - (((ip.toUInt32 >>> ((1 : Int32) &&& 31).toUInt32).toInt32) &&& (1431655765 : Int32))) &&& (858993459 : Int32)) + ((((ip - (((ip.toUInt32 >>> ((1 : Int32) &&& 31).toUInt32).toInt32) &&& (1431655765 : Int32))).toUInt32 >>> ((2 : Int32) &&& 31).toUInt32).toInt32) &&& (858993459 : Int32))).toUInt32 >>> ((4 : Int32) &&& 31).toUInt32).toInt32)) &&& (252645135 : Int32)).toUInt32 >>> ((8 : Int32) &&& 31).toUInt32).toInt32)))]))
  refine OwnEnds.via (fun t k => XS.iushr X0.here hx rfl (hb hby d4_45) rfl k) ?_
  show OwnEnds _ _ _ _ (s₁.setTop (mkF m 46 #[.val (.int ((((((ip - (((ip.toUInt32 >>> ((1 : Int32) &&& 31).toUInt32).toInt32) &&& (1431655765 : Int32))) &&& (858993459 : Int32)) + ((((ip - (((ip.toUInt32 >>> ((1 : Int32) &&& 31).toUInt32).toInt32) &&& (1431655765 : Int32))).toUInt32 >>> ((2 : Int32) &&& 31).toUInt32).toInt32) &&& (858993459 : Int32))) + (((((ip - (((ip.toUInt32 >>> ((1 : Int32) &&& 31).toUInt32).toInt32) &&& (1431655765 : Int32))) &&& (858993459 : Int32)) + ((((ip - (((ip.toUInt32 >>> ((1 : Int32) &&& 31).toUInt32).toInt32) &&& (1431655765 : Int32))).toUInt32 >>> ((2 : Int32) &&& 31).toUInt32).toInt32) &&& (858993459 : Int32))).toUInt32 >>> ((4 : Int32) &&& 31).toUInt32).toInt32)) &&& (252645135 : Int32)) + (((((((ip - (((ip.toUInt32 >>> ((1 : Int32) &&& 31).toUInt32).toInt32) &&& (1431655765 : Int32))) &&& (858993459 : Int32)) + ((((ip - (((ip.toUInt32 >>> ((1 : Int32) &&& 31).toUInt32).toInt32) &&& (1431655765 : Int32))).toUInt32 >>> ((2 : Int32) &&& 31).toUInt32).toInt32) &&& (858993459 : Int32))) + (((((ip - (((ip.toUInt32 >>> ((1 : Int32) &&& 31).toUInt32).toInt32) &&& (1431655765 : Int32))) &&& (858993459 : Int32)) + ((((ip - (((ip.toUInt32 >>> ((1 : Int32) &&& 31).toUInt32).toInt32) &&& (1431655765 : Int32))).toUInt32 >>> ((2 : Int32) &&& 31).toUInt32).toInt32) &&& (858993459 : Int32))).toUInt32 >>> ((4 : Int32) &&& 31).toUInt32).toInt32)) &&& (252645135 : Int32)).toUInt32 >>> ((8 : Int32) &&& 31).toUInt32).toInt32)))] [(.int ((((((((ip - (((ip.toUInt32 >>> ((1 : Int32) &&& 31).toUInt32).toInt32) &&& (1431655765 : Int32))) &&& (858993459 : Int32)) + ((((ip - (((ip.toUInt32 >>> ((1 : Int32) &&& 31).toUInt32).toInt32) &&& (1431655765 : Int32))).toUInt32 >>> ((2 : Int32) &&& 31).toUInt32).toInt32) &&& (858993459 : Int32))) + (((((ip - (((ip.toUInt32 >>> ((1 : Int32) &&& 31).toUInt32).toInt32) &&& (1431655765 : Int32))) &&& (858993459 : Int32)) + ((((ip - (((ip.toUInt32 >>> ((1 : Int32) &&& 31).toUInt32).toInt32) &&& (1431655765 : Int32))).toUInt32 >>> ((2 : Int32) &&& 31).toUInt32).toInt32) &&& (858993459 : Int32))).toUInt32 >>> ((4 : Int32) &&& 31).toUInt32).toInt32)) &&& (252645135 : Int32)) + (((((((ip - (((ip.toUInt32 >>> ((1 : Int32) &&& 31).toUInt32).toInt32) &&& (1431655765 : Int32))) &&& (858993459 : Int32)) + ((((ip - (((ip.toUInt32 >>> ((1 : Int32) &&& 31).toUInt32).toInt32) &&& (1431655765 : Int32))).toUInt32 >>> ((2 : Int32) &&& 31).toUInt32).toInt32) &&& (858993459 : Int32))) + (((((ip - (((ip.toUInt32 >>> ((1 : Int32) &&& 31).toUInt32).toInt32) &&& (1431655765 : Int32))) &&& (858993459 : Int32)) + ((((ip - (((ip.toUInt32 >>> ((1 : Int32) &&& 31).toUInt32).toInt32) &&& (1431655765 : Int32))).toUInt32 >>> ((2 : Int32) &&& 31).toUInt32).toInt32) &&& (858993459 : Int32))).toUInt32 >>> ((4 : Int32) &&& 31).toUInt32).toInt32)) &&& (252645135 : Int32)).toUInt32 >>> ((8 : Int32) &&& 31).toUInt32).toInt32)).toUInt32 >>> ((16 : Int32) &&& 31).toUInt32).toInt32)), (.int ((((((ip - (((ip.toUInt32 >>> ((1 : Int32) &&& 31).toUInt32).toInt32) &&& (1431655765 : Int32))) &&& (858993459 : Int32)) + ((((ip - (((ip.toUInt32 >>> ((1 : Int32) &&& 31).toUInt32).toInt32) &&& (1431655765 : Int32))).toUInt32 >>> ((2 : Int32) &&& 31).toUInt32).toInt32) &&& (858993459 : Int32))) + (((((ip - (((ip.toUInt32 >>> ((1 : Int32) &&& 31).toUInt32).toInt32) &&& (1431655765 : Int32))) &&& (858993459 : Int32)) + ((((ip - (((ip.toUInt32 >>> ((1 : Int32) &&& 31).toUInt32).toInt32) &&& (1431655765 : Int32))).toUInt32 >>> ((2 : Int32) &&& 31).toUInt32).toInt32) &&& (858993459 : Int32))).toUInt32 >>> ((4 : Int32) &&& 31).toUInt32).toInt32)) &&& (252645135 : Int32)) + (((((((ip - (((ip.toUInt32 >>> ((1 : Int32) &&& 31).toUInt32).toInt32) &&& (1431655765 : Int32))) &&& (858993459 : Int32)) + ((((ip - (((ip.toUInt32 >>> ((1 : Int32) &&& 31).toUInt32).toInt32) &&& (1431655765 : Int32))).toUInt32 >>> ((2 : Int32) &&& 31).toUInt32).toInt32) &&& (858993459 : Int32))) + (((((ip - (((ip.toUInt32 >>> ((1 : Int32) &&& 31).toUInt32).toInt32) &&& (1431655765 : Int32))) &&& (858993459 : Int32)) + ((((ip - (((ip.toUInt32 >>> ((1 : Int32) &&& 31).toUInt32).toInt32) &&& (1431655765 : Int32))).toUInt32 >>> ((2 : Int32) &&& 31).toUInt32).toInt32) &&& (858993459 : Int32))).toUInt32 >>> ((4 : Int32) &&& 31).toUInt32).toInt32)) &&& (252645135 : Int32)).toUInt32 >>> ((8 : Int32) &&& 31).toUInt32).toInt32)))]))
  refine OwnEnds.via (fun t k => XS.iadd X0.here hx rfl (hb hby d4_46) rfl k) ?_
  show OwnEnds _ _ _ _ (s₁.setTop (mkF m 47 #[.val (.int ((((((ip - (((ip.toUInt32 >>> ((1 : Int32) &&& 31).toUInt32).toInt32) &&& (1431655765 : Int32))) &&& (858993459 : Int32)) + ((((ip - (((ip.toUInt32 >>> ((1 : Int32) &&& 31).toUInt32).toInt32) &&& (1431655765 : Int32))).toUInt32 >>> ((2 : Int32) &&& 31).toUInt32).toInt32) &&& (858993459 : Int32))) + (((((ip - (((ip.toUInt32 >>> ((1 : Int32) &&& 31).toUInt32).toInt32) &&& (1431655765 : Int32))) &&& (858993459 : Int32)) + ((((ip - (((ip.toUInt32 >>> ((1 : Int32) &&& 31).toUInt32).toInt32) &&& (1431655765 : Int32))).toUInt32 >>> ((2 : Int32) &&& 31).toUInt32).toInt32) &&& (858993459 : Int32))).toUInt32 >>> ((4 : Int32) &&& 31).toUInt32).toInt32)) &&& (252645135 : Int32)) + (((((((ip - (((ip.toUInt32 >>> ((1 : Int32) &&& 31).toUInt32).toInt32) &&& (1431655765 : Int32))) &&& (858993459 : Int32)) + ((((ip - (((ip.toUInt32 >>> ((1 : Int32) &&& 31).toUInt32).toInt32) &&& (1431655765 : Int32))).toUInt32 >>> ((2 : Int32) &&& 31).toUInt32).toInt32) &&& (858993459 : Int32))) + (((((ip - (((ip.toUInt32 >>> ((1 : Int32) &&& 31).toUInt32).toInt32) &&& (1431655765 : Int32))) &&& (858993459 : Int32)) + ((((ip - (((ip.toUInt32 >>> ((1 : Int32) &&& 31).toUInt32).toInt32) &&& (1431655765 : Int32))).toUInt32 >>> ((2 : Int32) &&& 31).toUInt32).toInt32) &&& (858993459 : Int32))).toUInt32 >>> ((4 : Int32) &&& 31).toUInt32).toInt32)) &&& (252645135 : Int32)).toUInt32 >>> ((8 : Int32) &&& 31).toUInt32).toInt32)))] [(.int (((((((ip - (((ip.toUInt32 >>> ((1 : Int32) &&& 31).toUInt32).toInt32) &&& (1431655765 : Int32))) &&& (858993459 : Int32)) + ((((ip - (((ip.toUInt32 >>> ((1 : Int32) &&& 31).toUInt32).toInt32) &&& (1431655765 : Int32))).toUInt32 >>> ((2 : Int32) &&& 31).toUInt32).toInt32) &&& (858993459 : Int32))) + (((((ip - (((ip.toUInt32 >>> ((1 : Int32) &&& 31).toUInt32).toInt32) &&& (1431655765 : Int32))) &&& (858993459 : Int32)) + ((((ip - (((ip.toUInt32 >>> ((1 : Int32) &&& 31).toUInt32).toInt32) &&& (1431655765 : Int32))).toUInt32 >>> ((2 : Int32) &&& 31).toUInt32).toInt32) &&& (858993459 : Int32))).toUInt32 >>> ((4 : Int32) &&& 31).toUInt32).toInt32)) &&& (252645135 : Int32)) + (((((((ip - (((ip.toUInt32 >>> ((1 : Int32) &&& 31).toUInt32).toInt32) &&& (1431655765 : Int32))) &&& (858993459 : Int32)) + ((((ip - (((ip.toUInt32 >>> ((1 : Int32) &&& 31).toUInt32).toInt32) &&& (1431655765 : Int32))).toUInt32 >>> ((2 : Int32) &&& 31).toUInt32).toInt32) &&& (858993459 : Int32))) + (((((ip - (((ip.toUInt32 >>> ((1 : Int32) &&& 31).toUInt32).toInt32) &&& (1431655765 : Int32))) &&& (858993459 : Int32)) + ((((ip - (((ip.toUInt32 >>> ((1 : Int32) &&& 31).toUInt32).toInt32) &&& (1431655765 : Int32))).toUInt32 >>> ((2 : Int32) &&& 31).toUInt32).toInt32) &&& (858993459 : Int32))).toUInt32 >>> ((4 : Int32) &&& 31).toUInt32).toInt32)) &&& (252645135 : Int32)).toUInt32 >>> ((8 : Int32) &&& 31).toUInt32).toInt32)) + ((((((((ip - (((ip.toUInt32 >>> ((1 : Int32) &&& 31).toUInt32).toInt32) &&& (1431655765 : Int32))) &&& (858993459 : Int32)) + ((((ip - (((ip.toUInt32 >>> ((1 : Int32) &&& 31).toUInt32).toInt32) &&& (1431655765 : Int32))).toUInt32 >>> ((2 : Int32) &&& 31).toUInt32).toInt32) &&& (858993459 : Int32))) + (((((ip - (((ip.toUInt32 >>> ((1 : Int32) &&& 31).toUInt32).toInt32) &&& (1431655765 : Int32))) &&& (858993459 : Int32)) + ((((ip - (((ip.toUInt32 >>> ((1 : Int32) &&& 31).toUInt32).toInt32) &&& (1431655765 : Int32))).toUInt32 >>> ((2 : Int32) &&& 31).toUInt32).toInt32) &&& (858993459 : Int32))).toUInt32 >>> ((4 : Int32) &&& 31).toUInt32).toInt32)) &&& (252645135 : Int32)) + (((((((ip - (((ip.toUInt32 >>> ((1 : Int32) &&& 31).toUInt32).toInt32) &&& (1431655765 : Int32))) &&& (858993459 : Int32)) + ((((ip - (((ip.toUInt32 >>> ((1 : Int32) &&& 31).toUInt32).toInt32) &&& (1431655765 : Int32))).toUInt32 >>> ((2 : Int32) &&& 31).toUInt32).toInt32) &&& (858993459 : Int32))) + (((((ip - (((ip.toUInt32 >>> ((1 : Int32) &&& 31).toUInt32).toInt32) &&& (1431655765 : Int32))) &&& (858993459 : Int32)) + ((((ip - (((ip.toUInt32 >>> ((1 : Int32) &&& 31).toUInt32).toInt32) &&& (1431655765 : Int32))).toUInt32 >>> ((2 : Int32) &&& 31).toUInt32).toInt32) &&& (858993459 : Int32))).toUInt32 >>> ((4 : Int32) &&& 31).toUInt32).toInt32)) &&& (252645135 : Int32)).toUInt32 >>> ((8 : Int32) &&& 31).toUInt32).toInt32)).toUInt32 >>> ((16 : Int32) &&& 31).toUInt32).toInt32)))]))
  refine OwnEnds.via (fun t k => XS.istoreN X0.here hx rfl (hb hby d4_47) rfl (l' := #[.val (.int (((((((ip - (((ip.toUInt32 >>> ((1 : Int32) &&& 31).toUInt32).toInt32) &&& (1431655765 : Int32))) &&& (858993459 : Int32)) + ((((ip - (((ip.toUInt32 >>> ((1 : Int32) &&& 31).toUInt32).toInt32) &&& (1431655765 : Int32))).toUInt32 >>> ((2 : Int32) &&& 31).toUInt32).toInt32) &&& (858993459 : Int32))) + (((((ip - (((ip.toUInt32 >>> ((1 : Int32) &&& 31).toUInt32).toInt32) &&& (1431655765 : Int32))) &&& (858993459 : Int32)) + ((((ip - (((ip.toUInt32 >>> ((1 : Int32) &&& 31).toUInt32).toInt32) &&& (1431655765 : Int32))).toUInt32 >>> ((2 : Int32) &&& 31).toUInt32).toInt32) &&& (858993459 : Int32))).toUInt32 >>> ((4 : Int32) &&& 31).toUInt32).toInt32)) &&& (252645135 : Int32)) + (((((((ip - (((ip.toUInt32 >>> ((1 : Int32) &&& 31).toUInt32).toInt32) &&& (1431655765 : Int32))) &&& (858993459 : Int32)) + ((((ip - (((ip.toUInt32 >>> ((1 : Int32) &&& 31).toUInt32).toInt32) &&& (1431655765 : Int32))).toUInt32 >>> ((2 : Int32) &&& 31).toUInt32).toInt32) &&& (858993459 : Int32))) + (((((ip - (((ip.toUInt32 >>> ((1 : Int32) &&& 31).toUInt32).toInt32) &&& (1431655765 : Int32))) &&& (858993459 : Int32)) + ((((ip - (((ip.toUInt32 >>> ((1 : Int32) &&& 31).toUInt32).toInt32) &&& (1431655765 : Int32))).toUInt32 >>> ((2 : Int32) &&& 31).toUInt32).toInt32) &&& (858993459 : Int32))).toUInt32 >>> ((4 : Int32) &&& 31).toUInt32).toInt32)) &&& (252645135 : Int32)).toUInt32 >>> ((8 : Int32) &&& 31).toUInt32).toInt32)) + ((((((((ip - (((ip.toUInt32 >>> ((1 : Int32) &&& 31).toUInt32).toInt32) &&& (1431655765 : Int32))) &&& (858993459 : Int32)) + ((((ip - (((ip.toUInt32 >>> ((1 : Int32) &&& 31).toUInt32).toInt32) &&& (1431655765 : Int32))).toUInt32 >>> ((2 : Int32) &&& 31).toUInt32).toInt32) &&& (858993459 : Int32))) + (((((ip - (((ip.toUInt32 >>> ((1 : Int32) &&& 31).toUInt32).toInt32) &&& (1431655765 : Int32))) &&& (858993459 : Int32)) + ((((ip - (((ip.toUInt32 >>> ((1 : Int32) &&& 31).toUInt32).toInt32) &&& (1431655765 : Int32))).toUInt32 >>> ((2 : Int32) &&& 31).toUInt32).toInt32) &&& (858993459 : Int32))).toUInt32 >>> ((4 : Int32) &&& 31).toUInt32).toInt32)) &&& (252645135 : Int32)) + (((((((ip - (((ip.toUInt32 >>> ((1 : Int32) &&& 31).toUInt32).toInt32) &&& (1431655765 : Int32))) &&& (858993459 : Int32)) + ((((ip - (((ip.toUInt32 >>> ((1 : Int32) &&& 31).toUInt32).toInt32) &&& (1431655765 : Int32))).toUInt32 >>> ((2 : Int32) &&& 31).toUInt32).toInt32) &&& (858993459 : Int32))) + (((((ip - (((ip.toUInt32 >>> ((1 : Int32) &&& 31).toUInt32).toInt32) &&& (1431655765 : Int32))) &&& (858993459 : Int32)) + ((((ip - (((ip.toUInt32 >>> ((1 : Int32) &&& 31).toUInt32).toInt32) &&& (1431655765 : Int32))).toUInt32 >>> ((2 : Int32) &&& 31).toUInt32).toInt32) &&& (858993459 : Int32))).toUInt32 >>> ((4 : Int32) &&& 31).toUInt32).toInt32)) &&& (252645135 : Int32)).toUInt32 >>> ((8 : Int32) &&& 31).toUInt32).toInt32)).toUInt32 >>> ((16 : Int32) &&& 31).toUInt32).toInt32)))]) rfl k) ?_
  show OwnEnds _ _ _ _ (s₁.setTop (mkF m 48 #[.val (.int (((((((ip - (((ip.toUInt32 >>> ((1 : Int32) &&& 31).toUInt32).toInt32) &&& (1431655765 : Int32))) &&& (858993459 : Int32)) + ((((ip - (((ip.toUInt32 >>> ((1 : Int32) &&& 31).toUInt32).toInt32) &&& (1431655765 : Int32))).toUInt32 >>> ((2 : Int32) &&& 31).toUInt32).toInt32) &&& (858993459 : Int32))) + (((((ip - (((ip.toUInt32 >>> ((1 : Int32) &&& 31).toUInt32).toInt32) &&& (1431655765 : Int32))) &&& (858993459 : Int32)) + ((((ip - (((ip.toUInt32 >>> ((1 : Int32) &&& 31).toUInt32).toInt32) &&& (1431655765 : Int32))).toUInt32 >>> ((2 : Int32) &&& 31).toUInt32).toInt32) &&& (858993459 : Int32))).toUInt32 >>> ((4 : Int32) &&& 31).toUInt32).toInt32)) &&& (252645135 : Int32)) + (((((((ip - (((ip.toUInt32 >>> ((1 : Int32) &&& 31).toUInt32).toInt32) &&& (1431655765 : Int32))) &&& (858993459 : Int32)) + ((((ip - (((ip.toUInt32 >>> ((1 : Int32) &&& 31).toUInt32).toInt32) &&& (1431655765 : Int32))).toUInt32 >>> ((2 : Int32) &&& 31).toUInt32).toInt32) &&& (858993459 : Int32))) + (((((ip - (((ip.toUInt32 >>> ((1 : Int32) &&& 31).toUInt32).toInt32) &&& (1431655765 : Int32))) &&& (858993459 : Int32)) + ((((ip - (((ip.toUInt32 >>> ((1 : Int32) &&& 31).toUInt32).toInt32) &&& (1431655765 : Int32))).toUInt32 >>> ((2 : Int32) &&& 31).toUInt32).toInt32) &&& (858993459 : Int32))).toUInt32 >>> ((4 : Int32) &&& 31).toUInt32).toInt32)) &&& (252645135 : Int32)).toUInt32 >>> ((8 : Int32) &&& 31).toUInt32).toInt32)) + ((((((((ip - (((ip.toUInt32 >>> ((1 : Int32) &&& 31).toUInt32).toInt32) &&& (1431655765 : Int32))) &&& (858993459 : Int32)) + ((((ip - (((ip.toUInt32 >>> ((1 : Int32) &&& 31).toUInt32).toInt32) &&& (1431655765 : Int32))).toUInt32 >>> ((2 : Int32) &&& 31).toUInt32).toInt32) &&& (858993459 : Int32))) + (((((ip - (((ip.toUInt32 >>> ((1 : Int32) &&& 31).toUInt32).toInt32) &&& (1431655765 : Int32))) &&& (858993459 : Int32)) + ((((ip - (((ip.toUInt32 >>> ((1 : Int32) &&& 31).toUInt32).toInt32) &&& (1431655765 : Int32))).toUInt32 >>> ((2 : Int32) &&& 31).toUInt32).toInt32) &&& (858993459 : Int32))).toUInt32 >>> ((4 : Int32) &&& 31).toUInt32).toInt32)) &&& (252645135 : Int32)) + (((((((ip - (((ip.toUInt32 >>> ((1 : Int32) &&& 31).toUInt32).toInt32) &&& (1431655765 : Int32))) &&& (858993459 : Int32)) + ((((ip - (((ip.toUInt32 >>> ((1 : Int32) &&& 31).toUInt32).toInt32) &&& (1431655765 : Int32))).toUInt32 >>> ((2 : Int32) &&& 31).toUInt32).toInt32) &&& (858993459 : Int32))) + (((((ip - (((ip.toUInt32 >>> ((1 : Int32) &&& 31).toUInt32).toInt32) &&& (1431655765 : Int32))) &&& (858993459 : Int32)) + ((((ip - (((ip.toUInt32 >>> ((1 : Int32) &&& 31).toUInt32).toInt32) &&& (1431655765 : Int32))).toUInt32 >>> ((2 : Int32) &&& 31).toUInt32).toInt32) &&& (858993459 : Int32))).toUInt32 >>> ((4 : Int32) &&& 31).toUInt32).toInt32)) &&& (252645135 : Int32)).toUInt32 >>> ((8 : Int32) &&& 31).toUInt32).toInt32)).toUInt32 >>> ((16 : Int32) &&& 31).toUInt32).toInt32)))] []))
  refine OwnEnds.via (fun t k => XS.iloadN X0.here hx rfl (hb hby d4_48) rfl k) ?_
  show OwnEnds _ _ _ _ (s₁.setTop (mkF m 49 #[.val (.int (((((((ip - (((ip.toUInt32 >>> ((1 : Int32) &&& 31).toUInt32).toInt32) &&& (1431655765 : Int32))) &&& (858993459 : Int32)) + ((((ip - (((ip.toUInt32 >>> ((1 : Int32) &&& 31).toUInt32).toInt32) &&& (1431655765 : Int32))).toUInt32 >>> ((2 : Int32) &&& 31).toUInt32).toInt32) &&& (858993459 : Int32))) + (((((ip - (((ip.toUInt32 >>> ((1 : Int32) &&& 31).toUInt32).toInt32) &&& (1431655765 : Int32))) &&& (858993459 : Int32)) + ((((ip - (((ip.toUInt32 >>> ((1 : Int32) &&& 31).toUInt32).toInt32) &&& (1431655765 : Int32))).toUInt32 >>> ((2 : Int32) &&& 31).toUInt32).toInt32) &&& (858993459 : Int32))).toUInt32 >>> ((4 : Int32) &&& 31).toUInt32).toInt32)) &&& (252645135 : Int32)) + (((((((ip - (((ip.toUInt32 >>> ((1 : Int32) &&& 31).toUInt32).toInt32) &&& (1431655765 : Int32))) &&& (858993459 : Int32)) + ((((ip - (((ip.toUInt32 >>> ((1 : Int32) &&& 31).toUInt32).toInt32) &&& (1431655765 : Int32))).toUInt32 >>> ((2 : Int32) &&& 31).toUInt32).toInt32) &&& (858993459 : Int32))) + (((((ip - (((ip.toUInt32 >>> ((1 : Int32) &&& 31).toUInt32).toInt32) &&& (1431655765 : Int32))) &&& (858993459 : Int32)) + ((((ip - (((ip.toUInt32 >>> ((1 : Int32) &&& 31).toUInt32).toInt32) &&& (1431655765 : Int32))).toUInt32 >>> ((2 : Int32) &&& 31).toUInt32).toInt32) &&& (858993459 : Int32))).toUInt32 >>> ((4 : Int32) &&& 31).toUInt32).toInt32)) &&& (252645135 : Int32)).toUInt32 >>> ((8 : Int32) &&& 31).toUInt32).toInt32)) + ((((((((ip - (((ip.toUInt32 >>> ((1 : Int32) &&& 31).toUInt32).toInt32) &&& (1431655765 : Int32))) &&& (858993459 : Int32)) + ((((ip - (((ip.toUInt32 >>> ((1 : Int32) &&& 31).toUInt32).toInt32) &&& (1431655765 : Int32))).toUInt32 >>> ((2 : Int32) &&& 31).toUInt32).toInt32) &&& (858993459 : Int32))) + (((((ip - (((ip.toUInt32 >>> ((1 : Int32) &&& 31).toUInt32).toInt32) &&& (1431655765 : Int32))) &&& (858993459 : Int32)) + ((((ip - (((ip.toUInt32 >>> ((1 : Int32) &&& 31).toUInt32).toInt32) &&& (1431655765 : Int32))).toUInt32 >>> ((2 : Int32) &&& 31).toUInt32).toInt32) &&& (858993459 : Int32))).toUInt32 >>> ((4 : Int32) &&& 31).toUInt32).toInt32)) &&& (252645135 : Int32)) + (((((((ip - (((ip.toUInt32 >>> ((1 : Int32) &&& 31).toUInt32).toInt32) &&& (1431655765 : Int32))) &&& (858993459 : Int32)) + ((((ip - (((ip.toUInt32 >>> ((1 : Int32) &&& 31).toUInt32).toInt32) &&& (1431655765 : Int32))).toUInt32 >>> ((2 : Int32) &&& 31).toUInt32).toInt32) &&& (858993459 : Int32))) + (((((ip - (((ip.toUInt32 >>> ((1 : Int32) &&& 31).toUInt32).toInt32) &&& (1431655765 : Int32))) &&& (858993459 : Int32)) + ((((ip - (((ip.toUInt32 >>> ((1 : Int32) &&& 31).toUInt32).toInt32) &&& (1431655765 : Int32))).toUInt32 >>> ((2 : Int32) &&& 31).toUInt32).toInt32) &&& (858993459 : Int32))).toUInt32 >>> ((4 : Int32) &&& 31).toUInt32).toInt32)) &&& (252645135 : Int32)).toUInt32 >>> ((8 : Int32) &&& 31).toUInt32).toInt32)).toUInt32 >>> ((16 : Int32) &&& 31).toUInt32).toInt32)))] [(.int (((((((ip - (((ip.toUInt32 >>> ((1 : Int32) &&& 31).toUInt32).toInt32) &&& (1431655765 : Int32))) &&& (858993459 : Int32)) + ((((ip - (((ip.toUInt32 >>> ((1 : Int32) &&& 31).toUInt32).toInt32) &&& (1431655765 : Int32))).toUInt32 >>> ((2 : Int32) &&& 31).toUInt32).toInt32) &&& (858993459 : Int32))) + (((((ip - (((ip.toUInt32 >>> ((1 : Int32) &&& 31).toUInt32).toInt32) &&& (1431655765 : Int32))) &&& (858993459 : Int32)) + ((((ip - (((ip.toUInt32 >>> ((1 : Int32) &&& 31).toUInt32).toInt32) &&& (1431655765 : Int32))).toUInt32 >>> ((2 : Int32) &&& 31).toUInt32).toInt32) &&& (858993459 : Int32))).toUInt32 >>> ((4 : Int32) &&& 31).toUInt32).toInt32)) &&& (252645135 : Int32)) + (((((((ip - (((ip.toUInt32 >>> ((1 : Int32) &&& 31).toUInt32).toInt32) &&& (1431655765 : Int32))) &&& (858993459 : Int32)) + ((((ip - (((ip.toUInt32 >>> ((1 : Int32) &&& 31).toUInt32).toInt32) &&& (1431655765 : Int32))).toUInt32 >>> ((2 : Int32) &&& 31).toUInt32).toInt32) &&& (858993459 : Int32))) + (((((ip - (((ip.toUInt32 >>> ((1 : Int32) &&& 31).toUInt32).toInt32) &&& (1431655765 : Int32))) &&& (858993459 : Int32)) + ((((ip - (((ip.toUInt32 >>> ((1 : Int32) &&& 31).toUInt32).toInt32) &&& (1431655765 : Int32))).toUInt32 >>> ((2 : Int32) &&& 31).toUInt32).toInt32) &&& (858993459 : Int32))).toUInt32 >>> ((4 : Int32) &&& 31).toUInt32).toInt32)) &&& (252645135 : Int32)).toUInt32 >>> ((8 : Int32) &&& 31).toUInt32).toInt32)) + ((((((((ip - (((ip.toUInt32 >>> ((1 : Int32) &&& 31).toUInt32).toInt32) &&& (1431655765 : Int32))) &&& (858993459 : Int32)) + ((((ip - (((ip.toUInt32 >>> ((1 : Int32) &&& 31).toUInt32).toInt32) &&& (1431655765 : Int32))).toUInt32 >>> ((2 : Int32) &&& 31).toUInt32).toInt32) &&& (858993459 : Int32))) + (((((ip - (((ip.toUInt32 >>> ((1 : Int32) &&& 31).toUInt32).toInt32) &&& (1431655765 : Int32))) &&& (858993459 : Int32)) + ((((ip - (((ip.toUInt32 >>> ((1 : Int32) &&& 31).toUInt32).toInt32) &&& (1431655765 : Int32))).toUInt32 >>> ((2 : Int32) &&& 31).toUInt32).toInt32) &&& (858993459 : Int32))).toUInt32 >>> ((4 : Int32) &&& 31).toUInt32).toInt32)) &&& (252645135 : Int32)) + (((((((ip - (((ip.toUInt32 >>> ((1 : Int32) &&& 31).toUInt32).toInt32) &&& (1431655765 : Int32))) &&& (858993459 : Int32)) + ((((ip - (((ip.toUInt32 >>> ((1 : Int32) &&& 31).toUInt32).toInt32) &&& (1431655765 : Int32))).toUInt32 >>> ((2 : Int32) &&& 31).toUInt32).toInt32) &&& (858993459 : Int32))) + (((((ip - (((ip.toUInt32 >>> ((1 : Int32) &&& 31).toUInt32).toInt32) &&& (1431655765 : Int32))) &&& (858993459 : Int32)) + ((((ip - (((ip.toUInt32 >>> ((1 : Int32) &&& 31).toUInt32).toInt32) &&& (1431655765 : Int32))).toUInt32 >>> ((2 : Int32) &&& 31).toUInt32).toInt32) &&& (858993459 : Int32))).toUInt32 >>> ((4 : Int32) &&& 31).toUInt32).toInt32)) &&& (252645135 : Int32)).toUInt32 >>> ((8 : Int32) &&& 31).toUInt32).toInt32)).toUInt32 >>> ((16 : Int32) &&& 31).toUInt32).toInt32)))]))
  refine OwnEnds.via (fun t k => XS.bipush X0.here hx rfl (hb hby d4_49) k) ?_
  show OwnEnds _ _ _ _ (s₁.setTop (mkF m 51 #[.val (.int (((((((ip - (((ip.toUInt32 >>> ((1 : Int32) &&& 31).toUInt32).toInt32) &&& (1431655765 : Int32))) &&& (858993459 : Int32)) + ((((ip - (((ip.toUInt32 >>> ((1 : Int32) &&& 31).toUInt32).toInt32) &&& (1431655765 : Int32))).toUInt32 >>> ((2 : Int32) &&& 31).toUInt32).toInt32) &&& (858993459 : Int32))) + (((((ip - (((ip.toUInt32 >>> ((1 : Int32) &&& 31).toUInt32).toInt32) &&& (1431655765 : Int32))) &&& (858993459 : Int32)) + ((((ip - (((ip.toUInt32 >>> ((1 : Int32) &&& 31).toUInt32).toInt32) &&& (1431655765 : Int32))).toUInt32 >>> ((2 : Int32) &&& 31).toUInt32).toInt32) &&& (858993459 : Int32))).toUInt32 >>> ((4 : Int32) &&& 31).toUInt32).toInt32)) &&& (252645135 : Int32)) + (((((((ip - (((ip.toUInt32 >>> ((1 : Int32) &&& 31).toUInt32).toInt32) &&& (1431655765 : Int32))) &&& (858993459 : Int32)) + ((((ip - (((ip.toUInt32 >>> ((1 : Int32) &&& 31).toUInt32).toInt32) &&& (1431655765 : Int32))).toUInt32 >>> ((2 : Int32) &&& 31).toUInt32).toInt32) &&& (858993459 : Int32))) + (((((ip - (((ip.toUInt32 >>> ((1 : Int32) &&& 31).toUInt32).toInt32) &&& (1431655765 : Int32))) &&& (858993459 : Int32)) + ((((ip - (((ip.toUInt32 >>> ((1 : Int32) &&& 31).toUInt32).toInt32) &&& (1431655765 : Int32))).toUInt32 >>> ((2 : Int32) &&& 31).toUInt32).toInt32) &&& (858993459 : Int32))).toUInt32 >>> ((4 : Int32) &&& 31).toUInt32).toInt32)) &&& (252645135 : Int32)).toUInt32 >>> ((8 : Int32) &&& 31).toUInt32).toInt32)) + ((((((((ip - (((ip.toUInt32 >>> ((1 : Int32) &&& 31).toUInt32).toInt32) &&& (1431655765 : Int32))) &&& (858993459 : Int32)) + ((((ip - (((ip.toUInt32 >>> ((1 : Int32) &&& 31).toUInt32).toInt32) &&& (1431655765 : Int32))).toUInt32 >>> ((2 : Int32) &&& 31).toUInt32).toInt32) &&& (858993459 : Int32))) + (((((ip - (((ip.toUInt32 >>> ((1 : Int32) &&& 31).toUInt32).toInt32) &&& (1431655765 : Int32))) &&& (858993459 : Int32)) + ((((ip - (((ip.toUInt32 >>> ((1 : Int32) &&& 31).toUInt32).toInt32) &&& (1431655765 : Int32))).toUInt32 >>> ((2 : Int32) &&& 31).toUInt32).toInt32) &&& (858993459 : Int32))).toUInt32 >>> ((4 : Int32) &&& 31).toUInt32).toInt32)) &&& (252645135 : Int32)) + (((((((ip - (((ip.toUInt32 >>> ((1 : Int32) &&& 31).toUInt32).toInt32) &&& (1431655765 : Int32))) &&& (858993459 : Int32)) + ((((ip - (((ip.toUInt32 >>> ((1 : Int32) &&& 31).toUInt32).toInt32) &&& (1431655765 : Int32))).toUInt32 >>> ((2 : Int32) &&& 31).toUInt32).toInt32) &&& (858993459 : Int32))) + (((((ip - (((ip.toUInt32 >>> ((1 : Int32) &&& 31).toUInt32).toInt32) &&& (1431655765 : Int32))) &&& (858993459 : Int32)) + ((((ip - (((ip.toUInt32 >>> ((1 : Int32) &&& 31).toUInt32).toInt32) &&& (1431655765 : Int32))).toUInt32 >>> ((2 : Int32) &&& 31).toUInt32).toInt32) &&& (858993459 : Int32))).toUInt32 >>> ((4 : Int32) &&& 31).toUInt32).toInt32)) &&& (252645135 : Int32)).toUInt32 >>> ((8 : Int32) &&& 31).toUInt32).toInt32)).toUInt32 >>> ((16 : Int32) &&& 31).toUInt32).toInt32)))] [(.int (63 : Int32)), (.int (((((((ip - (((ip.toUInt32 >>> ((1 : Int32) &&& 31).toUInt32).toInt32) &&& (1431655765 : Int32))) &&& (858993459 : Int32)) + ((((ip - (((ip.toUInt32 >>> ((1 : Int32) &&& 31).toUInt32).toInt32) &&& (1431655765 : Int32))).toUInt32 >>> ((2 : Int32) &&& 31).toUInt32).toInt32) &&& (858993459 : Int32))) + (((((ip - (((ip.toUInt32 >>> ((1 : Int32) &&& 31).toUInt32).toInt32) &&& (1431655765 : Int32))) &&& (858993459 : Int32)) + ((((ip - (((ip.toUInt32 >>> ((1 : Int32) &&& 31).toUInt32).toInt32) &&& (1431655765 : Int32))).toUInt32 >>> ((2 : Int32) &&& 31).toUInt32).toInt32) &&& (858993459 : Int32))).toUInt32 >>> ((4 : Int32) &&& 31).toUInt32).toInt32)) &&& (252645135 : Int32)) + (((((((ip - (((ip.toUInt32 >>> ((1 : Int32) &&& 31).toUInt32).toInt32) &&& (1431655765 : Int32))) &&& (858993459 : Int32)) + ((((ip - (((ip.toUInt32 >>> ((1 : Int32) &&& 31).toUInt32).toInt32) &&& (1431655765 : Int32))).toUInt32 >>> ((2 : Int32) &&& 31).toUInt32).toInt32) &&& (858993459 : Int32))) + (((((ip - (((ip.toUInt32 >>> ((1 : Int32) &&& 31).toUInt32).toInt32) &&& (1431655765 : Int32))) &&& (858993459 : Int32)) + ((((ip - (((ip.toUInt32 >>> ((1 : Int32) &&& 31).toUInt32).toInt32) &&& (1431655765 : Int32))).toUInt32 >>> ((2 : Int32) &&& 31).toUInt32).toInt32) &&& (858993459 : Int32))).toUInt32 >>> ((4 : Int32) &&& 31).toUInt32).toInt32)) &&& (252645135 : Int32)).toUInt32 >>> ((8 : Int32) &&& 31).toUInt32).toInt32)) + ((((((((ip - (((ip.toUInt32 >>> ((1 : Int32) &&& 31).toUInt32).toInt32) &&& (1431655765 : Int32))) &&& (858993459 : Int32)) + ((((ip - (((ip.toUInt32 >>> ((1 : Int32) &&& 31).toUInt32).toInt32) &&& (1431655765 : Int32))).toUInt32 >>> ((2 : Int32) &&& 31).toUInt32).toInt32) &&& (858993459 : Int32))) + (((((ip - (((ip.toUInt32 >>> ((1 : Int32) &&& 31).toUInt32).toInt32) &&& (1431655765 : Int32))) &&& (858993459 : Int32)) + ((((ip - (((ip.toUInt32 >>> ((1 : Int32) &&& 31).toUInt32).toInt32) &&& (1431655765 : Int32))).toUInt32 >>> ((2 : Int32) &&& 31).toUInt32).toInt32) &&& (858993459 : Int32))).toUInt32 >>> ((4 : Int32) &&& 31).toUInt32).toInt32)) &&& (252645135 : Int32)) + (((((((ip - (((ip.toUInt32 >>> ((1 : Int32) &&& 31).toUInt32).toInt32) &&& (1431655765 : Int32))) &&& (858993459 : Int32)) + ((((ip - (((ip.toUInt32 >>> ((1 : Int32) &&& 31).toUInt32).toInt32) &&& (1431655765 : Int32))).toUInt32 >>> ((2 : Int32) &&& 31).toUInt32).toInt32) &&& (858993459 : Int32))) + (((((ip - (((ip.toUInt32 >>> ((1 : Int32) &&& 31).toUInt32).toInt32) &&& (1431655765 : Int32))) &&& (858993459 : Int32)) + ((((ip - (((ip.toUInt32 >>> ((1 : Int32) &&& 31).toUInt32).toInt32) &&& (1431655765 : Int32))).toUInt32 >>> ((2 : Int32) &&& 31).toUInt32).toInt32) &&& (858993459 : Int32))).toUInt32 >>> ((4 : Int32) &&& 31).toUInt32).toInt32)) &&& (252645135 : Int32)).toUInt32 >>> ((8 : Int32) &&& 31).toUInt32).toInt32)).toUInt32 >>> ((16 : Int32) &&& 31).toUInt32).toInt32)))]))
  refine OwnEnds.via (fun t k => XS.iand X0.here hx rfl (hb hby d4_51) rfl k) ?_
  show OwnEnds _ _ _ _ (s₁.setTop (mkF m 52 #[.val (.int (((((((ip - (((ip.toUInt32 >>> ((1 : Int32) &&& 31).toUInt32).toInt32) &&& (1431655765 : Int32))) &&& (858993459 : Int32)) + ((((ip - (((ip.toUInt32 >>> ((1 : Int32) &&& 31).toUInt32).toInt32) &&& (1431655765 : Int32))).toUInt32 >>> ((2 : Int32) &&& 31).toUInt32).toInt32) &&& (858993459 : Int32))) + (((((ip - (((ip.toUInt32 >>> ((1 : Int32) &&& 31).toUInt32).toInt32) &&& (1431655765 : Int32))) &&& (858993459 : Int32)) + ((((ip - (((ip.toUInt32 >>> ((1 : Int32) &&& 31).toUInt32).toInt32) &&& (1431655765 : Int32))).toUInt32 >>> ((2 : Int32) &&& 31).toUInt32).toInt32) &&& (858993459 : Int32))).toUInt32 >>> ((4 : Int32) &&& 31).toUInt32).toInt32)) &&& (252645135 : Int32)) + (((((((ip - (((ip.toUInt32 >>> ((1 : Int32) &&& 31).toUInt32).toInt32) &&& (1431655765 : Int32))) &&& (858993459 : Int32)) + ((((ip - (((ip.toUInt32 >>> ((1 : Int32) &&& 31).toUInt32).toInt32) &&& (1431655765 : Int32))).toUInt32 >>> ((2 : Int32) &&& 31).toUInt32).toInt32) &&& (858993459 : Int32))) + (((((ip - (((ip.toUInt32 >>> ((1 : Int32) &&& 31).toUInt32).toInt32) &&& (1431655765 : Int32))) &&& (858993459 : Int32)) + ((((ip - (((ip.toUInt32 >>> ((1 : Int32) &&& 31).toUInt32).toInt32) &&& (1431655765 : Int32))).toUInt32 >>> ((2 : Int32) &&& 31).toUInt32).toInt32) &&& (858993459 : Int32))).toUInt32 >>> ((4 : Int32) &&& 31).toUInt32).toInt32)) &&& (252645135 : Int32)).toUInt32 >>> ((8 : Int32) &&& 31).toUInt32).toInt32)) + ((((((((ip - (((ip.toUInt32 >>> ((1 : Int32) &&& 31).toUInt32).toInt32) &&& (1431655765 : Int32))) &&& (858993459 : Int32)) + ((((ip - (((ip.toUInt32 >>> ((1 : Int32) &&& 31).toUInt32).toInt32) &&& (1431655765 : Int32))).toUInt32 >>> ((2 : Int32) &&& 31).toUInt32).toInt32) &&& (858993459 : Int32))) + (((((ip - (((ip.toUInt32 >>> ((1 : Int32) &&& 31).toUInt32).toInt32) &&& (1431655765 : Int32))) &&& (858993459 : Int32)) + ((((ip - (((ip.toUInt32 >>> ((1 : Int32) &&& 31).toUInt32).toInt32) &&& (1431655765 : Int32))).toUInt32 >>> ((2 : Int32) &&& 31).toUInt32).toInt32) &&& (858993459 : Int32))).toUInt32 >>> ((4 : Int32) &&& 31).toUInt32).toInt32)) &&& (252645135 : Int32)) + (((((((ip - (((ip.toUInt32 >>> ((1 : Int32) &&& 31).toUInt32).toInt32) &&& (1431655765 : Int32))) &&& (858993459 : Int32)) + ((((ip - (((ip.toUInt32 >>> ((1 : Int32) &&& 31).toUInt32).toInt32) &&& (1431655765 : Int32))).toUInt32 >>> ((2 : Int32) &&& 31).toUInt32).toInt32) &&& (858993459 : Int32))) + (((((ip - (((ip.toUInt32 >>> ((1 : Int32) &&& 31).toUInt32).toInt32) &&& (1431655765 : Int32))) &&& (858993459 : Int32)) + ((((ip - (((ip.toUInt32 >>> ((1 : Int32) &&& 31).toUInt32).toInt32) &&& (1431655765 : Int32))).toUInt32 >>> ((2 : Int32) &&& 31).toUInt32).toInt32) &&& (858993459 : Int32))).toUInt32 >>> ((4 : Int32) &&& 31).toUInt32).toInt32)) &&& (252645135 : Int32)).toUInt32 >>> ((8 : Int32) &&& 31).toUInt32).toInt32)).toUInt32 >>> ((16 : Int32) &&& 31).toUInt32).toInt32)))] [(.int ((((((((ip - (((ip.toUInt32 >>> ((1 : Int32) &&& 31).toUInt32).toInt32) &&& (1431655765 : Int32))) &&& (858993459 : Int32)) + ((((ip - (((ip.toUInt32 >>> ((1 : Int32) &&& 31).toUInt32).toInt32) &&& (1431655765 : Int32))).toUInt32 >>> ((2 : Int32) &&& 31).toUInt32).toInt32) &&& (858993459 : Int32))) + (((((ip - (((ip.toUInt32 >>> ((1 : Int32) &&& 31).toUInt32).toInt32) &&& (1431655765 : Int32))) &&& (858993459 : Int32)) + ((((ip - (((ip.toUInt32 >>> ((1 : Int32) &&& 31).toUInt32).toInt32) &&& (1431655765 : Int32))).toUInt32 >>> ((2 : Int32) &&& 31).toUInt32).toInt32) &&& (858993459 : Int32))).toUInt32 >>> ((4 : Int32) &&& 31).toUInt32).toInt32)) &&& (252645135 : Int32)) + (((((((ip - (((ip.toUInt32 >>> ((1 : Int32) &&& 31).toUInt32).toInt32) &&& (1431655765 : Int32))) &&& (858993459 : Int32)) + ((((ip - (((ip.toUInt32 >>> ((1 : Int32) &&& 31).toUInt32).toInt32) &&& (1431655765 : Int32))).toUInt32 >>> ((2 : Int32) &&& 31).toUInt32).toInt32) &&& (858993459 : Int32))) + (((((ip - (((ip.toUInt32 >>> ((1 : Int32) &&& 31).toUInt32).toInt32) &&& (1431655765 : Int32))) &&& (858993459 : Int32)) + ((((ip - (((ip.toUInt32 >>> ((1 : Int32) &&& 31).toUInt32).toInt32) &&& (1431655765 : Int32))).toUInt32 >>> ((2 : Int32) &&& 31).toUInt32).toInt32) &&& (858993459 : Int32))).toUInt32 >>> ((4 : Int32) &&& 31).toUInt32).toInt32)) &&& (252645135 : Int32)).toUInt32 >>> ((8 : Int32) &&& 31).toUInt32).toInt32)) + ((((((((ip - (((ip.toUInt32 >>> ((1 : Int32) &&& 31).toUInt32).toInt32) &&& (1431655765 : Int32))) &&& (858993459 : Int32)) + ((((ip - (((ip.toUInt32 >>> ((1 : Int32) &&& 31).toUInt32).toInt32) &&& (1431655765 : Int32))).toUInt32 >>> ((2 : Int32) &&& 31).toUInt32).toInt32) &&& (858993459 : Int32))) + (((((ip - (((ip.toUInt32 >>> ((1 : Int32) &&& 31).toUInt32).toInt32) &&& (1431655765 : Int32))) &&& (858993459 : Int32)) + ((((ip - (((ip.toUInt32 >>> ((1 : Int32) &&& 31).toUInt32).toInt32) &&& (1431655765 : Int32))).toUInt32 >>> ((2 : Int32) &&& 31).toUInt32).toInt32) &&& (858993459 : Int32))).toUInt32 >>> ((4 : Int32) &&& 31).toUInt32).toInt32)) &&& (252645135 : Int32)) + (((((((ip - (((ip.toUInt32 >>> ((1 : Int32) &&& 31).toUInt32).toInt32) &&& (1431655765 : Int32))) &&& (858993459 : Int32)) + ((((ip - (((ip.toUInt32 >>> ((1 : Int32) &&& 31).toUInt32).toInt32) &&& (1431655765 : Int32))).toUInt32 >>> ((2 : Int32) &&& 31).toUInt32).toInt32) &&& (858993459 : Int32))) + (((((ip - (((ip.toUInt32 >>> ((1 : Int32) &&& 31).toUInt32).toInt32) &&& (1431655765 : Int32))) &&& (858993459 : Int32)) + ((((ip - (((ip.toUInt32 >>> ((1 : Int32) &&& 31).toUInt32).toInt32) &&& (1431655765 : Int32))).toUInt32 >>> ((2 : Int32) &&& 31).toUInt32).toInt32) &&& (858993459 : Int32))).toUInt32 >>> ((4 : Int32) &&& 31).toUInt32).toInt32)) &&& (252645135 : Int32)).toUInt32 >>> ((8 : Int32) &&& 31).toUInt32).toInt32)).toUInt32 >>> ((16 : Int32) &&& 31).toUInt32).toInt32)) &&& (63 : Int32)))]))
  obtain ⟨fs, hr, hrun, hended, hW, hsame⟩ := X0.leave (v := some (.int ((((((((ip - (((ip.toUInt32 >>> ((1 : Int32) &&& 31).toUInt32).toInt32) &&& (1431655765 : Int32))) &&& (858993459 : Int32)) + ((((ip - (((ip.toUInt32 >>> ((1 : Int32) &&& 31).toUInt32).toInt32) &&& (1431655765 : Int32))).toUInt32 >>> ((2 : Int32) &&& 31).toUInt32).toInt32) &&& (858993459 : Int32))) + (((((ip - (((ip.toUInt32 >>> ((1 : Int32) &&& 31).toUInt32).toInt32) &&& (1431655765 : Int32))) &&& (858993459 : Int32)) + ((((ip - (((ip.toUInt32 >>> ((1 : Int32) &&& 31).toUInt32).toInt32) &&& (1431655765 : Int32))).toUInt32 >>> ((2 : Int32) &&& 31).toUInt32).toInt32) &&& (858993459 : Int32))).toUInt32 >>> ((4 : Int32) &&& 31).toUInt32).toInt32)) &&& (252645135 : Int32)) + (((((((ip - (((ip.toUInt32 >>> ((1 : Int32) &&& 31).toUInt32).toInt32) &&& (1431655765 : Int32))) &&& (858993459 : Int32)) + ((((ip - (((ip.toUInt32 >>> ((1 : Int32) &&& 31).toUInt32).toInt32) &&& (1431655765 : Int32))).toUInt32 >>> ((2 : Int32) &&& 31).toUInt32).toInt32) &&& (858993459 : Int32))) + (((((ip - (((ip.toUInt32 >>> ((1 : Int32) &&& 31).toUInt32).toInt32) &&& (1431655765 : Int32))) &&& (858993459 : Int32)) + ((((ip - (((ip.toUInt32 >>> ((1 : Int32) &&& 31).toUInt32).toInt32) &&& (1431655765 : Int32))).toUInt32 >>> ((2 : Int32) &&& 31).toUInt32).toInt32) &&& (858993459 : Int32))).toUInt32 >>> ((4 : Int32) &&& 31).toUInt32).toInt32)) &&& (252645135 : Int32)).toUInt32 >>> ((8 : Int32) &&& 31).toUInt32).toInt32)) + ((((((((ip - (((ip.toUInt32 >>> ((1 : Int32) &&& 31).toUInt32).toInt32) &&& (1431655765 : Int32))) &&& (858993459 : Int32)) + ((((ip - (((ip.toUInt32 >>> ((1 : Int32) &&& 31).toUInt32).toInt32) &&& (1431655765 : Int32))).toUInt32 >>> ((2 : Int32) &&& 31).toUInt32).toInt32) &&& (858993459 : Int32))) + (((((ip - (((ip.toUInt32 >>> ((1 : Int32) &&& 31).toUInt32).toInt32) &&& (1431655765 : Int32))) &&& (858993459 : Int32)) + ((((ip - (((ip.toUInt32 >>> ((1 : Int32) &&& 31).toUInt32).toInt32) &&& (1431655765 : Int32))).toUInt32 >>> ((2 : Int32) &&& 31).toUInt32).toInt32) &&& (858993459 : Int32))).toUInt32 >>> ((4 : Int32) &&& 31).toUInt32).toInt32)) &&& (252645135 : Int32)) + (((((((ip - (((ip.toUInt32 >>> ((1 : Int32) &&& 31).toUInt32).toInt32) &&& (1431655765 : Int32))) &&& (858993459 : Int32)) + ((((ip - (((ip.toUInt32 >>> ((1 : Int32) &&& 31).toUInt32).toInt32) &&& (1431655765 : Int32))).toUInt32 >>> ((2 : Int32) &&& 31).toUInt32).toInt32) &&& (858993459 : Int32))) + (((((ip - (((ip.toUInt32 >>> ((1 : Int32) &&& 31).toUInt32).toInt32) &&& (1431655765 : Int32))) &&& (858993459 : Int32)) + ((((ip - (((ip.toUInt32 >>> ((1 : Int32) &&& 31).toUInt32).toInt32) &&& (1431655765 : Int32))).toUInt32 >>> ((2 : Int32) &&& 31).toUInt32).toInt32) &&& (858993459 : Int32))).toUInt32 >>> ((4 : Int32) &&& 31).toUInt32).toInt32)) &&& (252645135 : Int32)).toUInt32 >>> ((8 : Int32) &&& 31).toUInt32).toInt32)).toUInt32 >>> ((16 : Int32) &&& 31).toUInt32).toInt32)) &&& (63 : Int32)))) (fun h => by rw [Bd.returns] at h; cases h)
  refine ⟨_, _, ?_, hrun, hended, _, _, rfl, ?_, ⟨_, rfl⟩, hW, hsame.mono (by decide) (by decide)⟩
  · exact retI X0 hx Bd.returns (hb hby d4_52) hr
  · show Q4 Z ip h0 n0 _ s₁.heap _
    rw [e0]
    exact ⟨rfl, N0, rfl⟩

def own_r (k : Int32) : Int32 := if k &&& (28 : Int32) = (0 : Int32) then (0 : Int32) else (1 : Int32)
def own_bo (k : Int32) : Int32 := if k &&& ((1 : Int32) <<< ((2 : Int32) &&& 31)) = (0 : Int32) then (0 : Int32) else if k &&& ((1 : Int32) <<< ((3 : Int32) &&& 31)) = (0 : Int32) then (0 : Int32) else (1 : Int32)
def own_cl (k : Int32) : Int32 := if (own_bc (k &&& (-29 : Int32)) + own_r k) < (2 : Int32) then (if own_bo k = (0 : Int32) then (0 : Int32) else (1 : Int32)) else (1 : Int32)
def own_bp (k : Int32) : Int32 := if k &&& (4 : Int32) = (0 : Int32) then (0 : Int32) else if k &&& (8 : Int32) = (0 : Int32) then (0 : Int32) else (1 : Int32)
def own_lc (k : Int32) : Int32 := if ((((k &&& (1 : Int32)) + ((k >>> ((1 : Int32) &&& 31)) &&& (1 : Int32))) + own_r k) + ((k >>> ((5 : Int32) &&& 31)) &&& (1 : Int32))) < (2 : Int32) then (if own_bp k = (0 : Int32) then (0 : Int32) else (1 : Int32)) else (1 : Int32)
def own_b (y : Int32) : Int32 := if y = (0 : Int32) then (0 : Int32) else (1 : Int32)
def own_at (t y0 y1 y2 : Int32) : Int32 := if t = (0 : Int32) then own_b y0 else if t = (1 : Int32) then own_b y1 else if t = (2 : Int32) then own_b y2 else (0 : Int32)
def own_ex (t a b c : Int32) : Int32 := if t = (0 : Int32) then nar .boolean (own_lc a) else if t = (1 : Int32) then nar .boolean (own_lc b) else if t = (2 : Int32) then nar .boolean (own_lc c) else (0 : Int32)
theorem own_ofNat (r : Int32) (N : Nat) (hN : N ≤ 2147483648) (h0 : 0 ≤ r.toInt) (h1 : r.toInt < N) : ∃ n : Fin N, r = n.val.toInt32 := by
  refine ⟨⟨r.toInt.toNat, by omega⟩, Int32.toInt_inj.mp ?_⟩
  rw [len_toInt (by show r.toInt.toNat < 2 ^ 31; omega)]
  show r.toInt = (r.toInt.toNat : Int)
  omega
theorem own_all : ∀ n : Fin 64, own_b (nar .boolean (own_cl (nar .byte (n.val.toInt32.toInt8.toInt32)))) = own_lc n.val.toInt32 ∧ nar .boolean (own_lc n.val.toInt32) = own_lc n.val.toInt32 := by decide +kernel
theorem own_k {x k : Int32} (h : k = x &&& (63 : Int32)) : own_b (nar .boolean (own_cl (nar .byte (k.toInt8.toInt32)))) = own_lc k ∧ nar .boolean (own_lc k) = own_lc k := by
  have hm := c_mask x (63 : Int32) 6 (by decide) (by decide)
  obtain ⟨n, hn⟩ := own_ofNat k 64 (by decide) (by rw [h, hm]; exact Int.emod_nonneg _ (by decide)) (by rw [h, hm]; exact Int.emod_lt_of_pos _ (by decide))
  rw [hn]
  exact own_all n
theorem own_three {t : Int32} (h0 : ¬ t < (0 : Int32)) (h3 : t < (3 : Int32)) : t = (0 : Int32) ∨ t = (1 : Int32) ∨ t = (2 : Int32) := by
  rw [Int32.lt_iff_toInt_lt] at h0 h3
  rw [← Int32.toInt_inj, ← Int32.toInt_inj, ← Int32.toInt_inj]
  have z0 : (0 : Int32).toInt = 0 := by decide
  have z1 : (1 : Int32).toInt = 1 := by decide
  have z2 : (2 : Int32).toInt = 2 := by decide
  have z3 : (3 : Int32).toInt = 3 := by decide
  omega
theorem own_lo {t y0 y1 y2 : Int32} (h : t < (0 : Int32)) : own_at t y0 y1 y2 = (0 : Int32) := by
  rw [own_at, if_neg, if_neg, if_neg] <;> (intro e; subst e; revert h; decide)
theorem own_hi {t y0 y1 y2 : Int32} (h : ¬ t < (3 : Int32)) : own_at t y0 y1 y2 = (0 : Int32) := by
  rw [own_at, if_neg, if_neg, if_neg] <;> (intro e; subst e; revert h; decide)
theorem own_fin {t k0 k1 k2 a b c : Int32} (ha : a = k0 &&& (63 : Int32)) (hb : b = k1 &&& (63 : Int32)) (hc : c = k2 &&& (63 : Int32)) : own_at t (nar .boolean (own_cl (nar .byte (a.toInt8.toInt32)))) (nar .boolean (own_cl (nar .byte (b.toInt8.toInt32)))) (nar .boolean (own_cl (nar .byte (c.toInt8.toInt32)))) = own_ex t a b c := by
  unfold own_at own_ex
  rw [(own_k ha).1, (own_k hb).1, (own_k hc).1, (own_k ha).2, (own_k hb).2, (own_k hc).2]

theorem d3_0 : decode prog_38_method_16_code 0 = .ok (.iload_n 0, 1) := by decide +kernel
theorem d3_1 : decode prog_38_method_16_code 1 = .ok (.getstatic 228, 3) := by decide +kernel
theorem d3_4 : decode prog_38_method_16_code 4 = .ok (.iconst (-1), 1) := by decide +kernel
theorem d3_5 : decode prog_38_method_16_code 5 = .ok (.ixor, 1) := by decide +kernel
theorem d3_6 : decode prog_38_method_16_code 6 = .ok (.iand, 1) := by decide +kernel
theorem d3_7 : decode prog_38_method_16_code 7 = .ok (.invokestatic 231, 3) := by decide +kernel
theorem d3_10 : decode prog_38_method_16_code 10 = .ok (.iload_n 0, 1) := by decide +kernel
theorem d3_11 : decode prog_38_method_16_code 11 = .ok (.getstatic 228, 3) := by decide +kernel
theorem d3_14 : decode prog_38_method_16_code 14 = .ok (.iand, 1) := by decide +kernel
theorem d3_15 : decode prog_38_method_16_code 15 = .ok (.ifCond .eq 7, 3) := by decide +kernel
theorem d3_18 : decode prog_38_method_16_code 18 = .ok (.iconst 1, 1) := by decide +kernel
theorem d3_19 : decode prog_38_method_16_code 19 = .ok (.goto 4, 3) := by decide +kernel
theorem d3_22 : decode prog_38_method_16_code 22 = .ok (.iconst 0, 1) := by decide +kernel
theorem d3_23 : decode prog_38_method_16_code 23 = .ok (.iadd, 1) := by decide +kernel
theorem d3_24 : decode prog_38_method_16_code 24 = .ok (.istore_n 1, 1) := by decide +kernel
theorem d3_25 : decode prog_38_method_16_code 25 = .ok (.iload_n 0, 1) := by decide +kernel
theorem d3_26 : decode prog_38_method_16_code 26 = .ok (.getstatic 236, 3) := by decide +kernel
theorem d3_29 : decode prog_38_method_16_code 29 = .ok (.invokevirtual 159, 3) := by decide +kernel
theorem d3_32 : decode prog_38_method_16_code 32 = .ok (.iand, 1) := by decide +kernel
theorem d3_33 : decode prog_38_method_16_code 33 = .ok (.ifCond .eq 18, 3) := by decide +kernel
theorem d3_36 : decode prog_38_method_16_code 36 = .ok (.iload_n 0, 1) := by decide +kernel
theorem d3_37 : decode prog_38_method_16_code 37 = .ok (.getstatic 240, 3) := by decide +kernel
theorem d3_40 : decode prog_38_method_16_code 40 = .ok (.invokevirtual 159, 3) := by decide +kernel
theorem d3_43 : decode prog_38_method_16_code 43 = .ok (.iand, 1) := by decide +kernel
theorem d3_44 : decode prog_38_method_16_code 44 = .ok (.ifCond .eq 7, 3) := by decide +kernel
theorem d3_47 : decode prog_38_method_16_code 47 = .ok (.iconst 1, 1) := by decide +kernel
theorem d3_48 : decode prog_38_method_16_code 48 = .ok (.goto 4, 3) := by decide +kernel
theorem d3_51 : decode prog_38_method_16_code 51 = .ok (.iconst 0, 1) := by decide +kernel
theorem d3_52 : decode prog_38_method_16_code 52 = .ok (.istore_n 2, 1) := by decide +kernel
theorem d3_53 : decode prog_38_method_16_code 53 = .ok (.iload_n 1, 1) := by decide +kernel
theorem d3_54 : decode prog_38_method_16_code 54 = .ok (.iconst 2, 1) := by decide +kernel
theorem d3_55 : decode prog_38_method_16_code 55 = .ok (.if_icmp .ge 7, 3) := by decide +kernel
theorem d3_58 : decode prog_38_method_16_code 58 = .ok (.iload_n 2, 1) := by decide +kernel
theorem d3_59 : decode prog_38_method_16_code 59 = .ok (.ifCond .eq 7, 3) := by decide +kernel
theorem d3_62 : decode prog_38_method_16_code 62 = .ok (.iconst 1, 1) := by decide +kernel
theorem d3_63 : decode prog_38_method_16_code 63 = .ok (.goto 4, 3) := by decide +kernel
theorem d3_66 : decode prog_38_method_16_code 66 = .ok (.iconst 0, 1) := by decide +kernel
theorem d3_67 : decode prog_38_method_16_code 67 = .ok (.ireturn, 1) := by decide +kernel
theorem pn_rm3 : plainName "com/example/stratal/stratal/logic/LayerReport" = true := by first | (simp [plainName, overriddenIn]; done) | decide +kernel
theorem pd_1 : parseMethodDescriptor "(I)I" = some ⟨[.int], some .int⟩ := by decide +kernel
theorem ef_rm3 (m : MethodId) (kk : Int32) : entryFrame m #[(.int kk)] 3 = mkF m 0 #[.val (.int kk), .unset, .unset] [] := by first | (simp [entryFrame, mkF, argsToLocals, Value.category]; done) | rfl
def Q3 (Z : State) (kk : Int32) (ko : Addr) (kp : Addr) (h0 : Heap) (n0 : Nat) (v : Option Value) (h : Heap) (L : List Loc) : Prop := v = some (.int (own_cl kk)) ∧ Fr n0 L ∧ h = h0
set_option maxRecDepth 65536 in
set_option maxHeartbeats 40000000 in
theorem rm3 (l : Launch) (Z : State) (a0 : Array Value) (hw : ∀ d ∈ tables_1, d.before a0 Z = true) (ws : List Jvm.Cond) (kk : Int32) (ko : Addr) (kp : Addr) (h0 : Heap) (n0 : Nat) (Z0 : n0 ≤ h0.size) (O0 : Old Z n0 h0) (OP0 : Sta Z Z.heap "com/example/stratal/stratal/logic/LayerReport" "PROPERTY_KINDS" "I" (.int (28 : Int32))) (OP1 : Sta Z Z.heap "com/example/stratal/stratal/logic/Kind" "OBJECT_PROPERTY" "Lcom/example/stratal/stratal/logic/Kind;" (.ref ko)) (OP2 : Sta Z Z.heap "com/example/stratal/stratal/logic/Kind" "DATATYPE_PROPERTY" "Lcom/example/stratal/stratal/logic/Kind;" (.ref kp)) (OP3 : Exa Z Z.heap ko "com/example/stratal/stratal/logic/Kind") (OP4 : Exa Z Z.heap kp "com/example/stratal/stratal/logic/Kind") (OP5 : Fld Z Z.heap ko "java/lang/Enum" "ordinal" "I" (.int (2 : Int32))) (OP6 : Fld Z Z.heap kp "java/lang/Enum" "ordinal" "I" (.int (3 : Int32))) :
    MetFree l (⟨"com/example/stratal/stratal/logic/LayerReport", "isClash", "(B)Z"⟩ : MethodName) (head1 (Jvm.Cond.code (⟨"com/example/stratal/stratal/logic/LayerReport", "isClash", "(B)Z"⟩ : MethodName) prog_38_method_16_code 3 (some .boolean) :: ws) ({ frames := 2, cells := 0, slots := 0, locals := 26 } : Room)) (fun aa U => aa = #[(.int kk)] ∧ Z.Warmed39 U.vm ∧ U.heap = h0) (fun _ _ _ _ _ => True) (fun _ U o U' => ∃ v L, o = .returned v ∧ Q3 Z kk ko kp h0 n0 v U'.heap L ∧ FrameEnd U o U' L ({ frames := 2, cells := 0, slots := 0, locals := 26 } : Room).cells ({ frames := 2, cells := 0, slots := 0, locals := 26 } : Room).slots) := by
  refine MetFree.of_bodySF (plainFor_of_name pn_rm3) hisR ?_
  intro p e s m args below meth c s₁ Bd hml0 hP hK
  obtain ⟨rfl, hZ, hh⟩ := hP
  have hx := Bd.exec
  have hby := Bd.bytes
  have hml : c.maxLocals = 3 := hml0
  have hown : s.vm.findClass "com/example/stratal/stratal/logic/LayerReport" = some m.cls := findClass_of_methodNamed Bd.named
  have hnm := (name_of_methodNamed Bd.named Bd.method).1
  have X0 : Stand p l e ({ frames := 2, cells := 0, slots := 0, locals := 26 } : Room) s m #[(.int kk)] below meth c s₁ [] 0 0 := Stand.of_body Bd
  have e0 : s₁.heap = h0 := by rw [← hh, Bd.state]; rfl
  have N0 := Fr.nil n0
  change OwnEnds p.tables e below _ _
  refine OwnEnds.via (fun t k => castTop (ef_rm3 m kk) k) ?_
  show OwnEnds _ _ _ _ (s₁.setTop (mkF m 0 #[.val (.int kk), .unset, .unset] []))
  refine OwnEnds.via (fun t k => XS.iloadN X0.here hx rfl (hb hby d3_0) rfl k) ?_
  show OwnEnds _ _ _ _ (s₁.setTop (mkF m 1 #[.val (.int kk), .unset, .unset] [(.int kk)]))
  obtain ⟨T1, X1, e1, st1⟩ := getS2 X0 hx hZ hown (host := "") (Or.inl (hw _ (List.mem_of_getElem? (i := 26) rfl))) Via.refl e0 (OP0.ext O0.2) (g := (mkF m 1 #[.val (.int kk), .unset, .unset] [(.int kk)])) rfl (hb hby d3_1)
  refine OwnEnds.via st1 ?_
  show OwnEnds _ _ _ _ (T1.setTop (mkF m 4 #[.val (.int kk), .unset, .unset] [(.int (28 : Int32)), (.int kk)]))
  refine OwnEnds.via (fun t k => XS.iconst X1.here hx rfl (hb hby d3_4) k) ?_
  show OwnEnds _ _ _ _ (T1.setTop (mkF m 5 #[.val (.int kk), .unset, .unset] [(.int (-1 : Int32)), (.int (28 : Int32)), (.int kk)]))
  refine OwnEnds.via (fun t k => XS.ixor X1.here hx rfl (hb hby d3_5) rfl k) ?_
  show OwnEnds _ _ _ _ (T1.setTop (mkF m 6 #[.val (.int kk), .unset, .unset] [(.int (-29 : Int32)), (.int kk)]))
  refine OwnEnds.via (fun t k => XS.iand X1.here hx rfl (hb hby d3_6) rfl k) ?_
  show OwnEnds _ _ _ _ (T1.setTop (mkF m 7 #[.val (.int kk), .unset, .unset] [(.int (kk &&& (-29 : Int32)))]))
  obtain ⟨_, _, ⟨T2, L2, k2, n2⟩, -, X2, ⟨Lc2, hQ2, l2, y2, z2⟩, st2⟩ := Jvm.LawKit.callS X1 hx (y := (⟨"java/lang/Integer", "bitCount", "(I)I"⟩ : MethodName)) hown (mvT hZ (hw _ (List.mem_of_getElem? (i := 28) rfl))) (mvT hZ (hw _ (List.mem_of_getElem? (i := 29) rfl))) (mvT hZ (hw _ (List.mem_of_getElem? (i := 30) rfl))) (mvT hZ (hw _ (List.mem_of_getElem? (i := 31) rfl))) (by decide) (backOf (W := 0) (rm4 l Z a0 hw [] (kk &&& (-29 : Int32)) h0 n0 Z0 ) hZ (hw _ (List.mem_of_getElem? (i := 31) rfl)) (hw _ (List.mem_of_getElem? (i := 30) rfl)) (by decide) (by decide)) (g := (mkF m 7 #[.val (.int kk), .unset, .unset] [(.int (kk &&& (-29 : Int32)))])) rfl (by rw [hml]; rfl) (argsL := [(.int (kk &&& (-29 : Int32)))]) (rest := []) (lenOf pd_1 rfl) rfl (by show 2 * 0 + _ ≤ _; exact Nat.le_of_eq rfl) (hb hby d3_7) (fun _ _ => ⟨rfl, e1, (by decide : 0 + 0 ≤ _), (by decide : 0 + 0 ≤ _)⟩)
  dsimp only [Pt.U, Pt.locs, Pt.cells, Pt.slots] at X2 l2 y2 z2 st2 hQ2
  subst l2 y2 z2
  obtain ⟨rfl, Nq2, e2⟩ := hQ2
  have N2 := Fr.app N0 Nq2
  refine OwnEnds.via st2 ?_
  show OwnEnds _ _ _ _ (T2.setTop (mkF m 10 #[.val (.int kk), .unset, .unset] [(.int (own_bc (kk &&& (-29 : Int32))))]))
  refine OwnEnds.via (fun t k => XS.iloadN X2.here hx rfl (hb hby d3_10) rfl k) ?_
  show OwnEnds _ _ _ _ (T2.setTop (mkF m 11 #[.val (.int kk), .unset, .unset] [(.int kk), (.int (own_bc (kk &&& (-29 : Int32))))]))
  obtain ⟨T3, X3, e3, st3⟩ := getS2 X2 hx hZ hown (host := "") (Or.inl (hw _ (List.mem_of_getElem? (i := 26) rfl))) Via.refl e2 (OP0.ext O0.2) (g := (mkF m 11 #[.val (.int kk), .unset, .unset] [(.int kk), (.int (own_bc (kk &&& (-29 : Int32))))])) rfl (hb hby d3_11)
  refine OwnEnds.via st3 ?_
  show OwnEnds _ _ _ _ (T3.setTop (mkF m 14 #[.val (.int kk), .unset, .unset] [(.int (28 : Int32)), (.int kk), (.int (own_bc (kk &&& (-29 : Int32))))]))
  refine OwnEnds.via (fun t k => XS.iand X3.here hx rfl (hb hby d3_14) rfl k) ?_
  show OwnEnds _ _ _ _ (T3.setTop (mkF m 15 #[.val (.int kk), .unset, .unset] [(.int (kk &&& (28 : Int32))), (.int (own_bc (kk &&& (-29 : Int32))))]))
  refine OwnEnds.cut (fun G => ∀ (T4 : State) (lc4 : List Loc) (X4 : Stand p l e ({ frames := 2, cells := 0, slots := 0, locals := 26 } : Room) s m #[(.int kk)] below meth c T4 lc4 0 0) (e4 : T4.heap = h0) (N4 : Fr n0 lc4) (rr : Int32) (hj4_0 : rr = (own_r kk)), G (T4.setTop (mkF m 23 #[.val (.int kk), .unset, .unset] [(.int rr), (.int (own_bc (kk &&& (-29 : Int32))))]))) ?_ ?_
  · intro T4 lc4 X4 e4 N4 rr hj4_0
    subst hj4_0
    show OwnEnds _ _ _ _ (T4.setTop (mkF m 23 #[.val (.int kk), .unset, .unset] [(.int (own_r kk)), (.int (own_bc (kk &&& (-29 : Int32))))]))
    refine OwnEnds.via (fun t k => XS.iadd X4.here hx rfl (hb hby d3_23) rfl k) ?_
    show OwnEnds _ _ _ _ (T4.setTop (mkF m 24 #[.val (.int kk), .unset, .unset] [(.int ((own_bc (kk &&& (-29 : Int32))) + (own_r kk)))]))
    refine OwnEnds.via (fun t k => XS.istoreN X4.here hx rfl (hb hby d3_24) rfl (l' := #[.val (.int kk), .val (.int ((own_bc (kk &&& (-29 : Int32))) + (own_r kk))), .unset]) rfl k) ?_
    show OwnEnds _ _ _ _ (T4.setTop (mkF m 25 #[.val (.int kk), .val (.int ((own_bc (kk &&& (-29 : Int32))) + (own_r kk))), .unset] []))
    refine OwnEnds.via (fun t k => XS.iloadN X4.here hx rfl (hb hby d3_25) rfl k) ?_
    show OwnEnds _ _ _ _ (T4.setTop (mkF m 26 #[.val (.int kk), .val (.int ((own_bc (kk &&& (-29 : Int32))) + (own_r kk))), .unset] [(.int kk)]))
    obtain ⟨T5, X5, e5, st5⟩ := getS2 X4 hx hZ hown (host := "") (Or.inl (hw _ (List.mem_of_getElem? (i := 35) rfl))) Via.refl e4 (OP1.ext O0.2) (g := (mkF m 26 #[.val (.int kk), .val (.int ((own_bc (kk &&& (-29 : Int32))) + (own_r kk))), .unset] [(.int kk)])) rfl (hb hby d3_26)
    refine OwnEnds.via st5 ?_
    show OwnEnds _ _ _ _ (T5.setTop (mkF m 29 #[.val (.int kk), .val (.int ((own_bc (kk &&& (-29 : Int32))) + (own_r kk))), .unset] [(.ref ko), (.int kk)]))
    obtain ⟨cq6, kq6, q6a, q6b, q6c⟩ := isOf hZ e5 (OP3.ext O0.2)
    obtain ⟨_, _, ⟨T6, L6, k6, n6⟩, -, X6, ⟨Lc6, hQ6, l6, y6, z6⟩, st6⟩ := X5.virtualBack hx (y := (⟨"com/example/stratal/stratal/logic/Kind", "bit", "()I"⟩ : MethodName)) (z := (⟨"com/example/stratal/stratal/logic/Kind", "bit", "()I"⟩ : MethodName)) hown (mvT hZ (hw _ (List.mem_of_getElem? (i := 38) rfl))) (mvT hZ (hw _ (List.mem_of_getElem? (i := 39) rfl))) (notFace_of_selects (args := #[]) (mvT hZ (hw _ (List.mem_of_getElem? (i := 41) rfl)))) (mvT hZ (hw _ (List.mem_of_getElem? (i := 41) rfl))) (mvT hZ (hw _ (List.mem_of_getElem? (i := 40) rfl))) (by decide) (backOf (W := 1) (rm5 l Z a0 hw [] ko (2 : Int32) h0 n0 Z0 (OP3.ext O0.2) (OP5.ext O0.2)) hZ (hw _ (List.mem_of_getElem? (i := 42) rfl)) (hw _ (List.mem_of_getElem? (i := 36) rfl)) (by decide) (by decide)) q6a q6c (g := (mkF m 29 #[.val (.int kk), .val (.int ((own_bc (kk &&& (-29 : Int32))) + (own_r kk))), .unset] [(.ref ko), (.int kk)])) rfl (by rw [hml]; rfl) (Steps.refl _) (argsL := []) (rest := [(.int kk)]) (lenOf pd_0 rfl) rfl (by show 2 * 0 + _ ≤ _; exact Nat.le_of_eq rfl) (hb hby d3_29) (fun _ _ => ⟨rfl, e5, (by decide : 0 + 0 ≤ _), (by decide : 0 + 0 ≤ _)⟩)
    dsimp only [Pt.U, Pt.locs, Pt.cells, Pt.slots] at X6 l6 y6 z6 st6 hQ6
    subst l6 y6 z6
    obtain ⟨rfl, Nq6, e6⟩ := hQ6
    have N6 := Fr.app N4 Nq6
    refine OwnEnds.via (fun t k => st6.trans k) ?_
    show OwnEnds _ _ _ _ (T6.setTop (mkF m 32 #[.val (.int kk), .val (.int ((own_bc (kk &&& (-29 : Int32))) + (own_r kk))), .unset] [(.int ((1 : Int32) <<< ((2 : Int32) &&& 31))), (.int kk)]))
    refine OwnEnds.via (fun t k => XS.iand X6.here hx rfl (hb hby d3_32) rfl k) ?_
    show OwnEnds _ _ _ _ (T6.setTop (mkF m 33 #[.val (.int kk), .val (.int ((own_bc (kk &&& (-29 : Int32))) + (own_r kk))), .unset] [(.int (kk &&& ((1 : Int32) <<< ((2 : Int32) &&& 31))))]))
    refine OwnEnds.cut (fun G => ∀ (T7 : State) (lc7 : List Loc) (X7 : Stand p l e ({ frames := 2, cells := 0, slots := 0, locals := 26 } : Room) s m #[(.int kk)] below meth c T7 lc7 0 0) (e7 : T7.heap = h0) (N7 : Fr n0 lc7) (bo : Int32) (hj7_0 : bo = (own_bo kk)), G (T7.setTop (mkF m 52 #[.val (.int kk), .val (.int ((own_bc (kk &&& (-29 : Int32))) + (own_r kk))), .unset] [(.int bo)]))) ?_ ?_
    · intro T7 lc7 X7 e7 N7 bo hj7_0
      subst hj7_0
      show OwnEnds _ _ _ _ (T7.setTop (mkF m 52 #[.val (.int kk), .val (.int ((own_bc (kk &&& (-29 : Int32))) + (own_r kk))), .unset] [(.int (own_bo kk))]))
      refine OwnEnds.via (fun t k => XS.istoreN X7.here hx rfl (hb hby d3_52) rfl (l' := #[.val (.int kk), .val (.int ((own_bc (kk &&& (-29 : Int32))) + (own_r kk))), .val (.int (own_bo kk))]) rfl k) ?_
      show OwnEnds _ _ _ _ (T7.setTop (mkF m 53 #[.val (.int kk), .val (.int ((own_bc (kk &&& (-29 : Int32))) + (own_r kk))), .val (.int (own_bo kk))] []))
      refine OwnEnds.via (fun t k => XS.iloadN X7.here hx rfl (hb hby d3_53) rfl k) ?_
      show OwnEnds _ _ _ _ (T7.setTop (mkF m 54 #[.val (.int kk), .val (.int ((own_bc (kk &&& (-29 : Int32))) + (own_r kk))), .val (.int (own_bo kk))] [(.int ((own_bc (kk &&& (-29 : Int32))) + (own_r kk)))]))
      refine OwnEnds.via (fun t k => XS.iconst X7.here hx rfl (hb hby d3_54) k) ?_
      show OwnEnds _ _ _ _ (T7.setTop (mkF m 55 #[.val (.int kk), .val (.int ((own_bc (kk &&& (-29 : Int32))) + (own_r kk))), .val (.int (own_bo kk))] [(.int (2 : Int32)), (.int ((own_bc (kk &&& (-29 : Int32))) + (own_r kk)))]))
      by_cases hc55_8 : ((own_bc (kk &&& (-29 : Int32))) + (own_r kk)) < (2 : Int32)
      ·
        refine OwnEnds.via (fun t k => XS.icmpNo X7.here hx rfl (hb hby d3_55) rfl (tlt hc55_8).2.1 k) ?_
        show OwnEnds _ _ _ _ (T7.setTop (mkF m 58 #[.val (.int kk), .val (.int ((own_bc (kk &&& (-29 : Int32))) + (own_r kk))), .val (.int (own_bo kk))] []))
        refine OwnEnds.via (fun t k => XS.iloadN X7.here hx rfl (hb hby d3_58) rfl k) ?_
        show OwnEnds _ _ _ _ (T7.setTop (mkF m 59 #[.val (.int kk), .val (.int ((own_bc (kk &&& (-29 : Int32))) + (own_r kk))), .val (.int (own_bo kk))] [(.int (own_bo kk))]))
        by_cases hc59_9 : (own_bo kk) = (0 : Int32)
        ·
          refine OwnEnds.via (fun t k => XS.ifYes X7.here hx rfl (pc0 := 59) (pc' := 66) rfl (hb hby d3_59) rfl ((if0 _ _).trans (teq hc59_9).1) (by decide) (by decide) k) ?_
          show OwnEnds _ _ _ _ (T7.setTop (mkF m 66 #[.val (.int kk), .val (.int ((own_bc (kk &&& (-29 : Int32))) + (own_r kk))), .val (.int (own_bo kk))] []))
          refine OwnEnds.via (fun t k => XS.iconst X7.here hx rfl (hb hby d3_66) k) ?_
          show OwnEnds _ _ _ _ (T7.setTop (mkF m 67 #[.val (.int kk), .val (.int ((own_bc (kk &&& (-29 : Int32))) + (own_r kk))), .val (.int (own_bo kk))] [(.int (0 : Int32))]))
          obtain ⟨fs, hr, hrun, hended, hW, hsame⟩ := X7.leave (v := some (.int (0 : Int32))) (fun h => by rw [Bd.returns] at h; cases h)
          refine ⟨_, _, ?_, hrun, hended, _, _, rfl, ?_, ⟨_, rfl⟩, hW, hsame.mono (by decide) (by decide)⟩
          · exact retN X7 hx (t := .boolean) Bd.returns (by simp) (hb hby d3_67) hr
          · show Q3 Z kk ko kp h0 n0 _ T7.heap _
            rw [e7]
            exact ⟨(by rw [own_cl, if_pos hc55_8, if_pos hc59_9]), N7, rfl⟩
        ·
          refine OwnEnds.via (fun t k => XS.ifNo X7.here hx rfl (hb hby d3_59) rfl ((if0 _ _).trans (feq hc59_9).1) k) ?_
          show OwnEnds _ _ _ _ (T7.setTop (mkF m 62 #[.val (.int kk), .val (.int ((own_bc (kk &&& (-29 : Int32))) + (own_r kk))), .val (.int (own_bo kk))] []))
          refine OwnEnds.via (fun t k => XS.iconst X7.here hx rfl (hb hby d3_62) k) ?_
          show OwnEnds _ _ _ _ (T7.setTop (mkF m 63 #[.val (.int kk), .val (.int ((own_bc (kk &&& (-29 : Int32))) + (own_r kk))), .val (.int (own_bo kk))] [(.int (1 : Int32))]))
          refine OwnEnds.via (fun t k => XS.goto X7.here hx rfl (pc0 := 63) (pc' := 67) rfl (hb hby d3_63) (by decide) (by decide) k) ?_
          show OwnEnds _ _ _ _ (T7.setTop (mkF m 67 #[.val (.int kk), .val (.int ((own_bc (kk &&& (-29 : Int32))) + (own_r kk))), .val (.int (own_bo kk))] [(.int (1 : Int32))]))
          obtain ⟨fs, hr, hrun, hended, hW, hsame⟩ := X7.leave (v := some (.int (1 : Int32))) (fun h => by rw [Bd.returns] at h; cases h)
          refine ⟨_, _, ?_, hrun, hended, _, _, rfl, ?_, ⟨_, rfl⟩, hW, hsame.mono (by decide) (by decide)⟩
          · exact retN X7 hx (t := .boolean) Bd.returns (by simp) (hb hby d3_67) hr
          · show Q3 Z kk ko kp h0 n0 _ T7.heap _
            rw [e7]
            exact ⟨(by rw [own_cl, if_pos hc55_8, if_neg hc59_9]), N7, rfl⟩
      ·
        refine OwnEnds.via (fun t k => XS.icmpYes X7.here hx rfl (pc0 := 55) (pc' := 62) rfl (hb hby d3_55) rfl (flt hc55_8).2.1 (by decide) (by decide) k) ?_
        show OwnEnds _ _ _ _ (T7.setTop (mkF m 62 #[.val (.int kk), .val (.int ((own_bc (kk &&& (-29 : Int32))) + (own_r kk))), .val (.int (own_bo kk))] []))
        refine OwnEnds.via (fun t k => XS.iconst X7.here hx rfl (hb hby d3_62) k) ?_
        show OwnEnds _ _ _ _ (T7.setTop (mkF m 63 #[.val (.int kk), .val (.int ((own_bc (kk &&& (-29 : Int32))) + (own_r kk))), .val (.int (own_bo kk))] [(.int (1 : Int32))]))
        refine OwnEnds.via (fun t k => XS.goto X7.here hx rfl (pc0 := 63) (pc' := 67) rfl (hb hby d3_63) (by decide) (by decide) k) ?_
        show OwnEnds _ _ _ _ (T7.setTop (mkF m 67 #[.val (.int kk), .val (.int ((own_bc (kk &&& (-29 : Int32))) + (own_r kk))), .val (.int (own_bo kk))] [(.int (1 : Int32))]))
        obtain ⟨fs, hr, hrun, hended, hW, hsame⟩ := X7.leave (v := some (.int (1 : Int32))) (fun h => by rw [Bd.returns] at h; cases h)
        refine ⟨_, _, ?_, hrun, hended, _, _, rfl, ?_, ⟨_, rfl⟩, hW, hsame.mono (by decide) (by decide)⟩
        · exact retN X7 hx (t := .boolean) Bd.returns (by simp) (hb hby d3_67) hr
        · show Q3 Z kk ko kp h0 n0 _ T7.heap _
          rw [e7]
          exact ⟨(by rw [own_cl, if_neg hc55_8]), N7, rfl⟩
    intro J7
    by_cases hc33_10 : (kk &&& ((1 : Int32) <<< ((2 : Int32) &&& 31))) = (0 : Int32)
    ·
      refine OwnEnds.via (fun t k => XS.ifYes X6.here hx rfl (pc0 := 33) (pc' := 51) rfl (hb hby d3_33) rfl ((if0 _ _).trans (teq hc33_10).1) (by decide) (by decide) k) ?_
      show OwnEnds _ _ _ _ (T6.setTop (mkF m 51 #[.val (.int kk), .val (.int ((own_bc (kk &&& (-29 : Int32))) + (own_r kk))), .unset] []))
      refine OwnEnds.via (fun t k => XS.iconst X6.here hx rfl (hb hby d3_51) k) ?_
      exact J7 _ _ X6 e6 N6 (0 : Int32) (by rw [own_bo, if_pos hc33_10])
    ·
      refine OwnEnds.via (fun t k => XS.ifNo X6.here hx rfl (hb hby d3_33) rfl ((if0 _ _).trans (feq hc33_10).1) k) ?_
      show OwnEnds _ _ _ _ (T6.setTop (mkF m 36 #[.val (.int kk), .val (.int ((own_bc (kk &&& (-29 : Int32))) + (own_r kk))), .unset] []))
      refine OwnEnds.via (fun t k => XS.iloadN X6.here hx rfl (hb hby d3_36) rfl k) ?_
      show OwnEnds _ _ _ _ (T6.setTop (mkF m 37 #[.val (.int kk), .val (.int ((own_bc (kk &&& (-29 : Int32))) + (own_r kk))), .unset] [(.int kk)]))
      obtain ⟨T11, X11, e11, st11⟩ := getS2 X6 hx hZ hown (host := "") (Or.inl (hw _ (List.mem_of_getElem? (i := 64) rfl))) Via.refl e6 (OP2.ext O0.2) (g := (mkF m 37 #[.val (.int kk), .val (.int ((own_bc (kk &&& (-29 : Int32))) + (own_r kk))), .unset] [(.int kk)])) rfl (hb hby d3_37)
      refine OwnEnds.via st11 ?_
      show OwnEnds _ _ _ _ (T11.setTop (mkF m 40 #[.val (.int kk), .val (.int ((own_bc (kk &&& (-29 : Int32))) + (own_r kk))), .unset] [(.ref kp), (.int kk)]))
      obtain ⟨cq12, kq12, q12a, q12b, q12c⟩ := isOf hZ e11 (OP4.ext O0.2)
      obtain ⟨_, _, ⟨T12, L12, k12, n12⟩, -, X12, ⟨Lc12, hQ12, l12, y12, z12⟩, st12⟩ := X11.virtualBack hx (y := (⟨"com/example/stratal/stratal/logic/Kind", "bit", "()I"⟩ : MethodName)) (z := (⟨"com/example/stratal/stratal/logic/Kind", "bit", "()I"⟩ : MethodName)) hown (mvT hZ (hw _ (List.mem_of_getElem? (i := 38) rfl))) (mvT hZ (hw _ (List.mem_of_getElem? (i := 39) rfl))) (notFace_of_selects (args := #[]) (mvT hZ (hw _ (List.mem_of_getElem? (i := 41) rfl)))) (mvT hZ (hw _ (List.mem_of_getElem? (i := 41) rfl))) (mvT hZ (hw _ (List.mem_of_getElem? (i := 40) rfl))) (by decide) (backOf (W := 1) (rm5 l Z a0 hw [] kp (3 : Int32) h0 n0 Z0 (OP4.ext O0.2) (OP6.ext O0.2)) hZ (hw _ (List.mem_of_getElem? (i := 42) rfl)) (hw _ (List.mem_of_getElem? (i := 36) rfl)) (by decide) (by decide)) q12a q12c (g := (mkF m 40 #[.val (.int kk), .val (.int ((own_bc (kk &&& (-29 : Int32))) + (own_r kk))), .unset] [(.ref kp), (.int kk)])) rfl (by rw [hml]; rfl) (Steps.refl _) (argsL := []) (rest := [(.int kk)]) (lenOf pd_0 rfl) rfl (by show 2 * 0 + _ ≤ _; exact Nat.le_of_eq rfl) (hb hby d3_40) (fun _ _ => ⟨rfl, e11, (by decide : 0 + 0 ≤ _), (by decide : 0 + 0 ≤ _)⟩)
      dsimp only [Pt.U, Pt.locs, Pt.cells, Pt.slots] at X12 l12 y12 z12 st12 hQ12
      subst l12 y12 z12
      obtain ⟨rfl, Nq12, e12⟩ := hQ12
      have N12 := Fr.app N6 Nq12
      refine OwnEnds.via (fun t k => st12.trans k) ?_
      show OwnEnds _ _ _ _ (T12.setTop (mkF m 43 #[.val (.int kk), .val (.int ((own_bc (kk &&& (-29 : Int32))) + (own_r kk))), .unset] [(.int ((1 : Int32) <<< ((3 : Int32) &&& 31))), (.int kk)]))
      refine OwnEnds.via (fun t k => XS.iand X12.here hx rfl (hb hby d3_43) rfl k) ?_
      show OwnEnds _ _ _ _ (T12.setTop (mkF m 44 #[.val (.int kk), .val (.int ((own_bc (kk &&& (-29 : Int32))) + (own_r kk))), .unset] [(.int (kk &&& ((1 : Int32) <<< ((3 : Int32) &&& 31))))]))
      by_cases hc44_13 : (kk &&& ((1 : Int32) <<< ((3 : Int32) &&& 31))) = (0 : Int32)
      ·
        refine OwnEnds.via (fun t k => XS.ifYes X12.here hx rfl (pc0 := 44) (pc' := 51) rfl (hb hby d3_44) rfl ((if0 _ _).trans (teq hc44_13).1) (by decide) (by decide) k) ?_
        show OwnEnds _ _ _ _ (T12.setTop (mkF m 51 #[.val (.int kk), .val (.int ((own_bc (kk &&& (-29 : Int32))) + (own_r kk))), .unset] []))
        refine OwnEnds.via (fun t k => XS.iconst X12.here hx rfl (hb hby d3_51) k) ?_
        exact J7 _ _ X12 e12 N12 (0 : Int32) (by rw [own_bo, if_neg hc33_10, if_pos hc44_13])
      ·
        refine OwnEnds.via (fun t k => XS.ifNo X12.here hx rfl (hb hby d3_44) rfl ((if0 _ _).trans (feq hc44_13).1) k) ?_
        show OwnEnds _ _ _ _ (T12.setTop (mkF m 47 #[.val (.int kk), .val (.int ((own_bc (kk &&& (-29 : Int32))) + (own_r kk))), .unset] []))
        refine OwnEnds.via (fun t k => XS.iconst X12.here hx rfl (hb hby d3_47) k) ?_
        show OwnEnds _ _ _ _ (T12.setTop (mkF m 48 #[.val (.int kk), .val (.int ((own_bc (kk &&& (-29 : Int32))) + (own_r kk))), .unset] [(.int (1 : Int32))]))
        refine OwnEnds.via (fun t k => XS.goto X12.here hx rfl (pc0 := 48) (pc' := 52) rfl (hb hby d3_48) (by decide) (by decide) k) ?_
        exact J7 _ _ X12 e12 N12 (1 : Int32) (by rw [own_bo, if_neg hc33_10, if_neg hc44_13])
  intro J4
  by_cases hc15_14 : (kk &&& (28 : Int32)) = (0 : Int32)
  ·
    refine OwnEnds.via (fun t k => XS.ifYes X3.here hx rfl (pc0 := 15) (pc' := 22) rfl (hb hby d3_15) rfl ((if0 _ _).trans (teq hc15_14).1) (by decide) (by decide) k) ?_
    show OwnEnds _ _ _ _ (T3.setTop (mkF m 22 #[.val (.int kk), .unset, .unset] [(.int (own_bc (kk &&& (-29 : Int32))))]))
    refine OwnEnds.via (fun t k => XS.iconst X3.here hx rfl (hb hby d3_22) k) ?_
    exact J4 _ _ X3 e3 N2 (0 : Int32) (by rw [own_r, if_pos hc15_14])
  ·
    refine OwnEnds.via (fun t k => XS.ifNo X3.here hx rfl (hb hby d3_15) rfl ((if0 _ _).trans (feq hc15_14).1) k) ?_
    show OwnEnds _ _ _ _ (T3.setTop (mkF m 18 #[.val (.int kk), .unset, .unset] [(.int (own_bc (kk &&& (-29 : Int32))))]))
    refine OwnEnds.via (fun t k => XS.iconst X3.here hx rfl (hb hby d3_18) k) ?_
    show OwnEnds _ _ _ _ (T3.setTop (mkF m 19 #[.val (.int kk), .unset, .unset] [(.int (1 : Int32)), (.int (own_bc (kk &&& (-29 : Int32))))]))
    refine OwnEnds.via (fun t k => XS.goto X3.here hx rfl (pc0 := 19) (pc' := 23) rfl (hb hby d3_19) (by decide) (by decide) k) ?_
    exact J4 _ _ X3 e3 N2 (1 : Int32) (by rw [own_r, if_neg hc15_14])

theorem d8_0 : decode method_3_code 0 = .ok (.iload_n 0, 1) := by decide +kernel
theorem d8_1 : decode method_3_code 1 = .ok (.iconst 1, 1) := by decide +kernel
theorem d8_2 : decode method_3_code 2 = .ok (.iand, 1) := by decide +kernel
theorem d8_3 : decode method_3_code 3 = .ok (.istore_n 1, 1) := by decide +kernel
theorem d8_4 : decode method_3_code 4 = .ok (.iload_n 0, 1) := by decide +kernel
theorem d8_5 : decode method_3_code 5 = .ok (.iconst 1, 1) := by decide +kernel
theorem d8_6 : decode method_3_code 6 = .ok (.ishr, 1) := by decide +kernel
theorem d8_7 : decode method_3_code 7 = .ok (.iconst 1, 1) := by decide +kernel
theorem d8_8 : decode method_3_code 8 = .ok (.iand, 1) := by decide +kernel
theorem d8_9 : decode method_3_code 9 = .ok (.istore_n 2, 1) := by decide +kernel
theorem d8_10 : decode method_3_code 10 = .ok (.iload_n 0, 1) := by decide +kernel
theorem d8_11 : decode method_3_code 11 = .ok (.bipush 28, 2) := by decide +kernel
theorem d8_13 : decode method_3_code 13 = .ok (.iand, 1) := by decide +kernel
theorem d8_14 : decode method_3_code 14 = .ok (.ifCond .eq 7, 3) := by decide +kernel
theorem d8_17 : decode method_3_code 17 = .ok (.iconst 1, 1) := by decide +kernel
theorem d8_18 : decode method_3_code 18 = .ok (.goto 4, 3) := by decide +kernel
theorem d8_21 : decode method_3_code 21 = .ok (.iconst 0, 1) := by decide +kernel
theorem d8_22 : decode method_3_code 22 = .ok (.istore_n 3, 1) := by decide +kernel
theorem d8_23 : decode method_3_code 23 = .ok (.iload_n 0, 1) := by decide +kernel
theorem d8_24 : decode method_3_code 24 = .ok (.iconst 5, 1) := by decide +kernel
theorem d8_25 : decode method_3_code 25 = .ok (.ishr, 1) := by decide +kernel
theorem d8_26 : decode method_3_code 26 = .ok (.iconst 1, 1) := by decide +kernel
theorem d8_27 : decode method_3_code 27 = .ok (.iand, 1) := by decide +kernel
theorem d8_28 : decode method_3_code 28 = .ok (.istore 4, 2) := by decide +kernel
theorem d8_30 : decode method_3_code 30 = .ok (.iload_n 1, 1) := by decide +kernel
theorem d8_31 : decode method_3_code 31 = .ok (.iload_n 2, 1) := by decide +kernel
theorem d8_32 : decode method_3_code 32 = .ok (.iadd, 1) := by decide +kernel
theorem d8_33 : decode method_3_code 33 = .ok (.iload_n 3, 1) := by decide +kernel
theorem d8_34 : decode method_3_code 34 = .ok (.iadd, 1) := by decide +kernel
theorem d8_35 : decode method_3_code 35 = .ok (.iload 4, 2) := by decide +kernel
theorem d8_37 : decode method_3_code 37 = .ok (.iadd, 1) := by decide +kernel
theorem d8_38 : decode method_3_code 38 = .ok (.istore 5, 2) := by decide +kernel
theorem d8_40 : decode method_3_code 40 = .ok (.iload_n 0, 1) := by decide +kernel
theorem d8_41 : decode method_3_code 41 = .ok (.iconst 4, 1) := by decide +kernel
theorem d8_42 : decode method_3_code 42 = .ok (.iand, 1) := by decide +kernel
theorem d8_43 : decode method_3_code 43 = .ok (.ifCond .eq 14, 3) := by decide +kernel
theorem d8_46 : decode method_3_code 46 = .ok (.iload_n 0, 1) := by decide +kernel
theorem d8_47 : decode method_3_code 47 = .ok (.bipush 8, 2) := by decide +kernel
theorem d8_49 : decode method_3_code 49 = .ok (.iand, 1) := by decide +kernel
theorem d8_50 : decode method_3_code 50 = .ok (.ifCond .eq 7, 3) := by decide +kernel
theorem d8_53 : decode method_3_code 53 = .ok (.iconst 1, 1) := by decide +kernel
theorem d8_54 : decode method_3_code 54 = .ok (.goto 4, 3) := by decide +kernel
theorem d8_57 : decode method_3_code 57 = .ok (.iconst 0, 1) := by decide +kernel
theorem d8_58 : decode method_3_code 58 = .ok (.istore 6, 2) := by decide +kernel
theorem d8_60 : decode method_3_code 60 = .ok (.iload 5, 2) := by decide +kernel
theorem d8_62 : decode method_3_code 62 = .ok (.iconst 2, 1) := by decide +kernel
theorem d8_63 : decode method_3_code 63 = .ok (.if_icmp .ge 8, 3) := by decide +kernel
theorem d8_66 : decode method_3_code 66 = .ok (.iload 6, 2) := by decide +kernel
theorem d8_68 : decode method_3_code 68 = .ok (.ifCond .eq 7, 3) := by decide +kernel
theorem d8_71 : decode method_3_code 71 = .ok (.iconst 1, 1) := by decide +kernel
theorem d8_72 : decode method_3_code 72 = .ok (.goto 4, 3) := by decide +kernel
theorem d8_75 : decode method_3_code 75 = .ok (.iconst 0, 1) := by decide +kernel
theorem d8_76 : decode method_3_code 76 = .ok (.ireturn, 1) := by decide +kernel
theorem pn_rm8 : plainName "com/example/stratal/stratal/logic/LayerReportIsClashPinLaw" = true := by first | (simp [plainName, overriddenIn]; done) | decide +kernel
theorem ef_rm8 (m : MethodId) (kk : Int32) : entryFrame m #[(.int kk)] 7 = mkF m 0 #[.val (.int kk), .unset, .unset, .unset, .unset, .unset, .unset] [] := by first | (simp [entryFrame, mkF, argsToLocals, Value.category]; done) | rfl
def Q8 (Z : State) (kk : Int32) (h0 : Heap) (n0 : Nat) (v : Option Value) (h : Heap) (L : List Loc) : Prop := v = some (.int (own_lc kk)) ∧ Fr n0 L ∧ h = h0
set_option maxRecDepth 65536 in
set_option maxHeartbeats 40000000 in
theorem rm8 (l : Launch) (Z : State) (a0 : Array Value) (hw : ∀ d ∈ tables_1, d.before a0 Z = true) (ws : List Jvm.Cond) (kk : Int32) (h0 : Heap) (n0 : Nat) (Z0 : n0 ≤ h0.size)  :
    MetFree l (⟨"com/example/stratal/stratal/logic/LayerReportIsClashPinLaw", "clash", "(I)Z"⟩ : MethodName) (head1 (Jvm.Cond.code (⟨"com/example/stratal/stratal/logic/LayerReportIsClashPinLaw", "clash", "(I)Z"⟩ : MethodName) method_3_code 7 (some .boolean) :: ws) ({ frames := 0, cells := 0, slots := 0, locals := 0 } : Room)) (fun aa U => aa = #[(.int kk)] ∧ Z.Warmed39 U.vm ∧ U.heap = h0) (fun _ _ _ _ _ => True) (fun _ U o U' => ∃ v L, o = .returned v ∧ Q8 Z kk h0 n0 v U'.heap L ∧ FrameEnd U o U' L ({ frames := 0, cells := 0, slots := 0, locals := 0 } : Room).cells ({ frames := 0, cells := 0, slots := 0, locals := 0 } : Room).slots) := by
  refine MetFree.of_bodySF (plainFor_of_name pn_rm8) hisR ?_
  intro p e s m args below meth c s₁ Bd hml0 hP hK
  obtain ⟨rfl, hZ, hh⟩ := hP
  have hx := Bd.exec
  have hby := Bd.bytes
  have hml : c.maxLocals = 7 := hml0
  have hown : s.vm.findClass "com/example/stratal/stratal/logic/LayerReportIsClashPinLaw" = some m.cls := findClass_of_methodNamed Bd.named
  have hnm := (name_of_methodNamed Bd.named Bd.method).1
  have X0 : Stand p l e ({ frames := 0, cells := 0, slots := 0, locals := 0 } : Room) s m #[(.int kk)] below meth c s₁ [] 0 0 := Stand.of_body Bd
  have e0 : s₁.heap = h0 := by rw [← hh, Bd.state]; rfl
  have N0 := Fr.nil n0
  change OwnEnds p.tables e below _ _
  refine OwnEnds.via (fun t k => castTop (ef_rm8 m kk) k) ?_
  show OwnEnds _ _ _ _ (s₁.setTop (mkF m 0 #[.val (.int kk), .unset, .unset, .unset, .unset, .unset, .unset] []))
  refine OwnEnds.via (fun t k => XS.iloadN X0.here hx rfl (hb hby d8_0) rfl k) ?_
  show OwnEnds _ _ _ _ (s₁.setTop (mkF m 1 #[.val (.int kk), .unset, .unset, .unset, .unset, .unset, .unset] [(.int kk)]))
  refine OwnEnds.via (fun t k => XS.iconst X0.here hx rfl (hb hby d8_1) k) ?_
  show OwnEnds _ _ _ _ (s₁.setTop (mkF m 2 #[.val (.int kk), .unset, .unset, .unset, .unset, .unset, .unset] [(.int (1 : Int32)), (.int kk)]))
  refine OwnEnds.via (fun t k => XS.iand X0.here hx rfl (hb hby d8_2) rfl k) ?_
  show OwnEnds _ _ _ _ (s₁.setTop (mkF m 3 #[.val (.int kk), .unset, .unset, .unset, .unset, .unset, .unset] [(.int (kk &&& (1 : Int32)))]))
  refine OwnEnds.via (fun t k => XS.istoreN X0.here hx rfl (hb hby d8_3) rfl (l' := #[.val (.int kk), .val (.int (kk &&& (1 : Int32))), .unset, .unset, .unset, .unset, .unset]) rfl k) ?_
  show OwnEnds _ _ _ _ (s₁.setTop (mkF m 4 #[.val (.int kk), .val (.int (kk &&& (1 : Int32))), .unset, .unset, .unset, .unset, .unset] []))
  refine OwnEnds.via (fun t k => XS.iloadN X0.here hx rfl (hb hby d8_4) rfl k) ?_
  show OwnEnds _ _ _ _ (s₁.setTop (mkF m 5 #[.val (.int kk), .val (.int (kk &&& (1 : Int32))), .unset, .unset, .unset, .unset, .unset] [(.int kk)]))
  refine OwnEnds.via (fun t k => XS.iconst X0.here hx rfl (hb hby d8_5) k) ?_
  show OwnEnds _ _ _ _ (s₁.setTop (mkF m 6 #[.val (.int kk), .val (.int (kk &&& (1 : Int32))), .unset, .unset, .unset, .unset, .unset] [(.int (1 : Int32)), (.int kk)]))
  refine OwnEnds.via (fun t k => XS.ishr X0.here hx rfl (hb hby d8_6) rfl k) ?_
  show OwnEnds _ _ _ _ (s₁.setTop (mkF m 7 #[.val (.int kk), .val (.int (kk &&& (1 : Int32))), .unset, .unset, .unset, .unset, .unset] [(.int (kk >>> ((1 : Int32) &&& 31)))]))
  refine OwnEnds.via (fun t k => XS.iconst X0.here hx rfl (hb hby d8_7) k) ?_
  show OwnEnds _ _ _ _ (s₁.setTop (mkF m 8 #[.val (.int kk), .val (.int (kk &&& (1 : Int32))), .unset, .unset, .unset, .unset, .unset] [(.int (1 : Int32)), (.int (kk >>> ((1 : Int32) &&& 31)))]))
  refine OwnEnds.via (fun t k => XS.iand X0.here hx rfl (hb hby d8_8) rfl k) ?_
  show OwnEnds _ _ _ _ (s₁.setTop (mkF m 9 #[.val (.int kk), .val (.int (kk &&& (1 : Int32))), .unset, .unset, .unset, .unset, .unset] [(.int ((kk >>> ((1 : Int32) &&& 31)) &&& (1 : Int32)))]))
  refine OwnEnds.via (fun t k => XS.istoreN X0.here hx rfl (hb hby d8_9) rfl (l' := #[.val (.int kk), .val (.int (kk &&& (1 : Int32))), .val (.int ((kk >>> ((1 : Int32) &&& 31)) &&& (1 : Int32))), .unset, .unset, .unset, .unset]) rfl k) ?_
  show OwnEnds _ _ _ _ (s₁.setTop (mkF m 10 #[.val (.int kk), .val (.int (kk &&& (1 : Int32))), .val (.int ((kk >>> ((1 : Int32) &&& 31)) &&& (1 : Int32))), .unset, .unset, .unset, .unset] []))
  refine OwnEnds.via (fun t k => XS.iloadN X0.here hx rfl (hb hby d8_10) rfl k) ?_
  show OwnEnds _ _ _ _ (s₁.setTop (mkF m 11 #[.val (.int kk), .val (.int (kk &&& (1 : Int32))), .val (.int ((kk >>> ((1 : Int32) &&& 31)) &&& (1 : Int32))), .unset, .unset, .unset, .unset] [(.int kk)]))
  refine OwnEnds.via (fun t k => XS.bipush X0.here hx rfl (hb hby d8_11) k) ?_
  show OwnEnds _ _ _ _ (s₁.setTop (mkF m 13 #[.val (.int kk), .val (.int (kk &&& (1 : Int32))), .val (.int ((kk >>> ((1 : Int32) &&& 31)) &&& (1 : Int32))), .unset, .unset, .unset, .unset] [(.int (28 : Int32)), (.int kk)]))
  refine OwnEnds.via (fun t k => XS.iand X0.here hx rfl (hb hby d8_13) rfl k) ?_
  show OwnEnds _ _ _ _ (s₁.setTop (mkF m 14 #[.val (.int kk), .val (.int (kk &&& (1 : Int32))), .val (.int ((kk >>> ((1 : Int32) &&& 31)) &&& (1 : Int32))), .unset, .unset, .unset, .unset] [(.int (kk &&& (28 : Int32)))]))
  refine OwnEnds.cut (fun G => ∀ (T1 : State) (lc1 : List Loc) (X1 : Stand p l e ({ frames := 0, cells := 0, slots := 0, locals := 0 } : Room) s m #[(.int kk)] below meth c T1 lc1 0 0) (e1 : T1.heap = h0) (N1 : Fr n0 lc1) (rr : Int32) (hj1_0 : rr = (own_r kk)), G (T1.setTop (mkF m 22 #[.val (.int kk), .val (.int (kk &&& (1 : Int32))), .val (.int ((kk >>> ((1 : Int32) &&& 31)) &&& (1 : Int32))), .unset, .unset, .unset, .unset] [(.int rr)]))) ?_ ?_
  · intro T1 lc1 X1 e1 N1 rr hj1_0
    subst hj1_0
    show OwnEnds _ _ _ _ (T1.setTop (mkF m 22 #[.val (.int kk), .val (.int (kk &&& (1 : Int32))), .val (.int ((kk >>> ((1 : Int32) &&& 31)) &&& (1 : Int32))), .unset, .unset, .unset, .unset] [(.int (own_r kk))]))
    refine OwnEnds.via (fun t k => XS.istoreN X1.here hx rfl (hb hby d8_22) rfl (l' := #[.val (.int kk), .val (.int (kk &&& (1 : Int32))), .val (.int ((kk >>> ((1 : Int32) &&& 31)) &&& (1 : Int32))), .val (.int (own_r kk)), .unset, .unset, .unset]) rfl k) ?_
    show OwnEnds _ _ _ _ (T1.setTop (mkF m 23 #[.val (.int kk), .val (.int (kk &&& (1 : Int32))), .val (.int ((kk >>> ((1 : Int32) &&& 31)) &&& (1 : Int32))), .val (.int (own_r kk)), .unset, .unset, .unset] []))
    refine OwnEnds.via (fun t k => XS.iloadN X1.here hx rfl (hb hby d8_23) rfl k) ?_
    show OwnEnds _ _ _ _ (T1.setTop (mkF m 24 #[.val (.int kk), .val (.int (kk &&& (1 : Int32))), .val (.int ((kk >>> ((1 : Int32) &&& 31)) &&& (1 : Int32))), .val (.int (own_r kk)), .unset, .unset, .unset] [(.int kk)]))
    refine OwnEnds.via (fun t k => XS.iconst X1.here hx rfl (hb hby d8_24) k) ?_
    show OwnEnds _ _ _ _ (T1.setTop (mkF m 25 #[.val (.int kk), .val (.int (kk &&& (1 : Int32))), .val (.int ((kk >>> ((1 : Int32) &&& 31)) &&& (1 : Int32))), .val (.int (own_r kk)), .unset, .unset, .unset] [(.int (5 : Int32)), (.int kk)]))
    refine OwnEnds.via (fun t k => XS.ishr X1.here hx rfl (hb hby d8_25) rfl k) ?_
    show OwnEnds _ _ _ _ (T1.setTop (mkF m 26 #[.val (.int kk), .val (.int (kk &&& (1 : Int32))), .val (.int ((kk >>> ((1 : Int32) &&& 31)) &&& (1 : Int32))), .val (.int (own_r kk)), .unset, .unset, .unset] [(.int (kk >>> ((5 : Int32) &&& 31)))]))
    refine OwnEnds.via (fun t k => XS.iconst X1.here hx rfl (hb hby d8_26) k) ?_
    show OwnEnds _ _ _ _ (T1.setTop (mkF m 27 #[.val (.int kk), .val (.int (kk &&& (1 : Int32))), .val (.int ((kk >>> ((1 : Int32) &&& 31)) &&& (1 : Int32))), .val (.int (own_r kk)), .unset, .unset, .unset] [(.int (1 : Int32)), (.int (kk >>> ((5 : Int32) &&& 31)))]))
    refine OwnEnds.via (fun t k => XS.iand X1.here hx rfl (hb hby d8_27) rfl k) ?_
    show OwnEnds _ _ _ _ (T1.setTop (mkF m 28 #[.val (.int kk), .val (.int (kk &&& (1 : Int32))), .val (.int ((kk >>> ((1 : Int32) &&& 31)) &&& (1 : Int32))), .val (.int (own_r kk)), .unset, .unset, .unset] [(.int ((kk >>> ((5 : Int32) &&& 31)) &&& (1 : Int32)))]))
    refine OwnEnds.via (fun t k => XS.istore X1.here hx rfl (hb hby d8_28) rfl (l' := #[.val (.int kk), .val (.int (kk &&& (1 : Int32))), .val (.int ((kk >>> ((1 : Int32) &&& 31)) &&& (1 : Int32))), .val (.int (own_r kk)), .val (.int ((kk >>> ((5 : Int32) &&& 31)) &&& (1 : Int32))), .unset, .unset]) rfl k) ?_
    show OwnEnds _ _ _ _ (T1.setTop (mkF m 30 #[.val (.int kk), .val (.int (kk &&& (1 : Int32))), .val (.int ((kk >>> ((1 : Int32) &&& 31)) &&& (1 : Int32))), .val (.int (own_r kk)), .val (.int ((kk >>> ((5 : Int32) &&& 31)) &&& (1 : Int32))), .unset, .unset] []))
    refine OwnEnds.via (fun t k => XS.iloadN X1.here hx rfl (hb hby d8_30) rfl k) ?_
    show OwnEnds _ _ _ _ (T1.setTop (mkF m 31 #[.val (.int kk), .val (.int (kk &&& (1 : Int32))), .val (.int ((kk >>> ((1 : Int32) &&& 31)) &&& (1 : Int32))), .val (.int (own_r kk)), .val (.int ((kk >>> ((5 : Int32) &&& 31)) &&& (1 : Int32))), .unset, .unset] [(.int (kk &&& (1 : Int32)))]))
    refine OwnEnds.via (fun t k => XS.iloadN X1.here hx rfl (hb hby d8_31) rfl k) ?_
    show OwnEnds _ _ _ _ (T1.setTop (mkF m 32 #[.val (.int kk), .val (.int (kk &&& (1 : Int32))), .val (.int ((kk >>> ((1 : Int32) &&& 31)) &&& (1 : Int32))), .val (.int (own_r kk)), .val (.int ((kk >>> ((5 : Int32) &&& 31)) &&& (1 : Int32))), .unset, .unset] [(.int ((kk >>> ((1 : Int32) &&& 31)) &&& (1 : Int32))), (.int (kk &&& (1 : Int32)))]))
    refine OwnEnds.via (fun t k => XS.iadd X1.here hx rfl (hb hby d8_32) rfl k) ?_
    show OwnEnds _ _ _ _ (T1.setTop (mkF m 33 #[.val (.int kk), .val (.int (kk &&& (1 : Int32))), .val (.int ((kk >>> ((1 : Int32) &&& 31)) &&& (1 : Int32))), .val (.int (own_r kk)), .val (.int ((kk >>> ((5 : Int32) &&& 31)) &&& (1 : Int32))), .unset, .unset] [(.int ((kk &&& (1 : Int32)) + ((kk >>> ((1 : Int32) &&& 31)) &&& (1 : Int32))))]))
    refine OwnEnds.via (fun t k => XS.iloadN X1.here hx rfl (hb hby d8_33) rfl k) ?_
    show OwnEnds _ _ _ _ (T1.setTop (mkF m 34 #[.val (.int kk), .val (.int (kk &&& (1 : Int32))), .val (.int ((kk >>> ((1 : Int32) &&& 31)) &&& (1 : Int32))), .val (.int (own_r kk)), .val (.int ((kk >>> ((5 : Int32) &&& 31)) &&& (1 : Int32))), .unset, .unset] [(.int (own_r kk)), (.int ((kk &&& (1 : Int32)) + ((kk >>> ((1 : Int32) &&& 31)) &&& (1 : Int32))))]))
    refine OwnEnds.via (fun t k => XS.iadd X1.here hx rfl (hb hby d8_34) rfl k) ?_
    show OwnEnds _ _ _ _ (T1.setTop (mkF m 35 #[.val (.int kk), .val (.int (kk &&& (1 : Int32))), .val (.int ((kk >>> ((1 : Int32) &&& 31)) &&& (1 : Int32))), .val (.int (own_r kk)), .val (.int ((kk >>> ((5 : Int32) &&& 31)) &&& (1 : Int32))), .unset, .unset] [(.int (((kk &&& (1 : Int32)) + ((kk >>> ((1 : Int32) &&& 31)) &&& (1 : Int32))) + (own_r kk)))]))
    refine OwnEnds.via (fun t k => XS.iload X1.here hx rfl (hb hby d8_35) rfl k) ?_
    show OwnEnds _ _ _ _ (T1.setTop (mkF m 37 #[.val (.int kk), .val (.int (kk &&& (1 : Int32))), .val (.int ((kk >>> ((1 : Int32) &&& 31)) &&& (1 : Int32))), .val (.int (own_r kk)), .val (.int ((kk >>> ((5 : Int32) &&& 31)) &&& (1 : Int32))), .unset, .unset] [(.int ((kk >>> ((5 : Int32) &&& 31)) &&& (1 : Int32))), (.int (((kk &&& (1 : Int32)) + ((kk >>> ((1 : Int32) &&& 31)) &&& (1 : Int32))) + (own_r kk)))]))
    refine OwnEnds.via (fun t k => XS.iadd X1.here hx rfl (hb hby d8_37) rfl k) ?_
    show OwnEnds _ _ _ _ (T1.setTop (mkF m 38 #[.val (.int kk), .val (.int (kk &&& (1 : Int32))), .val (.int ((kk >>> ((1 : Int32) &&& 31)) &&& (1 : Int32))), .val (.int (own_r kk)), .val (.int ((kk >>> ((5 : Int32) &&& 31)) &&& (1 : Int32))), .unset, .unset] [(.int ((((kk &&& (1 : Int32)) + ((kk >>> ((1 : Int32) &&& 31)) &&& (1 : Int32))) + (own_r kk)) + ((kk >>> ((5 : Int32) &&& 31)) &&& (1 : Int32))))]))
    refine OwnEnds.via (fun t k => XS.istore X1.here hx rfl (hb hby d8_38) rfl (l' := #[.val (.int kk), .val (.int (kk &&& (1 : Int32))), .val (.int ((kk >>> ((1 : Int32) &&& 31)) &&& (1 : Int32))), .val (.int (own_r kk)), .val (.int ((kk >>> ((5 : Int32) &&& 31)) &&& (1 : Int32))), .val (.int ((((kk &&& (1 : Int32)) + ((kk >>> ((1 : Int32) &&& 31)) &&& (1 : Int32))) + (own_r kk)) + ((kk >>> ((5 : Int32) &&& 31)) &&& (1 : Int32)))), .unset]) rfl k) ?_
    show OwnEnds _ _ _ _ (T1.setTop (mkF m 40 #[.val (.int kk), .val (.int (kk &&& (1 : Int32))), .val (.int ((kk >>> ((1 : Int32) &&& 31)) &&& (1 : Int32))), .val (.int (own_r kk)), .val (.int ((kk >>> ((5 : Int32) &&& 31)) &&& (1 : Int32))), .val (.int ((((kk &&& (1 : Int32)) + ((kk >>> ((1 : Int32) &&& 31)) &&& (1 : Int32))) + (own_r kk)) + ((kk >>> ((5 : Int32) &&& 31)) &&& (1 : Int32)))), .unset] []))
    refine OwnEnds.via (fun t k => XS.iloadN X1.here hx rfl (hb hby d8_40) rfl k) ?_
    show OwnEnds _ _ _ _ (T1.setTop (mkF m 41 #[.val (.int kk), .val (.int (kk &&& (1 : Int32))), .val (.int ((kk >>> ((1 : Int32) &&& 31)) &&& (1 : Int32))), .val (.int (own_r kk)), .val (.int ((kk >>> ((5 : Int32) &&& 31)) &&& (1 : Int32))), .val (.int ((((kk &&& (1 : Int32)) + ((kk >>> ((1 : Int32) &&& 31)) &&& (1 : Int32))) + (own_r kk)) + ((kk >>> ((5 : Int32) &&& 31)) &&& (1 : Int32)))), .unset] [(.int kk)]))
    refine OwnEnds.via (fun t k => XS.iconst X1.here hx rfl (hb hby d8_41) k) ?_
    show OwnEnds _ _ _ _ (T1.setTop (mkF m 42 #[.val (.int kk), .val (.int (kk &&& (1 : Int32))), .val (.int ((kk >>> ((1 : Int32) &&& 31)) &&& (1 : Int32))), .val (.int (own_r kk)), .val (.int ((kk >>> ((5 : Int32) &&& 31)) &&& (1 : Int32))), .val (.int ((((kk &&& (1 : Int32)) + ((kk >>> ((1 : Int32) &&& 31)) &&& (1 : Int32))) + (own_r kk)) + ((kk >>> ((5 : Int32) &&& 31)) &&& (1 : Int32)))), .unset] [(.int (4 : Int32)), (.int kk)]))
    refine OwnEnds.via (fun t k => XS.iand X1.here hx rfl (hb hby d8_42) rfl k) ?_
    show OwnEnds _ _ _ _ (T1.setTop (mkF m 43 #[.val (.int kk), .val (.int (kk &&& (1 : Int32))), .val (.int ((kk >>> ((1 : Int32) &&& 31)) &&& (1 : Int32))), .val (.int (own_r kk)), .val (.int ((kk >>> ((5 : Int32) &&& 31)) &&& (1 : Int32))), .val (.int ((((kk &&& (1 : Int32)) + ((kk >>> ((1 : Int32) &&& 31)) &&& (1 : Int32))) + (own_r kk)) + ((kk >>> ((5 : Int32) &&& 31)) &&& (1 : Int32)))), .unset] [(.int (kk &&& (4 : Int32)))]))
    refine OwnEnds.cut (fun G => ∀ (T2 : State) (lc2 : List Loc) (X2 : Stand p l e ({ frames := 0, cells := 0, slots := 0, locals := 0 } : Room) s m #[(.int kk)] below meth c T2 lc2 0 0) (e2 : T2.heap = h0) (N2 : Fr n0 lc2) (bo : Int32) (hj2_0 : bo = (own_bp kk)), G (T2.setTop (mkF m 58 #[.val (.int kk), .val (.int (kk &&& (1 : Int32))), .val (.int ((kk >>> ((1 : Int32) &&& 31)) &&& (1 : Int32))), .val (.int (own_r kk)), .val (.int ((kk >>> ((5 : Int32) &&& 31)) &&& (1 : Int32))), .val (.int ((((kk &&& (1 : Int32)) + ((kk >>> ((1 : Int32) &&& 31)) &&& (1 : Int32))) + (own_r kk)) + ((kk >>> ((5 : Int32) &&& 31)) &&& (1 : Int32)))), .unset] [(.int bo)]))) ?_ ?_
    · intro T2 lc2 X2 e2 N2 bo hj2_0
      subst hj2_0
      show OwnEnds _ _ _ _ (T2.setTop (mkF m 58 #[.val (.int kk), .val (.int (kk &&& (1 : Int32))), .val (.int ((kk >>> ((1 : Int32) &&& 31)) &&& (1 : Int32))), .val (.int (own_r kk)), .val (.int ((kk >>> ((5 : Int32) &&& 31)) &&& (1 : Int32))), .val (.int ((((kk &&& (1 : Int32)) + ((kk >>> ((1 : Int32) &&& 31)) &&& (1 : Int32))) + (own_r kk)) + ((kk >>> ((5 : Int32) &&& 31)) &&& (1 : Int32)))), .unset] [(.int (own_bp kk))]))
      refine OwnEnds.via (fun t k => XS.istore X2.here hx rfl (hb hby d8_58) rfl (l' := #[.val (.int kk), .val (.int (kk &&& (1 : Int32))), .val (.int ((kk >>> ((1 : Int32) &&& 31)) &&& (1 : Int32))), .val (.int (own_r kk)), .val (.int ((kk >>> ((5 : Int32) &&& 31)) &&& (1 : Int32))), .val (.int ((((kk &&& (1 : Int32)) + ((kk >>> ((1 : Int32) &&& 31)) &&& (1 : Int32))) + (own_r kk)) + ((kk >>> ((5 : Int32) &&& 31)) &&& (1 : Int32)))), .val (.int (own_bp kk))]) rfl k) ?_
      show OwnEnds _ _ _ _ (T2.setTop (mkF m 60 #[.val (.int kk), .val (.int (kk &&& (1 : Int32))), .val (.int ((kk >>> ((1 : Int32) &&& 31)) &&& (1 : Int32))), .val (.int (own_r kk)), .val (.int ((kk >>> ((5 : Int32) &&& 31)) &&& (1 : Int32))), .val (.int ((((kk &&& (1 : Int32)) + ((kk >>> ((1 : Int32) &&& 31)) &&& (1 : Int32))) + (own_r kk)) + ((kk >>> ((5 : Int32) &&& 31)) &&& (1 : Int32)))), .val (.int (own_bp kk))] []))
      refine OwnEnds.via (fun t k => XS.iload X2.here hx rfl (hb hby d8_60) rfl k) ?_
      show OwnEnds _ _ _ _ (T2.setTop (mkF m 62 #[.val (.int kk), .val (.int (kk &&& (1 : Int32))), .val (.int ((kk >>> ((1 : Int32) &&& 31)) &&& (1 : Int32))), .val (.int (own_r kk)), .val (.int ((kk >>> ((5 : Int32) &&& 31)) &&& (1 : Int32))), .val (.int ((((kk &&& (1 : Int32)) + ((kk >>> ((1 : Int32) &&& 31)) &&& (1 : Int32))) + (own_r kk)) + ((kk >>> ((5 : Int32) &&& 31)) &&& (1 : Int32)))), .val (.int (own_bp kk))] [(.int ((((kk &&& (1 : Int32)) + ((kk >>> ((1 : Int32) &&& 31)) &&& (1 : Int32))) + (own_r kk)) + ((kk >>> ((5 : Int32) &&& 31)) &&& (1 : Int32))))]))
      refine OwnEnds.via (fun t k => XS.iconst X2.here hx rfl (hb hby d8_62) k) ?_
      show OwnEnds _ _ _ _ (T2.setTop (mkF m 63 #[.val (.int kk), .val (.int (kk &&& (1 : Int32))), .val (.int ((kk >>> ((1 : Int32) &&& 31)) &&& (1 : Int32))), .val (.int (own_r kk)), .val (.int ((kk >>> ((5 : Int32) &&& 31)) &&& (1 : Int32))), .val (.int ((((kk &&& (1 : Int32)) + ((kk >>> ((1 : Int32) &&& 31)) &&& (1 : Int32))) + (own_r kk)) + ((kk >>> ((5 : Int32) &&& 31)) &&& (1 : Int32)))), .val (.int (own_bp kk))] [(.int (2 : Int32)), (.int ((((kk &&& (1 : Int32)) + ((kk >>> ((1 : Int32) &&& 31)) &&& (1 : Int32))) + (own_r kk)) + ((kk >>> ((5 : Int32) &&& 31)) &&& (1 : Int32))))]))
      by_cases hc63_3 : ((((kk &&& (1 : Int32)) + ((kk >>> ((1 : Int32) &&& 31)) &&& (1 : Int32))) + (own_r kk)) + ((kk >>> ((5 : Int32) &&& 31)) &&& (1 : Int32))) < (2 : Int32)
      ·
        refine OwnEnds.via (fun t k => XS.icmpNo X2.here hx rfl (hb hby d8_63) rfl (tlt hc63_3).2.1 k) ?_
        show OwnEnds _ _ _ _ (T2.setTop (mkF m 66 #[.val (.int kk), .val (.int (kk &&& (1 : Int32))), .val (.int ((kk >>> ((1 : Int32) &&& 31)) &&& (1 : Int32))), .val (.int (own_r kk)), .val (.int ((kk >>> ((5 : Int32) &&& 31)) &&& (1 : Int32))), .val (.int ((((kk &&& (1 : Int32)) + ((kk >>> ((1 : Int32) &&& 31)) &&& (1 : Int32))) + (own_r kk)) + ((kk >>> ((5 : Int32) &&& 31)) &&& (1 : Int32)))), .val (.int (own_bp kk))] []))
        refine OwnEnds.via (fun t k => XS.iload X2.here hx rfl (hb hby d8_66) rfl k) ?_
        show OwnEnds _ _ _ _ (T2.setTop (mkF m 68 #[.val (.int kk), .val (.int (kk &&& (1 : Int32))), .val (.int ((kk >>> ((1 : Int32) &&& 31)) &&& (1 : Int32))), .val (.int (own_r kk)), .val (.int ((kk >>> ((5 : Int32) &&& 31)) &&& (1 : Int32))), .val (.int ((((kk &&& (1 : Int32)) + ((kk >>> ((1 : Int32) &&& 31)) &&& (1 : Int32))) + (own_r kk)) + ((kk >>> ((5 : Int32) &&& 31)) &&& (1 : Int32)))), .val (.int (own_bp kk))] [(.int (own_bp kk))]))
        by_cases hc68_4 : (own_bp kk) = (0 : Int32)
        ·
          refine OwnEnds.via (fun t k => XS.ifYes X2.here hx rfl (pc0 := 68) (pc' := 75) rfl (hb hby d8_68) rfl ((if0 _ _).trans (teq hc68_4).1) (by decide) (by decide) k) ?_
          show OwnEnds _ _ _ _ (T2.setTop (mkF m 75 #[.val (.int kk), .val (.int (kk &&& (1 : Int32))), .val (.int ((kk >>> ((1 : Int32) &&& 31)) &&& (1 : Int32))), .val (.int (own_r kk)), .val (.int ((kk >>> ((5 : Int32) &&& 31)) &&& (1 : Int32))), .val (.int ((((kk &&& (1 : Int32)) + ((kk >>> ((1 : Int32) &&& 31)) &&& (1 : Int32))) + (own_r kk)) + ((kk >>> ((5 : Int32) &&& 31)) &&& (1 : Int32)))), .val (.int (own_bp kk))] []))
          refine OwnEnds.via (fun t k => XS.iconst X2.here hx rfl (hb hby d8_75) k) ?_
          show OwnEnds _ _ _ _ (T2.setTop (mkF m 76 #[.val (.int kk), .val (.int (kk &&& (1 : Int32))), .val (.int ((kk >>> ((1 : Int32) &&& 31)) &&& (1 : Int32))), .val (.int (own_r kk)), .val (.int ((kk >>> ((5 : Int32) &&& 31)) &&& (1 : Int32))), .val (.int ((((kk &&& (1 : Int32)) + ((kk >>> ((1 : Int32) &&& 31)) &&& (1 : Int32))) + (own_r kk)) + ((kk >>> ((5 : Int32) &&& 31)) &&& (1 : Int32)))), .val (.int (own_bp kk))] [(.int (0 : Int32))]))
          obtain ⟨fs, hr, hrun, hended, hW, hsame⟩ := X2.leave (v := some (.int (0 : Int32))) (fun h => by rw [Bd.returns] at h; cases h)
          refine ⟨_, _, ?_, hrun, hended, _, _, rfl, ?_, ⟨_, rfl⟩, hW, hsame.mono (by decide) (by decide)⟩
          · exact retN X2 hx (t := .boolean) Bd.returns (by simp) (hb hby d8_76) hr
          · show Q8 Z kk h0 n0 _ T2.heap _
            rw [e2]
            exact ⟨(by rw [own_lc, if_pos hc63_3, if_pos hc68_4]), N2, rfl⟩
        ·
          refine OwnEnds.via (fun t k => XS.ifNo X2.here hx rfl (hb hby d8_68) rfl ((if0 _ _).trans (feq hc68_4).1) k) ?_
          show OwnEnds _ _ _ _ (T2.setTop (mkF m 71 #[.val (.int kk), .val (.int (kk &&& (1 : Int32))), .val (.int ((kk >>> ((1 : Int32) &&& 31)) &&& (1 : Int32))), .val (.int (own_r kk)), .val (.int ((kk >>> ((5 : Int32) &&& 31)) &&& (1 : Int32))), .val (.int ((((kk &&& (1 : Int32)) + ((kk >>> ((1 : Int32) &&& 31)) &&& (1 : Int32))) + (own_r kk)) + ((kk >>> ((5 : Int32) &&& 31)) &&& (1 : Int32)))), .val (.int (own_bp kk))] []))
          refine OwnEnds.via (fun t k => XS.iconst X2.here hx rfl (hb hby d8_71) k) ?_
          show OwnEnds _ _ _ _ (T2.setTop (mkF m 72 #[.val (.int kk), .val (.int (kk &&& (1 : Int32))), .val (.int ((kk >>> ((1 : Int32) &&& 31)) &&& (1 : Int32))), .val (.int (own_r kk)), .val (.int ((kk >>> ((5 : Int32) &&& 31)) &&& (1 : Int32))), .val (.int ((((kk &&& (1 : Int32)) + ((kk >>> ((1 : Int32) &&& 31)) &&& (1 : Int32))) + (own_r kk)) + ((kk >>> ((5 : Int32) &&& 31)) &&& (1 : Int32)))), .val (.int (own_bp kk))] [(.int (1 : Int32))]))
          refine OwnEnds.via (fun t k => XS.goto X2.here hx rfl (pc0 := 72) (pc' := 76) rfl (hb hby d8_72) (by decide) (by decide) k) ?_
          show OwnEnds _ _ _ _ (T2.setTop (mkF m 76 #[.val (.int kk), .val (.int (kk &&& (1 : Int32))), .val (.int ((kk >>> ((1 : Int32) &&& 31)) &&& (1 : Int32))), .val (.int (own_r kk)), .val (.int ((kk >>> ((5 : Int32) &&& 31)) &&& (1 : Int32))), .val (.int ((((kk &&& (1 : Int32)) + ((kk >>> ((1 : Int32) &&& 31)) &&& (1 : Int32))) + (own_r kk)) + ((kk >>> ((5 : Int32) &&& 31)) &&& (1 : Int32)))), .val (.int (own_bp kk))] [(.int (1 : Int32))]))
          obtain ⟨fs, hr, hrun, hended, hW, hsame⟩ := X2.leave (v := some (.int (1 : Int32))) (fun h => by rw [Bd.returns] at h; cases h)
          refine ⟨_, _, ?_, hrun, hended, _, _, rfl, ?_, ⟨_, rfl⟩, hW, hsame.mono (by decide) (by decide)⟩
          · exact retN X2 hx (t := .boolean) Bd.returns (by simp) (hb hby d8_76) hr
          · show Q8 Z kk h0 n0 _ T2.heap _
            rw [e2]
            exact ⟨(by rw [own_lc, if_pos hc63_3, if_neg hc68_4]), N2, rfl⟩
      ·
        refine OwnEnds.via (fun t k => XS.icmpYes X2.here hx rfl (pc0 := 63) (pc' := 71) rfl (hb hby d8_63) rfl (flt hc63_3).2.1 (by decide) (by decide) k) ?_
        show OwnEnds _ _ _ _ (T2.setTop (mkF m 71 #[.val (.int kk), .val (.int (kk &&& (1 : Int32))), .val (.int ((kk >>> ((1 : Int32) &&& 31)) &&& (1 : Int32))), .val (.int (own_r kk)), .val (.int ((kk >>> ((5 : Int32) &&& 31)) &&& (1 : Int32))), .val (.int ((((kk &&& (1 : Int32)) + ((kk >>> ((1 : Int32) &&& 31)) &&& (1 : Int32))) + (own_r kk)) + ((kk >>> ((5 : Int32) &&& 31)) &&& (1 : Int32)))), .val (.int (own_bp kk))] []))
        refine OwnEnds.via (fun t k => XS.iconst X2.here hx rfl (hb hby d8_71) k) ?_
        show OwnEnds _ _ _ _ (T2.setTop (mkF m 72 #[.val (.int kk), .val (.int (kk &&& (1 : Int32))), .val (.int ((kk >>> ((1 : Int32) &&& 31)) &&& (1 : Int32))), .val (.int (own_r kk)), .val (.int ((kk >>> ((5 : Int32) &&& 31)) &&& (1 : Int32))), .val (.int ((((kk &&& (1 : Int32)) + ((kk >>> ((1 : Int32) &&& 31)) &&& (1 : Int32))) + (own_r kk)) + ((kk >>> ((5 : Int32) &&& 31)) &&& (1 : Int32)))), .val (.int (own_bp kk))] [(.int (1 : Int32))]))
        refine OwnEnds.via (fun t k => XS.goto X2.here hx rfl (pc0 := 72) (pc' := 76) rfl (hb hby d8_72) (by decide) (by decide) k) ?_
        show OwnEnds _ _ _ _ (T2.setTop (mkF m 76 #[.val (.int kk), .val (.int (kk &&& (1 : Int32))), .val (.int ((kk >>> ((1 : Int32) &&& 31)) &&& (1 : Int32))), .val (.int (own_r kk)), .val (.int ((kk >>> ((5 : Int32) &&& 31)) &&& (1 : Int32))), .val (.int ((((kk &&& (1 : Int32)) + ((kk >>> ((1 : Int32) &&& 31)) &&& (1 : Int32))) + (own_r kk)) + ((kk >>> ((5 : Int32) &&& 31)) &&& (1 : Int32)))), .val (.int (own_bp kk))] [(.int (1 : Int32))]))
        obtain ⟨fs, hr, hrun, hended, hW, hsame⟩ := X2.leave (v := some (.int (1 : Int32))) (fun h => by rw [Bd.returns] at h; cases h)
        refine ⟨_, _, ?_, hrun, hended, _, _, rfl, ?_, ⟨_, rfl⟩, hW, hsame.mono (by decide) (by decide)⟩
        · exact retN X2 hx (t := .boolean) Bd.returns (by simp) (hb hby d8_76) hr
        · show Q8 Z kk h0 n0 _ T2.heap _
          rw [e2]
          exact ⟨(by rw [own_lc, if_neg hc63_3]), N2, rfl⟩
    intro J2
    by_cases hc43_5 : (kk &&& (4 : Int32)) = (0 : Int32)
    ·
      refine OwnEnds.via (fun t k => XS.ifYes X1.here hx rfl (pc0 := 43) (pc' := 57) rfl (hb hby d8_43) rfl ((if0 _ _).trans (teq hc43_5).1) (by decide) (by decide) k) ?_
      show OwnEnds _ _ _ _ (T1.setTop (mkF m 57 #[.val (.int kk), .val (.int (kk &&& (1 : Int32))), .val (.int ((kk >>> ((1 : Int32) &&& 31)) &&& (1 : Int32))), .val (.int (own_r kk)), .val (.int ((kk >>> ((5 : Int32) &&& 31)) &&& (1 : Int32))), .val (.int ((((kk &&& (1 : Int32)) + ((kk >>> ((1 : Int32) &&& 31)) &&& (1 : Int32))) + (own_r kk)) + ((kk >>> ((5 : Int32) &&& 31)) &&& (1 : Int32)))), .unset] []))
      refine OwnEnds.via (fun t k => XS.iconst X1.here hx rfl (hb hby d8_57) k) ?_
      exact J2 _ _ X1 e1 N1 (0 : Int32) (by rw [own_bp, if_pos hc43_5])
    ·
      refine OwnEnds.via (fun t k => XS.ifNo X1.here hx rfl (hb hby d8_43) rfl ((if0 _ _).trans (feq hc43_5).1) k) ?_
      show OwnEnds _ _ _ _ (T1.setTop (mkF m 46 #[.val (.int kk), .val (.int (kk &&& (1 : Int32))), .val (.int ((kk >>> ((1 : Int32) &&& 31)) &&& (1 : Int32))), .val (.int (own_r kk)), .val (.int ((kk >>> ((5 : Int32) &&& 31)) &&& (1 : Int32))), .val (.int ((((kk &&& (1 : Int32)) + ((kk >>> ((1 : Int32) &&& 31)) &&& (1 : Int32))) + (own_r kk)) + ((kk >>> ((5 : Int32) &&& 31)) &&& (1 : Int32)))), .unset] []))
      refine OwnEnds.via (fun t k => XS.iloadN X1.here hx rfl (hb hby d8_46) rfl k) ?_
      show OwnEnds _ _ _ _ (T1.setTop (mkF m 47 #[.val (.int kk), .val (.int (kk &&& (1 : Int32))), .val (.int ((kk >>> ((1 : Int32) &&& 31)) &&& (1 : Int32))), .val (.int (own_r kk)), .val (.int ((kk >>> ((5 : Int32) &&& 31)) &&& (1 : Int32))), .val (.int ((((kk &&& (1 : Int32)) + ((kk >>> ((1 : Int32) &&& 31)) &&& (1 : Int32))) + (own_r kk)) + ((kk >>> ((5 : Int32) &&& 31)) &&& (1 : Int32)))), .unset] [(.int kk)]))
      refine OwnEnds.via (fun t k => XS.bipush X1.here hx rfl (hb hby d8_47) k) ?_
      show OwnEnds _ _ _ _ (T1.setTop (mkF m 49 #[.val (.int kk), .val (.int (kk &&& (1 : Int32))), .val (.int ((kk >>> ((1 : Int32) &&& 31)) &&& (1 : Int32))), .val (.int (own_r kk)), .val (.int ((kk >>> ((5 : Int32) &&& 31)) &&& (1 : Int32))), .val (.int ((((kk &&& (1 : Int32)) + ((kk >>> ((1 : Int32) &&& 31)) &&& (1 : Int32))) + (own_r kk)) + ((kk >>> ((5 : Int32) &&& 31)) &&& (1 : Int32)))), .unset] [(.int (8 : Int32)), (.int kk)]))
      refine OwnEnds.via (fun t k => XS.iand X1.here hx rfl (hb hby d8_49) rfl k) ?_
      show OwnEnds _ _ _ _ (T1.setTop (mkF m 50 #[.val (.int kk), .val (.int (kk &&& (1 : Int32))), .val (.int ((kk >>> ((1 : Int32) &&& 31)) &&& (1 : Int32))), .val (.int (own_r kk)), .val (.int ((kk >>> ((5 : Int32) &&& 31)) &&& (1 : Int32))), .val (.int ((((kk &&& (1 : Int32)) + ((kk >>> ((1 : Int32) &&& 31)) &&& (1 : Int32))) + (own_r kk)) + ((kk >>> ((5 : Int32) &&& 31)) &&& (1 : Int32)))), .unset] [(.int (kk &&& (8 : Int32)))]))
      by_cases hc50_6 : (kk &&& (8 : Int32)) = (0 : Int32)
      ·
        refine OwnEnds.via (fun t k => XS.ifYes X1.here hx rfl (pc0 := 50) (pc' := 57) rfl (hb hby d8_50) rfl ((if0 _ _).trans (teq hc50_6).1) (by decide) (by decide) k) ?_
        show OwnEnds _ _ _ _ (T1.setTop (mkF m 57 #[.val (.int kk), .val (.int (kk &&& (1 : Int32))), .val (.int ((kk >>> ((1 : Int32) &&& 31)) &&& (1 : Int32))), .val (.int (own_r kk)), .val (.int ((kk >>> ((5 : Int32) &&& 31)) &&& (1 : Int32))), .val (.int ((((kk &&& (1 : Int32)) + ((kk >>> ((1 : Int32) &&& 31)) &&& (1 : Int32))) + (own_r kk)) + ((kk >>> ((5 : Int32) &&& 31)) &&& (1 : Int32)))), .unset] []))
        refine OwnEnds.via (fun t k => XS.iconst X1.here hx rfl (hb hby d8_57) k) ?_
        exact J2 _ _ X1 e1 N1 (0 : Int32) (by rw [own_bp, if_neg hc43_5, if_pos hc50_6])
      ·
        refine OwnEnds.via (fun t k => XS.ifNo X1.here hx rfl (hb hby d8_50) rfl ((if0 _ _).trans (feq hc50_6).1) k) ?_
        show OwnEnds _ _ _ _ (T1.setTop (mkF m 53 #[.val (.int kk), .val (.int (kk &&& (1 : Int32))), .val (.int ((kk >>> ((1 : Int32) &&& 31)) &&& (1 : Int32))), .val (.int (own_r kk)), .val (.int ((kk >>> ((5 : Int32) &&& 31)) &&& (1 : Int32))), .val (.int ((((kk &&& (1 : Int32)) + ((kk >>> ((1 : Int32) &&& 31)) &&& (1 : Int32))) + (own_r kk)) + ((kk >>> ((5 : Int32) &&& 31)) &&& (1 : Int32)))), .unset] []))
        refine OwnEnds.via (fun t k => XS.iconst X1.here hx rfl (hb hby d8_53) k) ?_
        show OwnEnds _ _ _ _ (T1.setTop (mkF m 54 #[.val (.int kk), .val (.int (kk &&& (1 : Int32))), .val (.int ((kk >>> ((1 : Int32) &&& 31)) &&& (1 : Int32))), .val (.int (own_r kk)), .val (.int ((kk >>> ((5 : Int32) &&& 31)) &&& (1 : Int32))), .val (.int ((((kk &&& (1 : Int32)) + ((kk >>> ((1 : Int32) &&& 31)) &&& (1 : Int32))) + (own_r kk)) + ((kk >>> ((5 : Int32) &&& 31)) &&& (1 : Int32)))), .unset] [(.int (1 : Int32))]))
        refine OwnEnds.via (fun t k => XS.goto X1.here hx rfl (pc0 := 54) (pc' := 58) rfl (hb hby d8_54) (by decide) (by decide) k) ?_
        exact J2 _ _ X1 e1 N1 (1 : Int32) (by rw [own_bp, if_neg hc43_5, if_neg hc50_6])
  intro J1
  by_cases hc14_7 : (kk &&& (28 : Int32)) = (0 : Int32)
  ·
    refine OwnEnds.via (fun t k => XS.ifYes X0.here hx rfl (pc0 := 14) (pc' := 21) rfl (hb hby d8_14) rfl ((if0 _ _).trans (teq hc14_7).1) (by decide) (by decide) k) ?_
    show OwnEnds _ _ _ _ (s₁.setTop (mkF m 21 #[.val (.int kk), .val (.int (kk &&& (1 : Int32))), .val (.int ((kk >>> ((1 : Int32) &&& 31)) &&& (1 : Int32))), .unset, .unset, .unset, .unset] []))
    refine OwnEnds.via (fun t k => XS.iconst X0.here hx rfl (hb hby d8_21) k) ?_
    exact J1 _ _ X0 e0 N0 (0 : Int32) (by rw [own_r, if_pos hc14_7])
  ·
    refine OwnEnds.via (fun t k => XS.ifNo X0.here hx rfl (hb hby d8_14) rfl ((if0 _ _).trans (feq hc14_7).1) k) ?_
    show OwnEnds _ _ _ _ (s₁.setTop (mkF m 17 #[.val (.int kk), .val (.int (kk &&& (1 : Int32))), .val (.int ((kk >>> ((1 : Int32) &&& 31)) &&& (1 : Int32))), .unset, .unset, .unset, .unset] []))
    refine OwnEnds.via (fun t k => XS.iconst X0.here hx rfl (hb hby d8_17) k) ?_
    show OwnEnds _ _ _ _ (s₁.setTop (mkF m 18 #[.val (.int kk), .val (.int (kk &&& (1 : Int32))), .val (.int ((kk >>> ((1 : Int32) &&& 31)) &&& (1 : Int32))), .unset, .unset, .unset, .unset] [(.int (1 : Int32))]))
    refine OwnEnds.via (fun t k => XS.goto X0.here hx rfl (pc0 := 18) (pc' := 22) rfl (hb hby d8_18) (by decide) (by decide) k) ?_
    exact J1 _ _ X0 e0 N0 (1 : Int32) (by rw [own_r, if_neg hc14_7])

theorem d9_0 : decode method_4_code 0 = .ok (.iload_n 0, 1) := by decide +kernel
theorem d9_1 : decode method_4_code 1 = .ok (.ifCond .ne 8, 3) := by decide +kernel
theorem d9_4 : decode method_4_code 4 = .ok (.iload_n 1, 1) := by decide +kernel
theorem d9_5 : decode method_4_code 5 = .ok (.invokestatic 16, 3) := by decide +kernel
theorem d9_8 : decode method_4_code 8 = .ok (.ireturn, 1) := by decide +kernel
theorem d9_9 : decode method_4_code 9 = .ok (.iload_n 0, 1) := by decide +kernel
theorem d9_10 : decode method_4_code 10 = .ok (.iconst 1, 1) := by decide +kernel
theorem d9_11 : decode method_4_code 11 = .ok (.if_icmp .ne 8, 3) := by decide +kernel
theorem d9_14 : decode method_4_code 14 = .ok (.iload_n 2, 1) := by decide +kernel
theorem d9_15 : decode method_4_code 15 = .ok (.invokestatic 16, 3) := by decide +kernel
theorem d9_18 : decode method_4_code 18 = .ok (.ireturn, 1) := by decide +kernel
theorem d9_19 : decode method_4_code 19 = .ok (.iload_n 0, 1) := by decide +kernel
theorem d9_20 : decode method_4_code 20 = .ok (.iconst 2, 1) := by decide +kernel
theorem d9_21 : decode method_4_code 21 = .ok (.if_icmp .ne 8, 3) := by decide +kernel
theorem d9_24 : decode method_4_code 24 = .ok (.iload_n 3, 1) := by decide +kernel
theorem d9_25 : decode method_4_code 25 = .ok (.invokestatic 16, 3) := by decide +kernel
theorem d9_28 : decode method_4_code 28 = .ok (.ireturn, 1) := by decide +kernel
theorem d9_29 : decode method_4_code 29 = .ok (.iconst 0, 1) := by decide +kernel
theorem d9_30 : decode method_4_code 30 = .ok (.ireturn, 1) := by decide +kernel
theorem pn_rm9 : plainName "com/example/stratal/stratal/logic/LayerReportIsClashPinLaw" = true := by first | (simp [plainName, overriddenIn]; done) | decide +kernel
theorem pd_2 : parseMethodDescriptor "(I)Z" = some ⟨[.int], some .boolean⟩ := by decide +kernel
theorem ef_rm9 (m : MethodId) (tt : Int32) (ka : Int32) (kb : Int32) (kc : Int32) : entryFrame m #[(.int tt), (.int ka), (.int kb), (.int kc)] 4 = mkF m 0 #[.val (.int tt), .val (.int ka), .val (.int kb), .val (.int kc)] [] := by first | (simp [entryFrame, mkF, argsToLocals, Value.category]; done) | rfl
def Q9 (Z : State) (tt : Int32) (ka : Int32) (kb : Int32) (kc : Int32) (h0 : Heap) (n0 : Nat) (v : Option Value) (h : Heap) (L : List Loc) : Prop := v = some (.int (own_ex tt ka kb kc)) ∧ Fr n0 L ∧ h = h0
set_option maxRecDepth 65536 in
set_option maxHeartbeats 40000000 in
theorem rm9 (l : Launch) (Z : State) (a0 : Array Value) (hw : ∀ d ∈ tables_1, d.before a0 Z = true) (ws : List Jvm.Cond) (tt : Int32) (ka : Int32) (kb : Int32) (kc : Int32) (h0 : Heap) (n0 : Nat) (Z0 : n0 ≤ h0.size)  :
    MetFree l (⟨"com/example/stratal/stratal/logic/LayerReportIsClashPinLaw", "expected", "(IIII)Z"⟩ : MethodName) (head1 (Jvm.Cond.code (⟨"com/example/stratal/stratal/logic/LayerReportIsClashPinLaw", "expected", "(IIII)Z"⟩ : MethodName) method_4_code 4 (some .boolean) :: ws) ({ frames := 1, cells := 0, slots := 0, locals := 18 } : Room)) (fun aa U => aa = #[(.int tt), (.int ka), (.int kb), (.int kc)] ∧ Z.Warmed39 U.vm ∧ U.heap = h0) (fun _ _ _ _ _ => True) (fun _ U o U' => ∃ v L, o = .returned v ∧ Q9 Z tt ka kb kc h0 n0 v U'.heap L ∧ FrameEnd U o U' L ({ frames := 1, cells := 0, slots := 0, locals := 18 } : Room).cells ({ frames := 1, cells := 0, slots := 0, locals := 18 } : Room).slots) := by
  refine MetFree.of_bodySF (plainFor_of_name pn_rm9) hisR ?_
  intro p e s m args below meth c s₁ Bd hml0 hP hK
  obtain ⟨rfl, hZ, hh⟩ := hP
  have hx := Bd.exec
  have hby := Bd.bytes
  have hml : c.maxLocals = 4 := hml0
  have hown : s.vm.findClass "com/example/stratal/stratal/logic/LayerReportIsClashPinLaw" = some m.cls := findClass_of_methodNamed Bd.named
  have hnm := (name_of_methodNamed Bd.named Bd.method).1
  have X0 : Stand p l e ({ frames := 1, cells := 0, slots := 0, locals := 18 } : Room) s m #[(.int tt), (.int ka), (.int kb), (.int kc)] below meth c s₁ [] 0 0 := Stand.of_body Bd
  have e0 : s₁.heap = h0 := by rw [← hh, Bd.state]; rfl
  have N0 := Fr.nil n0
  change OwnEnds p.tables e below _ _
  refine OwnEnds.via (fun t k => castTop (ef_rm9 m tt ka kb kc) k) ?_
  show OwnEnds _ _ _ _ (s₁.setTop (mkF m 0 #[.val (.int tt), .val (.int ka), .val (.int kb), .val (.int kc)] []))
  refine OwnEnds.via (fun t k => XS.iloadN X0.here hx rfl (hb hby d9_0) rfl k) ?_
  show OwnEnds _ _ _ _ (s₁.setTop (mkF m 1 #[.val (.int tt), .val (.int ka), .val (.int kb), .val (.int kc)] [(.int tt)]))
  by_cases hc1_1 : tt = (0 : Int32)
  ·
    refine OwnEnds.via (fun t k => XS.ifNo X0.here hx rfl (hb hby d9_1) rfl ((if0 _ _).trans (teq hc1_1).2) k) ?_
    show OwnEnds _ _ _ _ (s₁.setTop (mkF m 4 #[.val (.int tt), .val (.int ka), .val (.int kb), .val (.int kc)] []))
    refine OwnEnds.via (fun t k => XS.iloadN X0.here hx rfl (hb hby d9_4) rfl k) ?_
    show OwnEnds _ _ _ _ (s₁.setTop (mkF m 5 #[.val (.int tt), .val (.int ka), .val (.int kb), .val (.int kc)] [(.int ka)]))
    obtain ⟨_, _, ⟨T2, L2, k2, n2⟩, -, X2, ⟨Lc2, hQ2, l2, y2, z2⟩, st2⟩ := Jvm.LawKit.callS X0 hx (y := (⟨"com/example/stratal/stratal/logic/LayerReportIsClashPinLaw", "clash", "(I)Z"⟩ : MethodName)) hown (mvT hZ (hw _ (List.mem_of_getElem? (i := 57) rfl))) (mvT hZ (hw _ (List.mem_of_getElem? (i := 58) rfl))) (mvT hZ (hw _ (List.mem_of_getElem? (i := 59) rfl))) (mvT hZ (hw _ (List.mem_of_getElem? (i := 60) rfl))) (by decide) (backOf (W := 0) (rm8 l Z a0 hw [] ka h0 n0 Z0 ) hZ (hw _ (List.mem_of_getElem? (i := 60) rfl)) (hw _ (List.mem_of_getElem? (i := 59) rfl)) (by decide) (by decide)) (g := (mkF m 5 #[.val (.int tt), .val (.int ka), .val (.int kb), .val (.int kc)] [(.int ka)])) rfl (by rw [hml]; rfl) (argsL := [(.int ka)]) (rest := []) (lenOf pd_2 rfl) rfl (by show 2 * 0 + _ ≤ _; exact Nat.le_of_eq rfl) (hb hby d9_5) (fun _ _ => ⟨rfl, e0, (by decide : 0 + 0 ≤ _), (by decide : 0 + 0 ≤ _)⟩)
    dsimp only [Pt.U, Pt.locs, Pt.cells, Pt.slots] at X2 l2 y2 z2 st2 hQ2
    subst l2 y2 z2
    obtain ⟨rfl, Nq2, e2⟩ := hQ2
    have N2 := Fr.app N0 Nq2
    refine OwnEnds.via st2 ?_
    show OwnEnds _ _ _ _ (T2.setTop (mkF m 8 #[.val (.int tt), .val (.int ka), .val (.int kb), .val (.int kc)] [(.int (own_lc ka))]))
    obtain ⟨fs, hr, hrun, hended, hW, hsame⟩ := X2.leave (v := some (.int (nar .boolean (own_lc ka)))) (fun h => by rw [Bd.returns] at h; cases h)
    refine ⟨_, _, ?_, hrun, hended, _, _, rfl, ?_, ⟨_, rfl⟩, hW, hsame.mono (by decide) (by decide)⟩
    · exact retN X2 hx (t := .boolean) Bd.returns (by simp) (hb hby d9_8) hr
    · show Q9 Z tt ka kb kc h0 n0 _ T2.heap _
      rw [e2]
      exact ⟨(by rw [own_ex, if_pos hc1_1]), N2, rfl⟩
  ·
    refine OwnEnds.via (fun t k => XS.ifYes X0.here hx rfl (pc0 := 1) (pc' := 9) rfl (hb hby d9_1) rfl ((if0 _ _).trans (feq hc1_1).2) (by decide) (by decide) k) ?_
    show OwnEnds _ _ _ _ (s₁.setTop (mkF m 9 #[.val (.int tt), .val (.int ka), .val (.int kb), .val (.int kc)] []))
    refine OwnEnds.via (fun t k => XS.iloadN X0.here hx rfl (hb hby d9_9) rfl k) ?_
    show OwnEnds _ _ _ _ (s₁.setTop (mkF m 10 #[.val (.int tt), .val (.int ka), .val (.int kb), .val (.int kc)] [(.int tt)]))
    refine OwnEnds.via (fun t k => XS.iconst X0.here hx rfl (hb hby d9_10) k) ?_
    show OwnEnds _ _ _ _ (s₁.setTop (mkF m 11 #[.val (.int tt), .val (.int ka), .val (.int kb), .val (.int kc)] [(.int (1 : Int32)), (.int tt)]))
    by_cases hc11_3 : tt = (1 : Int32)
    ·
      refine OwnEnds.via (fun t k => XS.icmpNo X0.here hx rfl (hb hby d9_11) rfl (teq hc11_3).2 k) ?_
      show OwnEnds _ _ _ _ (s₁.setTop (mkF m 14 #[.val (.int tt), .val (.int ka), .val (.int kb), .val (.int kc)] []))
      refine OwnEnds.via (fun t k => XS.iloadN X0.here hx rfl (hb hby d9_14) rfl k) ?_
      show OwnEnds _ _ _ _ (s₁.setTop (mkF m 15 #[.val (.int tt), .val (.int ka), .val (.int kb), .val (.int kc)] [(.int kb)]))
      obtain ⟨_, _, ⟨T4, L4, k4, n4⟩, -, X4, ⟨Lc4, hQ4, l4, y4, z4⟩, st4⟩ := Jvm.LawKit.callS X0 hx (y := (⟨"com/example/stratal/stratal/logic/LayerReportIsClashPinLaw", "clash", "(I)Z"⟩ : MethodName)) hown (mvT hZ (hw _ (List.mem_of_getElem? (i := 57) rfl))) (mvT hZ (hw _ (List.mem_of_getElem? (i := 58) rfl))) (mvT hZ (hw _ (List.mem_of_getElem? (i := 59) rfl))) (mvT hZ (hw _ (List.mem_of_getElem? (i := 60) rfl))) (by decide) (backOf (W := 0) (rm8 l Z a0 hw [] kb h0 n0 Z0 ) hZ (hw _ (List.mem_of_getElem? (i := 60) rfl)) (hw _ (List.mem_of_getElem? (i := 59) rfl)) (by decide) (by decide)) (g := (mkF m 15 #[.val (.int tt), .val (.int ka), .val (.int kb), .val (.int kc)] [(.int kb)])) rfl (by rw [hml]; rfl) (argsL := [(.int kb)]) (rest := []) (lenOf pd_2 rfl) rfl (by show 2 * 0 + _ ≤ _; exact Nat.le_of_eq rfl) (hb hby d9_15) (fun _ _ => ⟨rfl, e0, (by decide : 0 + 0 ≤ _), (by decide : 0 + 0 ≤ _)⟩)
      dsimp only [Pt.U, Pt.locs, Pt.cells, Pt.slots] at X4 l4 y4 z4 st4 hQ4
      subst l4 y4 z4
      obtain ⟨rfl, Nq4, e4⟩ := hQ4
      have N4 := Fr.app N0 Nq4
      refine OwnEnds.via st4 ?_
      show OwnEnds _ _ _ _ (T4.setTop (mkF m 18 #[.val (.int tt), .val (.int ka), .val (.int kb), .val (.int kc)] [(.int (own_lc kb))]))
      obtain ⟨fs, hr, hrun, hended, hW, hsame⟩ := X4.leave (v := some (.int (nar .boolean (own_lc kb)))) (fun h => by rw [Bd.returns] at h; cases h)
      refine ⟨_, _, ?_, hrun, hended, _, _, rfl, ?_, ⟨_, rfl⟩, hW, hsame.mono (by decide) (by decide)⟩
      · exact retN X4 hx (t := .boolean) Bd.returns (by simp) (hb hby d9_18) hr
      · show Q9 Z tt ka kb kc h0 n0 _ T4.heap _
        rw [e4]
        exact ⟨(by rw [own_ex, if_neg hc1_1, if_pos hc11_3]), N4, rfl⟩
    ·
      refine OwnEnds.via (fun t k => XS.icmpYes X0.here hx rfl (pc0 := 11) (pc' := 19) rfl (hb hby d9_11) rfl (feq hc11_3).2 (by decide) (by decide) k) ?_
      show OwnEnds _ _ _ _ (s₁.setTop (mkF m 19 #[.val (.int tt), .val (.int ka), .val (.int kb), .val (.int kc)] []))
      refine OwnEnds.via (fun t k => XS.iloadN X0.here hx rfl (hb hby d9_19) rfl k) ?_
      show OwnEnds _ _ _ _ (s₁.setTop (mkF m 20 #[.val (.int tt), .val (.int ka), .val (.int kb), .val (.int kc)] [(.int tt)]))
      refine OwnEnds.via (fun t k => XS.iconst X0.here hx rfl (hb hby d9_20) k) ?_
      show OwnEnds _ _ _ _ (s₁.setTop (mkF m 21 #[.val (.int tt), .val (.int ka), .val (.int kb), .val (.int kc)] [(.int (2 : Int32)), (.int tt)]))
      by_cases hc21_5 : tt = (2 : Int32)
      ·
        refine OwnEnds.via (fun t k => XS.icmpNo X0.here hx rfl (hb hby d9_21) rfl (teq hc21_5).2 k) ?_
        show OwnEnds _ _ _ _ (s₁.setTop (mkF m 24 #[.val (.int tt), .val (.int ka), .val (.int kb), .val (.int kc)] []))
        refine OwnEnds.via (fun t k => XS.iloadN X0.here hx rfl (hb hby d9_24) rfl k) ?_
        show OwnEnds _ _ _ _ (s₁.setTop (mkF m 25 #[.val (.int tt), .val (.int ka), .val (.int kb), .val (.int kc)] [(.int kc)]))
        obtain ⟨_, _, ⟨T6, L6, k6, n6⟩, -, X6, ⟨Lc6, hQ6, l6, y6, z6⟩, st6⟩ := Jvm.LawKit.callS X0 hx (y := (⟨"com/example/stratal/stratal/logic/LayerReportIsClashPinLaw", "clash", "(I)Z"⟩ : MethodName)) hown (mvT hZ (hw _ (List.mem_of_getElem? (i := 57) rfl))) (mvT hZ (hw _ (List.mem_of_getElem? (i := 58) rfl))) (mvT hZ (hw _ (List.mem_of_getElem? (i := 59) rfl))) (mvT hZ (hw _ (List.mem_of_getElem? (i := 60) rfl))) (by decide) (backOf (W := 0) (rm8 l Z a0 hw [] kc h0 n0 Z0 ) hZ (hw _ (List.mem_of_getElem? (i := 60) rfl)) (hw _ (List.mem_of_getElem? (i := 59) rfl)) (by decide) (by decide)) (g := (mkF m 25 #[.val (.int tt), .val (.int ka), .val (.int kb), .val (.int kc)] [(.int kc)])) rfl (by rw [hml]; rfl) (argsL := [(.int kc)]) (rest := []) (lenOf pd_2 rfl) rfl (by show 2 * 0 + _ ≤ _; exact Nat.le_of_eq rfl) (hb hby d9_25) (fun _ _ => ⟨rfl, e0, (by decide : 0 + 0 ≤ _), (by decide : 0 + 0 ≤ _)⟩)
        dsimp only [Pt.U, Pt.locs, Pt.cells, Pt.slots] at X6 l6 y6 z6 st6 hQ6
        subst l6 y6 z6
        obtain ⟨rfl, Nq6, e6⟩ := hQ6
        have N6 := Fr.app N0 Nq6
        refine OwnEnds.via st6 ?_
        show OwnEnds _ _ _ _ (T6.setTop (mkF m 28 #[.val (.int tt), .val (.int ka), .val (.int kb), .val (.int kc)] [(.int (own_lc kc))]))
        obtain ⟨fs, hr, hrun, hended, hW, hsame⟩ := X6.leave (v := some (.int (nar .boolean (own_lc kc)))) (fun h => by rw [Bd.returns] at h; cases h)
        refine ⟨_, _, ?_, hrun, hended, _, _, rfl, ?_, ⟨_, rfl⟩, hW, hsame.mono (by decide) (by decide)⟩
        · exact retN X6 hx (t := .boolean) Bd.returns (by simp) (hb hby d9_28) hr
        · show Q9 Z tt ka kb kc h0 n0 _ T6.heap _
          rw [e6]
          exact ⟨(by rw [own_ex, if_neg hc1_1, if_neg hc11_3, if_pos hc21_5]), N6, rfl⟩
      ·
        refine OwnEnds.via (fun t k => XS.icmpYes X0.here hx rfl (pc0 := 21) (pc' := 29) rfl (hb hby d9_21) rfl (feq hc21_5).2 (by decide) (by decide) k) ?_
        show OwnEnds _ _ _ _ (s₁.setTop (mkF m 29 #[.val (.int tt), .val (.int ka), .val (.int kb), .val (.int kc)] []))
        refine OwnEnds.via (fun t k => XS.iconst X0.here hx rfl (hb hby d9_29) k) ?_
        show OwnEnds _ _ _ _ (s₁.setTop (mkF m 30 #[.val (.int tt), .val (.int ka), .val (.int kb), .val (.int kc)] [(.int (0 : Int32))]))
        obtain ⟨fs, hr, hrun, hended, hW, hsame⟩ := X0.leave (v := some (.int (0 : Int32))) (fun h => by rw [Bd.returns] at h; cases h)
        refine ⟨_, _, ?_, hrun, hended, _, _, rfl, ?_, ⟨_, rfl⟩, hW, hsame.mono (by decide) (by decide)⟩
        · exact retN X0 hx (t := .boolean) Bd.returns (by simp) (hb hby d9_30) hr
        · show Q9 Z tt ka kb kc h0 n0 _ s₁.heap _
          rw [e0]
          exact ⟨(by rw [own_ex, if_neg hc1_1, if_neg hc11_3, if_neg hc21_5]), N0, rfl⟩

theorem d1_0 : decode prog_38_method_1_code 0 = .ok (.aload_n 0, 1) := by decide +kernel
theorem d1_1 : decode prog_38_method_1_code 1 = .ok (.invokespecial 1, 3) := by decide +kernel
theorem d1_4 : decode prog_38_method_1_code 4 = .ok (.aload_n 0, 1) := by decide +kernel
theorem d1_5 : decode prog_38_method_1_code 5 = .ok (.aload_n 1, 1) := by decide +kernel
theorem d1_6 : decode prog_38_method_1_code 6 = .ok (.putfield 7, 3) := by decide +kernel
theorem d1_9 : decode prog_38_method_1_code 9 = .ok (.aload_n 0, 1) := by decide +kernel
theorem d1_10 : decode prog_38_method_1_code 10 = .ok (.aload_n 3, 1) := by decide +kernel
theorem d1_11 : decode prog_38_method_1_code 11 = .ok (.arraylength, 1) := by decide +kernel
theorem d1_12 : decode prog_38_method_1_code 12 = .ok (.putfield 13, 3) := by decide +kernel
theorem d1_15 : decode prog_38_method_1_code 15 = .ok (.aload_n 0, 1) := by decide +kernel
theorem d1_16 : decode prog_38_method_1_code 16 = .ok (.iload_n 2, 1) := by decide +kernel
theorem d1_17 : decode prog_38_method_1_code 17 = .ok (.putfield 17, 3) := by decide +kernel
theorem d1_20 : decode prog_38_method_1_code 20 = .ok (.aload_n 0, 1) := by decide +kernel
theorem d1_21 : decode prog_38_method_1_code 21 = .ok (.aload_n 3, 1) := by decide +kernel
theorem d1_22 : decode prog_38_method_1_code 22 = .ok (.putfield 21, 3) := by decide +kernel
theorem d1_25 : decode prog_38_method_1_code 25 = .ok (.aload_n 0, 1) := by decide +kernel
theorem d1_26 : decode prog_38_method_1_code 26 = .ok (.aload 4, 2) := by decide +kernel
theorem d1_28 : decode prog_38_method_1_code 28 = .ok (.putfield 25, 3) := by decide +kernel
theorem d1_31 : decode prog_38_method_1_code 31 = .ok (.aload_n 0, 1) := by decide +kernel
theorem d1_32 : decode prog_38_method_1_code 32 = .ok (.aload 4, 2) := by decide +kernel
theorem d1_34 : decode prog_38_method_1_code 34 = .ok (.arraylength, 1) := by decide +kernel
theorem d1_35 : decode prog_38_method_1_code 35 = .ok (.newarray .boolean, 2) := by decide +kernel
theorem d1_37 : decode prog_38_method_1_code 37 = .ok (.putfield 28, 3) := by decide +kernel
theorem d1_40 : decode prog_38_method_1_code 40 = .ok (.iconst 0, 1) := by decide +kernel
theorem d1_41 : decode prog_38_method_1_code 41 = .ok (.istore 5, 2) := by decide +kernel
theorem d1_43 : decode prog_38_method_1_code 43 = .ok (.iload 5, 2) := by decide +kernel
theorem d1_45 : decode prog_38_method_1_code 45 = .ok (.aload 4, 2) := by decide +kernel
theorem d1_47 : decode prog_38_method_1_code 47 = .ok (.arraylength, 1) := by decide +kernel
theorem d1_48 : decode prog_38_method_1_code 48 = .ok (.if_icmp .ge 24, 3) := by decide +kernel
theorem d1_51 : decode prog_38_method_1_code 51 = .ok (.aload_n 0, 1) := by decide +kernel
theorem d1_52 : decode prog_38_method_1_code 52 = .ok (.getfield 28, 3) := by decide +kernel
theorem d1_55 : decode prog_38_method_1_code 55 = .ok (.iload 5, 2) := by decide +kernel
theorem d1_57 : decode prog_38_method_1_code 57 = .ok (.aload 4, 2) := by decide +kernel
theorem d1_59 : decode prog_38_method_1_code 59 = .ok (.iload 5, 2) := by decide +kernel
theorem d1_61 : decode prog_38_method_1_code 61 = .ok (.baload, 1) := by decide +kernel
theorem d1_62 : decode prog_38_method_1_code 62 = .ok (.invokestatic 32, 3) := by decide +kernel
theorem d1_65 : decode prog_38_method_1_code 65 = .ok (.bastore, 1) := by decide +kernel
theorem d1_66 : decode prog_38_method_1_code 66 = .ok (.iinc 5 1, 3) := by decide +kernel
theorem d1_69 : decode prog_38_method_1_code 69 = .ok (.goto (-26), 3) := by decide +kernel
theorem d1_72 : decode prog_38_method_1_code 72 = .ok (.return_, 1) := by decide +kernel
theorem pn_rm1 : plainName "com/example/stratal/stratal/logic/LayerReport" = true := by first | (simp [plainName, overriddenIn]; done) | decide +kernel
theorem pd_3 : parseMethodDescriptor "(B)Z" = some ⟨[.byte], some .boolean⟩ := by decide +kernel
theorem ef_rm1 (m : MethodId) (a : Addr) (ax : Int32) (sd : Addr) (kd : Addr) : entryFrame m #[(.ref a), .null, (.int ax), (.ref sd), (.ref kd)] 6 = mkF m 0 #[.val (.ref a), .val .null, .val (.int ax), .val (.ref sd), .val (.ref kd), .unset] [] := by first | (simp [entryFrame, mkF, argsToLocals, Value.category]; done) | rfl
def Q1 (Z : State) (a : Addr) (ax : Int32) (sd : Addr) (kd : Addr) (ks : ClassId) (kk : ClassId) (x0 : Int32) (x1 : Int32) (x2 : Int32) (ko : Addr) (kp : Addr) (h0 : Heap) (n0 : Nat) (v : Option Value) (h : Heap) (L : List Loc) : Prop := ∃ bz : Addr, ∃ kz : ClassId, v = none ∧ Fr n0 L ∧ Keep h0 h [a] ∧ Exa Z h a "com/example/stratal/stratal/logic/LayerReport" ∧ Fld Z h a "com/example/stratal/stratal/logic/LayerReport" "mClashing" "[Z" (.ref bz) ∧ Arv Z h bz kz .boolean (3 : Int32) [(.int (nar .boolean (own_cl x0))), (.int (nar .boolean (own_cl x1))), (.int (nar .boolean (own_cl x2)))] (.int (0 : Int32))
set_option maxRecDepth 65536 in
set_option maxHeartbeats 40000000 in
theorem rm1 (l : Launch) (Z : State) (a0 : Array Value) (hw : ∀ d ∈ tables_1, d.before a0 Z = true) (ws : List Jvm.Cond) (a : Addr) (ax : Int32) (sd : Addr) (kd : Addr) (ks : ClassId) (kk : ClassId) (x0 : Int32) (x1 : Int32) (x2 : Int32) (ko : Addr) (kp : Addr) (h0 : Heap) (n0 : Nat) (Z0 : n0 ≤ h0.size) (O0 : Old Z n0 h0) (P0 : Exa Z h0 a "com/example/stratal/stratal/logic/LayerReport") (P1 : Fld Z h0 a "com/example/stratal/stratal/logic/LayerReport" "mGraph" "Lcom/example/stratal/stratal/graph/Graph;" .null) (P2 : Fld Z h0 a "com/example/stratal/stratal/logic/LayerReport" "mTripleCount" "I" (.int (0 : Int32))) (P3 : Fld Z h0 a "com/example/stratal/stratal/logic/LayerReport" "mHasAxioms" "Z" (.int (0 : Int32))) (P4 : Fld Z h0 a "com/example/stratal/stratal/logic/LayerReport" "mStatus" "[B" .null) (P5 : Fld Z h0 a "com/example/stratal/stratal/logic/LayerReport" "mKinds" "[B" .null) (P6 : Fld Z h0 a "com/example/stratal/stratal/logic/LayerReport" "mClashing" "[Z" .null) (P7 : n0 ≤ a) (P8 : Arv Z h0 sd ks .byte (0 : Int32) [] (.int (0 : Int32))) (P9 : Arv Z h0 kd kk .byte (3 : Int32) [(.int x0), (.int x1), (.int x2)] (.int (0 : Int32))) (P10 : sd ≠ a) (P11 : kd ≠ a) (OP0 : Sta Z Z.heap "com/example/stratal/stratal/logic/LayerReport" "PROPERTY_KINDS" "I" (.int (28 : Int32))) (OP1 : Sta Z Z.heap "com/example/stratal/stratal/logic/Kind" "OBJECT_PROPERTY" "Lcom/example/stratal/stratal/logic/Kind;" (.ref ko)) (OP2 : Sta Z Z.heap "com/example/stratal/stratal/logic/Kind" "DATATYPE_PROPERTY" "Lcom/example/stratal/stratal/logic/Kind;" (.ref kp)) (OP3 : Exa Z Z.heap ko "com/example/stratal/stratal/logic/Kind") (OP4 : Exa Z Z.heap kp "com/example/stratal/stratal/logic/Kind") (OP5 : Fld Z Z.heap ko "java/lang/Enum" "ordinal" "I" (.int (2 : Int32))) (OP6 : Fld Z Z.heap kp "java/lang/Enum" "ordinal" "I" (.int (3 : Int32))) :
    MetFree l (⟨"com/example/stratal/stratal/logic/LayerReport", "<init>", "(Lcom/example/stratal/stratal/graph/Graph;Z[B[B)V"⟩ : MethodName) (head1 (Jvm.Cond.code (⟨"com/example/stratal/stratal/logic/LayerReport", "<init>", "(Lcom/example/stratal/stratal/graph/Graph;Z[B[B)V"⟩ : MethodName) prog_38_method_1_code 6 none :: ws) ({ frames := 3, cells := 1, slots := 3, locals := 42 } : Room)) (fun aa U => aa = #[(.ref a), .null, (.int ax), (.ref sd), (.ref kd)] ∧ Z.Warmed39 U.vm ∧ U.heap = h0) (fun _ _ _ _ _ => True) (fun _ U o U' => ∃ v L, o = .returned v ∧ Q1 Z a ax sd kd ks kk x0 x1 x2 ko kp h0 n0 v U'.heap L ∧ FrameEnd U o U' L ({ frames := 3, cells := 1, slots := 3, locals := 42 } : Room).cells ({ frames := 3, cells := 1, slots := 3, locals := 42 } : Room).slots) := by
  refine MetFree.of_bodySF (plainFor_of_name pn_rm1) hisR ?_
  intro p e s m args below meth c s₁ Bd hml0 hP hK
  obtain ⟨rfl, hZ, hh⟩ := hP
  have hx := Bd.exec
  have hby := Bd.bytes
  have hml : c.maxLocals = 6 := hml0
  have hown : s.vm.findClass "com/example/stratal/stratal/logic/LayerReport" = some m.cls := findClass_of_methodNamed Bd.named
  have hnm := (name_of_methodNamed Bd.named Bd.method).1
  have X0 : Stand p l e ({ frames := 3, cells := 1, slots := 3, locals := 42 } : Room) s m #[(.ref a), .null, (.int ax), (.ref sd), (.ref kd)] below meth c s₁ [] 0 0 := Stand.of_body Bd
  have e0 : s₁.heap = h0 := by rw [← hh, Bd.state]; rfl
  have N0 := Fr.nil n0
  change OwnEnds p.tables e below _ _
  refine OwnEnds.via (fun t k => castTop (ef_rm1 m a ax sd kd) k) ?_
  show OwnEnds _ _ _ _ (s₁.setTop (mkF m 0 #[.val (.ref a), .val .null, .val (.int ax), .val (.ref sd), .val (.ref kd), .unset] []))
  refine OwnEnds.via (fun t k => XS.aloadN X0.here hx rfl (hb hby d1_0) rfl rfl k) ?_
  show OwnEnds _ _ _ _ (s₁.setTop (mkF m 1 #[.val (.ref a), .val .null, .val (.int ax), .val (.ref sd), .val (.ref kd), .unset] [(.ref a)]))
  obtain ⟨T1, X1, e1, st1⟩ := initO X0 hx hZ hown (hw _ (List.mem_of_getElem? (i := 7) rfl)) (hw _ (List.mem_of_getElem? (i := 8) rfl)) (hw _ (List.mem_of_getElem? (i := 9) rfl)) e0 (g := (mkF m 1 #[.val (.ref a), .val .null, .val (.int ax), .val (.ref sd), .val (.ref kd), .unset] [(.ref a)])) rfl (by rw [hml]; rfl) rfl (hb hby d1_1) (by decide) (W := 0) (by show 2 * 0 + _ ≤ _; exact Nat.le_of_eq rfl) (by decide)
  refine OwnEnds.via st1 ?_
  show OwnEnds _ _ _ _ (T1.setTop (mkF m 4 #[.val (.ref a), .val .null, .val (.int ax), .val (.ref sd), .val (.ref kd), .unset] []))
  refine OwnEnds.via (fun t k => XS.aloadN X1.here hx rfl (hb hby d1_4) rfl rfl k) ?_
  show OwnEnds _ _ _ _ (T1.setTop (mkF m 5 #[.val (.ref a), .val .null, .val (.int ax), .val (.ref sd), .val (.ref kd), .unset] [(.ref a)]))
  refine OwnEnds.via (fun t k => XS.aloadN X1.here hx rfl (hb hby d1_5) rfl rfl k) ?_
  show OwnEnds _ _ _ _ (T1.setTop (mkF m 6 #[.val (.ref a), .val .null, .val (.int ax), .val (.ref sd), .val (.ref kd), .unset] [.null, (.ref a)]))
  obtain ⟨T2, h2, X2, e2, W2, st2⟩ := putF X1 hx hZ hown (host := "") (Or.inl (hw _ (List.mem_of_getElem? (i := 10) rfl))) Via.refl e1 P1 P0 (Or.inr ⟨(hw _ (List.mem_of_getElem? (i := 11) rfl)), rfl, hnm⟩) (hw _ (List.mem_of_getElem? (i := 2) rfl)) (ty := (.object "com/example/stratal/stratal/graph/Graph")) (by decide) rfl rfl (g := (mkF m 6 #[.val (.ref a), .val .null, .val (.int ax), .val (.ref sd), .val (.ref kd), .unset] [.null, (.ref a)])) rfl rfl (hb hby d1_6)
  have Fw2 : Fld Z h2 a "com/example/stratal/stratal/logic/LayerReport" "mGraph" "Lcom/example/stratal/stratal/graph/Graph;" .null := P1.same W2
  have N2 := Fr.snoc X2 N0 P7
  have Z2 : n0 ≤ h2.size := Nat.le_trans Z0 (Nat.le_of_eq W2.size.symm)
  have K2 : Keep h0 h2 [a] := (Keep.refl h0 [a]).wr W2 (Or.inl (by simp))
  have O2 : Old Z n0 h2 := O0.wr W2 P7
  refine OwnEnds.via st2 ?_
  show OwnEnds _ _ _ _ (T2.setTop (mkF m 9 #[.val (.ref a), .val .null, .val (.int ax), .val (.ref sd), .val (.ref kd), .unset] []))
  refine OwnEnds.via (fun t k => XS.aloadN X2.here hx rfl (hb hby d1_9) rfl rfl k) ?_
  show OwnEnds _ _ _ _ (T2.setTop (mkF m 10 #[.val (.ref a), .val .null, .val (.int ax), .val (.ref sd), .val (.ref kd), .unset] [(.ref a)]))
  refine OwnEnds.via (fun t k => XS.aloadN X2.here hx rfl (hb hby d1_10) rfl rfl k) ?_
  show OwnEnds _ _ _ _ (T2.setTop (mkF m 11 #[.val (.ref a), .val .null, .val (.int ax), .val (.ref sd), .val (.ref kd), .unset] [(.ref sd), (.ref a)]))
  obtain ⟨cl3, Ar3, q3, S3, M3, H3, G3⟩ := id (P8.other W2 P10)
  refine OwnEnds.via (X2.arraylength hx (by rw [e2]; exact Ar3.1) (State.isArrayOf_alike hZ.alike Ar3.2.1) (g := (mkF m 11 #[.val (.ref a), .val .null, .val (.int ax), .val (.ref sd), .val (.ref kd), .unset] [(.ref sd), (.ref a)])) rfl rfl (hb hby d1_11)) ?_
  rw [len_of S3 M3]
  show OwnEnds _ _ _ _ (T2.setTop (mkF m 12 #[.val (.ref a), .val .null, .val (.int ax), .val (.ref sd), .val (.ref kd), .unset] [(.int (0 : Int32)), (.ref a)]))
  obtain ⟨T4, h4, X4, e4, W4, st4⟩ := putF X2 hx hZ hown (host := "") (Or.inl (hw _ (List.mem_of_getElem? (i := 12) rfl))) Via.refl e2 (P2.other W2 (Or.inr (slot_ne (Or.inr (hw _ (List.mem_of_getElem? (i := 13) rfl))) (Or.inr (hw _ (List.mem_of_getElem? (i := 11) rfl))) (by decide) (t := .int) (t' := (.object "com/example/stratal/stratal/graph/Graph")) (by decide) (by decide)))) (P0.wr W2) (Or.inr ⟨(hw _ (List.mem_of_getElem? (i := 13) rfl)), rfl, hnm⟩) (hw _ (List.mem_of_getElem? (i := 2) rfl)) (ty := .int) (by decide) rfl rfl (g := (mkF m 12 #[.val (.ref a), .val .null, .val (.int ax), .val (.ref sd), .val (.ref kd), .unset] [(.int (0 : Int32)), (.ref a)])) rfl rfl (hb hby d1_12)
  have Fw4 : Fld Z h4 a "com/example/stratal/stratal/logic/LayerReport" "mTripleCount" "I" (.int (0 : Int32)) := (P2.other W2 (Or.inr (slot_ne (Or.inr (hw _ (List.mem_of_getElem? (i := 13) rfl))) (Or.inr (hw _ (List.mem_of_getElem? (i := 11) rfl))) (by decide) (t := .int) (t' := (.object "com/example/stratal/stratal/graph/Graph")) (by decide) (by decide)))).same W4
  have N4 := Fr.snoc X4 N2 P7
  have Z4 : n0 ≤ h4.size := Nat.le_trans Z2 (Nat.le_of_eq W4.size.symm)
  have K4 : Keep h0 h4 [a] := K2.wr W4 (Or.inl (by simp))
  have O4 : Old Z n0 h4 := O2.wr W4 P7
  refine OwnEnds.via st4 ?_
  show OwnEnds _ _ _ _ (T4.setTop (mkF m 15 #[.val (.ref a), .val .null, .val (.int ax), .val (.ref sd), .val (.ref kd), .unset] []))
  refine OwnEnds.via (fun t k => XS.aloadN X4.here hx rfl (hb hby d1_15) rfl rfl k) ?_
  show OwnEnds _ _ _ _ (T4.setTop (mkF m 16 #[.val (.ref a), .val .null, .val (.int ax), .val (.ref sd), .val (.ref kd), .unset] [(.ref a)]))
  refine OwnEnds.via (fun t k => XS.iloadN X4.here hx rfl (hb hby d1_16) rfl k) ?_
  show OwnEnds _ _ _ _ (T4.setTop (mkF m 17 #[.val (.ref a), .val .null, .val (.int ax), .val (.ref sd), .val (.ref kd), .unset] [(.int ax), (.ref a)]))
  obtain ⟨T5, h5, X5, e5, W5, st5⟩ := putFN X4 hx hZ hown (hw _ (List.mem_of_getElem? (i := 14) rfl)) Via.refl e4 ((P3.other W2 (Or.inr (slot_ne (Or.inr (hw _ (List.mem_of_getElem? (i := 15) rfl))) (Or.inr (hw _ (List.mem_of_getElem? (i := 11) rfl))) (by decide) (t := .boolean) (t' := (.object "com/example/stratal/stratal/graph/Graph")) (by decide) (by decide)))).other W4 (Or.inr (slot_ne (Or.inr (hw _ (List.mem_of_getElem? (i := 15) rfl))) (Or.inr (hw _ (List.mem_of_getElem? (i := 13) rfl))) (by decide) (t := .boolean) (t' := .int) (by decide) (by decide)))) ((P0.wr W2).wr W4) (Or.inr ⟨(hw _ (List.mem_of_getElem? (i := 15) rfl)), rfl, hnm⟩) (hw _ (List.mem_of_getElem? (i := 2) rfl)) (ty := .boolean) (v' := (.int (nar .boolean ax))) (by decide) rfl (fits_nar_bool _) (g := (mkF m 17 #[.val (.ref a), .val .null, .val (.int ax), .val (.ref sd), .val (.ref kd), .unset] [(.int ax), (.ref a)])) rfl rfl (hb hby d1_17)
  have Fw5 : Fld Z h5 a "com/example/stratal/stratal/logic/LayerReport" "mHasAxioms" "Z" (.int (nar .boolean ax)) := ((P3.other W2 (Or.inr (slot_ne (Or.inr (hw _ (List.mem_of_getElem? (i := 15) rfl))) (Or.inr (hw _ (List.mem_of_getElem? (i := 11) rfl))) (by decide) (t := .boolean) (t' := (.object "com/example/stratal/stratal/graph/Graph")) (by decide) (by decide)))).other W4 (Or.inr (slot_ne (Or.inr (hw _ (List.mem_of_getElem? (i := 15) rfl))) (Or.inr (hw _ (List.mem_of_getElem? (i := 13) rfl))) (by decide) (t := .boolean) (t' := .int) (by decide) (by decide)))).same W5
  have N5 := Fr.snoc X5 N4 P7
  have Z5 : n0 ≤ h5.size := Nat.le_trans Z4 (Nat.le_of_eq W5.size.symm)
  have K5 : Keep h0 h5 [a] := K4.wr W5 (Or.inl (by simp))
  have O5 : Old Z n0 h5 := O4.wr W5 P7
  refine OwnEnds.via st5 ?_
  show OwnEnds _ _ _ _ (T5.setTop (mkF m 20 #[.val (.ref a), .val .null, .val (.int ax), .val (.ref sd), .val (.ref kd), .unset] []))
  refine OwnEnds.via (fun t k => XS.aloadN X5.here hx rfl (hb hby d1_20) rfl rfl k) ?_
  show OwnEnds _ _ _ _ (T5.setTop (mkF m 21 #[.val (.ref a), .val .null, .val (.int ax), .val (.ref sd), .val (.ref kd), .unset] [(.ref a)]))
  refine OwnEnds.via (fun t k => XS.aloadN X5.here hx rfl (hb hby d1_21) rfl rfl k) ?_
  show OwnEnds _ _ _ _ (T5.setTop (mkF m 22 #[.val (.ref a), .val .null, .val (.int ax), .val (.ref sd), .val (.ref kd), .unset] [(.ref sd), (.ref a)]))
  obtain ⟨T6, h6, X6, e6, W6, st6⟩ := putF X5 hx hZ hown (host := "") (Or.inl (hw _ (List.mem_of_getElem? (i := 16) rfl))) Via.refl e5 (((P4.other W2 (Or.inr (slot_ne (Or.inr (hw _ (List.mem_of_getElem? (i := 17) rfl))) (Or.inr (hw _ (List.mem_of_getElem? (i := 11) rfl))) (by decide) (t := (.array .byte)) (t' := (.object "com/example/stratal/stratal/graph/Graph")) (by decide) (by decide)))).other W4 (Or.inr (slot_ne (Or.inr (hw _ (List.mem_of_getElem? (i := 17) rfl))) (Or.inr (hw _ (List.mem_of_getElem? (i := 13) rfl))) (by decide) (t := (.array .byte)) (t' := .int) (by decide) (by decide)))).other W5 (Or.inr (slot_ne (Or.inr (hw _ (List.mem_of_getElem? (i := 17) rfl))) (Or.inr (hw _ (List.mem_of_getElem? (i := 15) rfl))) (by decide) (t := (.array .byte)) (t' := .boolean) (by decide) (by decide)))) (((P0.wr W2).wr W4).wr W5) (Or.inr ⟨(hw _ (List.mem_of_getElem? (i := 17) rfl)), rfl, hnm⟩) (hw _ (List.mem_of_getElem? (i := 2) rfl)) (ty := (.array .byte)) (by decide) rfl rfl (g := (mkF m 22 #[.val (.ref a), .val .null, .val (.int ax), .val (.ref sd), .val (.ref kd), .unset] [(.ref sd), (.ref a)])) rfl rfl (hb hby d1_22)
  have Fw6 : Fld Z h6 a "com/example/stratal/stratal/logic/LayerReport" "mStatus" "[B" (.ref sd) := (((P4.other W2 (Or.inr (slot_ne (Or.inr (hw _ (List.mem_of_getElem? (i := 17) rfl))) (Or.inr (hw _ (List.mem_of_getElem? (i := 11) rfl))) (by decide) (t := (.array .byte)) (t' := (.object "com/example/stratal/stratal/graph/Graph")) (by decide) (by decide)))).other W4 (Or.inr (slot_ne (Or.inr (hw _ (List.mem_of_getElem? (i := 17) rfl))) (Or.inr (hw _ (List.mem_of_getElem? (i := 13) rfl))) (by decide) (t := (.array .byte)) (t' := .int) (by decide) (by decide)))).other W5 (Or.inr (slot_ne (Or.inr (hw _ (List.mem_of_getElem? (i := 17) rfl))) (Or.inr (hw _ (List.mem_of_getElem? (i := 15) rfl))) (by decide) (t := (.array .byte)) (t' := .boolean) (by decide) (by decide)))).same W6
  have N6 := Fr.snoc X6 N5 P7
  have Z6 : n0 ≤ h6.size := Nat.le_trans Z5 (Nat.le_of_eq W6.size.symm)
  have K6 : Keep h0 h6 [a] := K5.wr W6 (Or.inl (by simp))
  have O6 : Old Z n0 h6 := O5.wr W6 P7
  refine OwnEnds.via st6 ?_
  show OwnEnds _ _ _ _ (T6.setTop (mkF m 25 #[.val (.ref a), .val .null, .val (.int ax), .val (.ref sd), .val (.ref kd), .unset] []))
  refine OwnEnds.via (fun t k => XS.aloadN X6.here hx rfl (hb hby d1_25) rfl rfl k) ?_
  show OwnEnds _ _ _ _ (T6.setTop (mkF m 26 #[.val (.ref a), .val .null, .val (.int ax), .val (.ref sd), .val (.ref kd), .unset] [(.ref a)]))
  refine OwnEnds.via (fun t k => XS.aload X6.here hx rfl (hb hby d1_26) rfl rfl k) ?_
  show OwnEnds _ _ _ _ (T6.setTop (mkF m 28 #[.val (.ref a), .val .null, .val (.int ax), .val (.ref sd), .val (.ref kd), .unset] [(.ref kd), (.ref a)]))
  obtain ⟨T7, h7, X7, e7, W7, st7⟩ := putF X6 hx hZ hown (host := "") (Or.inl (hw _ (List.mem_of_getElem? (i := 18) rfl))) Via.refl e6 ((((P5.other W2 (Or.inr (slot_ne (Or.inr (hw _ (List.mem_of_getElem? (i := 19) rfl))) (Or.inr (hw _ (List.mem_of_getElem? (i := 11) rfl))) (by decide) (t := (.array .byte)) (t' := (.object "com/example/stratal/stratal/graph/Graph")) (by decide) (by decide)))).other W4 (Or.inr (slot_ne (Or.inr (hw _ (List.mem_of_getElem? (i := 19) rfl))) (Or.inr (hw _ (List.mem_of_getElem? (i := 13) rfl))) (by decide) (t := (.array .byte)) (t' := .int) (by decide) (by decide)))).other W5 (Or.inr (slot_ne (Or.inr (hw _ (List.mem_of_getElem? (i := 19) rfl))) (Or.inr (hw _ (List.mem_of_getElem? (i := 15) rfl))) (by decide) (t := (.array .byte)) (t' := .boolean) (by decide) (by decide)))).other W6 (Or.inr (slot_ne (Or.inr (hw _ (List.mem_of_getElem? (i := 19) rfl))) (Or.inr (hw _ (List.mem_of_getElem? (i := 17) rfl))) (by decide) (t := (.array .byte)) (t' := (.array .byte)) (by decide) (by decide)))) ((((P0.wr W2).wr W4).wr W5).wr W6) (Or.inr ⟨(hw _ (List.mem_of_getElem? (i := 19) rfl)), rfl, hnm⟩) (hw _ (List.mem_of_getElem? (i := 2) rfl)) (ty := (.array .byte)) (by decide) rfl rfl (g := (mkF m 28 #[.val (.ref a), .val .null, .val (.int ax), .val (.ref sd), .val (.ref kd), .unset] [(.ref kd), (.ref a)])) rfl rfl (hb hby d1_28)
  have Fw7 : Fld Z h7 a "com/example/stratal/stratal/logic/LayerReport" "mKinds" "[B" (.ref kd) := ((((P5.other W2 (Or.inr (slot_ne (Or.inr (hw _ (List.mem_of_getElem? (i := 19) rfl))) (Or.inr (hw _ (List.mem_of_getElem? (i := 11) rfl))) (by decide) (t := (.array .byte)) (t' := (.object "com/example/stratal/stratal/graph/Graph")) (by decide) (by decide)))).other W4 (Or.inr (slot_ne (Or.inr (hw _ (List.mem_of_getElem? (i := 19) rfl))) (Or.inr (hw _ (List.mem_of_getElem? (i := 13) rfl))) (by decide) (t := (.array .byte)) (t' := .int) (by decide) (by decide)))).other W5 (Or.inr (slot_ne (Or.inr (hw _ (List.mem_of_getElem? (i := 19) rfl))) (Or.inr (hw _ (List.mem_of_getElem? (i := 15) rfl))) (by decide) (t := (.array .byte)) (t' := .boolean) (by decide) (by decide)))).other W6 (Or.inr (slot_ne (Or.inr (hw _ (List.mem_of_getElem? (i := 19) rfl))) (Or.inr (hw _ (List.mem_of_getElem? (i := 17) rfl))) (by decide) (t := (.array .byte)) (t' := (.array .byte)) (by decide) (by decide)))).same W7
  have N7 := Fr.snoc X7 N6 P7
  have Z7 : n0 ≤ h7.size := Nat.le_trans Z6 (Nat.le_of_eq W7.size.symm)
  have K7 : Keep h0 h7 [a] := K6.wr W7 (Or.inl (by simp))
  have O7 : Old Z n0 h7 := O6.wr W7 P7
  refine OwnEnds.via st7 ?_
  show OwnEnds _ _ _ _ (T7.setTop (mkF m 31 #[.val (.ref a), .val .null, .val (.int ax), .val (.ref sd), .val (.ref kd), .unset] []))
  refine OwnEnds.via (fun t k => XS.aloadN X7.here hx rfl (hb hby d1_31) rfl rfl k) ?_
  show OwnEnds _ _ _ _ (T7.setTop (mkF m 32 #[.val (.ref a), .val .null, .val (.int ax), .val (.ref sd), .val (.ref kd), .unset] [(.ref a)]))
  refine OwnEnds.via (fun t k => XS.aload X7.here hx rfl (hb hby d1_32) rfl rfl k) ?_
  show OwnEnds _ _ _ _ (T7.setTop (mkF m 34 #[.val (.ref a), .val .null, .val (.int ax), .val (.ref sd), .val (.ref kd), .unset] [(.ref kd), (.ref a)]))
  obtain ⟨cl8, Ar8, q8, S8, M8, H8, G8⟩ := id (((((P9.other W2 P11).other W4 P11).other W5 P11).other W6 P11).other W7 P11)
  refine OwnEnds.via (X7.arraylength hx (by rw [e7]; exact Ar8.1) (State.isArrayOf_alike hZ.alike Ar8.2.1) (g := (mkF m 34 #[.val (.ref a), .val .null, .val (.int ax), .val (.ref sd), .val (.ref kd), .unset] [(.ref kd), (.ref a)])) rfl rfl (hb hby d1_34)) ?_
  rw [len_of S8 M8]
  show OwnEnds _ _ _ _ (T7.setTop (mkF m 35 #[.val (.ref a), .val .null, .val (.int ax), .val (.ref sd), .val (.ref kd), .unset] [(.int (3 : Int32)), (.ref a)]))
  obtain ⟨T9, h9, k9, X9, e9, E9, A9, st9⟩ := newP X7 hx hZ (hw _ (List.mem_of_getElem? (i := 20) rfl)) e7 (g := (mkF m 35 #[.val (.ref a), .val .null, .val (.int ax), .val (.ref sd), .val (.ref kd), .unset] [(.int (3 : Int32)), (.ref a)])) rfl (hb hby d1_35) rfl (by decide) (cap := 3) (by decide) (by decide) (by decide) (by decide)
  obtain ⟨b9, g9⟩ : ∃ z, z = h7.size := ⟨_, rfl⟩
  have ne_a_b9 : a ≠ b9 := Nat.ne_of_lt (Nat.lt_of_lt_of_le (((((P0.wr W2).wr W4).wr W5).wr W6).wr W7).lt (Nat.le_of_eq g9.symm))
  have ne_sd_b9 : sd ≠ b9 := Nat.ne_of_lt (Nat.lt_of_lt_of_le (((((P8.other W2 P10).other W4 P10).other W5 P10).other W6 P10).other W7 P10).lt (Nat.le_of_eq g9.symm))
  have ne_kd_b9 : kd ≠ b9 := Nat.ne_of_lt (Nat.lt_of_lt_of_le (((((P9.other W2 P11).other W4 P11).other W5 P11).other W6 P11).other W7 P11).lt (Nat.le_of_eq g9.symm))
  have ne_ko_b9 : ko ≠ b9 := Nat.ne_of_lt (Nat.lt_of_lt_of_le (OP3.ext O7.2).lt (Nat.le_of_eq g9.symm))
  have ne_kp_b9 : kp ≠ b9 := Nat.ne_of_lt (Nat.lt_of_lt_of_le (OP4.ext O7.2).lt (Nat.le_of_eq g9.symm))
  have ge_b9 : n0 ≤ b9 := Nat.le_trans Z7 (Nat.le_of_eq g9.symm)
  have sz_b9 : h0.size ≤ b9 := Nat.le_trans K7.1 (Nat.le_of_eq g9.symm)
  have Z9 : n0 ≤ h9.size := Nat.le_trans Z7 E9.1
  have K9 : Keep h0 h9 [a] := K7.ext E9
  have O9 : Old Z n0 h9 := O7.ext E9
  rw [← g9] at A9 st9
  have V9 : Arv Z h9 b9 k9 .boolean (3 : Int32) [(.int (0 : Int32)), (.int (0 : Int32)), (.int (0 : Int32))] (.int (0 : Int32)) := (Arv.new A9 (by decide)).pad (pad_rep [] (.int (0 : Int32)) 3)
  refine OwnEnds.via st9 ?_
  show OwnEnds _ _ _ _ (T9.setTop (mkF m 37 #[.val (.ref a), .val .null, .val (.int ax), .val (.ref sd), .val (.ref kd), .unset] [(.ref b9), (.ref a)]))
  obtain ⟨T10, h10, X10, e10, W10, st10⟩ := putF X9 hx hZ hown (host := "") (Or.inl (hw _ (List.mem_of_getElem? (i := 21) rfl))) Via.refl e9 ((((((P6.other W2 (Or.inr (slot_ne (Or.inr (hw _ (List.mem_of_getElem? (i := 22) rfl))) (Or.inr (hw _ (List.mem_of_getElem? (i := 11) rfl))) (by decide) (t := (.array .boolean)) (t' := (.object "com/example/stratal/stratal/graph/Graph")) (by decide) (by decide)))).other W4 (Or.inr (slot_ne (Or.inr (hw _ (List.mem_of_getElem? (i := 22) rfl))) (Or.inr (hw _ (List.mem_of_getElem? (i := 13) rfl))) (by decide) (t := (.array .boolean)) (t' := .int) (by decide) (by decide)))).other W5 (Or.inr (slot_ne (Or.inr (hw _ (List.mem_of_getElem? (i := 22) rfl))) (Or.inr (hw _ (List.mem_of_getElem? (i := 15) rfl))) (by decide) (t := (.array .boolean)) (t' := .boolean) (by decide) (by decide)))).other W6 (Or.inr (slot_ne (Or.inr (hw _ (List.mem_of_getElem? (i := 22) rfl))) (Or.inr (hw _ (List.mem_of_getElem? (i := 17) rfl))) (by decide) (t := (.array .boolean)) (t' := (.array .byte)) (by decide) (by decide)))).other W7 (Or.inr (slot_ne (Or.inr (hw _ (List.mem_of_getElem? (i := 22) rfl))) (Or.inr (hw _ (List.mem_of_getElem? (i := 19) rfl))) (by decide) (t := (.array .boolean)) (t' := (.array .byte)) (by decide) (by decide)))).ext E9) ((((((P0.wr W2).wr W4).wr W5).wr W6).wr W7).ext E9) (Or.inr ⟨(hw _ (List.mem_of_getElem? (i := 22) rfl)), rfl, hnm⟩) (hw _ (List.mem_of_getElem? (i := 2) rfl)) (ty := (.array .boolean)) (by decide) rfl rfl (g := (mkF m 37 #[.val (.ref a), .val .null, .val (.int ax), .val (.ref sd), .val (.ref kd), .unset] [(.ref b9), (.ref a)])) rfl rfl (hb hby d1_37)
  have Fw10 : Fld Z h10 a "com/example/stratal/stratal/logic/LayerReport" "mClashing" "[Z" (.ref b9) := ((((((P6.other W2 (Or.inr (slot_ne (Or.inr (hw _ (List.mem_of_getElem? (i := 22) rfl))) (Or.inr (hw _ (List.mem_of_getElem? (i := 11) rfl))) (by decide) (t := (.array .boolean)) (t' := (.object "com/example/stratal/stratal/graph/Graph")) (by decide) (by decide)))).other W4 (Or.inr (slot_ne (Or.inr (hw _ (List.mem_of_getElem? (i := 22) rfl))) (Or.inr (hw _ (List.mem_of_getElem? (i := 13) rfl))) (by decide) (t := (.array .boolean)) (t' := .int) (by decide) (by decide)))).other W5 (Or.inr (slot_ne (Or.inr (hw _ (List.mem_of_getElem? (i := 22) rfl))) (Or.inr (hw _ (List.mem_of_getElem? (i := 15) rfl))) (by decide) (t := (.array .boolean)) (t' := .boolean) (by decide) (by decide)))).other W6 (Or.inr (slot_ne (Or.inr (hw _ (List.mem_of_getElem? (i := 22) rfl))) (Or.inr (hw _ (List.mem_of_getElem? (i := 17) rfl))) (by decide) (t := (.array .boolean)) (t' := (.array .byte)) (by decide) (by decide)))).other W7 (Or.inr (slot_ne (Or.inr (hw _ (List.mem_of_getElem? (i := 22) rfl))) (Or.inr (hw _ (List.mem_of_getElem? (i := 19) rfl))) (by decide) (t := (.array .boolean)) (t' := (.array .byte)) (by decide) (by decide)))).ext E9).same W10
  have N10 := Fr.snoc X10 N7 P7
  have Z10 : n0 ≤ h10.size := Nat.le_trans Z9 (Nat.le_of_eq W10.size.symm)
  have K10 : Keep h0 h10 [a] := K9.wr W10 (Or.inl (by simp))
  have O10 : Old Z n0 h10 := O9.wr W10 P7
  refine OwnEnds.via st10 ?_
  show OwnEnds _ _ _ _ (T10.setTop (mkF m 40 #[.val (.ref a), .val .null, .val (.int ax), .val (.ref sd), .val (.ref kd), .unset] []))
  refine OwnEnds.via (fun t k => XS.iconst X10.here hx rfl (hb hby d1_40) k) ?_
  show OwnEnds _ _ _ _ (T10.setTop (mkF m 41 #[.val (.ref a), .val .null, .val (.int ax), .val (.ref sd), .val (.ref kd), .unset] [(.int (0 : Int32))]))
  refine OwnEnds.via (fun t k => XS.istore X10.here hx rfl (hb hby d1_41) rfl (l' := #[.val (.ref a), .val .null, .val (.int ax), .val (.ref sd), .val (.ref kd), .val (.int (0 : Int32))]) rfl k) ?_
  show OwnEnds _ _ _ _ (T10.setTop (mkF m 43 #[.val (.ref a), .val .null, .val (.int ax), .val (.ref sd), .val (.ref kd), .val (.int (0 : Int32))] []))
  refine OwnEnds.via (fun t k => XS.iload X10.here hx rfl (hb hby d1_43) rfl k) ?_
  show OwnEnds _ _ _ _ (T10.setTop (mkF m 45 #[.val (.ref a), .val .null, .val (.int ax), .val (.ref sd), .val (.ref kd), .val (.int (0 : Int32))] [(.int (0 : Int32))]))
  refine OwnEnds.via (fun t k => XS.aload X10.here hx rfl (hb hby d1_45) rfl rfl k) ?_
  show OwnEnds _ _ _ _ (T10.setTop (mkF m 47 #[.val (.ref a), .val .null, .val (.int ax), .val (.ref sd), .val (.ref kd), .val (.int (0 : Int32))] [(.ref kd), (.int (0 : Int32))]))
  obtain ⟨cl11, Ar11, q11, S11, M11, H11, G11⟩ := id (((((((P9.other W2 P11).other W4 P11).other W5 P11).other W6 P11).other W7 P11).ext E9).other W10 P11)
  refine OwnEnds.via (X10.arraylength hx (by rw [e10]; exact Ar11.1) (State.isArrayOf_alike hZ.alike Ar11.2.1) (g := (mkF m 47 #[.val (.ref a), .val .null, .val (.int ax), .val (.ref sd), .val (.ref kd), .val (.int (0 : Int32))] [(.ref kd), (.int (0 : Int32))])) rfl rfl (hb hby d1_47)) ?_
  rw [len_of S11 M11]
  show OwnEnds _ _ _ _ (T10.setTop (mkF m 48 #[.val (.ref a), .val .null, .val (.int ax), .val (.ref sd), .val (.ref kd), .val (.int (0 : Int32))] [(.int (3 : Int32)), (.int (0 : Int32))]))
  refine OwnEnds.via (fun t k => XS.icmpNo X10.here hx rfl (hb hby d1_48) rfl (tlt (by decide)).2.1 k) ?_
  show OwnEnds _ _ _ _ (T10.setTop (mkF m 51 #[.val (.ref a), .val .null, .val (.int ax), .val (.ref sd), .val (.ref kd), .val (.int (0 : Int32))] []))
  refine OwnEnds.via (fun t k => XS.aloadN X10.here hx rfl (hb hby d1_51) rfl rfl k) ?_
  show OwnEnds _ _ _ _ (T10.setTop (mkF m 52 #[.val (.ref a), .val .null, .val (.int ax), .val (.ref sd), .val (.ref kd), .val (.int (0 : Int32))] [(.ref a)]))
  obtain ⟨T12, X12, e12, st12⟩ := getF X10 hx hZ hown (host := "") (Or.inl (hw _ (List.mem_of_getElem? (i := 21) rfl))) Via.refl e10 Fw10 (g := (mkF m 52 #[.val (.ref a), .val .null, .val (.int ax), .val (.ref sd), .val (.ref kd), .val (.int (0 : Int32))] [(.ref a)])) rfl rfl (hb hby d1_52)
  refine OwnEnds.via st12 ?_
  show OwnEnds _ _ _ _ (T12.setTop (mkF m 55 #[.val (.ref a), .val .null, .val (.int ax), .val (.ref sd), .val (.ref kd), .val (.int (0 : Int32))] [(.ref b9)]))
  refine OwnEnds.via (fun t k => XS.iload X12.here hx rfl (hb hby d1_55) rfl k) ?_
  show OwnEnds _ _ _ _ (T12.setTop (mkF m 57 #[.val (.ref a), .val .null, .val (.int ax), .val (.ref sd), .val (.ref kd), .val (.int (0 : Int32))] [(.int (0 : Int32)), (.ref b9)]))
  refine OwnEnds.via (fun t k => XS.aload X12.here hx rfl (hb hby d1_57) rfl rfl k) ?_
  show OwnEnds _ _ _ _ (T12.setTop (mkF m 59 #[.val (.ref a), .val .null, .val (.int ax), .val (.ref sd), .val (.ref kd), .val (.int (0 : Int32))] [(.ref kd), (.int (0 : Int32)), (.ref b9)]))
  refine OwnEnds.via (fun t k => XS.iload X12.here hx rfl (hb hby d1_59) rfl k) ?_
  show OwnEnds _ _ _ _ (T12.setTop (mkF m 61 #[.val (.ref a), .val .null, .val (.int ax), .val (.ref sd), .val (.ref kd), .val (.int (0 : Int32))] [(.int (0 : Int32)), (.ref kd), (.int (0 : Int32)), (.ref b9)]))
  obtain ⟨cl13, Ar13, q13, S13, M13, H13, G13⟩ := id (((((((P9.other W2 P11).other W4 P11).other W5 P11).other W6 P11).other W7 P11).ext E9).other W10 P11)
  have hin13 : ¬ ((0 : Int32) < 0 ∨ cl13.slots.size ≤ ((0 : Int32)).toNatClampNeg) := inb_of S13 ⟨by decide, by decide⟩
  have hat13 : cl13.slots[((0 : Int32)).toNatClampNeg]? = some (.int x0) := H13.at hin13 rfl
  refine OwnEnds.via (X12.baloadBytes hx (j := (0 : Int32)) (v := (.int x0)) (by rw [e12]; exact Ar13.1) (State.isArrayOf_alike hZ.alike Ar13.2.1) Ar13.2.2 hin13 hat13 (g := (mkF m 61 #[.val (.ref a), .val .null, .val (.int ax), .val (.ref sd), .val (.ref kd), .val (.int (0 : Int32))] [(.int (0 : Int32)), (.ref kd), (.int (0 : Int32)), (.ref b9)])) rfl rfl (hb hby d1_61)) ?_
  show OwnEnds _ _ _ _ (T12.setTop (mkF m 62 #[.val (.ref a), .val .null, .val (.int ax), .val (.ref sd), .val (.ref kd), .val (.int (0 : Int32))] [(.int x0), (.int (0 : Int32)), (.ref b9)]))
  obtain ⟨_, _, ⟨T14, L14, k14, n14⟩, -, X14, ⟨Lc14, hQ14, l14, y14, z14⟩, st14⟩ := Jvm.LawKit.callS X12 hx (y := (⟨"com/example/stratal/stratal/logic/LayerReport", "isClash", "(B)Z"⟩ : MethodName)) hown (mvT hZ (hw _ (List.mem_of_getElem? (i := 23) rfl))) (mvT hZ (hw _ (List.mem_of_getElem? (i := 24) rfl))) (mvT hZ (hw _ (List.mem_of_getElem? (i := 3) rfl))) (mvT hZ (hw _ (List.mem_of_getElem? (i := 25) rfl))) (by decide) (backOf (W := 2) (rm3 l Z a0 hw [] x0 ko kp h10 n0 Z10 O10 OP0 OP1 OP2 OP3 OP4 OP5 OP6) hZ (hw _ (List.mem_of_getElem? (i := 25) rfl)) (hw _ (List.mem_of_getElem? (i := 3) rfl)) (by decide) (by decide)) (g := (mkF m 62 #[.val (.ref a), .val .null, .val (.int ax), .val (.ref sd), .val (.ref kd), .val (.int (0 : Int32))] [(.int x0), (.int (0 : Int32)), (.ref b9)])) rfl (by rw [hml]; rfl) (argsL := [(.int x0)]) (rest := [(.int (0 : Int32)), (.ref b9)]) (lenOf pd_3 rfl) rfl (by show 2 * 0 + _ ≤ _; exact Nat.le_of_eq rfl) (hb hby d1_62) (fun _ _ => ⟨rfl, e12, (by decide : 1 + 0 ≤ _), (by decide : 3 + 0 ≤ _)⟩)
  dsimp only [Pt.U, Pt.locs, Pt.cells, Pt.slots] at X14 l14 y14 z14 st14 hQ14
  subst l14 y14 z14
  obtain ⟨rfl, Nq14, e14⟩ := hQ14
  have N14 := Fr.app N10 Nq14
  refine OwnEnds.via st14 ?_
  show OwnEnds _ _ _ _ (T14.setTop (mkF m 65 #[.val (.ref a), .val .null, .val (.int ax), .val (.ref sd), .val (.ref kd), .val (.int (0 : Int32))] [(.int (own_cl x0)), (.int (0 : Int32)), (.ref b9)]))
  obtain ⟨cl15, Ar15, q15, S15, M15, H15, G15⟩ := id (V9.other W10 (Ne.symm ne_a_b9))
  have hin15 : ¬ ((0 : Int32) < 0 ∨ cl15.slots.size ≤ ((0 : Int32)).toNatClampNeg) := inb_of S15 ⟨by decide, by decide⟩
  obtain ⟨T15, h15, X15, e15, W15, st15⟩ := stZ X14 hx hZ e14 Ar15 (j := (0 : Int32)) hin15 (g := (mkF m 65 #[.val (.ref a), .val .null, .val (.int ax), .val (.ref sd), .val (.ref kd), .val (.int (0 : Int32))] [(.int (own_cl x0)), (.int (0 : Int32)), (.ref b9)])) rfl rfl (hb hby d1_65)
  have V15 : Arv Z h15 b9 k9 .boolean (3 : Int32) [(.int (nar .boolean (own_cl x0))), (.int (0 : Int32)), (.int (0 : Int32))] (.int (0 : Int32)) := Arv.set Ar15 q15 S15 M15 H15 G15 (fits_nar_bool _) W15 0 rfl (Nat.le_of_ble_eq_true rfl)
  have N15 := Fr.snoc X15 N14 ge_b9
  have Z15 : n0 ≤ h15.size := Nat.le_trans Z10 (Nat.le_of_eq W15.size.symm)
  have K15 : Keep h0 h15 [a] := K10.wr W15 (Or.inr sz_b9)
  have O15 : Old Z n0 h15 := O10.wr W15 ge_b9
  refine OwnEnds.via st15 ?_
  show OwnEnds _ _ _ _ (T15.setTop (mkF m 66 #[.val (.ref a), .val .null, .val (.int ax), .val (.ref sd), .val (.ref kd), .val (.int (0 : Int32))] []))
  refine OwnEnds.via (fun t k => XS.iinc X15.here hx rfl (hb hby d1_66) rfl (l' := #[.val (.ref a), .val .null, .val (.int ax), .val (.ref sd), .val (.ref kd), .val (.int (1 : Int32))]) rfl k) ?_
  show OwnEnds _ _ _ _ (T15.setTop (mkF m 69 #[.val (.ref a), .val .null, .val (.int ax), .val (.ref sd), .val (.ref kd), .val (.int (1 : Int32))] []))
  refine OwnEnds.via (fun t k => XS.goto X15.here hx rfl (pc0 := 69) (pc' := 43) rfl (hb hby d1_69) (by decide) (by decide) k) ?_
  show OwnEnds _ _ _ _ (T15.setTop (mkF m 43 #[.val (.ref a), .val .null, .val (.int ax), .val (.ref sd), .val (.ref kd), .val (.int (1 : Int32))] []))
  refine OwnEnds.via (fun t k => XS.iload X15.here hx rfl (hb hby d1_43) rfl k) ?_
  show OwnEnds _ _ _ _ (T15.setTop (mkF m 45 #[.val (.ref a), .val .null, .val (.int ax), .val (.ref sd), .val (.ref kd), .val (.int (1 : Int32))] [(.int (1 : Int32))]))
  refine OwnEnds.via (fun t k => XS.aload X15.here hx rfl (hb hby d1_45) rfl rfl k) ?_
  show OwnEnds _ _ _ _ (T15.setTop (mkF m 47 #[.val (.ref a), .val .null, .val (.int ax), .val (.ref sd), .val (.ref kd), .val (.int (1 : Int32))] [(.ref kd), (.int (1 : Int32))]))
  obtain ⟨cl16, Ar16, q16, S16, M16, H16, G16⟩ := id ((((((((P9.other W2 P11).other W4 P11).other W5 P11).other W6 P11).other W7 P11).ext E9).other W10 P11).other W15 ne_kd_b9)
  refine OwnEnds.via (X15.arraylength hx (by rw [e15]; exact Ar16.1) (State.isArrayOf_alike hZ.alike Ar16.2.1) (g := (mkF m 47 #[.val (.ref a), .val .null, .val (.int ax), .val (.ref sd), .val (.ref kd), .val (.int (1 : Int32))] [(.ref kd), (.int (1 : Int32))])) rfl rfl (hb hby d1_47)) ?_
  rw [len_of S16 M16]
  show OwnEnds _ _ _ _ (T15.setTop (mkF m 48 #[.val (.ref a), .val .null, .val (.int ax), .val (.ref sd), .val (.ref kd), .val (.int (1 : Int32))] [(.int (3 : Int32)), (.int (1 : Int32))]))
  refine OwnEnds.via (fun t k => XS.icmpNo X15.here hx rfl (hb hby d1_48) rfl (tlt (by decide)).2.1 k) ?_
  show OwnEnds _ _ _ _ (T15.setTop (mkF m 51 #[.val (.ref a), .val .null, .val (.int ax), .val (.ref sd), .val (.ref kd), .val (.int (1 : Int32))] []))
  refine OwnEnds.via (fun t k => XS.aloadN X15.here hx rfl (hb hby d1_51) rfl rfl k) ?_
  show OwnEnds _ _ _ _ (T15.setTop (mkF m 52 #[.val (.ref a), .val .null, .val (.int ax), .val (.ref sd), .val (.ref kd), .val (.int (1 : Int32))] [(.ref a)]))
  obtain ⟨T17, X17, e17, st17⟩ := getF X15 hx hZ hown (host := "") (Or.inl (hw _ (List.mem_of_getElem? (i := 21) rfl))) Via.refl e15 (Fw10.other W15 (Or.inl ne_a_b9)) (g := (mkF m 52 #[.val (.ref a), .val .null, .val (.int ax), .val (.ref sd), .val (.ref kd), .val (.int (1 : Int32))] [(.ref a)])) rfl rfl (hb hby d1_52)
  refine OwnEnds.via st17 ?_
  show OwnEnds _ _ _ _ (T17.setTop (mkF m 55 #[.val (.ref a), .val .null, .val (.int ax), .val (.ref sd), .val (.ref kd), .val (.int (1 : Int32))] [(.ref b9)]))
  refine OwnEnds.via (fun t k => XS.iload X17.here hx rfl (hb hby d1_55) rfl k) ?_
  show OwnEnds _ _ _ _ (T17.setTop (mkF m 57 #[.val (.ref a), .val .null, .val (.int ax), .val (.ref sd), .val (.ref kd), .val (.int (1 : Int32))] [(.int (1 : Int32)), (.ref b9)]))
  refine OwnEnds.via (fun t k => XS.aload X17.here hx rfl (hb hby d1_57) rfl rfl k) ?_
  show OwnEnds _ _ _ _ (T17.setTop (mkF m 59 #[.val (.ref a), .val .null, .val (.int ax), .val (.ref sd), .val (.ref kd), .val (.int (1 : Int32))] [(.ref kd), (.int (1 : Int32)), (.ref b9)]))
  refine OwnEnds.via (fun t k => XS.iload X17.here hx rfl (hb hby d1_59) rfl k) ?_
  show OwnEnds _ _ _ _ (T17.setTop (mkF m 61 #[.val (.ref a), .val .null, .val (.int ax), .val (.ref sd), .val (.ref kd), .val (.int (1 : Int32))] [(.int (1 : Int32)), (.ref kd), (.int (1 : Int32)), (.ref b9)]))
  obtain ⟨cl18, Ar18, q18, S18, M18, H18, G18⟩ := id ((((((((P9.other W2 P11).other W4 P11).other W5 P11).other W6 P11).other W7 P11).ext E9).other W10 P11).other W15 ne_kd_b9)
  have hin18 : ¬ ((1 : Int32) < 0 ∨ cl18.slots.size ≤ ((1 : Int32)).toNatClampNeg) := inb_of S18 ⟨by decide, by decide⟩
  have hat18 : cl18.slots[((1 : Int32)).toNatClampNeg]? = some (.int x1) := H18.at hin18 rfl
  refine OwnEnds.via (X17.baloadBytes hx (j := (1 : Int32)) (v := (.int x1)) (by rw [e17]; exact Ar18.1) (State.isArrayOf_alike hZ.alike Ar18.2.1) Ar18.2.2 hin18 hat18 (g := (mkF m 61 #[.val (.ref a), .val .null, .val (.int ax), .val (.ref sd), .val (.ref kd), .val (.int (1 : Int32))] [(.int (1 : Int32)), (.ref kd), (.int (1 : Int32)), (.ref b9)])) rfl rfl (hb hby d1_61)) ?_
  show OwnEnds _ _ _ _ (T17.setTop (mkF m 62 #[.val (.ref a), .val .null, .val (.int ax), .val (.ref sd), .val (.ref kd), .val (.int (1 : Int32))] [(.int x1), (.int (1 : Int32)), (.ref b9)]))
  obtain ⟨_, _, ⟨T19, L19, k19, n19⟩, -, X19, ⟨Lc19, hQ19, l19, y19, z19⟩, st19⟩ := Jvm.LawKit.callS X17 hx (y := (⟨"com/example/stratal/stratal/logic/LayerReport", "isClash", "(B)Z"⟩ : MethodName)) hown (mvT hZ (hw _ (List.mem_of_getElem? (i := 23) rfl))) (mvT hZ (hw _ (List.mem_of_getElem? (i := 24) rfl))) (mvT hZ (hw _ (List.mem_of_getElem? (i := 3) rfl))) (mvT hZ (hw _ (List.mem_of_getElem? (i := 25) rfl))) (by decide) (backOf (W := 2) (rm3 l Z a0 hw [] x1 ko kp h15 n0 Z15 O15 OP0 OP1 OP2 OP3 OP4 OP5 OP6) hZ (hw _ (List.mem_of_getElem? (i := 25) rfl)) (hw _ (List.mem_of_getElem? (i := 3) rfl)) (by decide) (by decide)) (g := (mkF m 62 #[.val (.ref a), .val .null, .val (.int ax), .val (.ref sd), .val (.ref kd), .val (.int (1 : Int32))] [(.int x1), (.int (1 : Int32)), (.ref b9)])) rfl (by rw [hml]; rfl) (argsL := [(.int x1)]) (rest := [(.int (1 : Int32)), (.ref b9)]) (lenOf pd_3 rfl) rfl (by show 2 * 0 + _ ≤ _; exact Nat.le_of_eq rfl) (hb hby d1_62) (fun _ _ => ⟨rfl, e17, (by decide : 1 + 0 ≤ _), (by decide : 3 + 0 ≤ _)⟩)
  dsimp only [Pt.U, Pt.locs, Pt.cells, Pt.slots] at X19 l19 y19 z19 st19 hQ19
  subst l19 y19 z19
  obtain ⟨rfl, Nq19, e19⟩ := hQ19
  have N19 := Fr.app N15 Nq19
  refine OwnEnds.via st19 ?_
  show OwnEnds _ _ _ _ (T19.setTop (mkF m 65 #[.val (.ref a), .val .null, .val (.int ax), .val (.ref sd), .val (.ref kd), .val (.int (1 : Int32))] [(.int (own_cl x1)), (.int (1 : Int32)), (.ref b9)]))
  obtain ⟨cl20, Ar20, q20, S20, M20, H20, G20⟩ := id V15
  have hin20 : ¬ ((1 : Int32) < 0 ∨ cl20.slots.size ≤ ((1 : Int32)).toNatClampNeg) := inb_of S20 ⟨by decide, by decide⟩
  obtain ⟨T20, h20, X20, e20, W20, st20⟩ := stZ X19 hx hZ e19 Ar20 (j := (1 : Int32)) hin20 (g := (mkF m 65 #[.val (.ref a), .val .null, .val (.int ax), .val (.ref sd), .val (.ref kd), .val (.int (1 : Int32))] [(.int (own_cl x1)), (.int (1 : Int32)), (.ref b9)])) rfl rfl (hb hby d1_65)
  have V20 : Arv Z h20 b9 k9 .boolean (3 : Int32) [(.int (nar .boolean (own_cl x0))), (.int (nar .boolean (own_cl x1))), (.int (0 : Int32))] (.int (0 : Int32)) := Arv.set Ar20 q20 S20 M20 H20 G20 (fits_nar_bool _) W20 1 rfl (Nat.le_of_ble_eq_true rfl)
  have N20 := Fr.snoc X20 N19 ge_b9
  have Z20 : n0 ≤ h20.size := Nat.le_trans Z15 (Nat.le_of_eq W20.size.symm)
  have K20 : Keep h0 h20 [a] := K15.wr W20 (Or.inr sz_b9)
  have O20 : Old Z n0 h20 := O15.wr W20 ge_b9
  refine OwnEnds.via st20 ?_
  show OwnEnds _ _ _ _ (T20.setTop (mkF m 66 #[.val (.ref a), .val .null, .val (.int ax), .val (.ref sd), .val (.ref kd), .val (.int (1 : Int32))] []))
  refine OwnEnds.via (fun t k => XS.iinc X20.here hx rfl (hb hby d1_66) rfl (l' := #[.val (.ref a), .val .null, .val (.int ax), .val (.ref sd), .val (.ref kd), .val (.int (2 : Int32))]) rfl k) ?_
  show OwnEnds _ _ _ _ (T20.setTop (mkF m 69 #[.val (.ref a), .val .null, .val (.int ax), .val (.ref sd), .val (.ref kd), .val (.int (2 : Int32))] []))
  refine OwnEnds.via (fun t k => XS.goto X20.here hx rfl (pc0 := 69) (pc' := 43) rfl (hb hby d1_69) (by decide) (by decide) k) ?_
  show OwnEnds _ _ _ _ (T20.setTop (mkF m 43 #[.val (.ref a), .val .null, .val (.int ax), .val (.ref sd), .val (.ref kd), .val (.int (2 : Int32))] []))
  refine OwnEnds.via (fun t k => XS.iload X20.here hx rfl (hb hby d1_43) rfl k) ?_
  show OwnEnds _ _ _ _ (T20.setTop (mkF m 45 #[.val (.ref a), .val .null, .val (.int ax), .val (.ref sd), .val (.ref kd), .val (.int (2 : Int32))] [(.int (2 : Int32))]))
  refine OwnEnds.via (fun t k => XS.aload X20.here hx rfl (hb hby d1_45) rfl rfl k) ?_
  show OwnEnds _ _ _ _ (T20.setTop (mkF m 47 #[.val (.ref a), .val .null, .val (.int ax), .val (.ref sd), .val (.ref kd), .val (.int (2 : Int32))] [(.ref kd), (.int (2 : Int32))]))
  obtain ⟨cl21, Ar21, q21, S21, M21, H21, G21⟩ := id (((((((((P9.other W2 P11).other W4 P11).other W5 P11).other W6 P11).other W7 P11).ext E9).other W10 P11).other W15 ne_kd_b9).other W20 ne_kd_b9)
  refine OwnEnds.via (X20.arraylength hx (by rw [e20]; exact Ar21.1) (State.isArrayOf_alike hZ.alike Ar21.2.1) (g := (mkF m 47 #[.val (.ref a), .val .null, .val (.int ax), .val (.ref sd), .val (.ref kd), .val (.int (2 : Int32))] [(.ref kd), (.int (2 : Int32))])) rfl rfl (hb hby d1_47)) ?_
  rw [len_of S21 M21]
  show OwnEnds _ _ _ _ (T20.setTop (mkF m 48 #[.val (.ref a), .val .null, .val (.int ax), .val (.ref sd), .val (.ref kd), .val (.int (2 : Int32))] [(.int (3 : Int32)), (.int (2 : Int32))]))
  refine OwnEnds.via (fun t k => XS.icmpNo X20.here hx rfl (hb hby d1_48) rfl (tlt (by decide)).2.1 k) ?_
  show OwnEnds _ _ _ _ (T20.setTop (mkF m 51 #[.val (.ref a), .val .null, .val (.int ax), .val (.ref sd), .val (.ref kd), .val (.int (2 : Int32))] []))
  refine OwnEnds.via (fun t k => XS.aloadN X20.here hx rfl (hb hby d1_51) rfl rfl k) ?_
  show OwnEnds _ _ _ _ (T20.setTop (mkF m 52 #[.val (.ref a), .val .null, .val (.int ax), .val (.ref sd), .val (.ref kd), .val (.int (2 : Int32))] [(.ref a)]))
  obtain ⟨T22, X22, e22, st22⟩ := getF X20 hx hZ hown (host := "") (Or.inl (hw _ (List.mem_of_getElem? (i := 21) rfl))) Via.refl e20 ((Fw10.other W15 (Or.inl ne_a_b9)).other W20 (Or.inl ne_a_b9)) (g := (mkF m 52 #[.val (.ref a), .val .null, .val (.int ax), .val (.ref sd), .val (.ref kd), .val (.int (2 : Int32))] [(.ref a)])) rfl rfl (hb hby d1_52)
  refine OwnEnds.via st22 ?_
  show OwnEnds _ _ _ _ (T22.setTop (mkF m 55 #[.val (.ref a), .val .null, .val (.int ax), .val (.ref sd), .val (.ref kd), .val (.int (2 : Int32))] [(.ref b9)]))
  refine OwnEnds.via (fun t k => XS.iload X22.here hx rfl (hb hby d1_55) rfl k) ?_
  show OwnEnds _ _ _ _ (T22.setTop (mkF m 57 #[.val (.ref a), .val .null, .val (.int ax), .val (.ref sd), .val (.ref kd), .val (.int (2 : Int32))] [(.int (2 : Int32)), (.ref b9)]))
  refine OwnEnds.via (fun t k => XS.aload X22.here hx rfl (hb hby d1_57) rfl rfl k) ?_
  show OwnEnds _ _ _ _ (T22.setTop (mkF m 59 #[.val (.ref a), .val .null, .val (.int ax), .val (.ref sd), .val (.ref kd), .val (.int (2 : Int32))] [(.ref kd), (.int (2 : Int32)), (.ref b9)]))
  refine OwnEnds.via (fun t k => XS.iload X22.here hx rfl (hb hby d1_59) rfl k) ?_
  show OwnEnds _ _ _ _ (T22.setTop (mkF m 61 #[.val (.ref a), .val .null, .val (.int ax), .val (.ref sd), .val (.ref kd), .val (.int (2 : Int32))] [(.int (2 : Int32)), (.ref kd), (.int (2 : Int32)), (.ref b9)]))
  obtain ⟨cl23, Ar23, q23, S23, M23, H23, G23⟩ := id (((((((((P9.other W2 P11).other W4 P11).other W5 P11).other W6 P11).other W7 P11).ext E9).other W10 P11).other W15 ne_kd_b9).other W20 ne_kd_b9)
  have hin23 : ¬ ((2 : Int32) < 0 ∨ cl23.slots.size ≤ ((2 : Int32)).toNatClampNeg) := inb_of S23 ⟨by decide, by decide⟩
  have hat23 : cl23.slots[((2 : Int32)).toNatClampNeg]? = some (.int x2) := H23.at hin23 rfl
  refine OwnEnds.via (X22.baloadBytes hx (j := (2 : Int32)) (v := (.int x2)) (by rw [e22]; exact Ar23.1) (State.isArrayOf_alike hZ.alike Ar23.2.1) Ar23.2.2 hin23 hat23 (g := (mkF m 61 #[.val (.ref a), .val .null, .val (.int ax), .val (.ref sd), .val (.ref kd), .val (.int (2 : Int32))] [(.int (2 : Int32)), (.ref kd), (.int (2 : Int32)), (.ref b9)])) rfl rfl (hb hby d1_61)) ?_
  show OwnEnds _ _ _ _ (T22.setTop (mkF m 62 #[.val (.ref a), .val .null, .val (.int ax), .val (.ref sd), .val (.ref kd), .val (.int (2 : Int32))] [(.int x2), (.int (2 : Int32)), (.ref b9)]))
  obtain ⟨_, _, ⟨T24, L24, k24, n24⟩, -, X24, ⟨Lc24, hQ24, l24, y24, z24⟩, st24⟩ := Jvm.LawKit.callS X22 hx (y := (⟨"com/example/stratal/stratal/logic/LayerReport", "isClash", "(B)Z"⟩ : MethodName)) hown (mvT hZ (hw _ (List.mem_of_getElem? (i := 23) rfl))) (mvT hZ (hw _ (List.mem_of_getElem? (i := 24) rfl))) (mvT hZ (hw _ (List.mem_of_getElem? (i := 3) rfl))) (mvT hZ (hw _ (List.mem_of_getElem? (i := 25) rfl))) (by decide) (backOf (W := 2) (rm3 l Z a0 hw [] x2 ko kp h20 n0 Z20 O20 OP0 OP1 OP2 OP3 OP4 OP5 OP6) hZ (hw _ (List.mem_of_getElem? (i := 25) rfl)) (hw _ (List.mem_of_getElem? (i := 3) rfl)) (by decide) (by decide)) (g := (mkF m 62 #[.val (.ref a), .val .null, .val (.int ax), .val (.ref sd), .val (.ref kd), .val (.int (2 : Int32))] [(.int x2), (.int (2 : Int32)), (.ref b9)])) rfl (by rw [hml]; rfl) (argsL := [(.int x2)]) (rest := [(.int (2 : Int32)), (.ref b9)]) (lenOf pd_3 rfl) rfl (by show 2 * 0 + _ ≤ _; exact Nat.le_of_eq rfl) (hb hby d1_62) (fun _ _ => ⟨rfl, e22, (by decide : 1 + 0 ≤ _), (by decide : 3 + 0 ≤ _)⟩)
  dsimp only [Pt.U, Pt.locs, Pt.cells, Pt.slots] at X24 l24 y24 z24 st24 hQ24
  subst l24 y24 z24
  obtain ⟨rfl, Nq24, e24⟩ := hQ24
  have N24 := Fr.app N20 Nq24
  refine OwnEnds.via st24 ?_
  show OwnEnds _ _ _ _ (T24.setTop (mkF m 65 #[.val (.ref a), .val .null, .val (.int ax), .val (.ref sd), .val (.ref kd), .val (.int (2 : Int32))] [(.int (own_cl x2)), (.int (2 : Int32)), (.ref b9)]))
  obtain ⟨cl25, Ar25, q25, S25, M25, H25, G25⟩ := id V20
  have hin25 : ¬ ((2 : Int32) < 0 ∨ cl25.slots.size ≤ ((2 : Int32)).toNatClampNeg) := inb_of S25 ⟨by decide, by decide⟩
  obtain ⟨T25, h25, X25, e25, W25, st25⟩ := stZ X24 hx hZ e24 Ar25 (j := (2 : Int32)) hin25 (g := (mkF m 65 #[.val (.ref a), .val .null, .val (.int ax), .val (.ref sd), .val (.ref kd), .val (.int (2 : Int32))] [(.int (own_cl x2)), (.int (2 : Int32)), (.ref b9)])) rfl rfl (hb hby d1_65)
  have V25 : Arv Z h25 b9 k9 .boolean (3 : Int32) [(.int (nar .boolean (own_cl x0))), (.int (nar .boolean (own_cl x1))), (.int (nar .boolean (own_cl x2)))] (.int (0 : Int32)) := Arv.set Ar25 q25 S25 M25 H25 G25 (fits_nar_bool _) W25 2 rfl (Nat.le_of_ble_eq_true rfl)
  have N25 := Fr.snoc X25 N24 ge_b9
  have Z25 : n0 ≤ h25.size := Nat.le_trans Z20 (Nat.le_of_eq W25.size.symm)
  have K25 : Keep h0 h25 [a] := K20.wr W25 (Or.inr sz_b9)
  have O25 : Old Z n0 h25 := O20.wr W25 ge_b9
  refine OwnEnds.via st25 ?_
  show OwnEnds _ _ _ _ (T25.setTop (mkF m 66 #[.val (.ref a), .val .null, .val (.int ax), .val (.ref sd), .val (.ref kd), .val (.int (2 : Int32))] []))
  refine OwnEnds.via (fun t k => XS.iinc X25.here hx rfl (hb hby d1_66) rfl (l' := #[.val (.ref a), .val .null, .val (.int ax), .val (.ref sd), .val (.ref kd), .val (.int (3 : Int32))]) rfl k) ?_
  show OwnEnds _ _ _ _ (T25.setTop (mkF m 69 #[.val (.ref a), .val .null, .val (.int ax), .val (.ref sd), .val (.ref kd), .val (.int (3 : Int32))] []))
  refine OwnEnds.via (fun t k => XS.goto X25.here hx rfl (pc0 := 69) (pc' := 43) rfl (hb hby d1_69) (by decide) (by decide) k) ?_
  show OwnEnds _ _ _ _ (T25.setTop (mkF m 43 #[.val (.ref a), .val .null, .val (.int ax), .val (.ref sd), .val (.ref kd), .val (.int (3 : Int32))] []))
  refine OwnEnds.via (fun t k => XS.iload X25.here hx rfl (hb hby d1_43) rfl k) ?_
  show OwnEnds _ _ _ _ (T25.setTop (mkF m 45 #[.val (.ref a), .val .null, .val (.int ax), .val (.ref sd), .val (.ref kd), .val (.int (3 : Int32))] [(.int (3 : Int32))]))
  refine OwnEnds.via (fun t k => XS.aload X25.here hx rfl (hb hby d1_45) rfl rfl k) ?_
  show OwnEnds _ _ _ _ (T25.setTop (mkF m 47 #[.val (.ref a), .val .null, .val (.int ax), .val (.ref sd), .val (.ref kd), .val (.int (3 : Int32))] [(.ref kd), (.int (3 : Int32))]))
  obtain ⟨cl26, Ar26, q26, S26, M26, H26, G26⟩ := id ((((((((((P9.other W2 P11).other W4 P11).other W5 P11).other W6 P11).other W7 P11).ext E9).other W10 P11).other W15 ne_kd_b9).other W20 ne_kd_b9).other W25 ne_kd_b9)
  refine OwnEnds.via (X25.arraylength hx (by rw [e25]; exact Ar26.1) (State.isArrayOf_alike hZ.alike Ar26.2.1) (g := (mkF m 47 #[.val (.ref a), .val .null, .val (.int ax), .val (.ref sd), .val (.ref kd), .val (.int (3 : Int32))] [(.ref kd), (.int (3 : Int32))])) rfl rfl (hb hby d1_47)) ?_
  rw [len_of S26 M26]
  show OwnEnds _ _ _ _ (T25.setTop (mkF m 48 #[.val (.ref a), .val .null, .val (.int ax), .val (.ref sd), .val (.ref kd), .val (.int (3 : Int32))] [(.int (3 : Int32)), (.int (3 : Int32))]))
  refine OwnEnds.via (fun t k => XS.icmpYes X25.here hx rfl (pc0 := 48) (pc' := 72) rfl (hb hby d1_48) rfl (flt (by decide)).2.1 (by decide) (by decide) k) ?_
  show OwnEnds _ _ _ _ (T25.setTop (mkF m 72 #[.val (.ref a), .val .null, .val (.int ax), .val (.ref sd), .val (.ref kd), .val (.int (3 : Int32))] []))
  obtain ⟨fs, hr, hrun, hended, hW, hsame⟩ := X25.leave (v := none) (fun _ => rfl)
  refine ⟨_, _, ?_, hrun, hended, _, _, rfl, ?_, ⟨_, rfl⟩, hW, hsame.mono (by decide) (by decide)⟩
  · exact X25.returnOut hx Bd.returns (hb hby d1_72) hr
  · show Q1 Z a ax sd kd ks kk x0 x1 x2 ko kp h0 n0 _ T25.heap _
    rw [e25]
    exact ⟨b9, k9, rfl, N25, K25, ((((((((((P0.wr W2).wr W4).wr W5).wr W6).wr W7).ext E9).wr W10).wr W15).wr W20).wr W25), (((Fw10.other W15 (Or.inl ne_a_b9)).other W20 (Or.inl ne_a_b9)).other W25 (Or.inl ne_a_b9)), V25⟩

theorem d7_0 : decode prog_38_method_15_code 0 = .ok (.iload_n 1, 1) := by decide +kernel
theorem d7_1 : decode prog_38_method_15_code 1 = .ok (.ifCond .lt 25, 3) := by decide +kernel
theorem d7_4 : decode prog_38_method_15_code 4 = .ok (.iload_n 1, 1) := by decide +kernel
theorem d7_5 : decode prog_38_method_15_code 5 = .ok (.aload_n 0, 1) := by decide +kernel
theorem d7_6 : decode prog_38_method_15_code 6 = .ok (.getfield 28, 3) := by decide +kernel
theorem d7_9 : decode prog_38_method_15_code 9 = .ok (.arraylength, 1) := by decide +kernel
theorem d7_10 : decode prog_38_method_15_code 10 = .ok (.if_icmp .ge 16, 3) := by decide +kernel
theorem d7_13 : decode prog_38_method_15_code 13 = .ok (.aload_n 0, 1) := by decide +kernel
theorem d7_14 : decode prog_38_method_15_code 14 = .ok (.getfield 28, 3) := by decide +kernel
theorem d7_17 : decode prog_38_method_15_code 17 = .ok (.iload_n 1, 1) := by decide +kernel
theorem d7_18 : decode prog_38_method_15_code 18 = .ok (.baload, 1) := by decide +kernel
theorem d7_19 : decode prog_38_method_15_code 19 = .ok (.ifCond .eq 7, 3) := by decide +kernel
theorem d7_22 : decode prog_38_method_15_code 22 = .ok (.iconst 1, 1) := by decide +kernel
theorem d7_23 : decode prog_38_method_15_code 23 = .ok (.goto 4, 3) := by decide +kernel
theorem d7_26 : decode prog_38_method_15_code 26 = .ok (.iconst 0, 1) := by decide +kernel
theorem d7_27 : decode prog_38_method_15_code 27 = .ok (.ireturn, 1) := by decide +kernel
theorem pn_rm7 : plainName "com/example/stratal/stratal/logic/LayerReport" = true := by first | (simp [plainName, overriddenIn]; done) | decide +kernel
theorem ef_rm7 (m : MethodId) (a : Addr) (tt : Int32) : entryFrame m #[(.ref a), (.int tt)] 2 = mkF m 0 #[.val (.ref a), .val (.int tt)] [] := by first | (simp [entryFrame, mkF, argsToLocals, Value.category]; done) | rfl
def Q7 (Z : State) (a : Addr) (tt : Int32) (bz : Addr) (kz : ClassId) (y0 : Int32) (y1 : Int32) (y2 : Int32) (h0 : Heap) (n0 : Nat) (v : Option Value) (h : Heap) (L : List Loc) : Prop := v = some (.int (own_at tt y0 y1 y2)) ∧ Fr n0 L ∧ h = h0
set_option maxRecDepth 65536 in
set_option maxHeartbeats 40000000 in
theorem rm7 (l : Launch) (Z : State) (a0 : Array Value) (hw : ∀ d ∈ tables_1, d.before a0 Z = true) (ws : List Jvm.Cond) (a : Addr) (tt : Int32) (bz : Addr) (kz : ClassId) (y0 : Int32) (y1 : Int32) (y2 : Int32) (h0 : Heap) (n0 : Nat) (Z0 : n0 ≤ h0.size) (P0 : Fld Z h0 a "com/example/stratal/stratal/logic/LayerReport" "mClashing" "[Z" (.ref bz)) (P1 : Arv Z h0 bz kz .boolean (3 : Int32) [(.int y0), (.int y1), (.int y2)] (.int (0 : Int32))) :
    MetFree l (⟨"com/example/stratal/stratal/logic/LayerReport", "isClash", "(I)Z"⟩ : MethodName) (head1 (Jvm.Cond.code (⟨"com/example/stratal/stratal/logic/LayerReport", "isClash", "(I)Z"⟩ : MethodName) prog_38_method_15_code 2 (some .boolean) :: ws) ({ frames := 0, cells := 0, slots := 0, locals := 0 } : Room)) (fun aa U => aa = #[(.ref a), (.int tt)] ∧ Z.Warmed39 U.vm ∧ U.heap = h0) (fun _ _ _ _ _ => True) (fun _ U o U' => ∃ v L, o = .returned v ∧ Q7 Z a tt bz kz y0 y1 y2 h0 n0 v U'.heap L ∧ FrameEnd U o U' L ({ frames := 0, cells := 0, slots := 0, locals := 0 } : Room).cells ({ frames := 0, cells := 0, slots := 0, locals := 0 } : Room).slots) := by
  refine MetFree.of_bodySF (plainFor_of_name pn_rm7) hisR ?_
  intro p e s m args below meth c s₁ Bd hml0 hP hK
  obtain ⟨rfl, hZ, hh⟩ := hP
  have hx := Bd.exec
  have hby := Bd.bytes
  have hml : c.maxLocals = 2 := hml0
  have hown : s.vm.findClass "com/example/stratal/stratal/logic/LayerReport" = some m.cls := findClass_of_methodNamed Bd.named
  have hnm := (name_of_methodNamed Bd.named Bd.method).1
  have X0 : Stand p l e ({ frames := 0, cells := 0, slots := 0, locals := 0 } : Room) s m #[(.ref a), (.int tt)] below meth c s₁ [] 0 0 := Stand.of_body Bd
  have e0 : s₁.heap = h0 := by rw [← hh, Bd.state]; rfl
  have N0 := Fr.nil n0
  change OwnEnds p.tables e below _ _
  refine OwnEnds.via (fun t k => castTop (ef_rm7 m a tt) k) ?_
  show OwnEnds _ _ _ _ (s₁.setTop (mkF m 0 #[.val (.ref a), .val (.int tt)] []))
  refine OwnEnds.via (fun t k => XS.iloadN X0.here hx rfl (hb hby d7_0) rfl k) ?_
  show OwnEnds _ _ _ _ (s₁.setTop (mkF m 1 #[.val (.ref a), .val (.int tt)] [(.int tt)]))
  by_cases hc1_1 : tt < (0 : Int32)
  ·
    refine OwnEnds.via (fun t k => XS.ifYes X0.here hx rfl (pc0 := 1) (pc' := 26) rfl (hb hby d7_1) rfl ((if0 _ _).trans (tlt hc1_1).1) (by decide) (by decide) k) ?_
    show OwnEnds _ _ _ _ (s₁.setTop (mkF m 26 #[.val (.ref a), .val (.int tt)] []))
    refine OwnEnds.via (fun t k => XS.iconst X0.here hx rfl (hb hby d7_26) k) ?_
    show OwnEnds _ _ _ _ (s₁.setTop (mkF m 27 #[.val (.ref a), .val (.int tt)] [(.int (0 : Int32))]))
    obtain ⟨fs, hr, hrun, hended, hW, hsame⟩ := X0.leave (v := some (.int (0 : Int32))) (fun h => by rw [Bd.returns] at h; cases h)
    refine ⟨_, _, ?_, hrun, hended, _, _, rfl, ?_, ⟨_, rfl⟩, hW, hsame.mono (by decide) (by decide)⟩
    · exact retN X0 hx (t := .boolean) Bd.returns (by simp) (hb hby d7_27) hr
    · show Q7 Z a tt bz kz y0 y1 y2 h0 n0 _ s₁.heap _
      rw [e0]
      exact ⟨(by rw [own_lo hc1_1]), N0, rfl⟩
  ·
    refine OwnEnds.via (fun t k => XS.ifNo X0.here hx rfl (hb hby d7_1) rfl ((if0 _ _).trans (flt hc1_1).1) k) ?_
    show OwnEnds _ _ _ _ (s₁.setTop (mkF m 4 #[.val (.ref a), .val (.int tt)] []))
    refine OwnEnds.via (fun t k => XS.iloadN X0.here hx rfl (hb hby d7_4) rfl k) ?_
    show OwnEnds _ _ _ _ (s₁.setTop (mkF m 5 #[.val (.ref a), .val (.int tt)] [(.int tt)]))
    refine OwnEnds.via (fun t k => XS.aloadN X0.here hx rfl (hb hby d7_5) rfl rfl k) ?_
    show OwnEnds _ _ _ _ (s₁.setTop (mkF m 6 #[.val (.ref a), .val (.int tt)] [(.ref a), (.int tt)]))
    obtain ⟨T2, X2, e2, st2⟩ := getF X0 hx hZ hown (host := "") (Or.inl (hw _ (List.mem_of_getElem? (i := 21) rfl))) Via.refl e0 P0 (g := (mkF m 6 #[.val (.ref a), .val (.int tt)] [(.ref a), (.int tt)])) rfl rfl (hb hby d7_6)
    refine OwnEnds.via st2 ?_
    show OwnEnds _ _ _ _ (T2.setTop (mkF m 9 #[.val (.ref a), .val (.int tt)] [(.ref bz), (.int tt)]))
    obtain ⟨cl3, Ar3, q3, S3, M3, H3, G3⟩ := id P1
    refine OwnEnds.via (X2.arraylength hx (by rw [e2]; exact Ar3.1) (State.isArrayOf_alike hZ.alike Ar3.2.1) (g := (mkF m 9 #[.val (.ref a), .val (.int tt)] [(.ref bz), (.int tt)])) rfl rfl (hb hby d7_9)) ?_
    rw [len_of S3 M3]
    show OwnEnds _ _ _ _ (T2.setTop (mkF m 10 #[.val (.ref a), .val (.int tt)] [(.int (3 : Int32)), (.int tt)]))
    by_cases hc10_4 : tt < (3 : Int32)
    ·
      refine OwnEnds.via (fun t k => XS.icmpNo X2.here hx rfl (hb hby d7_10) rfl (tlt hc10_4).2.1 k) ?_
      show OwnEnds _ _ _ _ (T2.setTop (mkF m 13 #[.val (.ref a), .val (.int tt)] []))
      refine OwnEnds.via (fun t k => XS.aloadN X2.here hx rfl (hb hby d7_13) rfl rfl k) ?_
      show OwnEnds _ _ _ _ (T2.setTop (mkF m 14 #[.val (.ref a), .val (.int tt)] [(.ref a)]))
      obtain ⟨T5, X5, e5, st5⟩ := getF X2 hx hZ hown (host := "") (Or.inl (hw _ (List.mem_of_getElem? (i := 21) rfl))) Via.refl e2 P0 (g := (mkF m 14 #[.val (.ref a), .val (.int tt)] [(.ref a)])) rfl rfl (hb hby d7_14)
      refine OwnEnds.via st5 ?_
      show OwnEnds _ _ _ _ (T5.setTop (mkF m 17 #[.val (.ref a), .val (.int tt)] [(.ref bz)]))
      refine OwnEnds.via (fun t k => XS.iloadN X5.here hx rfl (hb hby d7_17) rfl k) ?_
      rcases own_three hc1_1 hc10_4 with ht | ht | ht
      ·
        show OwnEnds _ _ _ _ (T5.setTop (mkF m 18 #[.val (.ref a), .val (.int tt)] [(.int tt), (.ref bz)]))
        obtain ⟨cl6, Ar6, q6, S6, M6, H6, G6⟩ := id P1
        have hin6 : ¬ (tt < 0 ∨ cl6.slots.size ≤ (tt).toNatClampNeg) := inb_of S6 ⟨hc1_1, hc10_4⟩
        have hat6 : cl6.slots[(tt).toNatClampNeg]? = some (.int y0) := H6.at hin6 (by rw [ht]; rfl)
        refine OwnEnds.via (X5.baloadBooleans hx (j := tt) (v := (.int y0)) (by rw [e5]; exact Ar6.1) (State.isArrayOf_alike hZ.alike Ar6.2.1) Ar6.2.2 hin6 hat6 (g := (mkF m 18 #[.val (.ref a), .val (.int tt)] [(.int tt), (.ref bz)])) rfl rfl (hb hby d7_18)) ?_
        show OwnEnds _ _ _ _ (T5.setTop (mkF m 19 #[.val (.ref a), .val (.int tt)] [(.int y0)]))
        by_cases hc19_7 : y0 = (0 : Int32)
        ·
          refine OwnEnds.via (fun t k => XS.ifYes X5.here hx rfl (pc0 := 19) (pc' := 26) rfl (hb hby d7_19) rfl ((if0 _ _).trans (teq hc19_7).1) (by decide) (by decide) k) ?_
          show OwnEnds _ _ _ _ (T5.setTop (mkF m 26 #[.val (.ref a), .val (.int tt)] []))
          refine OwnEnds.via (fun t k => XS.iconst X5.here hx rfl (hb hby d7_26) k) ?_
          show OwnEnds _ _ _ _ (T5.setTop (mkF m 27 #[.val (.ref a), .val (.int tt)] [(.int (0 : Int32))]))
          obtain ⟨fs, hr, hrun, hended, hW, hsame⟩ := X5.leave (v := some (.int (0 : Int32))) (fun h => by rw [Bd.returns] at h; cases h)
          refine ⟨_, _, ?_, hrun, hended, _, _, rfl, ?_, ⟨_, rfl⟩, hW, hsame.mono (by decide) (by decide)⟩
          · exact retN X5 hx (t := .boolean) Bd.returns (by simp) (hb hby d7_27) hr
          · show Q7 Z a tt bz kz y0 y1 y2 h0 n0 _ T5.heap _
            rw [e5]
            exact ⟨(by simp [own_at, own_b, ht, hc19_7]), N0, rfl⟩
        ·
          refine OwnEnds.via (fun t k => XS.ifNo X5.here hx rfl (hb hby d7_19) rfl ((if0 _ _).trans (feq hc19_7).1) k) ?_
          show OwnEnds _ _ _ _ (T5.setTop (mkF m 22 #[.val (.ref a), .val (.int tt)] []))
          refine OwnEnds.via (fun t k => XS.iconst X5.here hx rfl (hb hby d7_22) k) ?_
          show OwnEnds _ _ _ _ (T5.setTop (mkF m 23 #[.val (.ref a), .val (.int tt)] [(.int (1 : Int32))]))
          refine OwnEnds.via (fun t k => XS.goto X5.here hx rfl (pc0 := 23) (pc' := 27) rfl (hb hby d7_23) (by decide) (by decide) k) ?_
          show OwnEnds _ _ _ _ (T5.setTop (mkF m 27 #[.val (.ref a), .val (.int tt)] [(.int (1 : Int32))]))
          obtain ⟨fs, hr, hrun, hended, hW, hsame⟩ := X5.leave (v := some (.int (1 : Int32))) (fun h => by rw [Bd.returns] at h; cases h)
          refine ⟨_, _, ?_, hrun, hended, _, _, rfl, ?_, ⟨_, rfl⟩, hW, hsame.mono (by decide) (by decide)⟩
          · exact retN X5 hx (t := .boolean) Bd.returns (by simp) (hb hby d7_27) hr
          · show Q7 Z a tt bz kz y0 y1 y2 h0 n0 _ T5.heap _
            rw [e5]
            exact ⟨(by simp [own_at, own_b, ht, hc19_7]), N0, rfl⟩
      ·
        show OwnEnds _ _ _ _ (T5.setTop (mkF m 18 #[.val (.ref a), .val (.int tt)] [(.int tt), (.ref bz)]))
        obtain ⟨cl8, Ar8, q8, S8, M8, H8, G8⟩ := id P1
        have hin8 : ¬ (tt < 0 ∨ cl8.slots.size ≤ (tt).toNatClampNeg) := inb_of S8 ⟨hc1_1, hc10_4⟩
        have hat8 : cl8.slots[(tt).toNatClampNeg]? = some (.int y1) := H8.at hin8 (by rw [ht]; rfl)
        refine OwnEnds.via (X5.baloadBooleans hx (j := tt) (v := (.int y1)) (by rw [e5]; exact Ar8.1) (State.isArrayOf_alike hZ.alike Ar8.2.1) Ar8.2.2 hin8 hat8 (g := (mkF m 18 #[.val (.ref a), .val (.int tt)] [(.int tt), (.ref bz)])) rfl rfl (hb hby d7_18)) ?_
        show OwnEnds _ _ _ _ (T5.setTop (mkF m 19 #[.val (.ref a), .val (.int tt)] [(.int y1)]))
        by_cases hc19_9 : y1 = (0 : Int32)
        ·
          refine OwnEnds.via (fun t k => XS.ifYes X5.here hx rfl (pc0 := 19) (pc' := 26) rfl (hb hby d7_19) rfl ((if0 _ _).trans (teq hc19_9).1) (by decide) (by decide) k) ?_
          show OwnEnds _ _ _ _ (T5.setTop (mkF m 26 #[.val (.ref a), .val (.int tt)] []))
          refine OwnEnds.via (fun t k => XS.iconst X5.here hx rfl (hb hby d7_26) k) ?_
          show OwnEnds _ _ _ _ (T5.setTop (mkF m 27 #[.val (.ref a), .val (.int tt)] [(.int (0 : Int32))]))
          obtain ⟨fs, hr, hrun, hended, hW, hsame⟩ := X5.leave (v := some (.int (0 : Int32))) (fun h => by rw [Bd.returns] at h; cases h)
          refine ⟨_, _, ?_, hrun, hended, _, _, rfl, ?_, ⟨_, rfl⟩, hW, hsame.mono (by decide) (by decide)⟩
          · exact retN X5 hx (t := .boolean) Bd.returns (by simp) (hb hby d7_27) hr
          · show Q7 Z a tt bz kz y0 y1 y2 h0 n0 _ T5.heap _
            rw [e5]
            exact ⟨(by simp [own_at, own_b, ht, hc19_9]), N0, rfl⟩
        ·
          refine OwnEnds.via (fun t k => XS.ifNo X5.here hx rfl (hb hby d7_19) rfl ((if0 _ _).trans (feq hc19_9).1) k) ?_
          show OwnEnds _ _ _ _ (T5.setTop (mkF m 22 #[.val (.ref a), .val (.int tt)] []))
          refine OwnEnds.via (fun t k => XS.iconst X5.here hx rfl (hb hby d7_22) k) ?_
          show OwnEnds _ _ _ _ (T5.setTop (mkF m 23 #[.val (.ref a), .val (.int tt)] [(.int (1 : Int32))]))
          refine OwnEnds.via (fun t k => XS.goto X5.here hx rfl (pc0 := 23) (pc' := 27) rfl (hb hby d7_23) (by decide) (by decide) k) ?_
          show OwnEnds _ _ _ _ (T5.setTop (mkF m 27 #[.val (.ref a), .val (.int tt)] [(.int (1 : Int32))]))
          obtain ⟨fs, hr, hrun, hended, hW, hsame⟩ := X5.leave (v := some (.int (1 : Int32))) (fun h => by rw [Bd.returns] at h; cases h)
          refine ⟨_, _, ?_, hrun, hended, _, _, rfl, ?_, ⟨_, rfl⟩, hW, hsame.mono (by decide) (by decide)⟩
          · exact retN X5 hx (t := .boolean) Bd.returns (by simp) (hb hby d7_27) hr
          · show Q7 Z a tt bz kz y0 y1 y2 h0 n0 _ T5.heap _
            rw [e5]
            exact ⟨(by simp [own_at, own_b, ht, hc19_9]), N0, rfl⟩
      ·
        show OwnEnds _ _ _ _ (T5.setTop (mkF m 18 #[.val (.ref a), .val (.int tt)] [(.int tt), (.ref bz)]))
        obtain ⟨cl10, Ar10, q10, S10, M10, H10, G10⟩ := id P1
        have hin10 : ¬ (tt < 0 ∨ cl10.slots.size ≤ (tt).toNatClampNeg) := inb_of S10 ⟨hc1_1, hc10_4⟩
        have hat10 : cl10.slots[(tt).toNatClampNeg]? = some (.int y2) := H10.at hin10 (by rw [ht]; rfl)
        refine OwnEnds.via (X5.baloadBooleans hx (j := tt) (v := (.int y2)) (by rw [e5]; exact Ar10.1) (State.isArrayOf_alike hZ.alike Ar10.2.1) Ar10.2.2 hin10 hat10 (g := (mkF m 18 #[.val (.ref a), .val (.int tt)] [(.int tt), (.ref bz)])) rfl rfl (hb hby d7_18)) ?_
        show OwnEnds _ _ _ _ (T5.setTop (mkF m 19 #[.val (.ref a), .val (.int tt)] [(.int y2)]))
        by_cases hc19_11 : y2 = (0 : Int32)
        ·
          refine OwnEnds.via (fun t k => XS.ifYes X5.here hx rfl (pc0 := 19) (pc' := 26) rfl (hb hby d7_19) rfl ((if0 _ _).trans (teq hc19_11).1) (by decide) (by decide) k) ?_
          show OwnEnds _ _ _ _ (T5.setTop (mkF m 26 #[.val (.ref a), .val (.int tt)] []))
          refine OwnEnds.via (fun t k => XS.iconst X5.here hx rfl (hb hby d7_26) k) ?_
          show OwnEnds _ _ _ _ (T5.setTop (mkF m 27 #[.val (.ref a), .val (.int tt)] [(.int (0 : Int32))]))
          obtain ⟨fs, hr, hrun, hended, hW, hsame⟩ := X5.leave (v := some (.int (0 : Int32))) (fun h => by rw [Bd.returns] at h; cases h)
          refine ⟨_, _, ?_, hrun, hended, _, _, rfl, ?_, ⟨_, rfl⟩, hW, hsame.mono (by decide) (by decide)⟩
          · exact retN X5 hx (t := .boolean) Bd.returns (by simp) (hb hby d7_27) hr
          · show Q7 Z a tt bz kz y0 y1 y2 h0 n0 _ T5.heap _
            rw [e5]
            exact ⟨(by simp [own_at, own_b, ht, hc19_11]), N0, rfl⟩
        ·
          refine OwnEnds.via (fun t k => XS.ifNo X5.here hx rfl (hb hby d7_19) rfl ((if0 _ _).trans (feq hc19_11).1) k) ?_
          show OwnEnds _ _ _ _ (T5.setTop (mkF m 22 #[.val (.ref a), .val (.int tt)] []))
          refine OwnEnds.via (fun t k => XS.iconst X5.here hx rfl (hb hby d7_22) k) ?_
          show OwnEnds _ _ _ _ (T5.setTop (mkF m 23 #[.val (.ref a), .val (.int tt)] [(.int (1 : Int32))]))
          refine OwnEnds.via (fun t k => XS.goto X5.here hx rfl (pc0 := 23) (pc' := 27) rfl (hb hby d7_23) (by decide) (by decide) k) ?_
          show OwnEnds _ _ _ _ (T5.setTop (mkF m 27 #[.val (.ref a), .val (.int tt)] [(.int (1 : Int32))]))
          obtain ⟨fs, hr, hrun, hended, hW, hsame⟩ := X5.leave (v := some (.int (1 : Int32))) (fun h => by rw [Bd.returns] at h; cases h)
          refine ⟨_, _, ?_, hrun, hended, _, _, rfl, ?_, ⟨_, rfl⟩, hW, hsame.mono (by decide) (by decide)⟩
          · exact retN X5 hx (t := .boolean) Bd.returns (by simp) (hb hby d7_27) hr
          · show Q7 Z a tt bz kz y0 y1 y2 h0 n0 _ T5.heap _
            rw [e5]
            exact ⟨(by simp [own_at, own_b, ht, hc19_11]), N0, rfl⟩
    ·
      refine OwnEnds.via (fun t k => XS.icmpYes X2.here hx rfl (pc0 := 10) (pc' := 26) rfl (hb hby d7_10) rfl (flt hc10_4).2.1 (by decide) (by decide) k) ?_
      show OwnEnds _ _ _ _ (T2.setTop (mkF m 26 #[.val (.ref a), .val (.int tt)] []))
      refine OwnEnds.via (fun t k => XS.iconst X2.here hx rfl (hb hby d7_26) k) ?_
      show OwnEnds _ _ _ _ (T2.setTop (mkF m 27 #[.val (.ref a), .val (.int tt)] [(.int (0 : Int32))]))
      obtain ⟨fs, hr, hrun, hended, hW, hsame⟩ := X2.leave (v := some (.int (0 : Int32))) (fun h => by rw [Bd.returns] at h; cases h)
      refine ⟨_, _, ?_, hrun, hended, _, _, rfl, ?_, ⟨_, rfl⟩, hW, hsame.mono (by decide) (by decide)⟩
      · exact retN X2 hx (t := .boolean) Bd.returns (by simp) (hb hby d7_27) hr
      · show Q7 Z a tt bz kz y0 y1 y2 h0 n0 _ T2.heap _
        rw [e2]
        exact ⟨(by rw [own_hi hc10_4]), N0, rfl⟩

theorem own_f0 {k0 k1 k2 a b c : Int32} (ha : a = k0 &&& (63 : Int32)) (hb : b = k1 &&& (63 : Int32)) (hc : c = k2 &&& (63 : Int32)) : own_at (0 : Int32) (nar .boolean (own_cl (nar .byte (a.toInt8.toInt32)))) (nar .boolean (own_cl (nar .byte (b.toInt8.toInt32)))) (nar .boolean (own_cl (nar .byte (c.toInt8.toInt32)))) = own_lc a := by rw [own_at, if_pos rfl, (own_k ha).1]
theorem own_f1 {k0 k1 k2 a b c : Int32} (ha : a = k0 &&& (63 : Int32)) (hb : b = k1 &&& (63 : Int32)) (hc : c = k2 &&& (63 : Int32)) : own_at (1 : Int32) (nar .boolean (own_cl (nar .byte (a.toInt8.toInt32)))) (nar .boolean (own_cl (nar .byte (b.toInt8.toInt32)))) (nar .boolean (own_cl (nar .byte (c.toInt8.toInt32)))) = own_lc b := by rw [own_at, if_neg (by decide), if_pos rfl, (own_k hb).1]
theorem own_f2 {k0 k1 k2 a b c : Int32} (ha : a = k0 &&& (63 : Int32)) (hb : b = k1 &&& (63 : Int32)) (hc : c = k2 &&& (63 : Int32)) : own_at (2 : Int32) (nar .boolean (own_cl (nar .byte (a.toInt8.toInt32)))) (nar .boolean (own_cl (nar .byte (b.toInt8.toInt32)))) (nar .boolean (own_cl (nar .byte (c.toInt8.toInt32)))) = own_lc c := by rw [own_at, if_neg (by decide), if_neg (by decide), if_pos rfl, (own_k hc).1]

theorem pn_rm0 : plainName "com/example/stratal/stratal/logic/LayerReportIsClashPinLaw" = true := by first | (simp [plainName, overriddenIn]; done) | decide +kernel
theorem pd_4 : parseMethodDescriptor "(Lcom/example/stratal/stratal/graph/Graph;Z[B[B)V" = some ⟨[(.object "com/example/stratal/stratal/graph/Graph"), .boolean, (.array .byte), (.array .byte)], none⟩ := by decide +kernel
theorem pd_5 : parseMethodDescriptor "(IIII)Z" = some ⟨[.int, .int, .int, .int], some .boolean⟩ := by decide +kernel
theorem ef_rm0 (m : MethodId) (pa : Int32) (pb : Int32) (pc_ : Int32) (tt : Int32) (fl : Int32) : entryFrame m #[(.int pa), (.int pb), (.int pc_), (.int tt), (.int fl)] maxLocals = mkF m 0 #[.val (.int pa), .val (.int pb), .val (.int pc_), .val (.int tt), .val (.int fl), .unset, .unset, .unset, .unset, .unset, .unset, .unset, .unset, .unset, .unset, .unset, .unset] [] := by first | (simp [entryFrame, mkF, argsToLocals, Value.category, maxLocals]; done) | rfl
def Q0 (Z : State) (pa : Int32) (pb : Int32) (pc_ : Int32) (tt : Int32) (fl : Int32) (ko : Addr) (kp : Addr) (h0 : Heap) (n0 : Nat) (v : Option Value) (h : Heap) (L : List Loc) : Prop := v = some (.int (1 : Int32)) ∧ Fr n0 L
set_option maxRecDepth 65536 in
set_option maxHeartbeats 40000000 in
theorem rm0 (l : Launch) (Z : State) (a0 : Array Value) (hw : ∀ d ∈ tables_1, d.before a0 Z = true) (ws : List Jvm.Cond) (pa : Int32) (pb : Int32) (pc_ : Int32) (tt : Int32) (fl : Int32) (ko : Addr) (kp : Addr) (h0 : Heap) (n0 : Nat) (Z0 : n0 ≤ h0.size) (O0 : Old Z n0 h0) (OP0 : Sta Z Z.heap "com/example/stratal/stratal/logic/LayerReport" "PROPERTY_KINDS" "I" (.int (28 : Int32))) (OP1 : Sta Z Z.heap "com/example/stratal/stratal/logic/Kind" "OBJECT_PROPERTY" "Lcom/example/stratal/stratal/logic/Kind;" (.ref ko)) (OP2 : Sta Z Z.heap "com/example/stratal/stratal/logic/Kind" "DATATYPE_PROPERTY" "Lcom/example/stratal/stratal/logic/Kind;" (.ref kp)) (OP3 : Exa Z Z.heap ko "com/example/stratal/stratal/logic/Kind") (OP4 : Exa Z Z.heap kp "com/example/stratal/stratal/logic/Kind") (OP5 : Fld Z Z.heap ko "java/lang/Enum" "ordinal" "I" (.int (2 : Int32))) (OP6 : Fld Z Z.heap kp "java/lang/Enum" "ordinal" "I" (.int (3 : Int32))) :
    MetFree l x (head1 (Jvm.Cond.code x code maxLocals ret :: ws) room_1) (fun aa U => aa = #[(.int pa), (.int pb), (.int pc_), (.int tt), (.int fl)] ∧ Z.Warmed39 U.vm ∧ U.heap = h0) (fun _ _ _ _ _ => True) (fun _ U o U' => ∃ v L, o = .returned v ∧ Q0 Z pa pb pc_ tt fl ko kp h0 n0 v U'.heap L ∧ FrameEnd U o U' L room_1.cells room_1.slots) := by
  refine MetFree.of_bodySF (plainFor_of_name pn_rm0) hisR ?_
  intro p e s m args below meth c s₁ Bd hml0 hP hK
  obtain ⟨rfl, hZ, hh⟩ := hP
  have hx := Bd.exec
  have hby := Bd.bytes
  have hml : c.maxLocals = 17 := hml0
  have hown : s.vm.findClass "com/example/stratal/stratal/logic/LayerReportIsClashPinLaw" = some m.cls := findClass_of_methodNamed Bd.named
  have hnm := (name_of_methodNamed Bd.named Bd.method).1
  have X0 : Stand p l e room_1 s m #[(.int pa), (.int pb), (.int pc_), (.int tt), (.int fl)] below meth c s₁ [] 0 0 := Stand.of_body Bd
  have e0 : s₁.heap = h0 := by rw [← hh, Bd.state]; rfl
  have N0 := Fr.nil n0
  change OwnEnds p.tables e below _ _
  refine OwnEnds.via (fun t k => castTop (ef_rm0 m pa pb pc_ tt fl) k) ?_
  show OwnEnds _ _ _ _ (s₁.setTop (mkF m 0 #[.val (.int pa), .val (.int pb), .val (.int pc_), .val (.int tt), .val (.int fl), .unset, .unset, .unset, .unset, .unset, .unset, .unset, .unset, .unset, .unset, .unset, .unset] []))
  refine OwnEnds.via (fun t k => XS.iloadN X0.here hx rfl (hb hby at_0) rfl k) ?_
  show OwnEnds _ _ _ _ (s₁.setTop (mkF m 1 #[.val (.int pa), .val (.int pb), .val (.int pc_), .val (.int tt), .val (.int fl), .unset, .unset, .unset, .unset, .unset, .unset, .unset, .unset, .unset, .unset, .unset, .unset] [(.int pa)]))
  refine OwnEnds.via (fun t k => XS.bipush X0.here hx rfl (hb hby at_1) k) ?_
  show OwnEnds _ _ _ _ (s₁.setTop (mkF m 3 #[.val (.int pa), .val (.int pb), .val (.int pc_), .val (.int tt), .val (.int fl), .unset, .unset, .unset, .unset, .unset, .unset, .unset, .unset, .unset, .unset, .unset, .unset] [(.int (63 : Int32)), (.int pa)]))
  refine OwnEnds.via (fun t k => XS.iand X0.here hx rfl (hb hby at_3) rfl k) ?_
  show OwnEnds _ _ _ _ (s₁.setTop (mkF m 4 #[.val (.int pa), .val (.int pb), .val (.int pc_), .val (.int tt), .val (.int fl), .unset, .unset, .unset, .unset, .unset, .unset, .unset, .unset, .unset, .unset, .unset, .unset] [(.int (pa &&& (63 : Int32)))]))
  refine OwnEnds.via (fun t k => XS.istore X0.here hx rfl (hb hby at_4) rfl (l' := #[.val (.int pa), .val (.int pb), .val (.int pc_), .val (.int tt), .val (.int fl), .val (.int (pa &&& (63 : Int32))), .unset, .unset, .unset, .unset, .unset, .unset, .unset, .unset, .unset, .unset, .unset]) rfl k) ?_
  show OwnEnds _ _ _ _ (s₁.setTop (mkF m 6 #[.val (.int pa), .val (.int pb), .val (.int pc_), .val (.int tt), .val (.int fl), .val (.int (pa &&& (63 : Int32))), .unset, .unset, .unset, .unset, .unset, .unset, .unset, .unset, .unset, .unset, .unset] []))
  refine OwnEnds.via (fun t k => XS.iloadN X0.here hx rfl (hb hby at_6) rfl k) ?_
  show OwnEnds _ _ _ _ (s₁.setTop (mkF m 7 #[.val (.int pa), .val (.int pb), .val (.int pc_), .val (.int tt), .val (.int fl), .val (.int (pa &&& (63 : Int32))), .unset, .unset, .unset, .unset, .unset, .unset, .unset, .unset, .unset, .unset, .unset] [(.int pb)]))
  refine OwnEnds.via (fun t k => XS.bipush X0.here hx rfl (hb hby at_7) k) ?_
  show OwnEnds _ _ _ _ (s₁.setTop (mkF m 9 #[.val (.int pa), .val (.int pb), .val (.int pc_), .val (.int tt), .val (.int fl), .val (.int (pa &&& (63 : Int32))), .unset, .unset, .unset, .unset, .unset, .unset, .unset, .unset, .unset, .unset, .unset] [(.int (63 : Int32)), (.int pb)]))
  refine OwnEnds.via (fun t k => XS.iand X0.here hx rfl (hb hby at_9) rfl k) ?_
  show OwnEnds _ _ _ _ (s₁.setTop (mkF m 10 #[.val (.int pa), .val (.int pb), .val (.int pc_), .val (.int tt), .val (.int fl), .val (.int (pa &&& (63 : Int32))), .unset, .unset, .unset, .unset, .unset, .unset, .unset, .unset, .unset, .unset, .unset] [(.int (pb &&& (63 : Int32)))]))
  refine OwnEnds.via (fun t k => XS.istore X0.here hx rfl (hb hby at_10) rfl (l' := #[.val (.int pa), .val (.int pb), .val (.int pc_), .val (.int tt), .val (.int fl), .val (.int (pa &&& (63 : Int32))), .val (.int (pb &&& (63 : Int32))), .unset, .unset, .unset, .unset, .unset, .unset, .unset, .unset, .unset, .unset]) rfl k) ?_
  show OwnEnds _ _ _ _ (s₁.setTop (mkF m 12 #[.val (.int pa), .val (.int pb), .val (.int pc_), .val (.int tt), .val (.int fl), .val (.int (pa &&& (63 : Int32))), .val (.int (pb &&& (63 : Int32))), .unset, .unset, .unset, .unset, .unset, .unset, .unset, .unset, .unset, .unset] []))
  refine OwnEnds.via (fun t k => XS.iloadN X0.here hx rfl (hb hby at_12) rfl k) ?_
  show OwnEnds _ _ _ _ (s₁.setTop (mkF m 13 #[.val (.int pa), .val (.int pb), .val (.int pc_), .val (.int tt), .val (.int fl), .val (.int (pa &&& (63 : Int32))), .val (.int (pb &&& (63 : Int32))), .unset, .unset, .unset, .unset, .unset, .unset, .unset, .unset, .unset, .unset] [(.int pc_)]))
  refine OwnEnds.via (fun t k => XS.bipush X0.here hx rfl (hb hby at_13) k) ?_
  show OwnEnds _ _ _ _ (s₁.setTop (mkF m 15 #[.val (.int pa), .val (.int pb), .val (.int pc_), .val (.int tt), .val (.int fl), .val (.int (pa &&& (63 : Int32))), .val (.int (pb &&& (63 : Int32))), .unset, .unset, .unset, .unset, .unset, .unset, .unset, .unset, .unset, .unset] [(.int (63 : Int32)), (.int pc_)]))
  refine OwnEnds.via (fun t k => XS.iand X0.here hx rfl (hb hby at_15) rfl k) ?_
  show OwnEnds _ _ _ _ (s₁.setTop (mkF m 16 #[.val (.int pa), .val (.int pb), .val (.int pc_), .val (.int tt), .val (.int fl), .val (.int (pa &&& (63 : Int32))), .val (.int (pb &&& (63 : Int32))), .unset, .unset, .unset, .unset, .unset, .unset, .unset, .unset, .unset, .unset] [(.int (pc_ &&& (63 : Int32)))]))
  refine OwnEnds.via (fun t k => XS.istore X0.here hx rfl (hb hby at_16) rfl (l' := #[.val (.int pa), .val (.int pb), .val (.int pc_), .val (.int tt), .val (.int fl), .val (.int (pa &&& (63 : Int32))), .val (.int (pb &&& (63 : Int32))), .val (.int (pc_ &&& (63 : Int32))), .unset, .unset, .unset, .unset, .unset, .unset, .unset, .unset, .unset]) rfl k) ?_
  show OwnEnds _ _ _ _ (s₁.setTop (mkF m 18 #[.val (.int pa), .val (.int pb), .val (.int pc_), .val (.int tt), .val (.int fl), .val (.int (pa &&& (63 : Int32))), .val (.int (pb &&& (63 : Int32))), .val (.int (pc_ &&& (63 : Int32))), .unset, .unset, .unset, .unset, .unset, .unset, .unset, .unset, .unset] []))
  obtain ⟨ka, h_ka⟩ : ∃ z : Int32, z = (pa &&& (63 : Int32)) := ⟨_, rfl⟩
  rw [← h_ka]
  show OwnEnds _ _ _ _ (s₁.setTop (mkF m 18 #[.val (.int pa), .val (.int pb), .val (.int pc_), .val (.int tt), .val (.int fl), .val (.int ka), .val (.int (pb &&& (63 : Int32))), .val (.int (pc_ &&& (63 : Int32))), .unset, .unset, .unset, .unset, .unset, .unset, .unset, .unset, .unset] []))
  obtain ⟨kb, h_kb⟩ : ∃ z : Int32, z = (pb &&& (63 : Int32)) := ⟨_, rfl⟩
  rw [← h_kb]
  show OwnEnds _ _ _ _ (s₁.setTop (mkF m 18 #[.val (.int pa), .val (.int pb), .val (.int pc_), .val (.int tt), .val (.int fl), .val (.int ka), .val (.int kb), .val (.int (pc_ &&& (63 : Int32))), .unset, .unset, .unset, .unset, .unset, .unset, .unset, .unset, .unset] []))
  obtain ⟨kc, h_kc⟩ : ∃ z : Int32, z = (pc_ &&& (63 : Int32)) := ⟨_, rfl⟩
  rw [← h_kc]
  show OwnEnds _ _ _ _ (s₁.setTop (mkF m 18 #[.val (.int pa), .val (.int pb), .val (.int pc_), .val (.int tt), .val (.int fl), .val (.int ka), .val (.int kb), .val (.int kc), .unset, .unset, .unset, .unset, .unset, .unset, .unset, .unset, .unset] []))
  refine OwnEnds.via (fun t k => XS.iconst X0.here hx rfl (hb hby at_18) k) ?_
  show OwnEnds _ _ _ _ (s₁.setTop (mkF m 19 #[.val (.int pa), .val (.int pb), .val (.int pc_), .val (.int tt), .val (.int fl), .val (.int ka), .val (.int kb), .val (.int kc), .unset, .unset, .unset, .unset, .unset, .unset, .unset, .unset, .unset] [(.int (3 : Int32))]))
  obtain ⟨T1, h1, k1, X1, e1, E1, A1, st1⟩ := newP X0 hx hZ (hw _ (List.mem_of_getElem? (i := 0) rfl)) e0 (g := (mkF m 19 #[.val (.int pa), .val (.int pb), .val (.int pc_), .val (.int tt), .val (.int fl), .val (.int ka), .val (.int kb), .val (.int kc), .unset, .unset, .unset, .unset, .unset, .unset, .unset, .unset, .unset] [(.int (3 : Int32))])) rfl (hb hby at_19) rfl (by decide) (cap := 3) (by decide) (by decide) (by decide) (by decide)
  obtain ⟨b1, g1⟩ : ∃ z, z = h0.size := ⟨_, rfl⟩
  have ne_ko_b1 : ko ≠ b1 := Nat.ne_of_lt (Nat.lt_of_lt_of_le (OP3.ext O0.2).lt (Nat.le_of_eq g1.symm))
  have ne_kp_b1 : kp ≠ b1 := Nat.ne_of_lt (Nat.lt_of_lt_of_le (OP4.ext O0.2).lt (Nat.le_of_eq g1.symm))
  have ge_b1 : n0 ≤ b1 := Nat.le_trans Z0 (Nat.le_of_eq g1.symm)
  have Z1 : n0 ≤ h1.size := Nat.le_trans Z0 E1.1
  have O1 : Old Z n0 h1 := O0.ext E1
  rw [← g1] at A1 st1
  have V1 : Arv Z h1 b1 k1 .byte (3 : Int32) [(.int (0 : Int32)), (.int (0 : Int32)), (.int (0 : Int32))] (.int (0 : Int32)) := (Arv.new A1 (by decide)).pad (pad_rep [] (.int (0 : Int32)) 3)
  refine OwnEnds.via st1 ?_
  show OwnEnds _ _ _ _ (T1.setTop (mkF m 21 #[.val (.int pa), .val (.int pb), .val (.int pc_), .val (.int tt), .val (.int fl), .val (.int ka), .val (.int kb), .val (.int kc), .unset, .unset, .unset, .unset, .unset, .unset, .unset, .unset, .unset] [(.ref b1)]))
  refine OwnEnds.via (fun t k => XS.dup X1.here hx rfl (hb hby at_21) rfl rfl k) ?_
  show OwnEnds _ _ _ _ (T1.setTop (mkF m 22 #[.val (.int pa), .val (.int pb), .val (.int pc_), .val (.int tt), .val (.int fl), .val (.int ka), .val (.int kb), .val (.int kc), .unset, .unset, .unset, .unset, .unset, .unset, .unset, .unset, .unset] [(.ref b1), (.ref b1)]))
  refine OwnEnds.via (fun t k => XS.iconst X1.here hx rfl (hb hby at_22) k) ?_
  show OwnEnds _ _ _ _ (T1.setTop (mkF m 23 #[.val (.int pa), .val (.int pb), .val (.int pc_), .val (.int tt), .val (.int fl), .val (.int ka), .val (.int kb), .val (.int kc), .unset, .unset, .unset, .unset, .unset, .unset, .unset, .unset, .unset] [(.int (0 : Int32)), (.ref b1), (.ref b1)]))
  refine OwnEnds.via (fun t k => XS.iload X1.here hx rfl (hb hby at_23) rfl k) ?_
  show OwnEnds _ _ _ _ (T1.setTop (mkF m 25 #[.val (.int pa), .val (.int pb), .val (.int pc_), .val (.int tt), .val (.int fl), .val (.int ka), .val (.int kb), .val (.int kc), .unset, .unset, .unset, .unset, .unset, .unset, .unset, .unset, .unset] [(.int ka), (.int (0 : Int32)), (.ref b1), (.ref b1)]))
  refine OwnEnds.via (fun t k => XS.i2b X1.here hx rfl (hb hby at_25) rfl k) ?_
  show OwnEnds _ _ _ _ (T1.setTop (mkF m 26 #[.val (.int pa), .val (.int pb), .val (.int pc_), .val (.int tt), .val (.int fl), .val (.int ka), .val (.int kb), .val (.int kc), .unset, .unset, .unset, .unset, .unset, .unset, .unset, .unset, .unset] [(.int (ka.toInt8.toInt32)), (.int (0 : Int32)), (.ref b1), (.ref b1)]))
  obtain ⟨cl2, Ar2, q2, S2, M2, H2, G2⟩ := id V1
  have hin2 : ¬ ((0 : Int32) < 0 ∨ cl2.slots.size ≤ ((0 : Int32)).toNatClampNeg) := inb_of S2 ⟨by decide, by decide⟩
  obtain ⟨T2, h2, X2, e2, W2, st2⟩ := stB X1 hx hZ e1 Ar2 (j := (0 : Int32)) hin2 (g := (mkF m 26 #[.val (.int pa), .val (.int pb), .val (.int pc_), .val (.int tt), .val (.int fl), .val (.int ka), .val (.int kb), .val (.int kc), .unset, .unset, .unset, .unset, .unset, .unset, .unset, .unset, .unset] [(.int (ka.toInt8.toInt32)), (.int (0 : Int32)), (.ref b1), (.ref b1)])) rfl rfl (hb hby at_26)
  have V2 : Arv Z h2 b1 k1 .byte (3 : Int32) [(.int (nar .byte (ka.toInt8.toInt32))), (.int (0 : Int32)), (.int (0 : Int32))] (.int (0 : Int32)) := Arv.set Ar2 q2 S2 M2 H2 G2 (fits_nar_byte _) W2 0 rfl (Nat.le_of_ble_eq_true rfl)
  have N2 := Fr.snoc X2 N0 ge_b1
  have Z2 : n0 ≤ h2.size := Nat.le_trans Z1 (Nat.le_of_eq W2.size.symm)
  have O2 : Old Z n0 h2 := O1.wr W2 ge_b1
  refine OwnEnds.via st2 ?_
  show OwnEnds _ _ _ _ (T2.setTop (mkF m 27 #[.val (.int pa), .val (.int pb), .val (.int pc_), .val (.int tt), .val (.int fl), .val (.int ka), .val (.int kb), .val (.int kc), .unset, .unset, .unset, .unset, .unset, .unset, .unset, .unset, .unset] [(.ref b1)]))
  refine OwnEnds.via (fun t k => XS.dup X2.here hx rfl (hb hby at_27) rfl rfl k) ?_
  show OwnEnds _ _ _ _ (T2.setTop (mkF m 28 #[.val (.int pa), .val (.int pb), .val (.int pc_), .val (.int tt), .val (.int fl), .val (.int ka), .val (.int kb), .val (.int kc), .unset, .unset, .unset, .unset, .unset, .unset, .unset, .unset, .unset] [(.ref b1), (.ref b1)]))
  refine OwnEnds.via (fun t k => XS.iconst X2.here hx rfl (hb hby at_28) k) ?_
  show OwnEnds _ _ _ _ (T2.setTop (mkF m 29 #[.val (.int pa), .val (.int pb), .val (.int pc_), .val (.int tt), .val (.int fl), .val (.int ka), .val (.int kb), .val (.int kc), .unset, .unset, .unset, .unset, .unset, .unset, .unset, .unset, .unset] [(.int (1 : Int32)), (.ref b1), (.ref b1)]))
  refine OwnEnds.via (fun t k => XS.iload X2.here hx rfl (hb hby at_29) rfl k) ?_
  show OwnEnds _ _ _ _ (T2.setTop (mkF m 31 #[.val (.int pa), .val (.int pb), .val (.int pc_), .val (.int tt), .val (.int fl), .val (.int ka), .val (.int kb), .val (.int kc), .unset, .unset, .unset, .unset, .unset, .unset, .unset, .unset, .unset] [(.int kb), (.int (1 : Int32)), (.ref b1), (.ref b1)]))
  refine OwnEnds.via (fun t k => XS.i2b X2.here hx rfl (hb hby at_31) rfl k) ?_
  show OwnEnds _ _ _ _ (T2.setTop (mkF m 32 #[.val (.int pa), .val (.int pb), .val (.int pc_), .val (.int tt), .val (.int fl), .val (.int ka), .val (.int kb), .val (.int kc), .unset, .unset, .unset, .unset, .unset, .unset, .unset, .unset, .unset] [(.int (kb.toInt8.toInt32)), (.int (1 : Int32)), (.ref b1), (.ref b1)]))
  obtain ⟨cl3, Ar3, q3, S3, M3, H3, G3⟩ := id V2
  have hin3 : ¬ ((1 : Int32) < 0 ∨ cl3.slots.size ≤ ((1 : Int32)).toNatClampNeg) := inb_of S3 ⟨by decide, by decide⟩
  obtain ⟨T3, h3, X3, e3, W3, st3⟩ := stB X2 hx hZ e2 Ar3 (j := (1 : Int32)) hin3 (g := (mkF m 32 #[.val (.int pa), .val (.int pb), .val (.int pc_), .val (.int tt), .val (.int fl), .val (.int ka), .val (.int kb), .val (.int kc), .unset, .unset, .unset, .unset, .unset, .unset, .unset, .unset, .unset] [(.int (kb.toInt8.toInt32)), (.int (1 : Int32)), (.ref b1), (.ref b1)])) rfl rfl (hb hby at_32)
  have V3 : Arv Z h3 b1 k1 .byte (3 : Int32) [(.int (nar .byte (ka.toInt8.toInt32))), (.int (nar .byte (kb.toInt8.toInt32))), (.int (0 : Int32))] (.int (0 : Int32)) := Arv.set Ar3 q3 S3 M3 H3 G3 (fits_nar_byte _) W3 1 rfl (Nat.le_of_ble_eq_true rfl)
  have N3 := Fr.snoc X3 N2 ge_b1
  have Z3 : n0 ≤ h3.size := Nat.le_trans Z2 (Nat.le_of_eq W3.size.symm)
  have O3 : Old Z n0 h3 := O2.wr W3 ge_b1
  refine OwnEnds.via st3 ?_
  show OwnEnds _ _ _ _ (T3.setTop (mkF m 33 #[.val (.int pa), .val (.int pb), .val (.int pc_), .val (.int tt), .val (.int fl), .val (.int ka), .val (.int kb), .val (.int kc), .unset, .unset, .unset, .unset, .unset, .unset, .unset, .unset, .unset] [(.ref b1)]))
  refine OwnEnds.via (fun t k => XS.dup X3.here hx rfl (hb hby at_33) rfl rfl k) ?_
  show OwnEnds _ _ _ _ (T3.setTop (mkF m 34 #[.val (.int pa), .val (.int pb), .val (.int pc_), .val (.int tt), .val (.int fl), .val (.int ka), .val (.int kb), .val (.int kc), .unset, .unset, .unset, .unset, .unset, .unset, .unset, .unset, .unset] [(.ref b1), (.ref b1)]))
  refine OwnEnds.via (fun t k => XS.iconst X3.here hx rfl (hb hby at_34) k) ?_
  show OwnEnds _ _ _ _ (T3.setTop (mkF m 35 #[.val (.int pa), .val (.int pb), .val (.int pc_), .val (.int tt), .val (.int fl), .val (.int ka), .val (.int kb), .val (.int kc), .unset, .unset, .unset, .unset, .unset, .unset, .unset, .unset, .unset] [(.int (2 : Int32)), (.ref b1), (.ref b1)]))
  refine OwnEnds.via (fun t k => XS.iload X3.here hx rfl (hb hby at_35) rfl k) ?_
  show OwnEnds _ _ _ _ (T3.setTop (mkF m 37 #[.val (.int pa), .val (.int pb), .val (.int pc_), .val (.int tt), .val (.int fl), .val (.int ka), .val (.int kb), .val (.int kc), .unset, .unset, .unset, .unset, .unset, .unset, .unset, .unset, .unset] [(.int kc), (.int (2 : Int32)), (.ref b1), (.ref b1)]))
  refine OwnEnds.via (fun t k => XS.i2b X3.here hx rfl (hb hby at_37) rfl k) ?_
  show OwnEnds _ _ _ _ (T3.setTop (mkF m 38 #[.val (.int pa), .val (.int pb), .val (.int pc_), .val (.int tt), .val (.int fl), .val (.int ka), .val (.int kb), .val (.int kc), .unset, .unset, .unset, .unset, .unset, .unset, .unset, .unset, .unset] [(.int (kc.toInt8.toInt32)), (.int (2 : Int32)), (.ref b1), (.ref b1)]))
  obtain ⟨cl4, Ar4, q4, S4, M4, H4, G4⟩ := id V3
  have hin4 : ¬ ((2 : Int32) < 0 ∨ cl4.slots.size ≤ ((2 : Int32)).toNatClampNeg) := inb_of S4 ⟨by decide, by decide⟩
  obtain ⟨T4, h4, X4, e4, W4, st4⟩ := stB X3 hx hZ e3 Ar4 (j := (2 : Int32)) hin4 (g := (mkF m 38 #[.val (.int pa), .val (.int pb), .val (.int pc_), .val (.int tt), .val (.int fl), .val (.int ka), .val (.int kb), .val (.int kc), .unset, .unset, .unset, .unset, .unset, .unset, .unset, .unset, .unset] [(.int (kc.toInt8.toInt32)), (.int (2 : Int32)), (.ref b1), (.ref b1)])) rfl rfl (hb hby at_38)
  have V4 : Arv Z h4 b1 k1 .byte (3 : Int32) [(.int (nar .byte (ka.toInt8.toInt32))), (.int (nar .byte (kb.toInt8.toInt32))), (.int (nar .byte (kc.toInt8.toInt32)))] (.int (0 : Int32)) := Arv.set Ar4 q4 S4 M4 H4 G4 (fits_nar_byte _) W4 2 rfl (Nat.le_of_ble_eq_true rfl)
  have N4 := Fr.snoc X4 N3 ge_b1
  have Z4 : n0 ≤ h4.size := Nat.le_trans Z3 (Nat.le_of_eq W4.size.symm)
  have O4 : Old Z n0 h4 := O3.wr W4 ge_b1
  refine OwnEnds.via st4 ?_
  show OwnEnds _ _ _ _ (T4.setTop (mkF m 39 #[.val (.int pa), .val (.int pb), .val (.int pc_), .val (.int tt), .val (.int fl), .val (.int ka), .val (.int kb), .val (.int kc), .unset, .unset, .unset, .unset, .unset, .unset, .unset, .unset, .unset] [(.ref b1)]))
  refine OwnEnds.via (fun t k => XS.astore X4.here hx rfl (hb hby at_39) rfl rfl (l' := #[.val (.int pa), .val (.int pb), .val (.int pc_), .val (.int tt), .val (.int fl), .val (.int ka), .val (.int kb), .val (.int kc), .val (.ref b1), .unset, .unset, .unset, .unset, .unset, .unset, .unset, .unset]) rfl k) ?_
  show OwnEnds _ _ _ _ (T4.setTop (mkF m 41 #[.val (.int pa), .val (.int pb), .val (.int pc_), .val (.int tt), .val (.int fl), .val (.int ka), .val (.int kb), .val (.int kc), .val (.ref b1), .unset, .unset, .unset, .unset, .unset, .unset, .unset, .unset] []))
  refine OwnEnds.via (fun t k => XS.iconst X4.here hx rfl (hb hby at_41) k) ?_
  show OwnEnds _ _ _ _ (T4.setTop (mkF m 42 #[.val (.int pa), .val (.int pb), .val (.int pc_), .val (.int tt), .val (.int fl), .val (.int ka), .val (.int kb), .val (.int kc), .val (.ref b1), .unset, .unset, .unset, .unset, .unset, .unset, .unset, .unset] [(.int (0 : Int32))]))
  obtain ⟨T5, h5, k5, X5, e5, E5, A5, st5⟩ := newP X4 hx hZ (hw _ (List.mem_of_getElem? (i := 0) rfl)) e4 (g := (mkF m 42 #[.val (.int pa), .val (.int pb), .val (.int pc_), .val (.int tt), .val (.int fl), .val (.int ka), .val (.int kb), .val (.int kc), .val (.ref b1), .unset, .unset, .unset, .unset, .unset, .unset, .unset, .unset] [(.int (0 : Int32))])) rfl (hb hby at_42) rfl (by decide) (cap := 0) (by decide) (by decide) (by decide) (by decide)
  obtain ⟨b5, g5⟩ : ∃ z, z = h4.size := ⟨_, rfl⟩
  have ne_b1_b5 : b1 ≠ b5 := Nat.ne_of_lt (Nat.lt_of_lt_of_le V4.lt (Nat.le_of_eq g5.symm))
  have ne_ko_b5 : ko ≠ b5 := Nat.ne_of_lt (Nat.lt_of_lt_of_le (OP3.ext O4.2).lt (Nat.le_of_eq g5.symm))
  have ne_kp_b5 : kp ≠ b5 := Nat.ne_of_lt (Nat.lt_of_lt_of_le (OP4.ext O4.2).lt (Nat.le_of_eq g5.symm))
  have ge_b5 : n0 ≤ b5 := Nat.le_trans Z4 (Nat.le_of_eq g5.symm)
  have Z5 : n0 ≤ h5.size := Nat.le_trans Z4 E5.1
  have O5 : Old Z n0 h5 := O4.ext E5
  rw [← g5] at A5 st5
  have V5 : Arv Z h5 b5 k5 .byte (0 : Int32) [] (.int (0 : Int32)) := (Arv.new A5 (by decide)).pad (pad_rep [] (.int (0 : Int32)) 0)
  refine OwnEnds.via st5 ?_
  show OwnEnds _ _ _ _ (T5.setTop (mkF m 44 #[.val (.int pa), .val (.int pb), .val (.int pc_), .val (.int tt), .val (.int fl), .val (.int ka), .val (.int kb), .val (.int kc), .val (.ref b1), .unset, .unset, .unset, .unset, .unset, .unset, .unset, .unset] [(.ref b5)]))
  refine OwnEnds.via (fun t k => XS.astore X5.here hx rfl (hb hby at_44) rfl rfl (l' := #[.val (.int pa), .val (.int pb), .val (.int pc_), .val (.int tt), .val (.int fl), .val (.int ka), .val (.int kb), .val (.int kc), .val (.ref b1), .val (.ref b5), .unset, .unset, .unset, .unset, .unset, .unset, .unset]) rfl k) ?_
  show OwnEnds _ _ _ _ (T5.setTop (mkF m 46 #[.val (.int pa), .val (.int pb), .val (.int pc_), .val (.int tt), .val (.int fl), .val (.int ka), .val (.int kb), .val (.int kc), .val (.ref b1), .val (.ref b5), .unset, .unset, .unset, .unset, .unset, .unset, .unset] []))
  obtain ⟨T6, h6, X6, e6, E6, A6, D6, -, st6⟩ := newO X5 hx hZ hown (hw _ (List.mem_of_getElem? (i := 1) rfl)) (hw _ (List.mem_of_getElem? (i := 2) rfl)) (hw _ (List.mem_of_getElem? (i := 3) rfl)) e5 (g := (mkF m 46 #[.val (.int pa), .val (.int pb), .val (.int pc_), .val (.int tt), .val (.int fl), .val (.int ka), .val (.int kb), .val (.int kc), .val (.ref b1), .val (.ref b5), .unset, .unset, .unset, .unset, .unset, .unset, .unset] [])) rfl (hb hby at_46) (by decide) (by decide)
  obtain ⟨b6, g6⟩ : ∃ z, z = h5.size := ⟨_, rfl⟩
  have ne_b1_b6 : b1 ≠ b6 := Nat.ne_of_lt (Nat.lt_of_lt_of_le (V4.ext E5).lt (Nat.le_of_eq g6.symm))
  have ne_b5_b6 : b5 ≠ b6 := Nat.ne_of_lt (Nat.lt_of_lt_of_le V5.lt (Nat.le_of_eq g6.symm))
  have ne_ko_b6 : ko ≠ b6 := Nat.ne_of_lt (Nat.lt_of_lt_of_le (OP3.ext O5.2).lt (Nat.le_of_eq g6.symm))
  have ne_kp_b6 : kp ≠ b6 := Nat.ne_of_lt (Nat.lt_of_lt_of_le (OP4.ext O5.2).lt (Nat.le_of_eq g6.symm))
  have ge_b6 : n0 ≤ b6 := Nat.le_trans Z5 (Nat.le_of_eq g6.symm)
  have Z6 : n0 ≤ h6.size := Nat.le_trans Z5 E6.1
  have O6 : Old Z n0 h6 := O5.ext E6
  rw [← g6] at A6 D6 st6
  have F6_mGraph : Fld Z h6 b6 "com/example/stratal/stratal/logic/LayerReport" "mGraph" "Lcom/example/stratal/stratal/graph/Graph;" .null := D6 (Or.inr (hw _ (List.mem_of_getElem? (i := 11) rfl))) (ty := (.object "com/example/stratal/stratal/graph/Graph")) (by decide)
  have F6_mTripleCount : Fld Z h6 b6 "com/example/stratal/stratal/logic/LayerReport" "mTripleCount" "I" (.int (0 : Int32)) := D6 (Or.inr (hw _ (List.mem_of_getElem? (i := 13) rfl))) (ty := .int) (by decide)
  have F6_mHasAxioms : Fld Z h6 b6 "com/example/stratal/stratal/logic/LayerReport" "mHasAxioms" "Z" (.int (0 : Int32)) := D6 (Or.inr (hw _ (List.mem_of_getElem? (i := 15) rfl))) (ty := .boolean) (by decide)
  have F6_mStatus : Fld Z h6 b6 "com/example/stratal/stratal/logic/LayerReport" "mStatus" "[B" .null := D6 (Or.inr (hw _ (List.mem_of_getElem? (i := 17) rfl))) (ty := (.array .byte)) (by decide)
  have F6_mKinds : Fld Z h6 b6 "com/example/stratal/stratal/logic/LayerReport" "mKinds" "[B" .null := D6 (Or.inr (hw _ (List.mem_of_getElem? (i := 19) rfl))) (ty := (.array .byte)) (by decide)
  have F6_mClashing : Fld Z h6 b6 "com/example/stratal/stratal/logic/LayerReport" "mClashing" "[Z" .null := D6 (Or.inr (hw _ (List.mem_of_getElem? (i := 22) rfl))) (ty := (.array .boolean)) (by decide)
  refine OwnEnds.via st6 ?_
  show OwnEnds _ _ _ _ (T6.setTop (mkF m 49 #[.val (.int pa), .val (.int pb), .val (.int pc_), .val (.int tt), .val (.int fl), .val (.int ka), .val (.int kb), .val (.int kc), .val (.ref b1), .val (.ref b5), .unset, .unset, .unset, .unset, .unset, .unset, .unset] [(.ref b6)]))
  refine OwnEnds.via (fun t k => XS.dup X6.here hx rfl (hb hby at_49) rfl rfl k) ?_
  show OwnEnds _ _ _ _ (T6.setTop (mkF m 50 #[.val (.int pa), .val (.int pb), .val (.int pc_), .val (.int tt), .val (.int fl), .val (.int ka), .val (.int kb), .val (.int kc), .val (.ref b1), .val (.ref b5), .unset, .unset, .unset, .unset, .unset, .unset, .unset] [(.ref b6), (.ref b6)]))
  refine OwnEnds.via (fun t k => XS.aconstNull X6.here hx rfl (hb hby at_50) k) ?_
  show OwnEnds _ _ _ _ (T6.setTop (mkF m 51 #[.val (.int pa), .val (.int pb), .val (.int pc_), .val (.int tt), .val (.int fl), .val (.int ka), .val (.int kb), .val (.int kc), .val (.ref b1), .val (.ref b5), .unset, .unset, .unset, .unset, .unset, .unset, .unset] [.null, (.ref b6), (.ref b6)]))
  refine OwnEnds.via (fun t k => XS.iload X6.here hx rfl (hb hby at_51) rfl k) ?_
  show OwnEnds _ _ _ _ (T6.setTop (mkF m 53 #[.val (.int pa), .val (.int pb), .val (.int pc_), .val (.int tt), .val (.int fl), .val (.int ka), .val (.int kb), .val (.int kc), .val (.ref b1), .val (.ref b5), .unset, .unset, .unset, .unset, .unset, .unset, .unset] [(.int fl), .null, (.ref b6), (.ref b6)]))
  refine OwnEnds.via (fun t k => XS.iconst X6.here hx rfl (hb hby at_53) k) ?_
  show OwnEnds _ _ _ _ (T6.setTop (mkF m 54 #[.val (.int pa), .val (.int pb), .val (.int pc_), .val (.int tt), .val (.int fl), .val (.int ka), .val (.int kb), .val (.int kc), .val (.ref b1), .val (.ref b5), .unset, .unset, .unset, .unset, .unset, .unset, .unset] [(.int (1 : Int32)), (.int fl), .null, (.ref b6), (.ref b6)]))
  refine OwnEnds.via (fun t k => XS.iand X6.here hx rfl (hb hby at_54) rfl k) ?_
  show OwnEnds _ _ _ _ (T6.setTop (mkF m 55 #[.val (.int pa), .val (.int pb), .val (.int pc_), .val (.int tt), .val (.int fl), .val (.int ka), .val (.int kb), .val (.int kc), .val (.ref b1), .val (.ref b5), .unset, .unset, .unset, .unset, .unset, .unset, .unset] [(.int (fl &&& (1 : Int32))), .null, (.ref b6), (.ref b6)]))
  refine OwnEnds.cut (fun G => ∀ (T7 : State) (lc7 : List Loc) (X7 : Stand p l e room_1 s m #[(.int pa), (.int pb), (.int pc_), (.int tt), (.int fl)] below meth c T7 lc7 3 14) (e7 : T7.heap = h6) (N7 : Fr n0 lc7) (ax : Int32), G (T7.setTop (mkF m 63 #[.val (.int pa), .val (.int pb), .val (.int pc_), .val (.int tt), .val (.int fl), .val (.int ka), .val (.int kb), .val (.int kc), .val (.ref b1), .val (.ref b5), .unset, .unset, .unset, .unset, .unset, .unset, .unset] [(.int ax), .null, (.ref b6), (.ref b6)]))) ?_ ?_
  · intro T7 lc7 X7 e7 N7 ax
    show OwnEnds _ _ _ _ (T7.setTop (mkF m 63 #[.val (.int pa), .val (.int pb), .val (.int pc_), .val (.int tt), .val (.int fl), .val (.int ka), .val (.int kb), .val (.int kc), .val (.ref b1), .val (.ref b5), .unset, .unset, .unset, .unset, .unset, .unset, .unset] [(.int ax), .null, (.ref b6), (.ref b6)]))
    refine OwnEnds.via (fun t k => XS.aload X7.here hx rfl (hb hby at_63) rfl rfl k) ?_
    show OwnEnds _ _ _ _ (T7.setTop (mkF m 65 #[.val (.int pa), .val (.int pb), .val (.int pc_), .val (.int tt), .val (.int fl), .val (.int ka), .val (.int kb), .val (.int kc), .val (.ref b1), .val (.ref b5), .unset, .unset, .unset, .unset, .unset, .unset, .unset] [(.ref b5), (.int ax), .null, (.ref b6), (.ref b6)]))
    refine OwnEnds.via (fun t k => XS.aload X7.here hx rfl (hb hby at_65) rfl rfl k) ?_
    show OwnEnds _ _ _ _ (T7.setTop (mkF m 67 #[.val (.int pa), .val (.int pb), .val (.int pc_), .val (.int tt), .val (.int fl), .val (.int ka), .val (.int kb), .val (.int kc), .val (.ref b1), .val (.ref b5), .unset, .unset, .unset, .unset, .unset, .unset, .unset] [(.ref b1), (.ref b5), (.int ax), .null, (.ref b6), (.ref b6)]))
    obtain ⟨_, _, ⟨T8, L8, k8, n8⟩, -, X8, ⟨Lc8, hQ8, l8, y8, z8⟩, st8⟩ := X7.specialBack hx (y := (⟨"com/example/stratal/stratal/logic/LayerReport", "<init>", "(Lcom/example/stratal/stratal/graph/Graph;Z[B[B)V"⟩ : MethodName)) rfl hown (mvT hZ (hw _ (List.mem_of_getElem? (i := 4) rfl))) (mvT hZ (hw _ (List.mem_of_getElem? (i := 5) rfl))) (mvT hZ (hw _ (List.mem_of_getElem? (i := 6) rfl))) (by decide) (backOf (W := 1) (rm1 l Z a0 hw [] b6 ax b5 b1 k5 k1 (nar .byte (ka.toInt8.toInt32)) (nar .byte (kb.toInt8.toInt32)) (nar .byte (kc.toInt8.toInt32)) ko kp h6 n0 Z6 O6 A6 F6_mGraph F6_mTripleCount F6_mHasAxioms F6_mStatus F6_mKinds F6_mClashing ge_b6 (V5.ext E6) ((V4.ext E5).ext E6) ne_b5_b6 ne_b1_b6 OP0 OP1 OP2 OP3 OP4 OP5 OP6) hZ (hw _ (List.mem_of_getElem? (i := 6) rfl)) (hw _ (List.mem_of_getElem? (i := 3) rfl)) (by decide) (by decide)) (g := (mkF m 67 #[.val (.int pa), .val (.int pb), .val (.int pc_), .val (.int tt), .val (.int fl), .val (.int ka), .val (.int kb), .val (.int kc), .val (.ref b1), .val (.ref b5), .unset, .unset, .unset, .unset, .unset, .unset, .unset] [(.ref b1), (.ref b5), (.int ax), .null, (.ref b6), (.ref b6)])) rfl (by rw [hml]; rfl) (Steps.refl _) (a := b6) (argsL := [.null, (.int ax), (.ref b5), (.ref b1)]) (rest := [(.ref b6)]) (lenOf pd_4 rfl) rfl (by show 2 * 0 + _ ≤ _; exact Nat.le_of_eq rfl) (hb hby at_67) (fun _ _ => ⟨rfl, e7, (by decide : 3 + 1 ≤ _), (by decide : 14 + 3 ≤ _)⟩)
    dsimp only [Pt.U, Pt.locs, Pt.cells, Pt.slots] at X8 l8 y8 z8 st8 hQ8
    subst l8 y8 z8
    obtain ⟨h8, e8⟩ : ∃ z, T8.heap = z := ⟨_, rfl⟩
    rw [e8] at hQ8
    obtain ⟨bz_8, kz_8, rfl, Nq8, Kq8, q8_0, q8_1, q8_2⟩ := hQ8
    have Z8 : n0 ≤ h8.size := Nat.le_trans Z6 Kq8.1
    have O8 : Old Z n0 h8 := O6.keep Kq8 (allS ge_b6 all0)
    have N8 := Fr.app N7 Nq8
    refine OwnEnds.via (fun t k => st8.trans k) ?_
    show OwnEnds _ _ _ _ (T8.setTop (mkF m 70 #[.val (.int pa), .val (.int pb), .val (.int pc_), .val (.int tt), .val (.int fl), .val (.int ka), .val (.int kb), .val (.int kc), .val (.ref b1), .val (.ref b5), .unset, .unset, .unset, .unset, .unset, .unset, .unset] [(.ref b6)]))
    refine OwnEnds.via (fun t k => XS.astore X8.here hx rfl (hb hby at_70) rfl rfl (l' := #[.val (.int pa), .val (.int pb), .val (.int pc_), .val (.int tt), .val (.int fl), .val (.int ka), .val (.int kb), .val (.int kc), .val (.ref b1), .val (.ref b5), .val (.ref b6), .unset, .unset, .unset, .unset, .unset, .unset]) rfl k) ?_
    show OwnEnds _ _ _ _ (T8.setTop (mkF m 72 #[.val (.int pa), .val (.int pb), .val (.int pc_), .val (.int tt), .val (.int fl), .val (.int ka), .val (.int kb), .val (.int kc), .val (.ref b1), .val (.ref b5), .val (.ref b6), .unset, .unset, .unset, .unset, .unset, .unset] []))
    refine OwnEnds.via (fun t k => XS.aload X8.here hx rfl (hb hby at_72) rfl rfl k) ?_
    show OwnEnds _ _ _ _ (T8.setTop (mkF m 74 #[.val (.int pa), .val (.int pb), .val (.int pc_), .val (.int tt), .val (.int fl), .val (.int ka), .val (.int kb), .val (.int kc), .val (.ref b1), .val (.ref b5), .val (.ref b6), .unset, .unset, .unset, .unset, .unset, .unset] [(.ref b6)]))
    refine OwnEnds.via (fun t k => XS.iconst X8.here hx rfl (hb hby at_74) k) ?_
    show OwnEnds _ _ _ _ (T8.setTop (mkF m 75 #[.val (.int pa), .val (.int pb), .val (.int pc_), .val (.int tt), .val (.int fl), .val (.int ka), .val (.int kb), .val (.int kc), .val (.ref b1), .val (.ref b5), .val (.ref b6), .unset, .unset, .unset, .unset, .unset, .unset] [(.int (0 : Int32)), (.ref b6)]))
    obtain ⟨cq9, kq9, q9a, q9b, q9c⟩ := isOf hZ e8 q8_0
    obtain ⟨_, _, ⟨T9, L9, k9, n9⟩, -, X9, ⟨Lc9, hQ9, l9, y9, z9⟩, st9⟩ := X8.virtualBack hx (y := (⟨"com/example/stratal/stratal/logic/LayerReport", "isClash", "(I)Z"⟩ : MethodName)) (z := (⟨"com/example/stratal/stratal/logic/LayerReport", "isClash", "(I)Z"⟩ : MethodName)) hown (mvT hZ (hw _ (List.mem_of_getElem? (i := 52) rfl))) (mvT hZ (hw _ (List.mem_of_getElem? (i := 53) rfl))) (notFace_of_selects (args := #[]) (mvT hZ (hw _ (List.mem_of_getElem? (i := 55) rfl)))) (mvT hZ (hw _ (List.mem_of_getElem? (i := 55) rfl))) (mvT hZ (hw _ (List.mem_of_getElem? (i := 54) rfl))) (by decide) (backOf (W := 0) (rm7 l Z a0 hw [] b6 (0 : Int32) bz_8 kz_8 (nar .boolean (own_cl (nar .byte (ka.toInt8.toInt32)))) (nar .boolean (own_cl (nar .byte (kb.toInt8.toInt32)))) (nar .boolean (own_cl (nar .byte (kc.toInt8.toInt32)))) h8 n0 Z8 q8_1 q8_2) hZ (hw _ (List.mem_of_getElem? (i := 56) rfl)) (hw _ (List.mem_of_getElem? (i := 3) rfl)) (by decide) (by decide)) q9a q9c (g := (mkF m 75 #[.val (.int pa), .val (.int pb), .val (.int pc_), .val (.int tt), .val (.int fl), .val (.int ka), .val (.int kb), .val (.int kc), .val (.ref b1), .val (.ref b5), .val (.ref b6), .unset, .unset, .unset, .unset, .unset, .unset] [(.int (0 : Int32)), (.ref b6)])) rfl (by rw [hml]; rfl) (Steps.refl _) (argsL := [(.int (0 : Int32))]) (rest := []) (lenOf pd_2 rfl) rfl (by show 2 * 0 + _ ≤ _; exact Nat.le_of_eq rfl) (hb hby at_75) (fun _ _ => ⟨rfl, e8, (by decide : 4 + 0 ≤ _), (by decide : 17 + 0 ≤ _)⟩)
    dsimp only [Pt.U, Pt.locs, Pt.cells, Pt.slots] at X9 l9 y9 z9 st9 hQ9
    subst l9 y9 z9
    obtain ⟨rfl, Nq9, e9⟩ := hQ9
    have N9 := Fr.app N8 Nq9
    refine OwnEnds.via (fun t k => st9.trans k) ?_
    show OwnEnds _ _ _ _ (T9.setTop (mkF m 78 #[.val (.int pa), .val (.int pb), .val (.int pc_), .val (.int tt), .val (.int fl), .val (.int ka), .val (.int kb), .val (.int kc), .val (.ref b1), .val (.ref b5), .val (.ref b6), .unset, .unset, .unset, .unset, .unset, .unset] [(.int (own_at (0 : Int32) (nar .boolean (own_cl (nar .byte (ka.toInt8.toInt32)))) (nar .boolean (own_cl (nar .byte (kb.toInt8.toInt32)))) (nar .boolean (own_cl (nar .byte (kc.toInt8.toInt32))))))]))
    refine OwnEnds.via (fun t k => XS.istore X9.here hx rfl (hb hby at_78) rfl (l' := #[.val (.int pa), .val (.int pb), .val (.int pc_), .val (.int tt), .val (.int fl), .val (.int ka), .val (.int kb), .val (.int kc), .val (.ref b1), .val (.ref b5), .val (.ref b6), .val (.int (own_at (0 : Int32) (nar .boolean (own_cl (nar .byte (ka.toInt8.toInt32)))) (nar .boolean (own_cl (nar .byte (kb.toInt8.toInt32)))) (nar .boolean (own_cl (nar .byte (kc.toInt8.toInt32)))))), .unset, .unset, .unset, .unset, .unset]) rfl k) ?_
    show OwnEnds _ _ _ _ (T9.setTop (mkF m 80 #[.val (.int pa), .val (.int pb), .val (.int pc_), .val (.int tt), .val (.int fl), .val (.int ka), .val (.int kb), .val (.int kc), .val (.ref b1), .val (.ref b5), .val (.ref b6), .val (.int (own_at (0 : Int32) (nar .boolean (own_cl (nar .byte (ka.toInt8.toInt32)))) (nar .boolean (own_cl (nar .byte (kb.toInt8.toInt32)))) (nar .boolean (own_cl (nar .byte (kc.toInt8.toInt32)))))), .unset, .unset, .unset, .unset, .unset] []))
    refine OwnEnds.via (fun t k => XS.aload X9.here hx rfl (hb hby at_80) rfl rfl k) ?_
    show OwnEnds _ _ _ _ (T9.setTop (mkF m 82 #[.val (.int pa), .val (.int pb), .val (.int pc_), .val (.int tt), .val (.int fl), .val (.int ka), .val (.int kb), .val (.int kc), .val (.ref b1), .val (.ref b5), .val (.ref b6), .val (.int (own_at (0 : Int32) (nar .boolean (own_cl (nar .byte (ka.toInt8.toInt32)))) (nar .boolean (own_cl (nar .byte (kb.toInt8.toInt32)))) (nar .boolean (own_cl (nar .byte (kc.toInt8.toInt32)))))), .unset, .unset, .unset, .unset, .unset] [(.ref b6)]))
    refine OwnEnds.via (fun t k => XS.iconst X9.here hx rfl (hb hby at_82) k) ?_
    show OwnEnds _ _ _ _ (T9.setTop (mkF m 83 #[.val (.int pa), .val (.int pb), .val (.int pc_), .val (.int tt), .val (.int fl), .val (.int ka), .val (.int kb), .val (.int kc), .val (.ref b1), .val (.ref b5), .val (.ref b6), .val (.int (own_at (0 : Int32) (nar .boolean (own_cl (nar .byte (ka.toInt8.toInt32)))) (nar .boolean (own_cl (nar .byte (kb.toInt8.toInt32)))) (nar .boolean (own_cl (nar .byte (kc.toInt8.toInt32)))))), .unset, .unset, .unset, .unset, .unset] [(.int (1 : Int32)), (.ref b6)]))
    obtain ⟨cq10, kq10, q10a, q10b, q10c⟩ := isOf hZ e9 q8_0
    obtain ⟨_, _, ⟨T10, L10, k10, n10⟩, -, X10, ⟨Lc10, hQ10, l10, y10, z10⟩, st10⟩ := X9.virtualBack hx (y := (⟨"com/example/stratal/stratal/logic/LayerReport", "isClash", "(I)Z"⟩ : MethodName)) (z := (⟨"com/example/stratal/stratal/logic/LayerReport", "isClash", "(I)Z"⟩ : MethodName)) hown (mvT hZ (hw _ (List.mem_of_getElem? (i := 52) rfl))) (mvT hZ (hw _ (List.mem_of_getElem? (i := 53) rfl))) (notFace_of_selects (args := #[]) (mvT hZ (hw _ (List.mem_of_getElem? (i := 55) rfl)))) (mvT hZ (hw _ (List.mem_of_getElem? (i := 55) rfl))) (mvT hZ (hw _ (List.mem_of_getElem? (i := 54) rfl))) (by decide) (backOf (W := 0) (rm7 l Z a0 hw [] b6 (1 : Int32) bz_8 kz_8 (nar .boolean (own_cl (nar .byte (ka.toInt8.toInt32)))) (nar .boolean (own_cl (nar .byte (kb.toInt8.toInt32)))) (nar .boolean (own_cl (nar .byte (kc.toInt8.toInt32)))) h8 n0 Z8 q8_1 q8_2) hZ (hw _ (List.mem_of_getElem? (i := 56) rfl)) (hw _ (List.mem_of_getElem? (i := 3) rfl)) (by decide) (by decide)) q10a q10c (g := (mkF m 83 #[.val (.int pa), .val (.int pb), .val (.int pc_), .val (.int tt), .val (.int fl), .val (.int ka), .val (.int kb), .val (.int kc), .val (.ref b1), .val (.ref b5), .val (.ref b6), .val (.int (own_at (0 : Int32) (nar .boolean (own_cl (nar .byte (ka.toInt8.toInt32)))) (nar .boolean (own_cl (nar .byte (kb.toInt8.toInt32)))) (nar .boolean (own_cl (nar .byte (kc.toInt8.toInt32)))))), .unset, .unset, .unset, .unset, .unset] [(.int (1 : Int32)), (.ref b6)])) rfl (by rw [hml]; rfl) (Steps.refl _) (argsL := [(.int (1 : Int32))]) (rest := []) (lenOf pd_2 rfl) rfl (by show 2 * 0 + _ ≤ _; exact Nat.le_of_eq rfl) (hb hby at_83) (fun _ _ => ⟨rfl, e9, (by decide : 4 + 0 ≤ _), (by decide : 17 + 0 ≤ _)⟩)
    dsimp only [Pt.U, Pt.locs, Pt.cells, Pt.slots] at X10 l10 y10 z10 st10 hQ10
    subst l10 y10 z10
    obtain ⟨rfl, Nq10, e10⟩ := hQ10
    have N10 := Fr.app N9 Nq10
    refine OwnEnds.via (fun t k => st10.trans k) ?_
    show OwnEnds _ _ _ _ (T10.setTop (mkF m 86 #[.val (.int pa), .val (.int pb), .val (.int pc_), .val (.int tt), .val (.int fl), .val (.int ka), .val (.int kb), .val (.int kc), .val (.ref b1), .val (.ref b5), .val (.ref b6), .val (.int (own_at (0 : Int32) (nar .boolean (own_cl (nar .byte (ka.toInt8.toInt32)))) (nar .boolean (own_cl (nar .byte (kb.toInt8.toInt32)))) (nar .boolean (own_cl (nar .byte (kc.toInt8.toInt32)))))), .unset, .unset, .unset, .unset, .unset] [(.int (own_at (1 : Int32) (nar .boolean (own_cl (nar .byte (ka.toInt8.toInt32)))) (nar .boolean (own_cl (nar .byte (kb.toInt8.toInt32)))) (nar .boolean (own_cl (nar .byte (kc.toInt8.toInt32))))))]))
    refine OwnEnds.via (fun t k => XS.istore X10.here hx rfl (hb hby at_86) rfl (l' := #[.val (.int pa), .val (.int pb), .val (.int pc_), .val (.int tt), .val (.int fl), .val (.int ka), .val (.int kb), .val (.int kc), .val (.ref b1), .val (.ref b5), .val (.ref b6), .val (.int (own_at (0 : Int32) (nar .boolean (own_cl (nar .byte (ka.toInt8.toInt32)))) (nar .boolean (own_cl (nar .byte (kb.toInt8.toInt32)))) (nar .boolean (own_cl (nar .byte (kc.toInt8.toInt32)))))), .val (.int (own_at (1 : Int32) (nar .boolean (own_cl (nar .byte (ka.toInt8.toInt32)))) (nar .boolean (own_cl (nar .byte (kb.toInt8.toInt32)))) (nar .boolean (own_cl (nar .byte (kc.toInt8.toInt32)))))), .unset, .unset, .unset, .unset]) rfl k) ?_
    show OwnEnds _ _ _ _ (T10.setTop (mkF m 88 #[.val (.int pa), .val (.int pb), .val (.int pc_), .val (.int tt), .val (.int fl), .val (.int ka), .val (.int kb), .val (.int kc), .val (.ref b1), .val (.ref b5), .val (.ref b6), .val (.int (own_at (0 : Int32) (nar .boolean (own_cl (nar .byte (ka.toInt8.toInt32)))) (nar .boolean (own_cl (nar .byte (kb.toInt8.toInt32)))) (nar .boolean (own_cl (nar .byte (kc.toInt8.toInt32)))))), .val (.int (own_at (1 : Int32) (nar .boolean (own_cl (nar .byte (ka.toInt8.toInt32)))) (nar .boolean (own_cl (nar .byte (kb.toInt8.toInt32)))) (nar .boolean (own_cl (nar .byte (kc.toInt8.toInt32)))))), .unset, .unset, .unset, .unset] []))
    refine OwnEnds.via (fun t k => XS.aload X10.here hx rfl (hb hby at_88) rfl rfl k) ?_
    show OwnEnds _ _ _ _ (T10.setTop (mkF m 90 #[.val (.int pa), .val (.int pb), .val (.int pc_), .val (.int tt), .val (.int fl), .val (.int ka), .val (.int kb), .val (.int kc), .val (.ref b1), .val (.ref b5), .val (.ref b6), .val (.int (own_at (0 : Int32) (nar .boolean (own_cl (nar .byte (ka.toInt8.toInt32)))) (nar .boolean (own_cl (nar .byte (kb.toInt8.toInt32)))) (nar .boolean (own_cl (nar .byte (kc.toInt8.toInt32)))))), .val (.int (own_at (1 : Int32) (nar .boolean (own_cl (nar .byte (ka.toInt8.toInt32)))) (nar .boolean (own_cl (nar .byte (kb.toInt8.toInt32)))) (nar .boolean (own_cl (nar .byte (kc.toInt8.toInt32)))))), .unset, .unset, .unset, .unset] [(.ref b6)]))
    refine OwnEnds.via (fun t k => XS.iconst X10.here hx rfl (hb hby at_90) k) ?_
    show OwnEnds _ _ _ _ (T10.setTop (mkF m 91 #[.val (.int pa), .val (.int pb), .val (.int pc_), .val (.int tt), .val (.int fl), .val (.int ka), .val (.int kb), .val (.int kc), .val (.ref b1), .val (.ref b5), .val (.ref b6), .val (.int (own_at (0 : Int32) (nar .boolean (own_cl (nar .byte (ka.toInt8.toInt32)))) (nar .boolean (own_cl (nar .byte (kb.toInt8.toInt32)))) (nar .boolean (own_cl (nar .byte (kc.toInt8.toInt32)))))), .val (.int (own_at (1 : Int32) (nar .boolean (own_cl (nar .byte (ka.toInt8.toInt32)))) (nar .boolean (own_cl (nar .byte (kb.toInt8.toInt32)))) (nar .boolean (own_cl (nar .byte (kc.toInt8.toInt32)))))), .unset, .unset, .unset, .unset] [(.int (2 : Int32)), (.ref b6)]))
    obtain ⟨cq11, kq11, q11a, q11b, q11c⟩ := isOf hZ e10 q8_0
    obtain ⟨_, _, ⟨T11, L11, k11, n11⟩, -, X11, ⟨Lc11, hQ11, l11, y11, z11⟩, st11⟩ := X10.virtualBack hx (y := (⟨"com/example/stratal/stratal/logic/LayerReport", "isClash", "(I)Z"⟩ : MethodName)) (z := (⟨"com/example/stratal/stratal/logic/LayerReport", "isClash", "(I)Z"⟩ : MethodName)) hown (mvT hZ (hw _ (List.mem_of_getElem? (i := 52) rfl))) (mvT hZ (hw _ (List.mem_of_getElem? (i := 53) rfl))) (notFace_of_selects (args := #[]) (mvT hZ (hw _ (List.mem_of_getElem? (i := 55) rfl)))) (mvT hZ (hw _ (List.mem_of_getElem? (i := 55) rfl))) (mvT hZ (hw _ (List.mem_of_getElem? (i := 54) rfl))) (by decide) (backOf (W := 0) (rm7 l Z a0 hw [] b6 (2 : Int32) bz_8 kz_8 (nar .boolean (own_cl (nar .byte (ka.toInt8.toInt32)))) (nar .boolean (own_cl (nar .byte (kb.toInt8.toInt32)))) (nar .boolean (own_cl (nar .byte (kc.toInt8.toInt32)))) h8 n0 Z8 q8_1 q8_2) hZ (hw _ (List.mem_of_getElem? (i := 56) rfl)) (hw _ (List.mem_of_getElem? (i := 3) rfl)) (by decide) (by decide)) q11a q11c (g := (mkF m 91 #[.val (.int pa), .val (.int pb), .val (.int pc_), .val (.int tt), .val (.int fl), .val (.int ka), .val (.int kb), .val (.int kc), .val (.ref b1), .val (.ref b5), .val (.ref b6), .val (.int (own_at (0 : Int32) (nar .boolean (own_cl (nar .byte (ka.toInt8.toInt32)))) (nar .boolean (own_cl (nar .byte (kb.toInt8.toInt32)))) (nar .boolean (own_cl (nar .byte (kc.toInt8.toInt32)))))), .val (.int (own_at (1 : Int32) (nar .boolean (own_cl (nar .byte (ka.toInt8.toInt32)))) (nar .boolean (own_cl (nar .byte (kb.toInt8.toInt32)))) (nar .boolean (own_cl (nar .byte (kc.toInt8.toInt32)))))), .unset, .unset, .unset, .unset] [(.int (2 : Int32)), (.ref b6)])) rfl (by rw [hml]; rfl) (Steps.refl _) (argsL := [(.int (2 : Int32))]) (rest := []) (lenOf pd_2 rfl) rfl (by show 2 * 0 + _ ≤ _; exact Nat.le_of_eq rfl) (hb hby at_91) (fun _ _ => ⟨rfl, e10, (by decide : 4 + 0 ≤ _), (by decide : 17 + 0 ≤ _)⟩)
    dsimp only [Pt.U, Pt.locs, Pt.cells, Pt.slots] at X11 l11 y11 z11 st11 hQ11
    subst l11 y11 z11
    obtain ⟨rfl, Nq11, e11⟩ := hQ11
    have N11 := Fr.app N10 Nq11
    refine OwnEnds.via (fun t k => st11.trans k) ?_
    show OwnEnds _ _ _ _ (T11.setTop (mkF m 94 #[.val (.int pa), .val (.int pb), .val (.int pc_), .val (.int tt), .val (.int fl), .val (.int ka), .val (.int kb), .val (.int kc), .val (.ref b1), .val (.ref b5), .val (.ref b6), .val (.int (own_at (0 : Int32) (nar .boolean (own_cl (nar .byte (ka.toInt8.toInt32)))) (nar .boolean (own_cl (nar .byte (kb.toInt8.toInt32)))) (nar .boolean (own_cl (nar .byte (kc.toInt8.toInt32)))))), .val (.int (own_at (1 : Int32) (nar .boolean (own_cl (nar .byte (ka.toInt8.toInt32)))) (nar .boolean (own_cl (nar .byte (kb.toInt8.toInt32)))) (nar .boolean (own_cl (nar .byte (kc.toInt8.toInt32)))))), .unset, .unset, .unset, .unset] [(.int (own_at (2 : Int32) (nar .boolean (own_cl (nar .byte (ka.toInt8.toInt32)))) (nar .boolean (own_cl (nar .byte (kb.toInt8.toInt32)))) (nar .boolean (own_cl (nar .byte (kc.toInt8.toInt32))))))]))
    refine OwnEnds.via (fun t k => XS.istore X11.here hx rfl (hb hby at_94) rfl (l' := #[.val (.int pa), .val (.int pb), .val (.int pc_), .val (.int tt), .val (.int fl), .val (.int ka), .val (.int kb), .val (.int kc), .val (.ref b1), .val (.ref b5), .val (.ref b6), .val (.int (own_at (0 : Int32) (nar .boolean (own_cl (nar .byte (ka.toInt8.toInt32)))) (nar .boolean (own_cl (nar .byte (kb.toInt8.toInt32)))) (nar .boolean (own_cl (nar .byte (kc.toInt8.toInt32)))))), .val (.int (own_at (1 : Int32) (nar .boolean (own_cl (nar .byte (ka.toInt8.toInt32)))) (nar .boolean (own_cl (nar .byte (kb.toInt8.toInt32)))) (nar .boolean (own_cl (nar .byte (kc.toInt8.toInt32)))))), .val (.int (own_at (2 : Int32) (nar .boolean (own_cl (nar .byte (ka.toInt8.toInt32)))) (nar .boolean (own_cl (nar .byte (kb.toInt8.toInt32)))) (nar .boolean (own_cl (nar .byte (kc.toInt8.toInt32)))))), .unset, .unset, .unset]) rfl k) ?_
    show OwnEnds _ _ _ _ (T11.setTop (mkF m 96 #[.val (.int pa), .val (.int pb), .val (.int pc_), .val (.int tt), .val (.int fl), .val (.int ka), .val (.int kb), .val (.int kc), .val (.ref b1), .val (.ref b5), .val (.ref b6), .val (.int (own_at (0 : Int32) (nar .boolean (own_cl (nar .byte (ka.toInt8.toInt32)))) (nar .boolean (own_cl (nar .byte (kb.toInt8.toInt32)))) (nar .boolean (own_cl (nar .byte (kc.toInt8.toInt32)))))), .val (.int (own_at (1 : Int32) (nar .boolean (own_cl (nar .byte (ka.toInt8.toInt32)))) (nar .boolean (own_cl (nar .byte (kb.toInt8.toInt32)))) (nar .boolean (own_cl (nar .byte (kc.toInt8.toInt32)))))), .val (.int (own_at (2 : Int32) (nar .boolean (own_cl (nar .byte (ka.toInt8.toInt32)))) (nar .boolean (own_cl (nar .byte (kb.toInt8.toInt32)))) (nar .boolean (own_cl (nar .byte (kc.toInt8.toInt32)))))), .unset, .unset, .unset] []))
    refine OwnEnds.via (fun t k => XS.aload X11.here hx rfl (hb hby at_96) rfl rfl k) ?_
    show OwnEnds _ _ _ _ (T11.setTop (mkF m 98 #[.val (.int pa), .val (.int pb), .val (.int pc_), .val (.int tt), .val (.int fl), .val (.int ka), .val (.int kb), .val (.int kc), .val (.ref b1), .val (.ref b5), .val (.ref b6), .val (.int (own_at (0 : Int32) (nar .boolean (own_cl (nar .byte (ka.toInt8.toInt32)))) (nar .boolean (own_cl (nar .byte (kb.toInt8.toInt32)))) (nar .boolean (own_cl (nar .byte (kc.toInt8.toInt32)))))), .val (.int (own_at (1 : Int32) (nar .boolean (own_cl (nar .byte (ka.toInt8.toInt32)))) (nar .boolean (own_cl (nar .byte (kb.toInt8.toInt32)))) (nar .boolean (own_cl (nar .byte (kc.toInt8.toInt32)))))), .val (.int (own_at (2 : Int32) (nar .boolean (own_cl (nar .byte (ka.toInt8.toInt32)))) (nar .boolean (own_cl (nar .byte (kb.toInt8.toInt32)))) (nar .boolean (own_cl (nar .byte (kc.toInt8.toInt32)))))), .unset, .unset, .unset] [(.ref b6)]))
    refine OwnEnds.via (fun t k => XS.iconst X11.here hx rfl (hb hby at_98) k) ?_
    show OwnEnds _ _ _ _ (T11.setTop (mkF m 99 #[.val (.int pa), .val (.int pb), .val (.int pc_), .val (.int tt), .val (.int fl), .val (.int ka), .val (.int kb), .val (.int kc), .val (.ref b1), .val (.ref b5), .val (.ref b6), .val (.int (own_at (0 : Int32) (nar .boolean (own_cl (nar .byte (ka.toInt8.toInt32)))) (nar .boolean (own_cl (nar .byte (kb.toInt8.toInt32)))) (nar .boolean (own_cl (nar .byte (kc.toInt8.toInt32)))))), .val (.int (own_at (1 : Int32) (nar .boolean (own_cl (nar .byte (ka.toInt8.toInt32)))) (nar .boolean (own_cl (nar .byte (kb.toInt8.toInt32)))) (nar .boolean (own_cl (nar .byte (kc.toInt8.toInt32)))))), .val (.int (own_at (2 : Int32) (nar .boolean (own_cl (nar .byte (ka.toInt8.toInt32)))) (nar .boolean (own_cl (nar .byte (kb.toInt8.toInt32)))) (nar .boolean (own_cl (nar .byte (kc.toInt8.toInt32)))))), .unset, .unset, .unset] [(.int (-1 : Int32)), (.ref b6)]))
    obtain ⟨cq12, kq12, q12a, q12b, q12c⟩ := isOf hZ e11 q8_0
    obtain ⟨_, _, ⟨T12, L12, k12, n12⟩, -, X12, ⟨Lc12, hQ12, l12, y12, z12⟩, st12⟩ := X11.virtualBack hx (y := (⟨"com/example/stratal/stratal/logic/LayerReport", "isClash", "(I)Z"⟩ : MethodName)) (z := (⟨"com/example/stratal/stratal/logic/LayerReport", "isClash", "(I)Z"⟩ : MethodName)) hown (mvT hZ (hw _ (List.mem_of_getElem? (i := 52) rfl))) (mvT hZ (hw _ (List.mem_of_getElem? (i := 53) rfl))) (notFace_of_selects (args := #[]) (mvT hZ (hw _ (List.mem_of_getElem? (i := 55) rfl)))) (mvT hZ (hw _ (List.mem_of_getElem? (i := 55) rfl))) (mvT hZ (hw _ (List.mem_of_getElem? (i := 54) rfl))) (by decide) (backOf (W := 0) (rm7 l Z a0 hw [] b6 (-1 : Int32) bz_8 kz_8 (nar .boolean (own_cl (nar .byte (ka.toInt8.toInt32)))) (nar .boolean (own_cl (nar .byte (kb.toInt8.toInt32)))) (nar .boolean (own_cl (nar .byte (kc.toInt8.toInt32)))) h8 n0 Z8 q8_1 q8_2) hZ (hw _ (List.mem_of_getElem? (i := 56) rfl)) (hw _ (List.mem_of_getElem? (i := 3) rfl)) (by decide) (by decide)) q12a q12c (g := (mkF m 99 #[.val (.int pa), .val (.int pb), .val (.int pc_), .val (.int tt), .val (.int fl), .val (.int ka), .val (.int kb), .val (.int kc), .val (.ref b1), .val (.ref b5), .val (.ref b6), .val (.int (own_at (0 : Int32) (nar .boolean (own_cl (nar .byte (ka.toInt8.toInt32)))) (nar .boolean (own_cl (nar .byte (kb.toInt8.toInt32)))) (nar .boolean (own_cl (nar .byte (kc.toInt8.toInt32)))))), .val (.int (own_at (1 : Int32) (nar .boolean (own_cl (nar .byte (ka.toInt8.toInt32)))) (nar .boolean (own_cl (nar .byte (kb.toInt8.toInt32)))) (nar .boolean (own_cl (nar .byte (kc.toInt8.toInt32)))))), .val (.int (own_at (2 : Int32) (nar .boolean (own_cl (nar .byte (ka.toInt8.toInt32)))) (nar .boolean (own_cl (nar .byte (kb.toInt8.toInt32)))) (nar .boolean (own_cl (nar .byte (kc.toInt8.toInt32)))))), .unset, .unset, .unset] [(.int (-1 : Int32)), (.ref b6)])) rfl (by rw [hml]; rfl) (Steps.refl _) (argsL := [(.int (-1 : Int32))]) (rest := []) (lenOf pd_2 rfl) rfl (by show 2 * 0 + _ ≤ _; exact Nat.le_of_eq rfl) (hb hby at_99) (fun _ _ => ⟨rfl, e11, (by decide : 4 + 0 ≤ _), (by decide : 17 + 0 ≤ _)⟩)
    dsimp only [Pt.U, Pt.locs, Pt.cells, Pt.slots] at X12 l12 y12 z12 st12 hQ12
    subst l12 y12 z12
    obtain ⟨rfl, Nq12, e12⟩ := hQ12
    have N12 := Fr.app N11 Nq12
    refine OwnEnds.via (fun t k => st12.trans k) ?_
    show OwnEnds _ _ _ _ (T12.setTop (mkF m 102 #[.val (.int pa), .val (.int pb), .val (.int pc_), .val (.int tt), .val (.int fl), .val (.int ka), .val (.int kb), .val (.int kc), .val (.ref b1), .val (.ref b5), .val (.ref b6), .val (.int (own_at (0 : Int32) (nar .boolean (own_cl (nar .byte (ka.toInt8.toInt32)))) (nar .boolean (own_cl (nar .byte (kb.toInt8.toInt32)))) (nar .boolean (own_cl (nar .byte (kc.toInt8.toInt32)))))), .val (.int (own_at (1 : Int32) (nar .boolean (own_cl (nar .byte (ka.toInt8.toInt32)))) (nar .boolean (own_cl (nar .byte (kb.toInt8.toInt32)))) (nar .boolean (own_cl (nar .byte (kc.toInt8.toInt32)))))), .val (.int (own_at (2 : Int32) (nar .boolean (own_cl (nar .byte (ka.toInt8.toInt32)))) (nar .boolean (own_cl (nar .byte (kb.toInt8.toInt32)))) (nar .boolean (own_cl (nar .byte (kc.toInt8.toInt32)))))), .unset, .unset, .unset] [(.int (own_at (-1 : Int32) (nar .boolean (own_cl (nar .byte (ka.toInt8.toInt32)))) (nar .boolean (own_cl (nar .byte (kb.toInt8.toInt32)))) (nar .boolean (own_cl (nar .byte (kc.toInt8.toInt32))))))]))
    refine OwnEnds.via (fun t k => XS.istore X12.here hx rfl (hb hby at_102) rfl (l' := #[.val (.int pa), .val (.int pb), .val (.int pc_), .val (.int tt), .val (.int fl), .val (.int ka), .val (.int kb), .val (.int kc), .val (.ref b1), .val (.ref b5), .val (.ref b6), .val (.int (own_at (0 : Int32) (nar .boolean (own_cl (nar .byte (ka.toInt8.toInt32)))) (nar .boolean (own_cl (nar .byte (kb.toInt8.toInt32)))) (nar .boolean (own_cl (nar .byte (kc.toInt8.toInt32)))))), .val (.int (own_at (1 : Int32) (nar .boolean (own_cl (nar .byte (ka.toInt8.toInt32)))) (nar .boolean (own_cl (nar .byte (kb.toInt8.toInt32)))) (nar .boolean (own_cl (nar .byte (kc.toInt8.toInt32)))))), .val (.int (own_at (2 : Int32) (nar .boolean (own_cl (nar .byte (ka.toInt8.toInt32)))) (nar .boolean (own_cl (nar .byte (kb.toInt8.toInt32)))) (nar .boolean (own_cl (nar .byte (kc.toInt8.toInt32)))))), .val (.int (own_at (-1 : Int32) (nar .boolean (own_cl (nar .byte (ka.toInt8.toInt32)))) (nar .boolean (own_cl (nar .byte (kb.toInt8.toInt32)))) (nar .boolean (own_cl (nar .byte (kc.toInt8.toInt32)))))), .unset, .unset]) rfl k) ?_
    show OwnEnds _ _ _ _ (T12.setTop (mkF m 104 #[.val (.int pa), .val (.int pb), .val (.int pc_), .val (.int tt), .val (.int fl), .val (.int ka), .val (.int kb), .val (.int kc), .val (.ref b1), .val (.ref b5), .val (.ref b6), .val (.int (own_at (0 : Int32) (nar .boolean (own_cl (nar .byte (ka.toInt8.toInt32)))) (nar .boolean (own_cl (nar .byte (kb.toInt8.toInt32)))) (nar .boolean (own_cl (nar .byte (kc.toInt8.toInt32)))))), .val (.int (own_at (1 : Int32) (nar .boolean (own_cl (nar .byte (ka.toInt8.toInt32)))) (nar .boolean (own_cl (nar .byte (kb.toInt8.toInt32)))) (nar .boolean (own_cl (nar .byte (kc.toInt8.toInt32)))))), .val (.int (own_at (2 : Int32) (nar .boolean (own_cl (nar .byte (ka.toInt8.toInt32)))) (nar .boolean (own_cl (nar .byte (kb.toInt8.toInt32)))) (nar .boolean (own_cl (nar .byte (kc.toInt8.toInt32)))))), .val (.int (own_at (-1 : Int32) (nar .boolean (own_cl (nar .byte (ka.toInt8.toInt32)))) (nar .boolean (own_cl (nar .byte (kb.toInt8.toInt32)))) (nar .boolean (own_cl (nar .byte (kc.toInt8.toInt32)))))), .unset, .unset] []))
    refine OwnEnds.via (fun t k => XS.aload X12.here hx rfl (hb hby at_104) rfl rfl k) ?_
    show OwnEnds _ _ _ _ (T12.setTop (mkF m 106 #[.val (.int pa), .val (.int pb), .val (.int pc_), .val (.int tt), .val (.int fl), .val (.int ka), .val (.int kb), .val (.int kc), .val (.ref b1), .val (.ref b5), .val (.ref b6), .val (.int (own_at (0 : Int32) (nar .boolean (own_cl (nar .byte (ka.toInt8.toInt32)))) (nar .boolean (own_cl (nar .byte (kb.toInt8.toInt32)))) (nar .boolean (own_cl (nar .byte (kc.toInt8.toInt32)))))), .val (.int (own_at (1 : Int32) (nar .boolean (own_cl (nar .byte (ka.toInt8.toInt32)))) (nar .boolean (own_cl (nar .byte (kb.toInt8.toInt32)))) (nar .boolean (own_cl (nar .byte (kc.toInt8.toInt32)))))), .val (.int (own_at (2 : Int32) (nar .boolean (own_cl (nar .byte (ka.toInt8.toInt32)))) (nar .boolean (own_cl (nar .byte (kb.toInt8.toInt32)))) (nar .boolean (own_cl (nar .byte (kc.toInt8.toInt32)))))), .val (.int (own_at (-1 : Int32) (nar .boolean (own_cl (nar .byte (ka.toInt8.toInt32)))) (nar .boolean (own_cl (nar .byte (kb.toInt8.toInt32)))) (nar .boolean (own_cl (nar .byte (kc.toInt8.toInt32)))))), .unset, .unset] [(.ref b6)]))
    refine OwnEnds.via (fun t k => XS.iconst X12.here hx rfl (hb hby at_106) k) ?_
    show OwnEnds _ _ _ _ (T12.setTop (mkF m 107 #[.val (.int pa), .val (.int pb), .val (.int pc_), .val (.int tt), .val (.int fl), .val (.int ka), .val (.int kb), .val (.int kc), .val (.ref b1), .val (.ref b5), .val (.ref b6), .val (.int (own_at (0 : Int32) (nar .boolean (own_cl (nar .byte (ka.toInt8.toInt32)))) (nar .boolean (own_cl (nar .byte (kb.toInt8.toInt32)))) (nar .boolean (own_cl (nar .byte (kc.toInt8.toInt32)))))), .val (.int (own_at (1 : Int32) (nar .boolean (own_cl (nar .byte (ka.toInt8.toInt32)))) (nar .boolean (own_cl (nar .byte (kb.toInt8.toInt32)))) (nar .boolean (own_cl (nar .byte (kc.toInt8.toInt32)))))), .val (.int (own_at (2 : Int32) (nar .boolean (own_cl (nar .byte (ka.toInt8.toInt32)))) (nar .boolean (own_cl (nar .byte (kb.toInt8.toInt32)))) (nar .boolean (own_cl (nar .byte (kc.toInt8.toInt32)))))), .val (.int (own_at (-1 : Int32) (nar .boolean (own_cl (nar .byte (ka.toInt8.toInt32)))) (nar .boolean (own_cl (nar .byte (kb.toInt8.toInt32)))) (nar .boolean (own_cl (nar .byte (kc.toInt8.toInt32)))))), .unset, .unset] [(.int (3 : Int32)), (.ref b6)]))
    obtain ⟨cq13, kq13, q13a, q13b, q13c⟩ := isOf hZ e12 q8_0
    obtain ⟨_, _, ⟨T13, L13, k13, n13⟩, -, X13, ⟨Lc13, hQ13, l13, y13, z13⟩, st13⟩ := X12.virtualBack hx (y := (⟨"com/example/stratal/stratal/logic/LayerReport", "isClash", "(I)Z"⟩ : MethodName)) (z := (⟨"com/example/stratal/stratal/logic/LayerReport", "isClash", "(I)Z"⟩ : MethodName)) hown (mvT hZ (hw _ (List.mem_of_getElem? (i := 52) rfl))) (mvT hZ (hw _ (List.mem_of_getElem? (i := 53) rfl))) (notFace_of_selects (args := #[]) (mvT hZ (hw _ (List.mem_of_getElem? (i := 55) rfl)))) (mvT hZ (hw _ (List.mem_of_getElem? (i := 55) rfl))) (mvT hZ (hw _ (List.mem_of_getElem? (i := 54) rfl))) (by decide) (backOf (W := 0) (rm7 l Z a0 hw [] b6 (3 : Int32) bz_8 kz_8 (nar .boolean (own_cl (nar .byte (ka.toInt8.toInt32)))) (nar .boolean (own_cl (nar .byte (kb.toInt8.toInt32)))) (nar .boolean (own_cl (nar .byte (kc.toInt8.toInt32)))) h8 n0 Z8 q8_1 q8_2) hZ (hw _ (List.mem_of_getElem? (i := 56) rfl)) (hw _ (List.mem_of_getElem? (i := 3) rfl)) (by decide) (by decide)) q13a q13c (g := (mkF m 107 #[.val (.int pa), .val (.int pb), .val (.int pc_), .val (.int tt), .val (.int fl), .val (.int ka), .val (.int kb), .val (.int kc), .val (.ref b1), .val (.ref b5), .val (.ref b6), .val (.int (own_at (0 : Int32) (nar .boolean (own_cl (nar .byte (ka.toInt8.toInt32)))) (nar .boolean (own_cl (nar .byte (kb.toInt8.toInt32)))) (nar .boolean (own_cl (nar .byte (kc.toInt8.toInt32)))))), .val (.int (own_at (1 : Int32) (nar .boolean (own_cl (nar .byte (ka.toInt8.toInt32)))) (nar .boolean (own_cl (nar .byte (kb.toInt8.toInt32)))) (nar .boolean (own_cl (nar .byte (kc.toInt8.toInt32)))))), .val (.int (own_at (2 : Int32) (nar .boolean (own_cl (nar .byte (ka.toInt8.toInt32)))) (nar .boolean (own_cl (nar .byte (kb.toInt8.toInt32)))) (nar .boolean (own_cl (nar .byte (kc.toInt8.toInt32)))))), .val (.int (own_at (-1 : Int32) (nar .boolean (own_cl (nar .byte (ka.toInt8.toInt32)))) (nar .boolean (own_cl (nar .byte (kb.toInt8.toInt32)))) (nar .boolean (own_cl (nar .byte (kc.toInt8.toInt32)))))), .unset, .unset] [(.int (3 : Int32)), (.ref b6)])) rfl (by rw [hml]; rfl) (Steps.refl _) (argsL := [(.int (3 : Int32))]) (rest := []) (lenOf pd_2 rfl) rfl (by show 2 * 0 + _ ≤ _; exact Nat.le_of_eq rfl) (hb hby at_107) (fun _ _ => ⟨rfl, e12, (by decide : 4 + 0 ≤ _), (by decide : 17 + 0 ≤ _)⟩)
    dsimp only [Pt.U, Pt.locs, Pt.cells, Pt.slots] at X13 l13 y13 z13 st13 hQ13
    subst l13 y13 z13
    obtain ⟨rfl, Nq13, e13⟩ := hQ13
    have N13 := Fr.app N12 Nq13
    refine OwnEnds.via (fun t k => st13.trans k) ?_
    show OwnEnds _ _ _ _ (T13.setTop (mkF m 110 #[.val (.int pa), .val (.int pb), .val (.int pc_), .val (.int tt), .val (.int fl), .val (.int ka), .val (.int kb), .val (.int kc), .val (.ref b1), .val (.ref b5), .val (.ref b6), .val (.int (own_at (0 : Int32) (nar .boolean (own_cl (nar .byte (ka.toInt8.toInt32)))) (nar .boolean (own_cl (nar .byte (kb.toInt8.toInt32)))) (nar .boolean (own_cl (nar .byte (kc.toInt8.toInt32)))))), .val (.int (own_at (1 : Int32) (nar .boolean (own_cl (nar .byte (ka.toInt8.toInt32)))) (nar .boolean (own_cl (nar .byte (kb.toInt8.toInt32)))) (nar .boolean (own_cl (nar .byte (kc.toInt8.toInt32)))))), .val (.int (own_at (2 : Int32) (nar .boolean (own_cl (nar .byte (ka.toInt8.toInt32)))) (nar .boolean (own_cl (nar .byte (kb.toInt8.toInt32)))) (nar .boolean (own_cl (nar .byte (kc.toInt8.toInt32)))))), .val (.int (own_at (-1 : Int32) (nar .boolean (own_cl (nar .byte (ka.toInt8.toInt32)))) (nar .boolean (own_cl (nar .byte (kb.toInt8.toInt32)))) (nar .boolean (own_cl (nar .byte (kc.toInt8.toInt32)))))), .unset, .unset] [(.int (own_at (3 : Int32) (nar .boolean (own_cl (nar .byte (ka.toInt8.toInt32)))) (nar .boolean (own_cl (nar .byte (kb.toInt8.toInt32)))) (nar .boolean (own_cl (nar .byte (kc.toInt8.toInt32))))))]))
    refine OwnEnds.via (fun t k => XS.istore X13.here hx rfl (hb hby at_110) rfl (l' := #[.val (.int pa), .val (.int pb), .val (.int pc_), .val (.int tt), .val (.int fl), .val (.int ka), .val (.int kb), .val (.int kc), .val (.ref b1), .val (.ref b5), .val (.ref b6), .val (.int (own_at (0 : Int32) (nar .boolean (own_cl (nar .byte (ka.toInt8.toInt32)))) (nar .boolean (own_cl (nar .byte (kb.toInt8.toInt32)))) (nar .boolean (own_cl (nar .byte (kc.toInt8.toInt32)))))), .val (.int (own_at (1 : Int32) (nar .boolean (own_cl (nar .byte (ka.toInt8.toInt32)))) (nar .boolean (own_cl (nar .byte (kb.toInt8.toInt32)))) (nar .boolean (own_cl (nar .byte (kc.toInt8.toInt32)))))), .val (.int (own_at (2 : Int32) (nar .boolean (own_cl (nar .byte (ka.toInt8.toInt32)))) (nar .boolean (own_cl (nar .byte (kb.toInt8.toInt32)))) (nar .boolean (own_cl (nar .byte (kc.toInt8.toInt32)))))), .val (.int (own_at (-1 : Int32) (nar .boolean (own_cl (nar .byte (ka.toInt8.toInt32)))) (nar .boolean (own_cl (nar .byte (kb.toInt8.toInt32)))) (nar .boolean (own_cl (nar .byte (kc.toInt8.toInt32)))))), .val (.int (own_at (3 : Int32) (nar .boolean (own_cl (nar .byte (ka.toInt8.toInt32)))) (nar .boolean (own_cl (nar .byte (kb.toInt8.toInt32)))) (nar .boolean (own_cl (nar .byte (kc.toInt8.toInt32)))))), .unset]) rfl k) ?_
    show OwnEnds _ _ _ _ (T13.setTop (mkF m 112 #[.val (.int pa), .val (.int pb), .val (.int pc_), .val (.int tt), .val (.int fl), .val (.int ka), .val (.int kb), .val (.int kc), .val (.ref b1), .val (.ref b5), .val (.ref b6), .val (.int (own_at (0 : Int32) (nar .boolean (own_cl (nar .byte (ka.toInt8.toInt32)))) (nar .boolean (own_cl (nar .byte (kb.toInt8.toInt32)))) (nar .boolean (own_cl (nar .byte (kc.toInt8.toInt32)))))), .val (.int (own_at (1 : Int32) (nar .boolean (own_cl (nar .byte (ka.toInt8.toInt32)))) (nar .boolean (own_cl (nar .byte (kb.toInt8.toInt32)))) (nar .boolean (own_cl (nar .byte (kc.toInt8.toInt32)))))), .val (.int (own_at (2 : Int32) (nar .boolean (own_cl (nar .byte (ka.toInt8.toInt32)))) (nar .boolean (own_cl (nar .byte (kb.toInt8.toInt32)))) (nar .boolean (own_cl (nar .byte (kc.toInt8.toInt32)))))), .val (.int (own_at (-1 : Int32) (nar .boolean (own_cl (nar .byte (ka.toInt8.toInt32)))) (nar .boolean (own_cl (nar .byte (kb.toInt8.toInt32)))) (nar .boolean (own_cl (nar .byte (kc.toInt8.toInt32)))))), .val (.int (own_at (3 : Int32) (nar .boolean (own_cl (nar .byte (ka.toInt8.toInt32)))) (nar .boolean (own_cl (nar .byte (kb.toInt8.toInt32)))) (nar .boolean (own_cl (nar .byte (kc.toInt8.toInt32)))))), .unset] []))
    refine OwnEnds.via (fun t k => XS.aload X13.here hx rfl (hb hby at_112) rfl rfl k) ?_
    show OwnEnds _ _ _ _ (T13.setTop (mkF m 114 #[.val (.int pa), .val (.int pb), .val (.int pc_), .val (.int tt), .val (.int fl), .val (.int ka), .val (.int kb), .val (.int kc), .val (.ref b1), .val (.ref b5), .val (.ref b6), .val (.int (own_at (0 : Int32) (nar .boolean (own_cl (nar .byte (ka.toInt8.toInt32)))) (nar .boolean (own_cl (nar .byte (kb.toInt8.toInt32)))) (nar .boolean (own_cl (nar .byte (kc.toInt8.toInt32)))))), .val (.int (own_at (1 : Int32) (nar .boolean (own_cl (nar .byte (ka.toInt8.toInt32)))) (nar .boolean (own_cl (nar .byte (kb.toInt8.toInt32)))) (nar .boolean (own_cl (nar .byte (kc.toInt8.toInt32)))))), .val (.int (own_at (2 : Int32) (nar .boolean (own_cl (nar .byte (ka.toInt8.toInt32)))) (nar .boolean (own_cl (nar .byte (kb.toInt8.toInt32)))) (nar .boolean (own_cl (nar .byte (kc.toInt8.toInt32)))))), .val (.int (own_at (-1 : Int32) (nar .boolean (own_cl (nar .byte (ka.toInt8.toInt32)))) (nar .boolean (own_cl (nar .byte (kb.toInt8.toInt32)))) (nar .boolean (own_cl (nar .byte (kc.toInt8.toInt32)))))), .val (.int (own_at (3 : Int32) (nar .boolean (own_cl (nar .byte (ka.toInt8.toInt32)))) (nar .boolean (own_cl (nar .byte (kb.toInt8.toInt32)))) (nar .boolean (own_cl (nar .byte (kc.toInt8.toInt32)))))), .unset] [(.ref b6)]))
    refine OwnEnds.via (fun t k => XS.iloadN X13.here hx rfl (hb hby at_114) rfl k) ?_
    show OwnEnds _ _ _ _ (T13.setTop (mkF m 115 #[.val (.int pa), .val (.int pb), .val (.int pc_), .val (.int tt), .val (.int fl), .val (.int ka), .val (.int kb), .val (.int kc), .val (.ref b1), .val (.ref b5), .val (.ref b6), .val (.int (own_at (0 : Int32) (nar .boolean (own_cl (nar .byte (ka.toInt8.toInt32)))) (nar .boolean (own_cl (nar .byte (kb.toInt8.toInt32)))) (nar .boolean (own_cl (nar .byte (kc.toInt8.toInt32)))))), .val (.int (own_at (1 : Int32) (nar .boolean (own_cl (nar .byte (ka.toInt8.toInt32)))) (nar .boolean (own_cl (nar .byte (kb.toInt8.toInt32)))) (nar .boolean (own_cl (nar .byte (kc.toInt8.toInt32)))))), .val (.int (own_at (2 : Int32) (nar .boolean (own_cl (nar .byte (ka.toInt8.toInt32)))) (nar .boolean (own_cl (nar .byte (kb.toInt8.toInt32)))) (nar .boolean (own_cl (nar .byte (kc.toInt8.toInt32)))))), .val (.int (own_at (-1 : Int32) (nar .boolean (own_cl (nar .byte (ka.toInt8.toInt32)))) (nar .boolean (own_cl (nar .byte (kb.toInt8.toInt32)))) (nar .boolean (own_cl (nar .byte (kc.toInt8.toInt32)))))), .val (.int (own_at (3 : Int32) (nar .boolean (own_cl (nar .byte (ka.toInt8.toInt32)))) (nar .boolean (own_cl (nar .byte (kb.toInt8.toInt32)))) (nar .boolean (own_cl (nar .byte (kc.toInt8.toInt32)))))), .unset] [(.int tt), (.ref b6)]))
    obtain ⟨cq14, kq14, q14a, q14b, q14c⟩ := isOf hZ e13 q8_0
    obtain ⟨_, _, ⟨T14, L14, k14, n14⟩, -, X14, ⟨Lc14, hQ14, l14, y14, z14⟩, st14⟩ := X13.virtualBack hx (y := (⟨"com/example/stratal/stratal/logic/LayerReport", "isClash", "(I)Z"⟩ : MethodName)) (z := (⟨"com/example/stratal/stratal/logic/LayerReport", "isClash", "(I)Z"⟩ : MethodName)) hown (mvT hZ (hw _ (List.mem_of_getElem? (i := 52) rfl))) (mvT hZ (hw _ (List.mem_of_getElem? (i := 53) rfl))) (notFace_of_selects (args := #[]) (mvT hZ (hw _ (List.mem_of_getElem? (i := 55) rfl)))) (mvT hZ (hw _ (List.mem_of_getElem? (i := 55) rfl))) (mvT hZ (hw _ (List.mem_of_getElem? (i := 54) rfl))) (by decide) (backOf (W := 0) (rm7 l Z a0 hw [] b6 tt bz_8 kz_8 (nar .boolean (own_cl (nar .byte (ka.toInt8.toInt32)))) (nar .boolean (own_cl (nar .byte (kb.toInt8.toInt32)))) (nar .boolean (own_cl (nar .byte (kc.toInt8.toInt32)))) h8 n0 Z8 q8_1 q8_2) hZ (hw _ (List.mem_of_getElem? (i := 56) rfl)) (hw _ (List.mem_of_getElem? (i := 3) rfl)) (by decide) (by decide)) q14a q14c (g := (mkF m 115 #[.val (.int pa), .val (.int pb), .val (.int pc_), .val (.int tt), .val (.int fl), .val (.int ka), .val (.int kb), .val (.int kc), .val (.ref b1), .val (.ref b5), .val (.ref b6), .val (.int (own_at (0 : Int32) (nar .boolean (own_cl (nar .byte (ka.toInt8.toInt32)))) (nar .boolean (own_cl (nar .byte (kb.toInt8.toInt32)))) (nar .boolean (own_cl (nar .byte (kc.toInt8.toInt32)))))), .val (.int (own_at (1 : Int32) (nar .boolean (own_cl (nar .byte (ka.toInt8.toInt32)))) (nar .boolean (own_cl (nar .byte (kb.toInt8.toInt32)))) (nar .boolean (own_cl (nar .byte (kc.toInt8.toInt32)))))), .val (.int (own_at (2 : Int32) (nar .boolean (own_cl (nar .byte (ka.toInt8.toInt32)))) (nar .boolean (own_cl (nar .byte (kb.toInt8.toInt32)))) (nar .boolean (own_cl (nar .byte (kc.toInt8.toInt32)))))), .val (.int (own_at (-1 : Int32) (nar .boolean (own_cl (nar .byte (ka.toInt8.toInt32)))) (nar .boolean (own_cl (nar .byte (kb.toInt8.toInt32)))) (nar .boolean (own_cl (nar .byte (kc.toInt8.toInt32)))))), .val (.int (own_at (3 : Int32) (nar .boolean (own_cl (nar .byte (ka.toInt8.toInt32)))) (nar .boolean (own_cl (nar .byte (kb.toInt8.toInt32)))) (nar .boolean (own_cl (nar .byte (kc.toInt8.toInt32)))))), .unset] [(.int tt), (.ref b6)])) rfl (by rw [hml]; rfl) (Steps.refl _) (argsL := [(.int tt)]) (rest := []) (lenOf pd_2 rfl) rfl (by show 2 * 0 + _ ≤ _; exact Nat.le_of_eq rfl) (hb hby at_115) (fun _ _ => ⟨rfl, e13, (by decide : 4 + 0 ≤ _), (by decide : 17 + 0 ≤ _)⟩)
    dsimp only [Pt.U, Pt.locs, Pt.cells, Pt.slots] at X14 l14 y14 z14 st14 hQ14
    subst l14 y14 z14
    obtain ⟨rfl, Nq14, e14⟩ := hQ14
    have N14 := Fr.app N13 Nq14
    refine OwnEnds.via (fun t k => st14.trans k) ?_
    show OwnEnds _ _ _ _ (T14.setTop (mkF m 118 #[.val (.int pa), .val (.int pb), .val (.int pc_), .val (.int tt), .val (.int fl), .val (.int ka), .val (.int kb), .val (.int kc), .val (.ref b1), .val (.ref b5), .val (.ref b6), .val (.int (own_at (0 : Int32) (nar .boolean (own_cl (nar .byte (ka.toInt8.toInt32)))) (nar .boolean (own_cl (nar .byte (kb.toInt8.toInt32)))) (nar .boolean (own_cl (nar .byte (kc.toInt8.toInt32)))))), .val (.int (own_at (1 : Int32) (nar .boolean (own_cl (nar .byte (ka.toInt8.toInt32)))) (nar .boolean (own_cl (nar .byte (kb.toInt8.toInt32)))) (nar .boolean (own_cl (nar .byte (kc.toInt8.toInt32)))))), .val (.int (own_at (2 : Int32) (nar .boolean (own_cl (nar .byte (ka.toInt8.toInt32)))) (nar .boolean (own_cl (nar .byte (kb.toInt8.toInt32)))) (nar .boolean (own_cl (nar .byte (kc.toInt8.toInt32)))))), .val (.int (own_at (-1 : Int32) (nar .boolean (own_cl (nar .byte (ka.toInt8.toInt32)))) (nar .boolean (own_cl (nar .byte (kb.toInt8.toInt32)))) (nar .boolean (own_cl (nar .byte (kc.toInt8.toInt32)))))), .val (.int (own_at (3 : Int32) (nar .boolean (own_cl (nar .byte (ka.toInt8.toInt32)))) (nar .boolean (own_cl (nar .byte (kb.toInt8.toInt32)))) (nar .boolean (own_cl (nar .byte (kc.toInt8.toInt32)))))), .unset] [(.int (own_at tt (nar .boolean (own_cl (nar .byte (ka.toInt8.toInt32)))) (nar .boolean (own_cl (nar .byte (kb.toInt8.toInt32)))) (nar .boolean (own_cl (nar .byte (kc.toInt8.toInt32))))))]))
    refine OwnEnds.via (fun t k => XS.istore X14.here hx rfl (hb hby at_118) rfl (l' := #[.val (.int pa), .val (.int pb), .val (.int pc_), .val (.int tt), .val (.int fl), .val (.int ka), .val (.int kb), .val (.int kc), .val (.ref b1), .val (.ref b5), .val (.ref b6), .val (.int (own_at (0 : Int32) (nar .boolean (own_cl (nar .byte (ka.toInt8.toInt32)))) (nar .boolean (own_cl (nar .byte (kb.toInt8.toInt32)))) (nar .boolean (own_cl (nar .byte (kc.toInt8.toInt32)))))), .val (.int (own_at (1 : Int32) (nar .boolean (own_cl (nar .byte (ka.toInt8.toInt32)))) (nar .boolean (own_cl (nar .byte (kb.toInt8.toInt32)))) (nar .boolean (own_cl (nar .byte (kc.toInt8.toInt32)))))), .val (.int (own_at (2 : Int32) (nar .boolean (own_cl (nar .byte (ka.toInt8.toInt32)))) (nar .boolean (own_cl (nar .byte (kb.toInt8.toInt32)))) (nar .boolean (own_cl (nar .byte (kc.toInt8.toInt32)))))), .val (.int (own_at (-1 : Int32) (nar .boolean (own_cl (nar .byte (ka.toInt8.toInt32)))) (nar .boolean (own_cl (nar .byte (kb.toInt8.toInt32)))) (nar .boolean (own_cl (nar .byte (kc.toInt8.toInt32)))))), .val (.int (own_at (3 : Int32) (nar .boolean (own_cl (nar .byte (ka.toInt8.toInt32)))) (nar .boolean (own_cl (nar .byte (kb.toInt8.toInt32)))) (nar .boolean (own_cl (nar .byte (kc.toInt8.toInt32)))))), .val (.int (own_at tt (nar .boolean (own_cl (nar .byte (ka.toInt8.toInt32)))) (nar .boolean (own_cl (nar .byte (kb.toInt8.toInt32)))) (nar .boolean (own_cl (nar .byte (kc.toInt8.toInt32))))))]) rfl k) ?_
    show OwnEnds _ _ _ _ (T14.setTop (mkF m 120 #[.val (.int pa), .val (.int pb), .val (.int pc_), .val (.int tt), .val (.int fl), .val (.int ka), .val (.int kb), .val (.int kc), .val (.ref b1), .val (.ref b5), .val (.ref b6), .val (.int (own_at (0 : Int32) (nar .boolean (own_cl (nar .byte (ka.toInt8.toInt32)))) (nar .boolean (own_cl (nar .byte (kb.toInt8.toInt32)))) (nar .boolean (own_cl (nar .byte (kc.toInt8.toInt32)))))), .val (.int (own_at (1 : Int32) (nar .boolean (own_cl (nar .byte (ka.toInt8.toInt32)))) (nar .boolean (own_cl (nar .byte (kb.toInt8.toInt32)))) (nar .boolean (own_cl (nar .byte (kc.toInt8.toInt32)))))), .val (.int (own_at (2 : Int32) (nar .boolean (own_cl (nar .byte (ka.toInt8.toInt32)))) (nar .boolean (own_cl (nar .byte (kb.toInt8.toInt32)))) (nar .boolean (own_cl (nar .byte (kc.toInt8.toInt32)))))), .val (.int (own_at (-1 : Int32) (nar .boolean (own_cl (nar .byte (ka.toInt8.toInt32)))) (nar .boolean (own_cl (nar .byte (kb.toInt8.toInt32)))) (nar .boolean (own_cl (nar .byte (kc.toInt8.toInt32)))))), .val (.int (own_at (3 : Int32) (nar .boolean (own_cl (nar .byte (ka.toInt8.toInt32)))) (nar .boolean (own_cl (nar .byte (kb.toInt8.toInt32)))) (nar .boolean (own_cl (nar .byte (kc.toInt8.toInt32)))))), .val (.int (own_at tt (nar .boolean (own_cl (nar .byte (ka.toInt8.toInt32)))) (nar .boolean (own_cl (nar .byte (kb.toInt8.toInt32)))) (nar .boolean (own_cl (nar .byte (kc.toInt8.toInt32))))))] []))
    refine OwnEnds.via (fun t k => XS.iload X14.here hx rfl (hb hby at_120) rfl k) ?_
    show OwnEnds _ _ _ _ (T14.setTop (mkF m 122 #[.val (.int pa), .val (.int pb), .val (.int pc_), .val (.int tt), .val (.int fl), .val (.int ka), .val (.int kb), .val (.int kc), .val (.ref b1), .val (.ref b5), .val (.ref b6), .val (.int (own_at (0 : Int32) (nar .boolean (own_cl (nar .byte (ka.toInt8.toInt32)))) (nar .boolean (own_cl (nar .byte (kb.toInt8.toInt32)))) (nar .boolean (own_cl (nar .byte (kc.toInt8.toInt32)))))), .val (.int (own_at (1 : Int32) (nar .boolean (own_cl (nar .byte (ka.toInt8.toInt32)))) (nar .boolean (own_cl (nar .byte (kb.toInt8.toInt32)))) (nar .boolean (own_cl (nar .byte (kc.toInt8.toInt32)))))), .val (.int (own_at (2 : Int32) (nar .boolean (own_cl (nar .byte (ka.toInt8.toInt32)))) (nar .boolean (own_cl (nar .byte (kb.toInt8.toInt32)))) (nar .boolean (own_cl (nar .byte (kc.toInt8.toInt32)))))), .val (.int (own_at (-1 : Int32) (nar .boolean (own_cl (nar .byte (ka.toInt8.toInt32)))) (nar .boolean (own_cl (nar .byte (kb.toInt8.toInt32)))) (nar .boolean (own_cl (nar .byte (kc.toInt8.toInt32)))))), .val (.int (own_at (3 : Int32) (nar .boolean (own_cl (nar .byte (ka.toInt8.toInt32)))) (nar .boolean (own_cl (nar .byte (kb.toInt8.toInt32)))) (nar .boolean (own_cl (nar .byte (kc.toInt8.toInt32)))))), .val (.int (own_at tt (nar .boolean (own_cl (nar .byte (ka.toInt8.toInt32)))) (nar .boolean (own_cl (nar .byte (kb.toInt8.toInt32)))) (nar .boolean (own_cl (nar .byte (kc.toInt8.toInt32))))))] [(.int (own_at (0 : Int32) (nar .boolean (own_cl (nar .byte (ka.toInt8.toInt32)))) (nar .boolean (own_cl (nar .byte (kb.toInt8.toInt32)))) (nar .boolean (own_cl (nar .byte (kc.toInt8.toInt32))))))]))
    refine OwnEnds.via (fun t k => XS.iload X14.here hx rfl (hb hby at_122) rfl k) ?_
    show OwnEnds _ _ _ _ (T14.setTop (mkF m 124 #[.val (.int pa), .val (.int pb), .val (.int pc_), .val (.int tt), .val (.int fl), .val (.int ka), .val (.int kb), .val (.int kc), .val (.ref b1), .val (.ref b5), .val (.ref b6), .val (.int (own_at (0 : Int32) (nar .boolean (own_cl (nar .byte (ka.toInt8.toInt32)))) (nar .boolean (own_cl (nar .byte (kb.toInt8.toInt32)))) (nar .boolean (own_cl (nar .byte (kc.toInt8.toInt32)))))), .val (.int (own_at (1 : Int32) (nar .boolean (own_cl (nar .byte (ka.toInt8.toInt32)))) (nar .boolean (own_cl (nar .byte (kb.toInt8.toInt32)))) (nar .boolean (own_cl (nar .byte (kc.toInt8.toInt32)))))), .val (.int (own_at (2 : Int32) (nar .boolean (own_cl (nar .byte (ka.toInt8.toInt32)))) (nar .boolean (own_cl (nar .byte (kb.toInt8.toInt32)))) (nar .boolean (own_cl (nar .byte (kc.toInt8.toInt32)))))), .val (.int (own_at (-1 : Int32) (nar .boolean (own_cl (nar .byte (ka.toInt8.toInt32)))) (nar .boolean (own_cl (nar .byte (kb.toInt8.toInt32)))) (nar .boolean (own_cl (nar .byte (kc.toInt8.toInt32)))))), .val (.int (own_at (3 : Int32) (nar .boolean (own_cl (nar .byte (ka.toInt8.toInt32)))) (nar .boolean (own_cl (nar .byte (kb.toInt8.toInt32)))) (nar .boolean (own_cl (nar .byte (kc.toInt8.toInt32)))))), .val (.int (own_at tt (nar .boolean (own_cl (nar .byte (ka.toInt8.toInt32)))) (nar .boolean (own_cl (nar .byte (kb.toInt8.toInt32)))) (nar .boolean (own_cl (nar .byte (kc.toInt8.toInt32))))))] [(.int ka), (.int (own_at (0 : Int32) (nar .boolean (own_cl (nar .byte (ka.toInt8.toInt32)))) (nar .boolean (own_cl (nar .byte (kb.toInt8.toInt32)))) (nar .boolean (own_cl (nar .byte (kc.toInt8.toInt32))))))]))
    obtain ⟨_, _, ⟨T15, L15, k15, n15⟩, -, X15, ⟨Lc15, hQ15, l15, y15, z15⟩, st15⟩ := Jvm.LawKit.callS X14 hx (y := (⟨"com/example/stratal/stratal/logic/LayerReportIsClashPinLaw", "clash", "(I)Z"⟩ : MethodName)) hown (mvT hZ (hw _ (List.mem_of_getElem? (i := 57) rfl))) (mvT hZ (hw _ (List.mem_of_getElem? (i := 58) rfl))) (mvT hZ (hw _ (List.mem_of_getElem? (i := 59) rfl))) (mvT hZ (hw _ (List.mem_of_getElem? (i := 60) rfl))) (by decide) (backOf (W := 1) (rm8 l Z a0 hw [] ka h8 n0 Z8 ) hZ (hw _ (List.mem_of_getElem? (i := 60) rfl)) (hw _ (List.mem_of_getElem? (i := 59) rfl)) (by decide) (by decide)) (g := (mkF m 124 #[.val (.int pa), .val (.int pb), .val (.int pc_), .val (.int tt), .val (.int fl), .val (.int ka), .val (.int kb), .val (.int kc), .val (.ref b1), .val (.ref b5), .val (.ref b6), .val (.int (own_at (0 : Int32) (nar .boolean (own_cl (nar .byte (ka.toInt8.toInt32)))) (nar .boolean (own_cl (nar .byte (kb.toInt8.toInt32)))) (nar .boolean (own_cl (nar .byte (kc.toInt8.toInt32)))))), .val (.int (own_at (1 : Int32) (nar .boolean (own_cl (nar .byte (ka.toInt8.toInt32)))) (nar .boolean (own_cl (nar .byte (kb.toInt8.toInt32)))) (nar .boolean (own_cl (nar .byte (kc.toInt8.toInt32)))))), .val (.int (own_at (2 : Int32) (nar .boolean (own_cl (nar .byte (ka.toInt8.toInt32)))) (nar .boolean (own_cl (nar .byte (kb.toInt8.toInt32)))) (nar .boolean (own_cl (nar .byte (kc.toInt8.toInt32)))))), .val (.int (own_at (-1 : Int32) (nar .boolean (own_cl (nar .byte (ka.toInt8.toInt32)))) (nar .boolean (own_cl (nar .byte (kb.toInt8.toInt32)))) (nar .boolean (own_cl (nar .byte (kc.toInt8.toInt32)))))), .val (.int (own_at (3 : Int32) (nar .boolean (own_cl (nar .byte (ka.toInt8.toInt32)))) (nar .boolean (own_cl (nar .byte (kb.toInt8.toInt32)))) (nar .boolean (own_cl (nar .byte (kc.toInt8.toInt32)))))), .val (.int (own_at tt (nar .boolean (own_cl (nar .byte (ka.toInt8.toInt32)))) (nar .boolean (own_cl (nar .byte (kb.toInt8.toInt32)))) (nar .boolean (own_cl (nar .byte (kc.toInt8.toInt32))))))] [(.int ka), (.int (own_at (0 : Int32) (nar .boolean (own_cl (nar .byte (ka.toInt8.toInt32)))) (nar .boolean (own_cl (nar .byte (kb.toInt8.toInt32)))) (nar .boolean (own_cl (nar .byte (kc.toInt8.toInt32))))))])) rfl (by rw [hml]; rfl) (argsL := [(.int ka)]) (rest := [(.int (own_at (0 : Int32) (nar .boolean (own_cl (nar .byte (ka.toInt8.toInt32)))) (nar .boolean (own_cl (nar .byte (kb.toInt8.toInt32)))) (nar .boolean (own_cl (nar .byte (kc.toInt8.toInt32))))))]) (lenOf pd_2 rfl) rfl (by show 2 * 0 + _ ≤ _; exact Nat.le_of_eq rfl) (hb hby at_124) (fun _ _ => ⟨rfl, e14, (by decide : 4 + 0 ≤ _), (by decide : 17 + 0 ≤ _)⟩)
    dsimp only [Pt.U, Pt.locs, Pt.cells, Pt.slots] at X15 l15 y15 z15 st15 hQ15
    subst l15 y15 z15
    obtain ⟨rfl, Nq15, e15⟩ := hQ15
    have N15 := Fr.app N14 Nq15
    refine OwnEnds.via st15 ?_
    show OwnEnds _ _ _ _ (T15.setTop (mkF m 127 #[.val (.int pa), .val (.int pb), .val (.int pc_), .val (.int tt), .val (.int fl), .val (.int ka), .val (.int kb), .val (.int kc), .val (.ref b1), .val (.ref b5), .val (.ref b6), .val (.int (own_at (0 : Int32) (nar .boolean (own_cl (nar .byte (ka.toInt8.toInt32)))) (nar .boolean (own_cl (nar .byte (kb.toInt8.toInt32)))) (nar .boolean (own_cl (nar .byte (kc.toInt8.toInt32)))))), .val (.int (own_at (1 : Int32) (nar .boolean (own_cl (nar .byte (ka.toInt8.toInt32)))) (nar .boolean (own_cl (nar .byte (kb.toInt8.toInt32)))) (nar .boolean (own_cl (nar .byte (kc.toInt8.toInt32)))))), .val (.int (own_at (2 : Int32) (nar .boolean (own_cl (nar .byte (ka.toInt8.toInt32)))) (nar .boolean (own_cl (nar .byte (kb.toInt8.toInt32)))) (nar .boolean (own_cl (nar .byte (kc.toInt8.toInt32)))))), .val (.int (own_at (-1 : Int32) (nar .boolean (own_cl (nar .byte (ka.toInt8.toInt32)))) (nar .boolean (own_cl (nar .byte (kb.toInt8.toInt32)))) (nar .boolean (own_cl (nar .byte (kc.toInt8.toInt32)))))), .val (.int (own_at (3 : Int32) (nar .boolean (own_cl (nar .byte (ka.toInt8.toInt32)))) (nar .boolean (own_cl (nar .byte (kb.toInt8.toInt32)))) (nar .boolean (own_cl (nar .byte (kc.toInt8.toInt32)))))), .val (.int (own_at tt (nar .boolean (own_cl (nar .byte (ka.toInt8.toInt32)))) (nar .boolean (own_cl (nar .byte (kb.toInt8.toInt32)))) (nar .boolean (own_cl (nar .byte (kc.toInt8.toInt32))))))] [(.int (own_lc ka)), (.int (own_at (0 : Int32) (nar .boolean (own_cl (nar .byte (ka.toInt8.toInt32)))) (nar .boolean (own_cl (nar .byte (kb.toInt8.toInt32)))) (nar .boolean (own_cl (nar .byte (kc.toInt8.toInt32))))))]))
    refine OwnEnds.via (fun t k => XS.icmpNo X15.here hx rfl (hb hby at_127) rfl (teq (own_f0 h_ka h_kb h_kc)).2 k) ?_
    show OwnEnds _ _ _ _ (T15.setTop (mkF m 130 #[.val (.int pa), .val (.int pb), .val (.int pc_), .val (.int tt), .val (.int fl), .val (.int ka), .val (.int kb), .val (.int kc), .val (.ref b1), .val (.ref b5), .val (.ref b6), .val (.int (own_at (0 : Int32) (nar .boolean (own_cl (nar .byte (ka.toInt8.toInt32)))) (nar .boolean (own_cl (nar .byte (kb.toInt8.toInt32)))) (nar .boolean (own_cl (nar .byte (kc.toInt8.toInt32)))))), .val (.int (own_at (1 : Int32) (nar .boolean (own_cl (nar .byte (ka.toInt8.toInt32)))) (nar .boolean (own_cl (nar .byte (kb.toInt8.toInt32)))) (nar .boolean (own_cl (nar .byte (kc.toInt8.toInt32)))))), .val (.int (own_at (2 : Int32) (nar .boolean (own_cl (nar .byte (ka.toInt8.toInt32)))) (nar .boolean (own_cl (nar .byte (kb.toInt8.toInt32)))) (nar .boolean (own_cl (nar .byte (kc.toInt8.toInt32)))))), .val (.int (own_at (-1 : Int32) (nar .boolean (own_cl (nar .byte (ka.toInt8.toInt32)))) (nar .boolean (own_cl (nar .byte (kb.toInt8.toInt32)))) (nar .boolean (own_cl (nar .byte (kc.toInt8.toInt32)))))), .val (.int (own_at (3 : Int32) (nar .boolean (own_cl (nar .byte (ka.toInt8.toInt32)))) (nar .boolean (own_cl (nar .byte (kb.toInt8.toInt32)))) (nar .boolean (own_cl (nar .byte (kc.toInt8.toInt32)))))), .val (.int (own_at tt (nar .boolean (own_cl (nar .byte (ka.toInt8.toInt32)))) (nar .boolean (own_cl (nar .byte (kb.toInt8.toInt32)))) (nar .boolean (own_cl (nar .byte (kc.toInt8.toInt32))))))] []))
    refine OwnEnds.via (fun t k => XS.iload X15.here hx rfl (hb hby at_130) rfl k) ?_
    show OwnEnds _ _ _ _ (T15.setTop (mkF m 132 #[.val (.int pa), .val (.int pb), .val (.int pc_), .val (.int tt), .val (.int fl), .val (.int ka), .val (.int kb), .val (.int kc), .val (.ref b1), .val (.ref b5), .val (.ref b6), .val (.int (own_at (0 : Int32) (nar .boolean (own_cl (nar .byte (ka.toInt8.toInt32)))) (nar .boolean (own_cl (nar .byte (kb.toInt8.toInt32)))) (nar .boolean (own_cl (nar .byte (kc.toInt8.toInt32)))))), .val (.int (own_at (1 : Int32) (nar .boolean (own_cl (nar .byte (ka.toInt8.toInt32)))) (nar .boolean (own_cl (nar .byte (kb.toInt8.toInt32)))) (nar .boolean (own_cl (nar .byte (kc.toInt8.toInt32)))))), .val (.int (own_at (2 : Int32) (nar .boolean (own_cl (nar .byte (ka.toInt8.toInt32)))) (nar .boolean (own_cl (nar .byte (kb.toInt8.toInt32)))) (nar .boolean (own_cl (nar .byte (kc.toInt8.toInt32)))))), .val (.int (own_at (-1 : Int32) (nar .boolean (own_cl (nar .byte (ka.toInt8.toInt32)))) (nar .boolean (own_cl (nar .byte (kb.toInt8.toInt32)))) (nar .boolean (own_cl (nar .byte (kc.toInt8.toInt32)))))), .val (.int (own_at (3 : Int32) (nar .boolean (own_cl (nar .byte (ka.toInt8.toInt32)))) (nar .boolean (own_cl (nar .byte (kb.toInt8.toInt32)))) (nar .boolean (own_cl (nar .byte (kc.toInt8.toInt32)))))), .val (.int (own_at tt (nar .boolean (own_cl (nar .byte (ka.toInt8.toInt32)))) (nar .boolean (own_cl (nar .byte (kb.toInt8.toInt32)))) (nar .boolean (own_cl (nar .byte (kc.toInt8.toInt32))))))] [(.int (own_at (1 : Int32) (nar .boolean (own_cl (nar .byte (ka.toInt8.toInt32)))) (nar .boolean (own_cl (nar .byte (kb.toInt8.toInt32)))) (nar .boolean (own_cl (nar .byte (kc.toInt8.toInt32))))))]))
    refine OwnEnds.via (fun t k => XS.iload X15.here hx rfl (hb hby at_132) rfl k) ?_
    show OwnEnds _ _ _ _ (T15.setTop (mkF m 134 #[.val (.int pa), .val (.int pb), .val (.int pc_), .val (.int tt), .val (.int fl), .val (.int ka), .val (.int kb), .val (.int kc), .val (.ref b1), .val (.ref b5), .val (.ref b6), .val (.int (own_at (0 : Int32) (nar .boolean (own_cl (nar .byte (ka.toInt8.toInt32)))) (nar .boolean (own_cl (nar .byte (kb.toInt8.toInt32)))) (nar .boolean (own_cl (nar .byte (kc.toInt8.toInt32)))))), .val (.int (own_at (1 : Int32) (nar .boolean (own_cl (nar .byte (ka.toInt8.toInt32)))) (nar .boolean (own_cl (nar .byte (kb.toInt8.toInt32)))) (nar .boolean (own_cl (nar .byte (kc.toInt8.toInt32)))))), .val (.int (own_at (2 : Int32) (nar .boolean (own_cl (nar .byte (ka.toInt8.toInt32)))) (nar .boolean (own_cl (nar .byte (kb.toInt8.toInt32)))) (nar .boolean (own_cl (nar .byte (kc.toInt8.toInt32)))))), .val (.int (own_at (-1 : Int32) (nar .boolean (own_cl (nar .byte (ka.toInt8.toInt32)))) (nar .boolean (own_cl (nar .byte (kb.toInt8.toInt32)))) (nar .boolean (own_cl (nar .byte (kc.toInt8.toInt32)))))), .val (.int (own_at (3 : Int32) (nar .boolean (own_cl (nar .byte (ka.toInt8.toInt32)))) (nar .boolean (own_cl (nar .byte (kb.toInt8.toInt32)))) (nar .boolean (own_cl (nar .byte (kc.toInt8.toInt32)))))), .val (.int (own_at tt (nar .boolean (own_cl (nar .byte (ka.toInt8.toInt32)))) (nar .boolean (own_cl (nar .byte (kb.toInt8.toInt32)))) (nar .boolean (own_cl (nar .byte (kc.toInt8.toInt32))))))] [(.int kb), (.int (own_at (1 : Int32) (nar .boolean (own_cl (nar .byte (ka.toInt8.toInt32)))) (nar .boolean (own_cl (nar .byte (kb.toInt8.toInt32)))) (nar .boolean (own_cl (nar .byte (kc.toInt8.toInt32))))))]))
    obtain ⟨_, _, ⟨T16, L16, k16, n16⟩, -, X16, ⟨Lc16, hQ16, l16, y16, z16⟩, st16⟩ := Jvm.LawKit.callS X15 hx (y := (⟨"com/example/stratal/stratal/logic/LayerReportIsClashPinLaw", "clash", "(I)Z"⟩ : MethodName)) hown (mvT hZ (hw _ (List.mem_of_getElem? (i := 57) rfl))) (mvT hZ (hw _ (List.mem_of_getElem? (i := 58) rfl))) (mvT hZ (hw _ (List.mem_of_getElem? (i := 59) rfl))) (mvT hZ (hw _ (List.mem_of_getElem? (i := 60) rfl))) (by decide) (backOf (W := 1) (rm8 l Z a0 hw [] kb h8 n0 Z8 ) hZ (hw _ (List.mem_of_getElem? (i := 60) rfl)) (hw _ (List.mem_of_getElem? (i := 59) rfl)) (by decide) (by decide)) (g := (mkF m 134 #[.val (.int pa), .val (.int pb), .val (.int pc_), .val (.int tt), .val (.int fl), .val (.int ka), .val (.int kb), .val (.int kc), .val (.ref b1), .val (.ref b5), .val (.ref b6), .val (.int (own_at (0 : Int32) (nar .boolean (own_cl (nar .byte (ka.toInt8.toInt32)))) (nar .boolean (own_cl (nar .byte (kb.toInt8.toInt32)))) (nar .boolean (own_cl (nar .byte (kc.toInt8.toInt32)))))), .val (.int (own_at (1 : Int32) (nar .boolean (own_cl (nar .byte (ka.toInt8.toInt32)))) (nar .boolean (own_cl (nar .byte (kb.toInt8.toInt32)))) (nar .boolean (own_cl (nar .byte (kc.toInt8.toInt32)))))), .val (.int (own_at (2 : Int32) (nar .boolean (own_cl (nar .byte (ka.toInt8.toInt32)))) (nar .boolean (own_cl (nar .byte (kb.toInt8.toInt32)))) (nar .boolean (own_cl (nar .byte (kc.toInt8.toInt32)))))), .val (.int (own_at (-1 : Int32) (nar .boolean (own_cl (nar .byte (ka.toInt8.toInt32)))) (nar .boolean (own_cl (nar .byte (kb.toInt8.toInt32)))) (nar .boolean (own_cl (nar .byte (kc.toInt8.toInt32)))))), .val (.int (own_at (3 : Int32) (nar .boolean (own_cl (nar .byte (ka.toInt8.toInt32)))) (nar .boolean (own_cl (nar .byte (kb.toInt8.toInt32)))) (nar .boolean (own_cl (nar .byte (kc.toInt8.toInt32)))))), .val (.int (own_at tt (nar .boolean (own_cl (nar .byte (ka.toInt8.toInt32)))) (nar .boolean (own_cl (nar .byte (kb.toInt8.toInt32)))) (nar .boolean (own_cl (nar .byte (kc.toInt8.toInt32))))))] [(.int kb), (.int (own_at (1 : Int32) (nar .boolean (own_cl (nar .byte (ka.toInt8.toInt32)))) (nar .boolean (own_cl (nar .byte (kb.toInt8.toInt32)))) (nar .boolean (own_cl (nar .byte (kc.toInt8.toInt32))))))])) rfl (by rw [hml]; rfl) (argsL := [(.int kb)]) (rest := [(.int (own_at (1 : Int32) (nar .boolean (own_cl (nar .byte (ka.toInt8.toInt32)))) (nar .boolean (own_cl (nar .byte (kb.toInt8.toInt32)))) (nar .boolean (own_cl (nar .byte (kc.toInt8.toInt32))))))]) (lenOf pd_2 rfl) rfl (by show 2 * 0 + _ ≤ _; exact Nat.le_of_eq rfl) (hb hby at_134) (fun _ _ => ⟨rfl, e15, (by decide : 4 + 0 ≤ _), (by decide : 17 + 0 ≤ _)⟩)
    dsimp only [Pt.U, Pt.locs, Pt.cells, Pt.slots] at X16 l16 y16 z16 st16 hQ16
    subst l16 y16 z16
    obtain ⟨rfl, Nq16, e16⟩ := hQ16
    have N16 := Fr.app N15 Nq16
    refine OwnEnds.via st16 ?_
    show OwnEnds _ _ _ _ (T16.setTop (mkF m 137 #[.val (.int pa), .val (.int pb), .val (.int pc_), .val (.int tt), .val (.int fl), .val (.int ka), .val (.int kb), .val (.int kc), .val (.ref b1), .val (.ref b5), .val (.ref b6), .val (.int (own_at (0 : Int32) (nar .boolean (own_cl (nar .byte (ka.toInt8.toInt32)))) (nar .boolean (own_cl (nar .byte (kb.toInt8.toInt32)))) (nar .boolean (own_cl (nar .byte (kc.toInt8.toInt32)))))), .val (.int (own_at (1 : Int32) (nar .boolean (own_cl (nar .byte (ka.toInt8.toInt32)))) (nar .boolean (own_cl (nar .byte (kb.toInt8.toInt32)))) (nar .boolean (own_cl (nar .byte (kc.toInt8.toInt32)))))), .val (.int (own_at (2 : Int32) (nar .boolean (own_cl (nar .byte (ka.toInt8.toInt32)))) (nar .boolean (own_cl (nar .byte (kb.toInt8.toInt32)))) (nar .boolean (own_cl (nar .byte (kc.toInt8.toInt32)))))), .val (.int (own_at (-1 : Int32) (nar .boolean (own_cl (nar .byte (ka.toInt8.toInt32)))) (nar .boolean (own_cl (nar .byte (kb.toInt8.toInt32)))) (nar .boolean (own_cl (nar .byte (kc.toInt8.toInt32)))))), .val (.int (own_at (3 : Int32) (nar .boolean (own_cl (nar .byte (ka.toInt8.toInt32)))) (nar .boolean (own_cl (nar .byte (kb.toInt8.toInt32)))) (nar .boolean (own_cl (nar .byte (kc.toInt8.toInt32)))))), .val (.int (own_at tt (nar .boolean (own_cl (nar .byte (ka.toInt8.toInt32)))) (nar .boolean (own_cl (nar .byte (kb.toInt8.toInt32)))) (nar .boolean (own_cl (nar .byte (kc.toInt8.toInt32))))))] [(.int (own_lc kb)), (.int (own_at (1 : Int32) (nar .boolean (own_cl (nar .byte (ka.toInt8.toInt32)))) (nar .boolean (own_cl (nar .byte (kb.toInt8.toInt32)))) (nar .boolean (own_cl (nar .byte (kc.toInt8.toInt32))))))]))
    refine OwnEnds.via (fun t k => XS.icmpNo X16.here hx rfl (hb hby at_137) rfl (teq (own_f1 h_ka h_kb h_kc)).2 k) ?_
    show OwnEnds _ _ _ _ (T16.setTop (mkF m 140 #[.val (.int pa), .val (.int pb), .val (.int pc_), .val (.int tt), .val (.int fl), .val (.int ka), .val (.int kb), .val (.int kc), .val (.ref b1), .val (.ref b5), .val (.ref b6), .val (.int (own_at (0 : Int32) (nar .boolean (own_cl (nar .byte (ka.toInt8.toInt32)))) (nar .boolean (own_cl (nar .byte (kb.toInt8.toInt32)))) (nar .boolean (own_cl (nar .byte (kc.toInt8.toInt32)))))), .val (.int (own_at (1 : Int32) (nar .boolean (own_cl (nar .byte (ka.toInt8.toInt32)))) (nar .boolean (own_cl (nar .byte (kb.toInt8.toInt32)))) (nar .boolean (own_cl (nar .byte (kc.toInt8.toInt32)))))), .val (.int (own_at (2 : Int32) (nar .boolean (own_cl (nar .byte (ka.toInt8.toInt32)))) (nar .boolean (own_cl (nar .byte (kb.toInt8.toInt32)))) (nar .boolean (own_cl (nar .byte (kc.toInt8.toInt32)))))), .val (.int (own_at (-1 : Int32) (nar .boolean (own_cl (nar .byte (ka.toInt8.toInt32)))) (nar .boolean (own_cl (nar .byte (kb.toInt8.toInt32)))) (nar .boolean (own_cl (nar .byte (kc.toInt8.toInt32)))))), .val (.int (own_at (3 : Int32) (nar .boolean (own_cl (nar .byte (ka.toInt8.toInt32)))) (nar .boolean (own_cl (nar .byte (kb.toInt8.toInt32)))) (nar .boolean (own_cl (nar .byte (kc.toInt8.toInt32)))))), .val (.int (own_at tt (nar .boolean (own_cl (nar .byte (ka.toInt8.toInt32)))) (nar .boolean (own_cl (nar .byte (kb.toInt8.toInt32)))) (nar .boolean (own_cl (nar .byte (kc.toInt8.toInt32))))))] []))
    refine OwnEnds.via (fun t k => XS.iload X16.here hx rfl (hb hby at_140) rfl k) ?_
    show OwnEnds _ _ _ _ (T16.setTop (mkF m 142 #[.val (.int pa), .val (.int pb), .val (.int pc_), .val (.int tt), .val (.int fl), .val (.int ka), .val (.int kb), .val (.int kc), .val (.ref b1), .val (.ref b5), .val (.ref b6), .val (.int (own_at (0 : Int32) (nar .boolean (own_cl (nar .byte (ka.toInt8.toInt32)))) (nar .boolean (own_cl (nar .byte (kb.toInt8.toInt32)))) (nar .boolean (own_cl (nar .byte (kc.toInt8.toInt32)))))), .val (.int (own_at (1 : Int32) (nar .boolean (own_cl (nar .byte (ka.toInt8.toInt32)))) (nar .boolean (own_cl (nar .byte (kb.toInt8.toInt32)))) (nar .boolean (own_cl (nar .byte (kc.toInt8.toInt32)))))), .val (.int (own_at (2 : Int32) (nar .boolean (own_cl (nar .byte (ka.toInt8.toInt32)))) (nar .boolean (own_cl (nar .byte (kb.toInt8.toInt32)))) (nar .boolean (own_cl (nar .byte (kc.toInt8.toInt32)))))), .val (.int (own_at (-1 : Int32) (nar .boolean (own_cl (nar .byte (ka.toInt8.toInt32)))) (nar .boolean (own_cl (nar .byte (kb.toInt8.toInt32)))) (nar .boolean (own_cl (nar .byte (kc.toInt8.toInt32)))))), .val (.int (own_at (3 : Int32) (nar .boolean (own_cl (nar .byte (ka.toInt8.toInt32)))) (nar .boolean (own_cl (nar .byte (kb.toInt8.toInt32)))) (nar .boolean (own_cl (nar .byte (kc.toInt8.toInt32)))))), .val (.int (own_at tt (nar .boolean (own_cl (nar .byte (ka.toInt8.toInt32)))) (nar .boolean (own_cl (nar .byte (kb.toInt8.toInt32)))) (nar .boolean (own_cl (nar .byte (kc.toInt8.toInt32))))))] [(.int (own_at (2 : Int32) (nar .boolean (own_cl (nar .byte (ka.toInt8.toInt32)))) (nar .boolean (own_cl (nar .byte (kb.toInt8.toInt32)))) (nar .boolean (own_cl (nar .byte (kc.toInt8.toInt32))))))]))
    refine OwnEnds.via (fun t k => XS.iload X16.here hx rfl (hb hby at_142) rfl k) ?_
    show OwnEnds _ _ _ _ (T16.setTop (mkF m 144 #[.val (.int pa), .val (.int pb), .val (.int pc_), .val (.int tt), .val (.int fl), .val (.int ka), .val (.int kb), .val (.int kc), .val (.ref b1), .val (.ref b5), .val (.ref b6), .val (.int (own_at (0 : Int32) (nar .boolean (own_cl (nar .byte (ka.toInt8.toInt32)))) (nar .boolean (own_cl (nar .byte (kb.toInt8.toInt32)))) (nar .boolean (own_cl (nar .byte (kc.toInt8.toInt32)))))), .val (.int (own_at (1 : Int32) (nar .boolean (own_cl (nar .byte (ka.toInt8.toInt32)))) (nar .boolean (own_cl (nar .byte (kb.toInt8.toInt32)))) (nar .boolean (own_cl (nar .byte (kc.toInt8.toInt32)))))), .val (.int (own_at (2 : Int32) (nar .boolean (own_cl (nar .byte (ka.toInt8.toInt32)))) (nar .boolean (own_cl (nar .byte (kb.toInt8.toInt32)))) (nar .boolean (own_cl (nar .byte (kc.toInt8.toInt32)))))), .val (.int (own_at (-1 : Int32) (nar .boolean (own_cl (nar .byte (ka.toInt8.toInt32)))) (nar .boolean (own_cl (nar .byte (kb.toInt8.toInt32)))) (nar .boolean (own_cl (nar .byte (kc.toInt8.toInt32)))))), .val (.int (own_at (3 : Int32) (nar .boolean (own_cl (nar .byte (ka.toInt8.toInt32)))) (nar .boolean (own_cl (nar .byte (kb.toInt8.toInt32)))) (nar .boolean (own_cl (nar .byte (kc.toInt8.toInt32)))))), .val (.int (own_at tt (nar .boolean (own_cl (nar .byte (ka.toInt8.toInt32)))) (nar .boolean (own_cl (nar .byte (kb.toInt8.toInt32)))) (nar .boolean (own_cl (nar .byte (kc.toInt8.toInt32))))))] [(.int kc), (.int (own_at (2 : Int32) (nar .boolean (own_cl (nar .byte (ka.toInt8.toInt32)))) (nar .boolean (own_cl (nar .byte (kb.toInt8.toInt32)))) (nar .boolean (own_cl (nar .byte (kc.toInt8.toInt32))))))]))
    obtain ⟨_, _, ⟨T17, L17, k17, n17⟩, -, X17, ⟨Lc17, hQ17, l17, y17, z17⟩, st17⟩ := Jvm.LawKit.callS X16 hx (y := (⟨"com/example/stratal/stratal/logic/LayerReportIsClashPinLaw", "clash", "(I)Z"⟩ : MethodName)) hown (mvT hZ (hw _ (List.mem_of_getElem? (i := 57) rfl))) (mvT hZ (hw _ (List.mem_of_getElem? (i := 58) rfl))) (mvT hZ (hw _ (List.mem_of_getElem? (i := 59) rfl))) (mvT hZ (hw _ (List.mem_of_getElem? (i := 60) rfl))) (by decide) (backOf (W := 1) (rm8 l Z a0 hw [] kc h8 n0 Z8 ) hZ (hw _ (List.mem_of_getElem? (i := 60) rfl)) (hw _ (List.mem_of_getElem? (i := 59) rfl)) (by decide) (by decide)) (g := (mkF m 144 #[.val (.int pa), .val (.int pb), .val (.int pc_), .val (.int tt), .val (.int fl), .val (.int ka), .val (.int kb), .val (.int kc), .val (.ref b1), .val (.ref b5), .val (.ref b6), .val (.int (own_at (0 : Int32) (nar .boolean (own_cl (nar .byte (ka.toInt8.toInt32)))) (nar .boolean (own_cl (nar .byte (kb.toInt8.toInt32)))) (nar .boolean (own_cl (nar .byte (kc.toInt8.toInt32)))))), .val (.int (own_at (1 : Int32) (nar .boolean (own_cl (nar .byte (ka.toInt8.toInt32)))) (nar .boolean (own_cl (nar .byte (kb.toInt8.toInt32)))) (nar .boolean (own_cl (nar .byte (kc.toInt8.toInt32)))))), .val (.int (own_at (2 : Int32) (nar .boolean (own_cl (nar .byte (ka.toInt8.toInt32)))) (nar .boolean (own_cl (nar .byte (kb.toInt8.toInt32)))) (nar .boolean (own_cl (nar .byte (kc.toInt8.toInt32)))))), .val (.int (own_at (-1 : Int32) (nar .boolean (own_cl (nar .byte (ka.toInt8.toInt32)))) (nar .boolean (own_cl (nar .byte (kb.toInt8.toInt32)))) (nar .boolean (own_cl (nar .byte (kc.toInt8.toInt32)))))), .val (.int (own_at (3 : Int32) (nar .boolean (own_cl (nar .byte (ka.toInt8.toInt32)))) (nar .boolean (own_cl (nar .byte (kb.toInt8.toInt32)))) (nar .boolean (own_cl (nar .byte (kc.toInt8.toInt32)))))), .val (.int (own_at tt (nar .boolean (own_cl (nar .byte (ka.toInt8.toInt32)))) (nar .boolean (own_cl (nar .byte (kb.toInt8.toInt32)))) (nar .boolean (own_cl (nar .byte (kc.toInt8.toInt32))))))] [(.int kc), (.int (own_at (2 : Int32) (nar .boolean (own_cl (nar .byte (ka.toInt8.toInt32)))) (nar .boolean (own_cl (nar .byte (kb.toInt8.toInt32)))) (nar .boolean (own_cl (nar .byte (kc.toInt8.toInt32))))))])) rfl (by rw [hml]; rfl) (argsL := [(.int kc)]) (rest := [(.int (own_at (2 : Int32) (nar .boolean (own_cl (nar .byte (ka.toInt8.toInt32)))) (nar .boolean (own_cl (nar .byte (kb.toInt8.toInt32)))) (nar .boolean (own_cl (nar .byte (kc.toInt8.toInt32))))))]) (lenOf pd_2 rfl) rfl (by show 2 * 0 + _ ≤ _; exact Nat.le_of_eq rfl) (hb hby at_144) (fun _ _ => ⟨rfl, e16, (by decide : 4 + 0 ≤ _), (by decide : 17 + 0 ≤ _)⟩)
    dsimp only [Pt.U, Pt.locs, Pt.cells, Pt.slots] at X17 l17 y17 z17 st17 hQ17
    subst l17 y17 z17
    obtain ⟨rfl, Nq17, e17⟩ := hQ17
    have N17 := Fr.app N16 Nq17
    refine OwnEnds.via st17 ?_
    show OwnEnds _ _ _ _ (T17.setTop (mkF m 147 #[.val (.int pa), .val (.int pb), .val (.int pc_), .val (.int tt), .val (.int fl), .val (.int ka), .val (.int kb), .val (.int kc), .val (.ref b1), .val (.ref b5), .val (.ref b6), .val (.int (own_at (0 : Int32) (nar .boolean (own_cl (nar .byte (ka.toInt8.toInt32)))) (nar .boolean (own_cl (nar .byte (kb.toInt8.toInt32)))) (nar .boolean (own_cl (nar .byte (kc.toInt8.toInt32)))))), .val (.int (own_at (1 : Int32) (nar .boolean (own_cl (nar .byte (ka.toInt8.toInt32)))) (nar .boolean (own_cl (nar .byte (kb.toInt8.toInt32)))) (nar .boolean (own_cl (nar .byte (kc.toInt8.toInt32)))))), .val (.int (own_at (2 : Int32) (nar .boolean (own_cl (nar .byte (ka.toInt8.toInt32)))) (nar .boolean (own_cl (nar .byte (kb.toInt8.toInt32)))) (nar .boolean (own_cl (nar .byte (kc.toInt8.toInt32)))))), .val (.int (own_at (-1 : Int32) (nar .boolean (own_cl (nar .byte (ka.toInt8.toInt32)))) (nar .boolean (own_cl (nar .byte (kb.toInt8.toInt32)))) (nar .boolean (own_cl (nar .byte (kc.toInt8.toInt32)))))), .val (.int (own_at (3 : Int32) (nar .boolean (own_cl (nar .byte (ka.toInt8.toInt32)))) (nar .boolean (own_cl (nar .byte (kb.toInt8.toInt32)))) (nar .boolean (own_cl (nar .byte (kc.toInt8.toInt32)))))), .val (.int (own_at tt (nar .boolean (own_cl (nar .byte (ka.toInt8.toInt32)))) (nar .boolean (own_cl (nar .byte (kb.toInt8.toInt32)))) (nar .boolean (own_cl (nar .byte (kc.toInt8.toInt32))))))] [(.int (own_lc kc)), (.int (own_at (2 : Int32) (nar .boolean (own_cl (nar .byte (ka.toInt8.toInt32)))) (nar .boolean (own_cl (nar .byte (kb.toInt8.toInt32)))) (nar .boolean (own_cl (nar .byte (kc.toInt8.toInt32))))))]))
    refine OwnEnds.via (fun t k => XS.icmpNo X17.here hx rfl (hb hby at_147) rfl (teq (own_f2 h_ka h_kb h_kc)).2 k) ?_
    show OwnEnds _ _ _ _ (T17.setTop (mkF m 150 #[.val (.int pa), .val (.int pb), .val (.int pc_), .val (.int tt), .val (.int fl), .val (.int ka), .val (.int kb), .val (.int kc), .val (.ref b1), .val (.ref b5), .val (.ref b6), .val (.int (own_at (0 : Int32) (nar .boolean (own_cl (nar .byte (ka.toInt8.toInt32)))) (nar .boolean (own_cl (nar .byte (kb.toInt8.toInt32)))) (nar .boolean (own_cl (nar .byte (kc.toInt8.toInt32)))))), .val (.int (own_at (1 : Int32) (nar .boolean (own_cl (nar .byte (ka.toInt8.toInt32)))) (nar .boolean (own_cl (nar .byte (kb.toInt8.toInt32)))) (nar .boolean (own_cl (nar .byte (kc.toInt8.toInt32)))))), .val (.int (own_at (2 : Int32) (nar .boolean (own_cl (nar .byte (ka.toInt8.toInt32)))) (nar .boolean (own_cl (nar .byte (kb.toInt8.toInt32)))) (nar .boolean (own_cl (nar .byte (kc.toInt8.toInt32)))))), .val (.int (own_at (-1 : Int32) (nar .boolean (own_cl (nar .byte (ka.toInt8.toInt32)))) (nar .boolean (own_cl (nar .byte (kb.toInt8.toInt32)))) (nar .boolean (own_cl (nar .byte (kc.toInt8.toInt32)))))), .val (.int (own_at (3 : Int32) (nar .boolean (own_cl (nar .byte (ka.toInt8.toInt32)))) (nar .boolean (own_cl (nar .byte (kb.toInt8.toInt32)))) (nar .boolean (own_cl (nar .byte (kc.toInt8.toInt32)))))), .val (.int (own_at tt (nar .boolean (own_cl (nar .byte (ka.toInt8.toInt32)))) (nar .boolean (own_cl (nar .byte (kb.toInt8.toInt32)))) (nar .boolean (own_cl (nar .byte (kc.toInt8.toInt32))))))] []))
    refine OwnEnds.via (fun t k => XS.iload X17.here hx rfl (hb hby at_150) rfl k) ?_
    show OwnEnds _ _ _ _ (T17.setTop (mkF m 152 #[.val (.int pa), .val (.int pb), .val (.int pc_), .val (.int tt), .val (.int fl), .val (.int ka), .val (.int kb), .val (.int kc), .val (.ref b1), .val (.ref b5), .val (.ref b6), .val (.int (own_at (0 : Int32) (nar .boolean (own_cl (nar .byte (ka.toInt8.toInt32)))) (nar .boolean (own_cl (nar .byte (kb.toInt8.toInt32)))) (nar .boolean (own_cl (nar .byte (kc.toInt8.toInt32)))))), .val (.int (own_at (1 : Int32) (nar .boolean (own_cl (nar .byte (ka.toInt8.toInt32)))) (nar .boolean (own_cl (nar .byte (kb.toInt8.toInt32)))) (nar .boolean (own_cl (nar .byte (kc.toInt8.toInt32)))))), .val (.int (own_at (2 : Int32) (nar .boolean (own_cl (nar .byte (ka.toInt8.toInt32)))) (nar .boolean (own_cl (nar .byte (kb.toInt8.toInt32)))) (nar .boolean (own_cl (nar .byte (kc.toInt8.toInt32)))))), .val (.int (own_at (-1 : Int32) (nar .boolean (own_cl (nar .byte (ka.toInt8.toInt32)))) (nar .boolean (own_cl (nar .byte (kb.toInt8.toInt32)))) (nar .boolean (own_cl (nar .byte (kc.toInt8.toInt32)))))), .val (.int (own_at (3 : Int32) (nar .boolean (own_cl (nar .byte (ka.toInt8.toInt32)))) (nar .boolean (own_cl (nar .byte (kb.toInt8.toInt32)))) (nar .boolean (own_cl (nar .byte (kc.toInt8.toInt32)))))), .val (.int (own_at tt (nar .boolean (own_cl (nar .byte (ka.toInt8.toInt32)))) (nar .boolean (own_cl (nar .byte (kb.toInt8.toInt32)))) (nar .boolean (own_cl (nar .byte (kc.toInt8.toInt32))))))] [(.int (own_at (-1 : Int32) (nar .boolean (own_cl (nar .byte (ka.toInt8.toInt32)))) (nar .boolean (own_cl (nar .byte (kb.toInt8.toInt32)))) (nar .boolean (own_cl (nar .byte (kc.toInt8.toInt32))))))]))
    refine OwnEnds.via (fun t k => XS.ifNo X17.here hx rfl (hb hby at_152) rfl ((if0 _ _).trans (teq (own_lo (by decide))).2) k) ?_
    show OwnEnds _ _ _ _ (T17.setTop (mkF m 155 #[.val (.int pa), .val (.int pb), .val (.int pc_), .val (.int tt), .val (.int fl), .val (.int ka), .val (.int kb), .val (.int kc), .val (.ref b1), .val (.ref b5), .val (.ref b6), .val (.int (own_at (0 : Int32) (nar .boolean (own_cl (nar .byte (ka.toInt8.toInt32)))) (nar .boolean (own_cl (nar .byte (kb.toInt8.toInt32)))) (nar .boolean (own_cl (nar .byte (kc.toInt8.toInt32)))))), .val (.int (own_at (1 : Int32) (nar .boolean (own_cl (nar .byte (ka.toInt8.toInt32)))) (nar .boolean (own_cl (nar .byte (kb.toInt8.toInt32)))) (nar .boolean (own_cl (nar .byte (kc.toInt8.toInt32)))))), .val (.int (own_at (2 : Int32) (nar .boolean (own_cl (nar .byte (ka.toInt8.toInt32)))) (nar .boolean (own_cl (nar .byte (kb.toInt8.toInt32)))) (nar .boolean (own_cl (nar .byte (kc.toInt8.toInt32)))))), .val (.int (own_at (-1 : Int32) (nar .boolean (own_cl (nar .byte (ka.toInt8.toInt32)))) (nar .boolean (own_cl (nar .byte (kb.toInt8.toInt32)))) (nar .boolean (own_cl (nar .byte (kc.toInt8.toInt32)))))), .val (.int (own_at (3 : Int32) (nar .boolean (own_cl (nar .byte (ka.toInt8.toInt32)))) (nar .boolean (own_cl (nar .byte (kb.toInt8.toInt32)))) (nar .boolean (own_cl (nar .byte (kc.toInt8.toInt32)))))), .val (.int (own_at tt (nar .boolean (own_cl (nar .byte (ka.toInt8.toInt32)))) (nar .boolean (own_cl (nar .byte (kb.toInt8.toInt32)))) (nar .boolean (own_cl (nar .byte (kc.toInt8.toInt32))))))] []))
    refine OwnEnds.via (fun t k => XS.iload X17.here hx rfl (hb hby at_155) rfl k) ?_
    show OwnEnds _ _ _ _ (T17.setTop (mkF m 157 #[.val (.int pa), .val (.int pb), .val (.int pc_), .val (.int tt), .val (.int fl), .val (.int ka), .val (.int kb), .val (.int kc), .val (.ref b1), .val (.ref b5), .val (.ref b6), .val (.int (own_at (0 : Int32) (nar .boolean (own_cl (nar .byte (ka.toInt8.toInt32)))) (nar .boolean (own_cl (nar .byte (kb.toInt8.toInt32)))) (nar .boolean (own_cl (nar .byte (kc.toInt8.toInt32)))))), .val (.int (own_at (1 : Int32) (nar .boolean (own_cl (nar .byte (ka.toInt8.toInt32)))) (nar .boolean (own_cl (nar .byte (kb.toInt8.toInt32)))) (nar .boolean (own_cl (nar .byte (kc.toInt8.toInt32)))))), .val (.int (own_at (2 : Int32) (nar .boolean (own_cl (nar .byte (ka.toInt8.toInt32)))) (nar .boolean (own_cl (nar .byte (kb.toInt8.toInt32)))) (nar .boolean (own_cl (nar .byte (kc.toInt8.toInt32)))))), .val (.int (own_at (-1 : Int32) (nar .boolean (own_cl (nar .byte (ka.toInt8.toInt32)))) (nar .boolean (own_cl (nar .byte (kb.toInt8.toInt32)))) (nar .boolean (own_cl (nar .byte (kc.toInt8.toInt32)))))), .val (.int (own_at (3 : Int32) (nar .boolean (own_cl (nar .byte (ka.toInt8.toInt32)))) (nar .boolean (own_cl (nar .byte (kb.toInt8.toInt32)))) (nar .boolean (own_cl (nar .byte (kc.toInt8.toInt32)))))), .val (.int (own_at tt (nar .boolean (own_cl (nar .byte (ka.toInt8.toInt32)))) (nar .boolean (own_cl (nar .byte (kb.toInt8.toInt32)))) (nar .boolean (own_cl (nar .byte (kc.toInt8.toInt32))))))] [(.int (own_at (3 : Int32) (nar .boolean (own_cl (nar .byte (ka.toInt8.toInt32)))) (nar .boolean (own_cl (nar .byte (kb.toInt8.toInt32)))) (nar .boolean (own_cl (nar .byte (kc.toInt8.toInt32))))))]))
    refine OwnEnds.via (fun t k => XS.ifNo X17.here hx rfl (hb hby at_157) rfl ((if0 _ _).trans (teq (own_hi (by decide))).2) k) ?_
    show OwnEnds _ _ _ _ (T17.setTop (mkF m 160 #[.val (.int pa), .val (.int pb), .val (.int pc_), .val (.int tt), .val (.int fl), .val (.int ka), .val (.int kb), .val (.int kc), .val (.ref b1), .val (.ref b5), .val (.ref b6), .val (.int (own_at (0 : Int32) (nar .boolean (own_cl (nar .byte (ka.toInt8.toInt32)))) (nar .boolean (own_cl (nar .byte (kb.toInt8.toInt32)))) (nar .boolean (own_cl (nar .byte (kc.toInt8.toInt32)))))), .val (.int (own_at (1 : Int32) (nar .boolean (own_cl (nar .byte (ka.toInt8.toInt32)))) (nar .boolean (own_cl (nar .byte (kb.toInt8.toInt32)))) (nar .boolean (own_cl (nar .byte (kc.toInt8.toInt32)))))), .val (.int (own_at (2 : Int32) (nar .boolean (own_cl (nar .byte (ka.toInt8.toInt32)))) (nar .boolean (own_cl (nar .byte (kb.toInt8.toInt32)))) (nar .boolean (own_cl (nar .byte (kc.toInt8.toInt32)))))), .val (.int (own_at (-1 : Int32) (nar .boolean (own_cl (nar .byte (ka.toInt8.toInt32)))) (nar .boolean (own_cl (nar .byte (kb.toInt8.toInt32)))) (nar .boolean (own_cl (nar .byte (kc.toInt8.toInt32)))))), .val (.int (own_at (3 : Int32) (nar .boolean (own_cl (nar .byte (ka.toInt8.toInt32)))) (nar .boolean (own_cl (nar .byte (kb.toInt8.toInt32)))) (nar .boolean (own_cl (nar .byte (kc.toInt8.toInt32)))))), .val (.int (own_at tt (nar .boolean (own_cl (nar .byte (ka.toInt8.toInt32)))) (nar .boolean (own_cl (nar .byte (kb.toInt8.toInt32)))) (nar .boolean (own_cl (nar .byte (kc.toInt8.toInt32))))))] []))
    refine OwnEnds.via (fun t k => XS.iload X17.here hx rfl (hb hby at_160) rfl k) ?_
    show OwnEnds _ _ _ _ (T17.setTop (mkF m 162 #[.val (.int pa), .val (.int pb), .val (.int pc_), .val (.int tt), .val (.int fl), .val (.int ka), .val (.int kb), .val (.int kc), .val (.ref b1), .val (.ref b5), .val (.ref b6), .val (.int (own_at (0 : Int32) (nar .boolean (own_cl (nar .byte (ka.toInt8.toInt32)))) (nar .boolean (own_cl (nar .byte (kb.toInt8.toInt32)))) (nar .boolean (own_cl (nar .byte (kc.toInt8.toInt32)))))), .val (.int (own_at (1 : Int32) (nar .boolean (own_cl (nar .byte (ka.toInt8.toInt32)))) (nar .boolean (own_cl (nar .byte (kb.toInt8.toInt32)))) (nar .boolean (own_cl (nar .byte (kc.toInt8.toInt32)))))), .val (.int (own_at (2 : Int32) (nar .boolean (own_cl (nar .byte (ka.toInt8.toInt32)))) (nar .boolean (own_cl (nar .byte (kb.toInt8.toInt32)))) (nar .boolean (own_cl (nar .byte (kc.toInt8.toInt32)))))), .val (.int (own_at (-1 : Int32) (nar .boolean (own_cl (nar .byte (ka.toInt8.toInt32)))) (nar .boolean (own_cl (nar .byte (kb.toInt8.toInt32)))) (nar .boolean (own_cl (nar .byte (kc.toInt8.toInt32)))))), .val (.int (own_at (3 : Int32) (nar .boolean (own_cl (nar .byte (ka.toInt8.toInt32)))) (nar .boolean (own_cl (nar .byte (kb.toInt8.toInt32)))) (nar .boolean (own_cl (nar .byte (kc.toInt8.toInt32)))))), .val (.int (own_at tt (nar .boolean (own_cl (nar .byte (ka.toInt8.toInt32)))) (nar .boolean (own_cl (nar .byte (kb.toInt8.toInt32)))) (nar .boolean (own_cl (nar .byte (kc.toInt8.toInt32))))))] [(.int (own_at tt (nar .boolean (own_cl (nar .byte (ka.toInt8.toInt32)))) (nar .boolean (own_cl (nar .byte (kb.toInt8.toInt32)))) (nar .boolean (own_cl (nar .byte (kc.toInt8.toInt32))))))]))
    refine OwnEnds.via (fun t k => XS.iloadN X17.here hx rfl (hb hby at_162) rfl k) ?_
    show OwnEnds _ _ _ _ (T17.setTop (mkF m 163 #[.val (.int pa), .val (.int pb), .val (.int pc_), .val (.int tt), .val (.int fl), .val (.int ka), .val (.int kb), .val (.int kc), .val (.ref b1), .val (.ref b5), .val (.ref b6), .val (.int (own_at (0 : Int32) (nar .boolean (own_cl (nar .byte (ka.toInt8.toInt32)))) (nar .boolean (own_cl (nar .byte (kb.toInt8.toInt32)))) (nar .boolean (own_cl (nar .byte (kc.toInt8.toInt32)))))), .val (.int (own_at (1 : Int32) (nar .boolean (own_cl (nar .byte (ka.toInt8.toInt32)))) (nar .boolean (own_cl (nar .byte (kb.toInt8.toInt32)))) (nar .boolean (own_cl (nar .byte (kc.toInt8.toInt32)))))), .val (.int (own_at (2 : Int32) (nar .boolean (own_cl (nar .byte (ka.toInt8.toInt32)))) (nar .boolean (own_cl (nar .byte (kb.toInt8.toInt32)))) (nar .boolean (own_cl (nar .byte (kc.toInt8.toInt32)))))), .val (.int (own_at (-1 : Int32) (nar .boolean (own_cl (nar .byte (ka.toInt8.toInt32)))) (nar .boolean (own_cl (nar .byte (kb.toInt8.toInt32)))) (nar .boolean (own_cl (nar .byte (kc.toInt8.toInt32)))))), .val (.int (own_at (3 : Int32) (nar .boolean (own_cl (nar .byte (ka.toInt8.toInt32)))) (nar .boolean (own_cl (nar .byte (kb.toInt8.toInt32)))) (nar .boolean (own_cl (nar .byte (kc.toInt8.toInt32)))))), .val (.int (own_at tt (nar .boolean (own_cl (nar .byte (ka.toInt8.toInt32)))) (nar .boolean (own_cl (nar .byte (kb.toInt8.toInt32)))) (nar .boolean (own_cl (nar .byte (kc.toInt8.toInt32))))))] [(.int tt), (.int (own_at tt (nar .boolean (own_cl (nar .byte (ka.toInt8.toInt32)))) (nar .boolean (own_cl (nar .byte (kb.toInt8.toInt32)))) (nar .boolean (own_cl (nar .byte (kc.toInt8.toInt32))))))]))
    refine OwnEnds.via (fun t k => XS.iload X17.here hx rfl (hb hby at_163) rfl k) ?_
    show OwnEnds _ _ _ _ (T17.setTop (mkF m 165 #[.val (.int pa), .val (.int pb), .val (.int pc_), .val (.int tt), .val (.int fl), .val (.int ka), .val (.int kb), .val (.int kc), .val (.ref b1), .val (.ref b5), .val (.ref b6), .val (.int (own_at (0 : Int32) (nar .boolean (own_cl (nar .byte (ka.toInt8.toInt32)))) (nar .boolean (own_cl (nar .byte (kb.toInt8.toInt32)))) (nar .boolean (own_cl (nar .byte (kc.toInt8.toInt32)))))), .val (.int (own_at (1 : Int32) (nar .boolean (own_cl (nar .byte (ka.toInt8.toInt32)))) (nar .boolean (own_cl (nar .byte (kb.toInt8.toInt32)))) (nar .boolean (own_cl (nar .byte (kc.toInt8.toInt32)))))), .val (.int (own_at (2 : Int32) (nar .boolean (own_cl (nar .byte (ka.toInt8.toInt32)))) (nar .boolean (own_cl (nar .byte (kb.toInt8.toInt32)))) (nar .boolean (own_cl (nar .byte (kc.toInt8.toInt32)))))), .val (.int (own_at (-1 : Int32) (nar .boolean (own_cl (nar .byte (ka.toInt8.toInt32)))) (nar .boolean (own_cl (nar .byte (kb.toInt8.toInt32)))) (nar .boolean (own_cl (nar .byte (kc.toInt8.toInt32)))))), .val (.int (own_at (3 : Int32) (nar .boolean (own_cl (nar .byte (ka.toInt8.toInt32)))) (nar .boolean (own_cl (nar .byte (kb.toInt8.toInt32)))) (nar .boolean (own_cl (nar .byte (kc.toInt8.toInt32)))))), .val (.int (own_at tt (nar .boolean (own_cl (nar .byte (ka.toInt8.toInt32)))) (nar .boolean (own_cl (nar .byte (kb.toInt8.toInt32)))) (nar .boolean (own_cl (nar .byte (kc.toInt8.toInt32))))))] [(.int ka), (.int tt), (.int (own_at tt (nar .boolean (own_cl (nar .byte (ka.toInt8.toInt32)))) (nar .boolean (own_cl (nar .byte (kb.toInt8.toInt32)))) (nar .boolean (own_cl (nar .byte (kc.toInt8.toInt32))))))]))
    refine OwnEnds.via (fun t k => XS.iload X17.here hx rfl (hb hby at_165) rfl k) ?_
    show OwnEnds _ _ _ _ (T17.setTop (mkF m 167 #[.val (.int pa), .val (.int pb), .val (.int pc_), .val (.int tt), .val (.int fl), .val (.int ka), .val (.int kb), .val (.int kc), .val (.ref b1), .val (.ref b5), .val (.ref b6), .val (.int (own_at (0 : Int32) (nar .boolean (own_cl (nar .byte (ka.toInt8.toInt32)))) (nar .boolean (own_cl (nar .byte (kb.toInt8.toInt32)))) (nar .boolean (own_cl (nar .byte (kc.toInt8.toInt32)))))), .val (.int (own_at (1 : Int32) (nar .boolean (own_cl (nar .byte (ka.toInt8.toInt32)))) (nar .boolean (own_cl (nar .byte (kb.toInt8.toInt32)))) (nar .boolean (own_cl (nar .byte (kc.toInt8.toInt32)))))), .val (.int (own_at (2 : Int32) (nar .boolean (own_cl (nar .byte (ka.toInt8.toInt32)))) (nar .boolean (own_cl (nar .byte (kb.toInt8.toInt32)))) (nar .boolean (own_cl (nar .byte (kc.toInt8.toInt32)))))), .val (.int (own_at (-1 : Int32) (nar .boolean (own_cl (nar .byte (ka.toInt8.toInt32)))) (nar .boolean (own_cl (nar .byte (kb.toInt8.toInt32)))) (nar .boolean (own_cl (nar .byte (kc.toInt8.toInt32)))))), .val (.int (own_at (3 : Int32) (nar .boolean (own_cl (nar .byte (ka.toInt8.toInt32)))) (nar .boolean (own_cl (nar .byte (kb.toInt8.toInt32)))) (nar .boolean (own_cl (nar .byte (kc.toInt8.toInt32)))))), .val (.int (own_at tt (nar .boolean (own_cl (nar .byte (ka.toInt8.toInt32)))) (nar .boolean (own_cl (nar .byte (kb.toInt8.toInt32)))) (nar .boolean (own_cl (nar .byte (kc.toInt8.toInt32))))))] [(.int kb), (.int ka), (.int tt), (.int (own_at tt (nar .boolean (own_cl (nar .byte (ka.toInt8.toInt32)))) (nar .boolean (own_cl (nar .byte (kb.toInt8.toInt32)))) (nar .boolean (own_cl (nar .byte (kc.toInt8.toInt32))))))]))
    refine OwnEnds.via (fun t k => XS.iload X17.here hx rfl (hb hby at_167) rfl k) ?_
    show OwnEnds _ _ _ _ (T17.setTop (mkF m 169 #[.val (.int pa), .val (.int pb), .val (.int pc_), .val (.int tt), .val (.int fl), .val (.int ka), .val (.int kb), .val (.int kc), .val (.ref b1), .val (.ref b5), .val (.ref b6), .val (.int (own_at (0 : Int32) (nar .boolean (own_cl (nar .byte (ka.toInt8.toInt32)))) (nar .boolean (own_cl (nar .byte (kb.toInt8.toInt32)))) (nar .boolean (own_cl (nar .byte (kc.toInt8.toInt32)))))), .val (.int (own_at (1 : Int32) (nar .boolean (own_cl (nar .byte (ka.toInt8.toInt32)))) (nar .boolean (own_cl (nar .byte (kb.toInt8.toInt32)))) (nar .boolean (own_cl (nar .byte (kc.toInt8.toInt32)))))), .val (.int (own_at (2 : Int32) (nar .boolean (own_cl (nar .byte (ka.toInt8.toInt32)))) (nar .boolean (own_cl (nar .byte (kb.toInt8.toInt32)))) (nar .boolean (own_cl (nar .byte (kc.toInt8.toInt32)))))), .val (.int (own_at (-1 : Int32) (nar .boolean (own_cl (nar .byte (ka.toInt8.toInt32)))) (nar .boolean (own_cl (nar .byte (kb.toInt8.toInt32)))) (nar .boolean (own_cl (nar .byte (kc.toInt8.toInt32)))))), .val (.int (own_at (3 : Int32) (nar .boolean (own_cl (nar .byte (ka.toInt8.toInt32)))) (nar .boolean (own_cl (nar .byte (kb.toInt8.toInt32)))) (nar .boolean (own_cl (nar .byte (kc.toInt8.toInt32)))))), .val (.int (own_at tt (nar .boolean (own_cl (nar .byte (ka.toInt8.toInt32)))) (nar .boolean (own_cl (nar .byte (kb.toInt8.toInt32)))) (nar .boolean (own_cl (nar .byte (kc.toInt8.toInt32))))))] [(.int kc), (.int kb), (.int ka), (.int tt), (.int (own_at tt (nar .boolean (own_cl (nar .byte (ka.toInt8.toInt32)))) (nar .boolean (own_cl (nar .byte (kb.toInt8.toInt32)))) (nar .boolean (own_cl (nar .byte (kc.toInt8.toInt32))))))]))
    obtain ⟨_, _, ⟨T18, L18, k18, n18⟩, -, X18, ⟨Lc18, hQ18, l18, y18, z18⟩, st18⟩ := Jvm.LawKit.callS X17 hx (y := (⟨"com/example/stratal/stratal/logic/LayerReportIsClashPinLaw", "expected", "(IIII)Z"⟩ : MethodName)) hown (mvT hZ (hw _ (List.mem_of_getElem? (i := 61) rfl))) (mvT hZ (hw _ (List.mem_of_getElem? (i := 62) rfl))) (mvT hZ (hw _ (List.mem_of_getElem? (i := 59) rfl))) (mvT hZ (hw _ (List.mem_of_getElem? (i := 63) rfl))) (by decide) (backOf (W := 1) (rm9 l Z a0 hw [] tt ka kb kc h8 n0 Z8 ) hZ (hw _ (List.mem_of_getElem? (i := 63) rfl)) (hw _ (List.mem_of_getElem? (i := 59) rfl)) (by decide) (by decide)) (g := (mkF m 169 #[.val (.int pa), .val (.int pb), .val (.int pc_), .val (.int tt), .val (.int fl), .val (.int ka), .val (.int kb), .val (.int kc), .val (.ref b1), .val (.ref b5), .val (.ref b6), .val (.int (own_at (0 : Int32) (nar .boolean (own_cl (nar .byte (ka.toInt8.toInt32)))) (nar .boolean (own_cl (nar .byte (kb.toInt8.toInt32)))) (nar .boolean (own_cl (nar .byte (kc.toInt8.toInt32)))))), .val (.int (own_at (1 : Int32) (nar .boolean (own_cl (nar .byte (ka.toInt8.toInt32)))) (nar .boolean (own_cl (nar .byte (kb.toInt8.toInt32)))) (nar .boolean (own_cl (nar .byte (kc.toInt8.toInt32)))))), .val (.int (own_at (2 : Int32) (nar .boolean (own_cl (nar .byte (ka.toInt8.toInt32)))) (nar .boolean (own_cl (nar .byte (kb.toInt8.toInt32)))) (nar .boolean (own_cl (nar .byte (kc.toInt8.toInt32)))))), .val (.int (own_at (-1 : Int32) (nar .boolean (own_cl (nar .byte (ka.toInt8.toInt32)))) (nar .boolean (own_cl (nar .byte (kb.toInt8.toInt32)))) (nar .boolean (own_cl (nar .byte (kc.toInt8.toInt32)))))), .val (.int (own_at (3 : Int32) (nar .boolean (own_cl (nar .byte (ka.toInt8.toInt32)))) (nar .boolean (own_cl (nar .byte (kb.toInt8.toInt32)))) (nar .boolean (own_cl (nar .byte (kc.toInt8.toInt32)))))), .val (.int (own_at tt (nar .boolean (own_cl (nar .byte (ka.toInt8.toInt32)))) (nar .boolean (own_cl (nar .byte (kb.toInt8.toInt32)))) (nar .boolean (own_cl (nar .byte (kc.toInt8.toInt32))))))] [(.int kc), (.int kb), (.int ka), (.int tt), (.int (own_at tt (nar .boolean (own_cl (nar .byte (ka.toInt8.toInt32)))) (nar .boolean (own_cl (nar .byte (kb.toInt8.toInt32)))) (nar .boolean (own_cl (nar .byte (kc.toInt8.toInt32))))))])) rfl (by rw [hml]; rfl) (argsL := [(.int tt), (.int ka), (.int kb), (.int kc)]) (rest := [(.int (own_at tt (nar .boolean (own_cl (nar .byte (ka.toInt8.toInt32)))) (nar .boolean (own_cl (nar .byte (kb.toInt8.toInt32)))) (nar .boolean (own_cl (nar .byte (kc.toInt8.toInt32))))))]) (lenOf pd_5 rfl) rfl (by show 2 * 0 + _ ≤ _; exact Nat.le_of_eq rfl) (hb hby at_169) (fun _ _ => ⟨rfl, e17, (by decide : 4 + 0 ≤ _), (by decide : 17 + 0 ≤ _)⟩)
    dsimp only [Pt.U, Pt.locs, Pt.cells, Pt.slots] at X18 l18 y18 z18 st18 hQ18
    subst l18 y18 z18
    obtain ⟨rfl, Nq18, e18⟩ := hQ18
    have N18 := Fr.app N17 Nq18
    refine OwnEnds.via st18 ?_
    show OwnEnds _ _ _ _ (T18.setTop (mkF m 172 #[.val (.int pa), .val (.int pb), .val (.int pc_), .val (.int tt), .val (.int fl), .val (.int ka), .val (.int kb), .val (.int kc), .val (.ref b1), .val (.ref b5), .val (.ref b6), .val (.int (own_at (0 : Int32) (nar .boolean (own_cl (nar .byte (ka.toInt8.toInt32)))) (nar .boolean (own_cl (nar .byte (kb.toInt8.toInt32)))) (nar .boolean (own_cl (nar .byte (kc.toInt8.toInt32)))))), .val (.int (own_at (1 : Int32) (nar .boolean (own_cl (nar .byte (ka.toInt8.toInt32)))) (nar .boolean (own_cl (nar .byte (kb.toInt8.toInt32)))) (nar .boolean (own_cl (nar .byte (kc.toInt8.toInt32)))))), .val (.int (own_at (2 : Int32) (nar .boolean (own_cl (nar .byte (ka.toInt8.toInt32)))) (nar .boolean (own_cl (nar .byte (kb.toInt8.toInt32)))) (nar .boolean (own_cl (nar .byte (kc.toInt8.toInt32)))))), .val (.int (own_at (-1 : Int32) (nar .boolean (own_cl (nar .byte (ka.toInt8.toInt32)))) (nar .boolean (own_cl (nar .byte (kb.toInt8.toInt32)))) (nar .boolean (own_cl (nar .byte (kc.toInt8.toInt32)))))), .val (.int (own_at (3 : Int32) (nar .boolean (own_cl (nar .byte (ka.toInt8.toInt32)))) (nar .boolean (own_cl (nar .byte (kb.toInt8.toInt32)))) (nar .boolean (own_cl (nar .byte (kc.toInt8.toInt32)))))), .val (.int (own_at tt (nar .boolean (own_cl (nar .byte (ka.toInt8.toInt32)))) (nar .boolean (own_cl (nar .byte (kb.toInt8.toInt32)))) (nar .boolean (own_cl (nar .byte (kc.toInt8.toInt32))))))] [(.int (own_ex tt ka kb kc)), (.int (own_at tt (nar .boolean (own_cl (nar .byte (ka.toInt8.toInt32)))) (nar .boolean (own_cl (nar .byte (kb.toInt8.toInt32)))) (nar .boolean (own_cl (nar .byte (kc.toInt8.toInt32))))))]))
    refine OwnEnds.via (fun t k => XS.icmpNo X18.here hx rfl (hb hby at_172) rfl (teq (own_fin h_ka h_kb h_kc)).2 k) ?_
    show OwnEnds _ _ _ _ (T18.setTop (mkF m 175 #[.val (.int pa), .val (.int pb), .val (.int pc_), .val (.int tt), .val (.int fl), .val (.int ka), .val (.int kb), .val (.int kc), .val (.ref b1), .val (.ref b5), .val (.ref b6), .val (.int (own_at (0 : Int32) (nar .boolean (own_cl (nar .byte (ka.toInt8.toInt32)))) (nar .boolean (own_cl (nar .byte (kb.toInt8.toInt32)))) (nar .boolean (own_cl (nar .byte (kc.toInt8.toInt32)))))), .val (.int (own_at (1 : Int32) (nar .boolean (own_cl (nar .byte (ka.toInt8.toInt32)))) (nar .boolean (own_cl (nar .byte (kb.toInt8.toInt32)))) (nar .boolean (own_cl (nar .byte (kc.toInt8.toInt32)))))), .val (.int (own_at (2 : Int32) (nar .boolean (own_cl (nar .byte (ka.toInt8.toInt32)))) (nar .boolean (own_cl (nar .byte (kb.toInt8.toInt32)))) (nar .boolean (own_cl (nar .byte (kc.toInt8.toInt32)))))), .val (.int (own_at (-1 : Int32) (nar .boolean (own_cl (nar .byte (ka.toInt8.toInt32)))) (nar .boolean (own_cl (nar .byte (kb.toInt8.toInt32)))) (nar .boolean (own_cl (nar .byte (kc.toInt8.toInt32)))))), .val (.int (own_at (3 : Int32) (nar .boolean (own_cl (nar .byte (ka.toInt8.toInt32)))) (nar .boolean (own_cl (nar .byte (kb.toInt8.toInt32)))) (nar .boolean (own_cl (nar .byte (kc.toInt8.toInt32)))))), .val (.int (own_at tt (nar .boolean (own_cl (nar .byte (ka.toInt8.toInt32)))) (nar .boolean (own_cl (nar .byte (kb.toInt8.toInt32)))) (nar .boolean (own_cl (nar .byte (kc.toInt8.toInt32))))))] []))
    refine OwnEnds.via (fun t k => XS.iconst X18.here hx rfl (hb hby at_175) k) ?_
    show OwnEnds _ _ _ _ (T18.setTop (mkF m 176 #[.val (.int pa), .val (.int pb), .val (.int pc_), .val (.int tt), .val (.int fl), .val (.int ka), .val (.int kb), .val (.int kc), .val (.ref b1), .val (.ref b5), .val (.ref b6), .val (.int (own_at (0 : Int32) (nar .boolean (own_cl (nar .byte (ka.toInt8.toInt32)))) (nar .boolean (own_cl (nar .byte (kb.toInt8.toInt32)))) (nar .boolean (own_cl (nar .byte (kc.toInt8.toInt32)))))), .val (.int (own_at (1 : Int32) (nar .boolean (own_cl (nar .byte (ka.toInt8.toInt32)))) (nar .boolean (own_cl (nar .byte (kb.toInt8.toInt32)))) (nar .boolean (own_cl (nar .byte (kc.toInt8.toInt32)))))), .val (.int (own_at (2 : Int32) (nar .boolean (own_cl (nar .byte (ka.toInt8.toInt32)))) (nar .boolean (own_cl (nar .byte (kb.toInt8.toInt32)))) (nar .boolean (own_cl (nar .byte (kc.toInt8.toInt32)))))), .val (.int (own_at (-1 : Int32) (nar .boolean (own_cl (nar .byte (ka.toInt8.toInt32)))) (nar .boolean (own_cl (nar .byte (kb.toInt8.toInt32)))) (nar .boolean (own_cl (nar .byte (kc.toInt8.toInt32)))))), .val (.int (own_at (3 : Int32) (nar .boolean (own_cl (nar .byte (ka.toInt8.toInt32)))) (nar .boolean (own_cl (nar .byte (kb.toInt8.toInt32)))) (nar .boolean (own_cl (nar .byte (kc.toInt8.toInt32)))))), .val (.int (own_at tt (nar .boolean (own_cl (nar .byte (ka.toInt8.toInt32)))) (nar .boolean (own_cl (nar .byte (kb.toInt8.toInt32)))) (nar .boolean (own_cl (nar .byte (kc.toInt8.toInt32))))))] [(.int (1 : Int32))]))
    refine OwnEnds.via (fun t k => XS.goto X18.here hx rfl (pc0 := 176) (pc' := 180) rfl (hb hby at_176) (by decide) (by decide) k) ?_
    show OwnEnds _ _ _ _ (T18.setTop (mkF m 180 #[.val (.int pa), .val (.int pb), .val (.int pc_), .val (.int tt), .val (.int fl), .val (.int ka), .val (.int kb), .val (.int kc), .val (.ref b1), .val (.ref b5), .val (.ref b6), .val (.int (own_at (0 : Int32) (nar .boolean (own_cl (nar .byte (ka.toInt8.toInt32)))) (nar .boolean (own_cl (nar .byte (kb.toInt8.toInt32)))) (nar .boolean (own_cl (nar .byte (kc.toInt8.toInt32)))))), .val (.int (own_at (1 : Int32) (nar .boolean (own_cl (nar .byte (ka.toInt8.toInt32)))) (nar .boolean (own_cl (nar .byte (kb.toInt8.toInt32)))) (nar .boolean (own_cl (nar .byte (kc.toInt8.toInt32)))))), .val (.int (own_at (2 : Int32) (nar .boolean (own_cl (nar .byte (ka.toInt8.toInt32)))) (nar .boolean (own_cl (nar .byte (kb.toInt8.toInt32)))) (nar .boolean (own_cl (nar .byte (kc.toInt8.toInt32)))))), .val (.int (own_at (-1 : Int32) (nar .boolean (own_cl (nar .byte (ka.toInt8.toInt32)))) (nar .boolean (own_cl (nar .byte (kb.toInt8.toInt32)))) (nar .boolean (own_cl (nar .byte (kc.toInt8.toInt32)))))), .val (.int (own_at (3 : Int32) (nar .boolean (own_cl (nar .byte (ka.toInt8.toInt32)))) (nar .boolean (own_cl (nar .byte (kb.toInt8.toInt32)))) (nar .boolean (own_cl (nar .byte (kc.toInt8.toInt32)))))), .val (.int (own_at tt (nar .boolean (own_cl (nar .byte (ka.toInt8.toInt32)))) (nar .boolean (own_cl (nar .byte (kb.toInt8.toInt32)))) (nar .boolean (own_cl (nar .byte (kc.toInt8.toInt32))))))] [(.int (1 : Int32))]))
    obtain ⟨fs, hr, hrun, hended, hW, hsame⟩ := X18.leave (v := some (.int (1 : Int32))) (fun h => by rw [Bd.returns] at h; cases h)
    refine ⟨_, _, ?_, hrun, hended, _, _, rfl, ?_, ⟨_, rfl⟩, hW, hsame.mono (by decide) (by decide)⟩
    · exact retN X18 hx (t := .boolean) Bd.returns (by simp) (hb hby at_180) hr
    · show Q0 Z pa pb pc_ tt fl ko kp h0 n0 _ T18.heap _
      rw [e18]
      exact ⟨rfl, N18⟩
  intro J7
  by_cases hc55_19 : (fl &&& (1 : Int32)) = (0 : Int32)
  ·
    refine OwnEnds.via (fun t k => XS.ifYes X6.here hx rfl (pc0 := 55) (pc' := 62) rfl (hb hby at_55) rfl ((if0 _ _).trans (teq hc55_19).1) (by decide) (by decide) k) ?_
    show OwnEnds _ _ _ _ (T6.setTop (mkF m 62 #[.val (.int pa), .val (.int pb), .val (.int pc_), .val (.int tt), .val (.int fl), .val (.int ka), .val (.int kb), .val (.int kc), .val (.ref b1), .val (.ref b5), .unset, .unset, .unset, .unset, .unset, .unset, .unset] [.null, (.ref b6), (.ref b6)]))
    refine OwnEnds.via (fun t k => XS.iconst X6.here hx rfl (hb hby at_62) k) ?_
    exact J7 _ _ X6 e6 N4 (0 : Int32)
  ·
    refine OwnEnds.via (fun t k => XS.ifNo X6.here hx rfl (hb hby at_55) rfl ((if0 _ _).trans (feq hc55_19).1) k) ?_
    show OwnEnds _ _ _ _ (T6.setTop (mkF m 58 #[.val (.int pa), .val (.int pb), .val (.int pc_), .val (.int tt), .val (.int fl), .val (.int ka), .val (.int kb), .val (.int kc), .val (.ref b1), .val (.ref b5), .unset, .unset, .unset, .unset, .unset, .unset, .unset] [.null, (.ref b6), (.ref b6)]))
    refine OwnEnds.via (fun t k => XS.iconst X6.here hx rfl (hb hby at_58) k) ?_
    show OwnEnds _ _ _ _ (T6.setTop (mkF m 59 #[.val (.int pa), .val (.int pb), .val (.int pc_), .val (.int tt), .val (.int fl), .val (.int ka), .val (.int kb), .val (.int kc), .val (.ref b1), .val (.ref b5), .unset, .unset, .unset, .unset, .unset, .unset, .unset] [(.int (1 : Int32)), .null, (.ref b6), (.ref b6)]))
    refine OwnEnds.via (fun t k => XS.goto X6.here hx rfl (pc0 := 59) (pc' := 63) rfl (hb hby at_59) (by decide) (by decide) k) ?_
    exact J7 _ _ X6 e6 N4 (1 : Int32)

set_option maxRecDepth 65536 in
set_option maxHeartbeats 40000000 in
theorem comes_1 {Post : Tables → Env → Array Value → State → Outcome → State → Prop} (hpost : ∀ tb e args s v u, (limb_1_1.after args s (.returned v) u = true ∧ limb_1_2.after args s (.returned v) u = true ∧ True) → FrameEnd s (.returned v) u (Jvm.fieldLocs frame_1_writes args s ++ Jvm.arrayLocs frame_1_arrays args s ++ Jvm.staticLocs frame_1_statics s) 16 128 → Post tb e args s (.returned v) u) :
    ArmFor flags0 classFile x code maxLocals ret World_1 tables_1 room_1 Calls_1 rest_1 Pre_1 Post := by
  intro l hfl _ _ p e ha hc hk s m args below hf hA hF happ hP
  obtain ⟨hcalls, hrest, hpre⟩ := hP
  obtain ⟨-, -, -, hnamed, -, -, -, hat⟩ := (Spec.applies_iff hf).mp happ
  obtain ⟨hg, hn⟩ := and_e (Cond.before_iff.mp (show (Jvm.Cond.and given_1 narrow_1).before args s = true from hpre))
  obtain ⟨hg0, hh0⟩ := and_e hg
  obtain ⟨hg1, hh1⟩ := and_e hh0
  obtain ⟨hg2, hh2⟩ := and_e hh1
  obtain ⟨hg3, hh3⟩ := and_e hh2
  obtain ⟨hg4, hh4⟩ := and_e hh3
  obtain ⟨w0, w1, w2, w3, w4, rfl⟩ : ∃ w0 w1 w2 w3 w4 : Value, args = #[w0, w1, w2, w3, w4] := by
    have hs : args.size = 5 := by simpa [Cond.value, given_1] using hg0
    obtain ⟨L⟩ := args
    match L, hs with
    | [w0, w1, w2, w3, w4], _ => exact ⟨w0, w1, w2, w3, w4, rfl⟩
  have hw := fun d (hd : d ∈ tables_1) => atoms_spec (ws := Jvm.Cond.code x code maxLocals ret :: tables_1) hat d (List.mem_cons_of_mem _ hd)
  have hfit : Fit s := fun {y c} hc i hi => by
    obtain ⟨ha, rfl⟩ := Array.getElem?_eq_some_iff.mp hc
    have q := List.all_eq_true.mp ((Array.all_eq_true_iff_forall_mem.mp hF) _ (Array.getElem_mem ha)) i (List.mem_range.mpr hi)
    simpa [Array.getElem?_eq_getElem hi] using q
  obtain ⟨i0, ei0⟩ := is_v hg1
  obtain rfl : w0 = (.int i0) := Option.some.inj ei0
  obtain ⟨i1, ei1⟩ := is_v hg2
  obtain rfl : w1 = (.int i1) := Option.some.inj ei1
  obtain ⟨i2, ei2⟩ := is_v hg3
  obtain rfl : w2 = (.int i2) := Option.some.inj ei2
  obtain ⟨i3, ei3⟩ := is_v hg4
  obtain rfl : w3 = (.int i3) := Option.some.inj ei3
  obtain ⟨i4, ei4⟩ := is_v hh4
  obtain rfl : w4 = (.int i4) := Option.some.inj ei4
  obtain ⟨c0_hn, r0_hn⟩ := and_e hn
  obtain ⟨c1_hn, r1_hn⟩ := and_e r0_hn
  obtain ⟨c2_hn, r2_hn⟩ := and_e r1_hn
  obtain ⟨c3_hn, r3_hn⟩ := and_e r2_hn
  have ev_pk := eqv_i (Term.int_eval _) c0_hn
  have S_pk : Sta s s.heap "com/example/stratal/stratal/logic/LayerReport" "PROPERTY_KINDS" "I" (.int (28 : Int32)) := Sta.start ev_pk (Or.inr ⟨(hw _ (List.mem_of_getElem? (i := 3) rfl)), (hw _ (List.mem_of_getElem? (i := 27) rfl))⟩)
  obtain ⟨ko, ev_ko⟩ := exa_v c1_hn
  have E_ko : Exa s s.heap ko "com/example/stratal/stratal/logic/Kind" := Exa.start ev_ko c1_hn
  have S_ko : Sta s s.heap "com/example/stratal/stratal/logic/Kind" "OBJECT_PROPERTY" "Lcom/example/stratal/stratal/logic/Kind;" (.ref ko) := Sta.start ev_ko (Or.inr ⟨(hw _ (List.mem_of_getElem? (i := 36) rfl)), (hw _ (List.mem_of_getElem? (i := 37) rfl))⟩)
  have F_ko : Fld s s.heap ko "java/lang/Enum" "ordinal" "I" (.int (2 : Int32)) := Fld.start ((fld_at ev_ko).symm.trans (eqv_i (Term.int_eval _) c2_hn))
  obtain ⟨kp, ev_kp⟩ := exa_v c3_hn
  have E_kp : Exa s s.heap kp "com/example/stratal/stratal/logic/Kind" := Exa.start ev_kp c3_hn
  have S_kp : Sta s s.heap "com/example/stratal/stratal/logic/Kind" "DATATYPE_PROPERTY" "Lcom/example/stratal/stratal/logic/Kind;" (.ref kp) := Sta.start ev_kp (Or.inr ⟨(hw _ (List.mem_of_getElem? (i := 36) rfl)), (hw _ (List.mem_of_getElem? (i := 65) rfl))⟩)
  have F_kp : Fld s s.heap kp "java/lang/Enum" "ordinal" "I" (.int (3 : Int32)) := Fld.start ((fld_at ev_kp).symm.trans (eqv_i (Term.int_eval _) r3_hn))
  obtain ⟨n, o, h1, h2, h3, _, L, rfl, ⟨rfl, N⟩, hq⟩ := rm0 l s _ hw tables_1 i0 i1 i2 i3 i4 ko kp s.heap s.heap.size (Nat.le_refl _) (Old.start s) S_pk S_ko S_kp E_ko E_kp F_ko F_kp p e ha hc hk s m _ below hf ((Spec.applies_iff_loose hf).mp happ).1 ⟨rfl, State.Warmed39.refl s, rfl⟩ trivial
  refine ⟨n, _, h1, h2, h3, hpost _ _ _ _ _ _ ⟨Cond.after_iff.mpr rfl, Cond.after_iff.mpr (eq_i res_at (Term.int_eval (1)) rfl), trivial⟩ ⟨hq.1, hq.2.1, (hq.2.2.sift fun y hy => Or.inr (N y hy)).mono (by decide) (by decide)⟩⟩
theorem main_1_1 : Claimed_1_1 := comes_1 fun _ _ _ _ _ _ h hF => ⟨h.1, hF⟩
theorem main_1_2 : Claimed_1_2 := comes_1 fun _ _ _ _ _ _ h hF => ⟨h.2.1, hF⟩
end Jvm.Pilot.@@N@@
namespace Jvm.Pilot.@@N@@
open Jvm Jvm.ClassFile Sem Op Lib Jvm.Free Jvm.Stand Jvm.Pilot.@@N@@.Jvm.D
/-! MADE BY PROGRAM (witnessworld.py) out of the Statement's table words and the real class files: 18 classes; the members and pool entries that the words name. The judged class is class 1, her method 1. -/
namespace start1
open Jvm.ClassFile
def u (s : String) : CpInfo := .utf8 (stringToUtf16 s)
/-- a pool by its gaps: so many unusable entries, then the entry; so many at the end -/
def gap : Nat → List CpInfo → List CpInfo
  | 0, r => r
  | n + 1, r => .unusable :: gap n r
def poolList (es : List (Nat × CpInfo)) (last : Nat) : List CpInfo := es.foldr (fun e r => gap e.1 (e.2 :: r)) (gap last [])
def pool (es : List (Nat × CpInfo)) (last : Nat) : Array CpInfo := ⟨poolList es last⟩
def fileOf (pool : Array CpInfo) (this : Nat) (attrs : Array Attribute := #[]) (ms : Array MethodInfo := #[]) (fl : Nat := 33) (sup : Nat := 0) (ifs : Array Nat := #[]) (fds : Array FieldInfo := #[]) : ClassFile where
  minorVersion := 0
  majorVersion := 65
  constantPool := pool
  accessFlags := fl
  thisClass := this
  superClass := sup
  interfaces := ifs
  fields := fds
  methods := ms
  attributes := attrs
def plain (name : String) (sup : Option ClassId) : Class where
  name := name
  kind := .ordinary
  loader := none
  accessFlags := 33
  super := sup
  interfaces := #[]
  cf := none
  fields := #[]
  methods := #[]
  instanceTypes := #[]
  staticTypes := #[]
  resolved := #[]
  callSites := []
  init := .initialized
  statics := none
  mirror := none

def pool0 : Array CpInfo := pool [(5, u "<init>"), (0, u "()V"), (1, .class_ 10), (1, u "java/lang/Object")] 113

def k0c0 : Code := { maxStack := 0, maxLocals := 1, code := object_method_1_code, exceptionTable := #[], attributes := #[] }
def k0m0 : Method := { name := "<init>", desc := "()V", sig := { parameters := [], returnType := none }, accessFlags := 1, code := some k0c0 }
/-- java/lang/Object -/
def k0 : Class := { plain "java/lang/Object" none with
  accessFlags := 33
  interfaces := #[]
  cf := some (fileOf pool0 8 #[] #[{ accessFlags := 1, nameIndex := 5, descriptorIndex := 6, attributes := #[] }] 33 0 #[] #[])
  fields := #[]
  methods := #[k0m0]
  instanceTypes := #[]
  staticTypes := #[]
  resolved := Array.replicate 124 none
  statics := none }

def pool1 : Array CpInfo := pool [(2, .class_ 4), (1, u "java/lang/Object"), (0, u "<init>"), (0, u "()V"), (0, .class_ 8), (0, u "com/example/stratal/stratal/logic/LayerReport"), (0, .methodref 7 10), (0, .nameAndType 5 11), (0, u "(Lcom/example/stratal/stratal/graph/Graph;Z[B[B)V"), (0, .methodref 7 13), (0, .nameAndType 14 15), (0, u "isClash"), (0, u "(I)Z"), (0, .methodref 17 18), (0, .class_ 19), (0, .nameAndType 20 15), (0, u "com/example/stratal/stratal/logic/LayerReportIsClashPinLaw"), (0, u "clash"), (0, .methodref 17 22), (0, .nameAndType 23 24), (0, u "expected"), (0, u "(IIII)Z"), (2, u "law"), (0, u "(IIIII)Z")] 5

def k1m0 : Method := { name := "<init>", desc := "()V", sig := { parameters := [], returnType := none }, accessFlags := 1, code := none }
def k1c1 : Code := { maxStack := 6, maxLocals := 17, code := code, exceptionTable := #[], attributes := #[] }
def k1m1 : Method := { name := "law", desc := "(IIIII)Z", sig := { parameters := [.int, .int, .int, .int, .int], returnType := some .boolean }, accessFlags := 9, code := some k1c1 }
def k1c2 : Code := { maxStack := 2, maxLocals := 7, code := method_3_code, exceptionTable := #[], attributes := #[] }
def k1m2 : Method := { name := "clash", desc := "(I)Z", sig := { parameters := [.int], returnType := some .boolean }, accessFlags := 10, code := some k1c2 }
def k1c3 : Code := { maxStack := 2, maxLocals := 4, code := method_4_code, exceptionTable := #[], attributes := #[] }
def k1m3 : Method := { name := "expected", desc := "(IIII)Z", sig := { parameters := [.int, .int, .int, .int], returnType := some .boolean }, accessFlags := 10, code := some k1c3 }
/-- com/example/stratal/stratal/logic/LayerReportIsClashPinLaw -/
def k1 : Class := { plain "com/example/stratal/stratal/logic/LayerReportIsClashPinLaw" (some 0) with
  accessFlags := 49
  interfaces := #[]
  cf := some (fileOf pool1 17 #[] #[{ accessFlags := 1, nameIndex := 5, descriptorIndex := 6, attributes := #[] }, { accessFlags := 9, nameIndex := 27, descriptorIndex := 28, attributes := #[] }, { accessFlags := 10, nameIndex := 20, descriptorIndex := 15, attributes := #[] }, { accessFlags := 10, nameIndex := 23, descriptorIndex := 24, attributes := #[] }] 49 2 #[] #[])
  fields := #[]
  methods := #[k1m0, k1m1, k1m2, k1m3]
  instanceTypes := #[]
  staticTypes := #[]
  resolved := Array.replicate 34 none
  statics := none }

def pool2 : Array CpInfo := pool [(1, .methodref 2 3), (0, .class_ 4), (0, .nameAndType 5 6), (0, u "java/lang/Object"), (0, u "<init>"), (0, u "()V"), (0, .fieldref 8 9), (0, .class_ 10), (0, .nameAndType 11 12), (0, u "com/example/stratal/stratal/logic/LayerReport"), (0, u "mGraph"), (0, u "Lcom/example/stratal/stratal/graph/Graph;"), (0, .fieldref 8 14), (0, .nameAndType 15 16), (0, u "mTripleCount"), (0, u "I"), (0, .fieldref 8 18), (0, .nameAndType 19 20), (0, u "mHasAxioms"), (0, u "Z"), (0, .fieldref 8 22), (0, .nameAndType 23 24), (0, u "mStatus"), (0, u "[B"), (0, .fieldref 8 26), (0, .nameAndType 27 24), (0, u "mKinds"), (0, .fieldref 8 29), (0, .nameAndType 30 31), (0, u "mClashing"), (0, u "[Z"), (0, .methodref 8 33), (0, .nameAndType 34 35), (0, u "isClash"), (0, u "(B)Z"), (2, u "mLayer"), (0, u "Lcom/example/stratal/stratal/logic/Layer;"), (5, u "()I"), (51, u "mAnnotations"), (0, u "Ljava/util/Set;"), (19, u "mBeyond"), (0, u "Ljava/util/Map;"), (17, u "mKindsByName"), (10, .class_ 150), (1, u "com/example/stratal/stratal/logic/Kind"), (4, u "mClashes"), (2, u "(I)Z"), (0, .methodref 148 160), (0, .nameAndType 161 45), (0, u "bit"), (53, u "(I)I"), (12, .fieldref 8 229), (0, .nameAndType 230 16), (0, u "PROPERTY_KINDS"), (0, .methodref 232 233), (0, .class_ 234), (0, .nameAndType 235 215), (0, u "java/lang/Integer"), (0, u "bitCount"), (0, .fieldref 148 237), (0, .nameAndType 238 239), (0, u "OBJECT_PROPERTY"), (0, u "Lcom/example/stratal/stratal/logic/Kind;"), (0, .fieldref 148 241), (0, .nameAndType 242 239), (0, u "DATATYPE_PROPERTY"), (3, u "KEPT"), (0, u "B"), (2, u "ANNOTATION"), (1, u "BEYOND"), (6, u "(Lcom/example/stratal/stratal/graph/Graph;Z[B[B)V")] 36

def k2c0 : Code := { maxStack := 4, maxLocals := 6, code := prog_38_method_1_code, exceptionTable := #[], attributes := #[] }
def k2m0 : Method := { name := "<init>", desc := "(Lcom/example/stratal/stratal/graph/Graph;Z[B[B)V", sig := { parameters := [(.object "com/example/stratal/stratal/graph/Graph"), .boolean, (.array .byte), (.array .byte)], returnType := none }, accessFlags := 0, code := some k2c0 }
def k2c1 : Code := { maxStack := 2, maxLocals := 2, code := prog_38_method_15_code, exceptionTable := #[], attributes := #[] }
def k2m1 : Method := { name := "isClash", desc := "(I)Z", sig := { parameters := [.int], returnType := some .boolean }, accessFlags := 0, code := some k2c1 }
def k2c2 : Code := { maxStack := 3, maxLocals := 3, code := prog_38_method_16_code, exceptionTable := #[], attributes := #[] }
def k2m2 : Method := { name := "isClash", desc := "(B)Z", sig := { parameters := [.byte], returnType := some .boolean }, accessFlags := 10, code := some k2c2 }
/-- com/example/stratal/stratal/logic/LayerReport -/
def k2 : Class := { plain "com/example/stratal/stratal/logic/LayerReport" (some 0) with
  accessFlags := 33
  interfaces := #[]
  cf := some (fileOf pool2 8 #[] #[{ accessFlags := 0, nameIndex := 5, descriptorIndex := 259, attributes := #[] }, { accessFlags := 0, nameIndex := 34, descriptorIndex := 158, attributes := #[] }, { accessFlags := 10, nameIndex := 34, descriptorIndex := 35, attributes := #[] }] 33 2 #[] #[{ accessFlags := 24, nameIndex := 246, descriptorIndex := 247, attributes := #[] }, { accessFlags := 24, nameIndex := 250, descriptorIndex := 247, attributes := #[] }, { accessFlags := 24, nameIndex := 252, descriptorIndex := 247, attributes := #[] }, { accessFlags := 26, nameIndex := 230, descriptorIndex := 16, attributes := #[] }, { accessFlags := 18, nameIndex := 11, descriptorIndex := 12, attributes := #[] }, { accessFlags := 18, nameIndex := 15, descriptorIndex := 16, attributes := #[] }, { accessFlags := 18, nameIndex := 19, descriptorIndex := 20, attributes := #[] }, { accessFlags := 18, nameIndex := 23, descriptorIndex := 24, attributes := #[] }, { accessFlags := 18, nameIndex := 27, descriptorIndex := 24, attributes := #[] }, { accessFlags := 18, nameIndex := 30, descriptorIndex := 31, attributes := #[] }, { accessFlags := 2, nameIndex := 38, descriptorIndex := 39, attributes := #[] }, { accessFlags := 2, nameIndex := 97, descriptorIndex := 98, attributes := #[] }, { accessFlags := 2, nameIndex := 118, descriptorIndex := 119, attributes := #[] }, { accessFlags := 2, nameIndex := 137, descriptorIndex := 119, attributes := #[] }, { accessFlags := 2, nameIndex := 155, descriptorIndex := 98, attributes := #[] }])
  fields := #[{ name := "KEPT", type := .byte, accessFlags := 24, slot := 0, constantValue := 0 }, { name := "ANNOTATION", type := .byte, accessFlags := 24, slot := 1, constantValue := 0 }, { name := "BEYOND", type := .byte, accessFlags := 24, slot := 2, constantValue := 0 }, { name := "PROPERTY_KINDS", type := .int, accessFlags := 26, slot := 3, constantValue := 0 }, { name := "mGraph", type := (.object "com/example/stratal/stratal/graph/Graph"), accessFlags := 18, slot := 0, constantValue := 0 }, { name := "mTripleCount", type := .int, accessFlags := 18, slot := 1, constantValue := 0 }, { name := "mHasAxioms", type := .boolean, accessFlags := 18, slot := 2, constantValue := 0 }, { name := "mStatus", type := (.array .byte), accessFlags := 18, slot := 3, constantValue := 0 }, { name := "mKinds", type := (.array .byte), accessFlags := 18, slot := 4, constantValue := 0 }, { name := "mClashing", type := (.array .boolean), accessFlags := 18, slot := 5, constantValue := 0 }, { name := "mLayer", type := (.object "com/example/stratal/stratal/logic/Layer"), accessFlags := 2, slot := 6, constantValue := 0 }, { name := "mAnnotations", type := (.object "java/util/Set"), accessFlags := 2, slot := 7, constantValue := 0 }, { name := "mBeyond", type := (.object "java/util/Map"), accessFlags := 2, slot := 8, constantValue := 0 }, { name := "mKindsByName", type := (.object "java/util/Map"), accessFlags := 2, slot := 9, constantValue := 0 }, { name := "mClashes", type := (.object "java/util/Set"), accessFlags := 2, slot := 10, constantValue := 0 }]
  methods := #[k2m0, k2m1, k2m2]
  instanceTypes := #[(.object "com/example/stratal/stratal/graph/Graph"), .int, .boolean, (.array .byte), (.array .byte), (.array .boolean), (.object "com/example/stratal/stratal/logic/Layer"), (.object "java/util/Set"), (.object "java/util/Map"), (.object "java/util/Map"), (.object "java/util/Set")]
  staticTypes := #[.byte, .byte, .byte, .int]
  resolved := Array.replicate 296 none
  statics := some 0 }

def pool3 : Array CpInfo := pool [(1, .class_ 2), (0, u "java/io/Serializable"), (0, .class_ 4), (0, u "java/lang/Object")] 2

/-- java/io/Serializable -/
def k3 : Class := { plain "java/io/Serializable" (some 0) with
  accessFlags := 1537
  interfaces := #[]
  cf := some (fileOf pool3 1 #[] #[] 1537 3 #[] #[])
  fields := #[]
  methods := #[]
  instanceTypes := #[]
  staticTypes := #[]
  resolved := Array.replicate 7 none
  statics := none }

def pool4 : Array CpInfo := pool [(2, .class_ 4), (1, u "java/lang/Object"), (0, u "<init>"), (0, u "()V"), (1, .class_ 10), (1, u "java/lang/Number"), (2, .class_ 14), (0, u "java/io/Serializable"), (0, u "serialVersionUID"), (0, u "J")] 20

def k4m0 : Method := { name := "<init>", desc := "()V", sig := { parameters := [], returnType := none }, accessFlags := 1, code := none }
/-- java/lang/Number -/
def k4 : Class := { plain "java/lang/Number" (some 0) with
  accessFlags := 1057
  interfaces := #[3]
  cf := some (fileOf pool4 8 #[] #[{ accessFlags := 1, nameIndex := 5, descriptorIndex := 6, attributes := #[] }] 1057 2 #[13] #[{ accessFlags := 26, nameIndex := 15, descriptorIndex := 16, attributes := #[] }])
  fields := #[{ name := "serialVersionUID", type := .long, accessFlags := 26, slot := 0, constantValue := 0 }]
  methods := #[k4m0]
  instanceTypes := #[]
  staticTypes := #[.long]
  resolved := Array.replicate 37 none
  statics := none }

def pool5 : Array CpInfo := pool [(1, .class_ 2), (0, u "java/lang/Comparable"), (0, .class_ 4), (0, u "java/lang/Object")] 7

/-- java/lang/Comparable -/
def k5 : Class := { plain "java/lang/Comparable" (some 0) with
  accessFlags := 1537
  interfaces := #[]
  cf := some (fileOf pool5 1 #[] #[] 1537 3 #[] #[])
  fields := #[]
  methods := #[]
  instanceTypes := #[]
  staticTypes := #[]
  resolved := Array.replicate 12 none
  statics := none }

def pool6 : Array CpInfo := pool [(1, .class_ 2), (0, u "java/lang/constant/Constable"), (0, .class_ 4), (0, u "java/lang/Object")] 6

/-- java/lang/constant/Constable -/
def k6 : Class := { plain "java/lang/constant/Constable" (some 0) with
  accessFlags := 1537
  interfaces := #[]
  cf := some (fileOf pool6 1 #[] #[] 1537 3 #[] #[])
  fields := #[]
  methods := #[]
  instanceTypes := #[]
  staticTypes := #[]
  resolved := Array.replicate 11 none
  statics := none }

def pool7 : Array CpInfo := pool [(1, .class_ 2), (0, u "java/lang/constant/ConstantDesc"), (0, .class_ 4), (0, u "java/lang/Object")] 32

/-- java/lang/constant/ConstantDesc -/
def k7 : Class := { plain "java/lang/constant/ConstantDesc" (some 0) with
  accessFlags := 1537
  interfaces := #[]
  cf := some (fileOf pool7 1 #[] #[] 1537 3 #[] #[])
  fields := #[]
  methods := #[]
  instanceTypes := #[]
  staticTypes := #[]
  resolved := Array.replicate 37 none
  statics := none }

def pool8 : Array CpInfo := pool [(1, .class_ 2), (0, u "java/lang/Integer"), (16, u "digits"), (0, u "[C"), (33, u "(I)I"), (30, u "DigitOnes"), (0, u "[B"), (2, u "DigitTens"), (99, .class_ 190), (0, u "java/lang/Integer$IntegerCache"), (3, u "I"), (8, .class_ 204), (0, u "java/lang/Number"), (2, u "value"), (57, .integer 1431655765), (0, .integer 858993459), (0, .integer 252645135), (34, u "TYPE"), (0, u "Ljava/lang/Class;"), (0, .class_ 305), (0, u "java/lang/Comparable"), (0, .class_ 307), (0, u "java/lang/constant/Constable"), (0, .class_ 309), (0, u "java/lang/constant/ConstantDesc"), (0, u "MIN_VALUE"), (1, u "MAX_VALUE"), (3, u "SIZE"), (1, u "BYTES"), (1, u "serialVersionUID"), (0, u "J"), (85, u "bitCount")] 45

def k8c0 : Code := { maxStack := 3, maxLocals := 1, code := jdk_33_method_49_code, exceptionTable := #[], attributes := #[] }
def k8m0 : Method := { name := "bitCount", desc := "(I)I", sig := { parameters := [.int], returnType := some .int }, accessFlags := 9, code := some k8c0 }
/-- java/lang/Integer -/
def k8 : Class := { plain "java/lang/Integer" (some 4) with
  accessFlags := 49
  interfaces := #[5, 6, 7]
  cf := some (fileOf pool8 1 #[.nestMembers #[189]] #[{ accessFlags := 9, nameIndex := 407, descriptorIndex := 54, attributes := #[] }] 49 203 #[304, 306, 308] #[{ accessFlags := 25, nameIndex := 310, descriptorIndex := 194, attributes := #[] }, { accessFlags := 25, nameIndex := 312, descriptorIndex := 194, attributes := #[] }, { accessFlags := 25, nameIndex := 302, descriptorIndex := 303, attributes := #[] }, { accessFlags := 24, nameIndex := 19, descriptorIndex := 20, attributes := #[] }, { accessFlags := 24, nameIndex := 89, descriptorIndex := 86, attributes := #[] }, { accessFlags := 24, nameIndex := 85, descriptorIndex := 86, attributes := #[] }, { accessFlags := 18, nameIndex := 207, descriptorIndex := 194, attributes := #[] }, { accessFlags := 25, nameIndex := 316, descriptorIndex := 194, attributes := #[] }, { accessFlags := 25, nameIndex := 318, descriptorIndex := 194, attributes := #[] }, { accessFlags := 26, nameIndex := 320, descriptorIndex := 321, attributes := #[] }])
  fields := #[{ name := "MIN_VALUE", type := .int, accessFlags := 25, slot := 0, constantValue := 0 }, { name := "MAX_VALUE", type := .int, accessFlags := 25, slot := 1, constantValue := 0 }, { name := "TYPE", type := (.object "java/lang/Class"), accessFlags := 25, slot := 2, constantValue := 0 }, { name := "digits", type := (.array .char), accessFlags := 24, slot := 3, constantValue := 0 }, { name := "DigitTens", type := (.array .byte), accessFlags := 24, slot := 4, constantValue := 0 }, { name := "DigitOnes", type := (.array .byte), accessFlags := 24, slot := 5, constantValue := 0 }, { name := "value", type := .int, accessFlags := 18, slot := 0, constantValue := 0 }, { name := "SIZE", type := .int, accessFlags := 25, slot := 6, constantValue := 0 }, { name := "BYTES", type := .int, accessFlags := 25, slot := 7, constantValue := 0 }, { name := "serialVersionUID", type := .long, accessFlags := 26, slot := 8, constantValue := 0 }]
  methods := #[k8m0]
  instanceTypes := #[.int]
  staticTypes := #[.int, .int, (.object "java/lang/Class"), (.array .char), (.array .byte), (.array .byte), .int, .int, .long]
  resolved := Array.replicate 453 none
  statics := none }

def pool9 : Array CpInfo := pool [(2, .class_ 4), (1, u "java/lang/Enum"), (0, u "name"), (0, u "Ljava/lang/String;"), (0, .fieldref 2 8), (0, .nameAndType 9 10), (0, u "ordinal"), (0, u "I"), (1, .class_ 14), (1, u "java/lang/Object"), (4, u "hash"), (86, .class_ 108), (1, u "java/lang/Enum$EnumDesc"), (2, .class_ 112), (0, u "java/lang/constant/Constable"), (0, .class_ 114), (0, u "java/lang/Comparable"), (0, .class_ 116), (0, u "java/io/Serializable"), (9, u "()I")] 77

def k9c0 : Code := { maxStack := 1, maxLocals := 1, code := jdk_37_method_2_code, exceptionTable := #[], attributes := #[] }
def k9m0 : Method := { name := "ordinal", desc := "()I", sig := { parameters := [], returnType := some .int }, accessFlags := 17, code := some k9c0 }
/-- java/lang/Enum -/
def k9 : Class := { plain "java/lang/Enum" (some 0) with
  accessFlags := 1057
  interfaces := #[6, 5, 3]
  cf := some (fileOf pool9 2 #[.nestMembers #[106]] #[{ accessFlags := 17, nameIndex := 9, descriptorIndex := 126, attributes := #[] }] 1057 12 #[111, 113, 115] #[{ accessFlags := 18, nameIndex := 5, descriptorIndex := 6, attributes := #[] }, { accessFlags := 18, nameIndex := 9, descriptorIndex := 10, attributes := #[] }, { accessFlags := 2, nameIndex := 19, descriptorIndex := 10, attributes := #[] }])
  fields := #[{ name := "name", type := (.object "java/lang/String"), accessFlags := 18, slot := 0, constantValue := 0 }, { name := "ordinal", type := .int, accessFlags := 18, slot := 1, constantValue := 0 }, { name := "hash", type := .int, accessFlags := 2, slot := 2, constantValue := 0 }]
  methods := #[k9m0]
  instanceTypes := #[(.object "java/lang/String"), .int, .int]
  staticTypes := #[]
  resolved := Array.replicate 204 none
  statics := none }

def pool10 : Array CpInfo := pool [(1, .class_ 2), (0, u "com/example/stratal/stratal/logic/Kind"), (2, u "CLASS"), (0, u "Lcom/example/stratal/stratal/logic/Kind;"), (2, u "DATATYPE"), (2, u "OBJECT_PROPERTY"), (2, u "DATATYPE_PROPERTY"), (2, u "PROPERTY"), (2, u "INDIVIDUAL"), (2, u "$VALUES"), (0, u "[Lcom/example/stratal/stratal/logic/Kind;"), (6, .class_ 34), (1, u "java/lang/Enum"), (8, u "mLabel"), (0, u "Ljava/lang/String;"), (2, u "mPlural"), (28, u "DECLARATIONS"), (0, u "Ljava/util/Map;"), (18, u "bit"), (0, u "()I"), (11, .methodref 1 110), (0, .nameAndType 111 97), (0, u "ordinal")] 83

def k10c0 : Code := { maxStack := 2, maxLocals := 1, code := prog_35_method_7_code, exceptionTable := #[], attributes := #[] }
def k10m0 : Method := { name := "bit", desc := "()I", sig := { parameters := [], returnType := some .int }, accessFlags := 0, code := some k10c0 }
/-- com/example/stratal/stratal/logic/Kind -/
def k10 : Class := { plain "com/example/stratal/stratal/logic/Kind" (some 9) with
  accessFlags := 16433
  interfaces := #[]
  cf := some (fileOf pool10 1 #[] #[{ accessFlags := 0, nameIndex := 96, descriptorIndex := 97, attributes := #[] }] 16433 32 #[] #[{ accessFlags := 16409, nameIndex := 5, descriptorIndex := 6, attributes := #[] }, { accessFlags := 16409, nameIndex := 9, descriptorIndex := 6, attributes := #[] }, { accessFlags := 16409, nameIndex := 12, descriptorIndex := 6, attributes := #[] }, { accessFlags := 16409, nameIndex := 15, descriptorIndex := 6, attributes := #[] }, { accessFlags := 16409, nameIndex := 18, descriptorIndex := 6, attributes := #[] }, { accessFlags := 16409, nameIndex := 21, descriptorIndex := 6, attributes := #[] }, { accessFlags := 26, nameIndex := 76, descriptorIndex := 77, attributes := #[] }, { accessFlags := 18, nameIndex := 43, descriptorIndex := 44, attributes := #[] }, { accessFlags := 18, nameIndex := 47, descriptorIndex := 44, attributes := #[] }, { accessFlags := 4122, nameIndex := 24, descriptorIndex := 25, attributes := #[] }])
  fields := #[{ name := "CLASS", type := (.object "com/example/stratal/stratal/logic/Kind"), accessFlags := 16409, slot := 0, constantValue := 0 }, { name := "DATATYPE", type := (.object "com/example/stratal/stratal/logic/Kind"), accessFlags := 16409, slot := 1, constantValue := 0 }, { name := "OBJECT_PROPERTY", type := (.object "com/example/stratal/stratal/logic/Kind"), accessFlags := 16409, slot := 2, constantValue := 0 }, { name := "DATATYPE_PROPERTY", type := (.object "com/example/stratal/stratal/logic/Kind"), accessFlags := 16409, slot := 3, constantValue := 0 }, { name := "PROPERTY", type := (.object "com/example/stratal/stratal/logic/Kind"), accessFlags := 16409, slot := 4, constantValue := 0 }, { name := "INDIVIDUAL", type := (.object "com/example/stratal/stratal/logic/Kind"), accessFlags := 16409, slot := 5, constantValue := 0 }, { name := "DECLARATIONS", type := (.object "java/util/Map"), accessFlags := 26, slot := 6, constantValue := 0 }, { name := "mLabel", type := (.object "java/lang/String"), accessFlags := 18, slot := 3, constantValue := 0 }, { name := "mPlural", type := (.object "java/lang/String"), accessFlags := 18, slot := 4, constantValue := 0 }, { name := "$VALUES", type := (.array (.object "com/example/stratal/stratal/logic/Kind")), accessFlags := 4122, slot := 7, constantValue := 0 }]
  methods := #[k10m0]
  instanceTypes := #[(.object "java/lang/String"), .int, .int, (.object "java/lang/String"), (.object "java/lang/String")]
  staticTypes := #[(.object "com/example/stratal/stratal/logic/Kind"), (.object "com/example/stratal/stratal/logic/Kind"), (.object "com/example/stratal/stratal/logic/Kind"), (.object "com/example/stratal/stratal/logic/Kind"), (.object "com/example/stratal/stratal/logic/Kind"), (.object "com/example/stratal/stratal/logic/Kind"), (.object "java/util/Map"), (.array (.object "com/example/stratal/stratal/logic/Kind"))]
  resolved := Array.replicate 195 none
  statics := some 1 }

def pool11 : Array CpInfo := pool [(1, u "java/lang/Cloneable"), (0, .class_ 1), (0, u "java/lang/Object"), (0, .class_ 3)] 3

/-- java/lang/Cloneable -/
def k11 : Class := { plain "java/lang/Cloneable" (some 0) with
  accessFlags := 1537
  interfaces := #[]
  cf := some (fileOf pool11 2 #[] #[] 1537 4 #[] #[])
  fields := #[]
  methods := #[]
  instanceTypes := #[]
  staticTypes := #[]
  resolved := Array.replicate 8 none
  statics := none }

/-- the primitive boolean -/
def k12 : Class := { plain "boolean" none with kind := .primitive 'Z', accessFlags := 0x411 }
/-- [Z -/
def k13 : Class := { plain "[Z" (some 0) with kind := .array 12 .boolean, interfaces := #[11, 3], accessFlags := 1041 }

/-- the primitive byte -/
def k14 : Class := { plain "byte" none with kind := .primitive 'B', accessFlags := 0x411 }
/-- [B -/
def k15 : Class := { plain "[B" (some 0) with kind := .array 14 .byte, interfaces := #[11, 3], accessFlags := 1041 }

/-- the primitive int -/
def k16 : Class := { plain "int" none with kind := .primitive 'I', accessFlags := 0x411 }
/-- [I -/
def k17 : Class := { plain "[I" (some 0) with kind := .array 16 .int, interfaces := #[11, 3], accessFlags := 1041 }

def heap : Heap := #[{ cls := 2, slots := #[.int 0, .int 0, .int 0, .int 28], vm := .statics 2 },
  { cls := 10, slots := #[.null, .null, .ref 2, .ref 3, .null, .null, .null, .null], vm := .statics 10 },
  { cls := 10, slots := #[.null, .int 2, .int 0, .null, .null], vm := .none },
  { cls := 10, slots := #[.null, .int 3, .int 0, .null, .null], vm := .none }]
def classes : Array Class := #[k0, k1, k2, k3, k4, k5, k6, k7, k8, k9, k10, k11, k12, k13, k14, k15, k16, k17]
def interned : List (Array UInt16 × Addr) := []
def slotsUsed : Nat := 22
def theMethod : MethodId := ⟨1, 1⟩
def args0 : Array Value := #[.int 5, .int 12, .int 3, .int 1, .int 1]
def aboutOver (below : List Frame) : State where
  vm := { classes := classes, interned := interned.toArray }
  heap := heap
  slotsUsed := slotsUsed
  threads := #[{ frames := .invoking theMethod args0 :: below }]
def below0 : List Frame := [.native { method := ⟨0, 0⟩, args := #[] }]
def about1 : State := aboutOver below0
def p0 : Program := .bare "" "" ""
def e0 : Env := launch0.env 0 0 0
theorem w_frames : about1.frames = Frame.invoking theMethod args0 :: below0 := rfl
set_option maxRecDepth 65536 in
theorem w_args : argsFit about1.vm theMethod args0 = true := by decide +kernel
set_option maxRecDepth 65536 in
theorem w_heap : heapFits about1 = true := by decide +kernel
set_option maxRecDepth 65536 in
theorem w_runnable : about1.curStatus? = some .runnable := by decide +kernel
set_option maxRecDepth 65536 in
theorem w_alone : about1.alone = true := by decide +kernel
set_option maxRecDepth 65536 in
theorem w_named : about1.methodNamed? x = some theMethod := by decide +kernel
set_option maxRecDepth 65536 in
theorem w_hears : about1.hears theMethod below0 = true := by decide +kernel
set_option maxRecDepth 65536 in
theorem w_ripe : about1.ripe theMethod args0 below0 = true := by decide +kernel
theorem w_running : about1.status = .running := rfl
set_option maxRecDepth 65536 in
theorem w_room : about1.hasRoom e0.platform room_1 = true :=
  launch0.hasRoom_least _ room_1 (by decide +kernel) (by decide +kernel) (by decide +kernel) (by decide +kernel) (by decide +kernel) (by decide +kernel)
theorem allAtoms_all (ts : List Jvm.Cond) (a : Array Jvm.Value) (st : Jvm.State) : (allAtoms ts).before a st = ts.all (fun c => c.before a st) := by
  induction ts with
  | nil => rfl
  | cons c t ih =>
    show (Jvm.Cond.and c (allAtoms t)).before a st = _
    rw [Jvm.Cond.before_and, ih, List.all_cons]
def words1 : List Jvm.Cond := Jvm.Cond.code x code maxLocals ret :: tables_1
/-- a 'code' word, met by the world's own term for the bytes: nothing is compared byte by byte -/
theorem code_word {y : MethodName} {bytes : ByteArray} {mx : Nat} {rt : Option FieldType} {a : Array Value} {s : State} {m : MethodId} {meth : Method} {c : Code} (h1 : s.methodNamed? y = some m) (h2 : s.vm.method? m = some meth) (h3 : meth.code = some c) (h4 : c.code = bytes)
    (h5 : (c.maxLocals == mx && c.exceptionTable.isEmpty && decide (c.maxStack ≤ mostOperands) && decide (meth.sig.returnType = rt) && !meth.locks && decide (parseMethodDescriptor y.desc = some meth.sig)) = true) : (Jvm.Cond.code y bytes mx rt).before a s = true := by
  simp only [Bool.and_eq_true, beq_iff_eq, Bool.not_eq_true', decide_eq_true_eq] at h5
  obtain ⟨⟨⟨⟨⟨g1, g2⟩, g3⟩, g4⟩, g5⟩, g6⟩ := h5
  simp [Cond.before, Cond.holds, Cond.value, h1, h2, h3, h4, g1, g2, g3, g4, g5, g6]
def isCode : Jvm.Cond → Bool
  | .code _ _ _ _ => true
  | _ => false
theorem all_split {L : List Jvm.Cond} {P : Jvm.Cond → Bool} (h1 : L.all (fun c => isCode c || P c) = true) (h2 : ∀ c ∈ L.filter isCode, P c = true) : L.all P = true := by
  refine List.all_eq_true.mpr fun c hc => ?_
  have h := List.all_eq_true.mp h1 c hc
  rcases Bool.eq_false_or_eq_true (isCode c) with hi | hi
  · exact h2 c (List.mem_filter.mpr ⟨hc, hi⟩)
  · simpa [hi] using h
set_option maxRecDepth 65536 in
theorem w_c0 : (Jvm.Cond.code x code maxLocals ret).before args0 about1 = true := code_word (m := ⟨1, 1⟩) (meth := k1m1) (c := k1c1) (by decide +kernel) rfl rfl rfl (by decide +kernel)
set_option maxRecDepth 65536 in
theorem w_c1 : (Jvm.Cond.code ({ cls := "com/example/stratal/stratal/logic/LayerReport", name := "<init>", desc := "(Lcom/example/stratal/stratal/graph/Graph;Z[B[B)V" } : Jvm.MethodName) prog_38_method_1_code (6 : Nat) (Option.none : Option Jvm.ClassFile.FieldType)).before args0 about1 = true := code_word (m := ⟨2, 0⟩) (meth := k2m0) (c := k2c0) (by decide +kernel) rfl rfl rfl (by decide +kernel)
set_option maxRecDepth 65536 in
theorem w_c2 : (Jvm.Cond.code ({ cls := "java/lang/Object", name := "<init>", desc := "()V" } : Jvm.MethodName) object_method_1_code (1 : Nat) (Option.none : Option Jvm.ClassFile.FieldType)).before args0 about1 = true := code_word (m := ⟨0, 0⟩) (meth := k0m0) (c := k0c0) (by decide +kernel) rfl rfl rfl (by decide +kernel)
set_option maxRecDepth 65536 in
theorem w_c3 : (Jvm.Cond.code ({ cls := "com/example/stratal/stratal/logic/LayerReport", name := "isClash", desc := "(B)Z" } : Jvm.MethodName) prog_38_method_16_code (3 : Nat) (Option.some Jvm.ClassFile.FieldType.boolean)).before args0 about1 = true := code_word (m := ⟨2, 2⟩) (meth := k2m2) (c := k2c2) (by decide +kernel) rfl rfl rfl (by decide +kernel)
set_option maxRecDepth 65536 in
theorem w_c4 : (Jvm.Cond.code ({ cls := "java/lang/Integer", name := "bitCount", desc := "(I)I" } : Jvm.MethodName) jdk_33_method_49_code (1 : Nat) (Option.some Jvm.ClassFile.FieldType.int)).before args0 about1 = true := code_word (m := ⟨8, 0⟩) (meth := k8m0) (c := k8c0) (by decide +kernel) rfl rfl rfl (by decide +kernel)
set_option maxRecDepth 65536 in
theorem w_c5 : (Jvm.Cond.code ({ cls := "com/example/stratal/stratal/logic/Kind", name := "bit", desc := "()I" } : Jvm.MethodName) prog_35_method_7_code (1 : Nat) (Option.some Jvm.ClassFile.FieldType.int)).before args0 about1 = true := code_word (m := ⟨10, 0⟩) (meth := k10m0) (c := k10c0) (by decide +kernel) rfl rfl rfl (by decide +kernel)
set_option maxRecDepth 65536 in
theorem w_c6 : (Jvm.Cond.code ({ cls := "java/lang/Enum", name := "ordinal", desc := "()I" } : Jvm.MethodName) jdk_37_method_2_code (1 : Nat) (Option.some Jvm.ClassFile.FieldType.int)).before args0 about1 = true := code_word (m := ⟨9, 0⟩) (meth := k9m0) (c := k9c0) (by decide +kernel) rfl rfl rfl (by decide +kernel)
set_option maxRecDepth 65536 in
theorem w_c7 : (Jvm.Cond.code ({ cls := "com/example/stratal/stratal/logic/LayerReport", name := "isClash", desc := "(I)Z" } : Jvm.MethodName) prog_38_method_15_code (2 : Nat) (Option.some Jvm.ClassFile.FieldType.boolean)).before args0 about1 = true := code_word (m := ⟨2, 1⟩) (meth := k2m1) (c := k2c1) (by decide +kernel) rfl rfl rfl (by decide +kernel)
set_option maxRecDepth 65536 in
theorem w_c8 : (Jvm.Cond.code ({ cls := "com/example/stratal/stratal/logic/LayerReportIsClashPinLaw", name := "clash", desc := "(I)Z" } : Jvm.MethodName) method_3_code (7 : Nat) (Option.some Jvm.ClassFile.FieldType.boolean)).before args0 about1 = true := code_word (m := ⟨1, 2⟩) (meth := k1m2) (c := k1c2) (by decide +kernel) rfl rfl rfl (by decide +kernel)
set_option maxRecDepth 65536 in
theorem w_c9 : (Jvm.Cond.code ({ cls := "com/example/stratal/stratal/logic/LayerReportIsClashPinLaw", name := "expected", desc := "(IIII)Z" } : Jvm.MethodName) method_4_code (4 : Nat) (Option.some Jvm.ClassFile.FieldType.boolean)).before args0 about1 = true := code_word (m := ⟨1, 3⟩) (meth := k1m3) (c := k1c3) (by decide +kernel) rfl rfl rfl (by decide +kernel)
def codes1 : List Jvm.Cond := [Jvm.Cond.code x code maxLocals ret, Jvm.Cond.code ({ cls := "com/example/stratal/stratal/logic/LayerReport", name := "<init>", desc := "(Lcom/example/stratal/stratal/graph/Graph;Z[B[B)V" } : Jvm.MethodName) prog_38_method_1_code (6 : Nat) (Option.none : Option Jvm.ClassFile.FieldType), Jvm.Cond.code ({ cls := "java/lang/Object", name := "<init>", desc := "()V" } : Jvm.MethodName) object_method_1_code (1 : Nat) (Option.none : Option Jvm.ClassFile.FieldType), Jvm.Cond.code ({ cls := "com/example/stratal/stratal/logic/LayerReport", name := "isClash", desc := "(B)Z" } : Jvm.MethodName) prog_38_method_16_code (3 : Nat) (Option.some Jvm.ClassFile.FieldType.boolean), Jvm.Cond.code ({ cls := "java/lang/Integer", name := "bitCount", desc := "(I)I" } : Jvm.MethodName) jdk_33_method_49_code (1 : Nat) (Option.some Jvm.ClassFile.FieldType.int), Jvm.Cond.code ({ cls := "com/example/stratal/stratal/logic/Kind", name := "bit", desc := "()I" } : Jvm.MethodName) prog_35_method_7_code (1 : Nat) (Option.some Jvm.ClassFile.FieldType.int), Jvm.Cond.code ({ cls := "java/lang/Enum", name := "ordinal", desc := "()I" } : Jvm.MethodName) jdk_37_method_2_code (1 : Nat) (Option.some Jvm.ClassFile.FieldType.int), Jvm.Cond.code ({ cls := "com/example/stratal/stratal/logic/LayerReport", name := "isClash", desc := "(I)Z" } : Jvm.MethodName) prog_38_method_15_code (2 : Nat) (Option.some Jvm.ClassFile.FieldType.boolean), Jvm.Cond.code ({ cls := "com/example/stratal/stratal/logic/LayerReportIsClashPinLaw", name := "clash", desc := "(I)Z" } : Jvm.MethodName) method_3_code (7 : Nat) (Option.some Jvm.ClassFile.FieldType.boolean), Jvm.Cond.code ({ cls := "com/example/stratal/stratal/logic/LayerReportIsClashPinLaw", name := "expected", desc := "(IIII)Z" } : Jvm.MethodName) method_4_code (4 : Nat) (Option.some Jvm.ClassFile.FieldType.boolean)]
set_option maxRecDepth 65536 in
theorem codes_eq : words1.filter isCode = codes1 := rfl
theorem w_codes : ∀ c ∈ words1.filter isCode, c.before args0 about1 = true := by
  rw [codes_eq]
  intro c hc
  simp only [codes1, List.mem_cons, List.not_mem_nil, or_false] at hc
  rcases hc with rfl | rfl | rfl | rfl | rfl | rfl | rfl | rfl | rfl | rfl
  · exact w_c0
  · exact w_c1
  · exact w_c2
  · exact w_c3
  · exact w_c4
  · exact w_c5
  · exact w_c6
  · exact w_c7
  · exact w_c8
  · exact w_c9
set_option maxRecDepth 65536 in
theorem w_t1 : (words1.take 24).all (fun c => isCode c || c.before args0 about1) = true := by decide +kernel
set_option maxRecDepth 65536 in
theorem w_t2 : ((words1.drop 24).take 24).all (fun c => isCode c || c.before args0 about1) = true := by decide +kernel
set_option maxRecDepth 65536 in
theorem w_t3 : ((words1.drop 24).drop 24).all (fun c => isCode c || c.before args0 about1) = true := by decide +kernel
theorem w_tables : (allAtoms (Jvm.Cond.code x code maxLocals ret :: tables_1)).before args0 about1 = true := by
  rw [allAtoms_all]
  show words1.all (fun c => c.before args0 about1) = true
  refine all_split ?_ w_codes
  rw [← List.take_append_drop 24 words1, List.all_append, w_t1, ← List.take_append_drop 24 (words1.drop 24), List.all_append, w_t2, w_t3]
  rfl
set_option maxRecDepth 65536 in
theorem w_case : (Jvm.Cond.and given_1 narrow_1).before args0 about1 = true := by decide +kernel
theorem w_applies : (headSpec (Jvm.Cond.code x code maxLocals ret :: tables_1) room_1).applies x e0.platform about1 = true :=
  (Spec.applies_iff w_frames).mpr ⟨w_running, w_runnable, w_alone, w_named, w_hears, w_ripe, w_room, w_tables⟩
theorem atStart : AtStart classFile x code maxLocals ret World_1 tables_1 room_1 Calls_1 rest_1 Pre_1 launch0 p0 e0 about1 theMethod args0 below0 :=
  ⟨lists_1, trivial, launch0.admits_env _ _ _, launch0.least_env, fairChoices_fair.cas, fairChoices_fair.clock, w_frames, w_args, w_heap, w_applies, trivial, trivial, w_case⟩
end start1
theorem witness_1 : WitnessClaimed_1 := ⟨start1.p0, start1.e0, start1.about1, start1.theMethod, start1.args0, start1.below0, start1.atStart⟩
end Jvm.Pilot.@@N@@
