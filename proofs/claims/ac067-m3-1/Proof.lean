import JvmDerived
import JvmDerived.Pilot.@@N@@Statement
import JvmDerived.Pilot.@@N@@Code
set_option linter.unusedVariables false
set_option linter.unusedSimpArgs false
namespace Jvm.RoadKit
open Sem ClassFile Op Lib Jvm.Stand Jvm.Free Jvm.LawKit
section New
variable {p : Program} {l : Launch} {e : Env} {R : Room} {s : State} {m : MethodId} {args : Array Value} {below : List Frame} {meth : Method} {c : Code} {T : State} {locs : List Loc} {cells slots : Nat}
theorem retI (X : Stand p l e R s m args below meth c T locs cells slots) (hx : p.tables.exec = Jvm.exec) {pc : Nat} {Ls : Array Slot} {z : Int32} {rest : List Value} (hret : meth.sig.returnType = some .int) (hd : decode c.code pc = .ok (.ireturn, 1)) {fs : List Frame}
    (hl : ∀ (f : JFrame) (acts : List Action), f.method = m → f.locked = none → f.entered = [] → (doReturn e (T.setTop f) acts (some (.int z))).1 = T.setFrames fs) : Steps p.tables e below (T.setTop (mkF m pc Ls (.int z :: rest))) (T.setFrames fs) := by
  have hm' : T.vm.method? m = some meth := X.method'
  have hn : narrow .int (.int z) = .int z := rfl
  show Steps p.tables e below (T.setTop { method := m, pc := pc, locals := Ls, stack := _ :: rest, locked := none }) _
  jvm_step X.here [X.here.top, hx, hd, hm', hret, hn]
  first | (intro acts; rw [hl _ acts rfl rfl rfl]) | rw [hl _ _ rfl rfl rfl]
  exact Steps.refl _
end New
/-- from W the run comes to a state and an outcome of which K holds -/
def OwnEnds (tb : Tables) (e : Env) (below : List Frame) (K : State → Outcome → Prop) (W : State) : Prop := ∃ t o, Steps tb e below W t ∧ K t o
theorem OwnEnds.via {tb : Tables} {e : Env} {below : List Frame} {K : State → Outcome → Prop} {W W' : State} (f : ∀ t, Steps tb e below W' t → Steps tb e below W t) (h : OwnEnds tb e below K W') : OwnEnds tb e below K W := by
  obtain ⟨t, o, h1, h2⟩ := h
  exact ⟨t, o, f t h1, h2⟩
theorem own_selp {s : State} {args : Array Value} {y : MethodName} {n : Nat} (wi : (Cond.instantiable y.cls n).before args s = true) (hpriv : s.PrivateAt y) (hinst : (Cond.instanceMethod y).before args s = true) (hy : y.cls ≠ "java/lang/invoke/MethodHandle" ∧ y.cls ≠ "java/lang/invoke/VarHandle") : (Cond.selects y.cls y y).before args s = true := by
  obtain ⟨c, k, h1, h2, -, h4, -⟩ := Cond.instantiable_spec wi
  exact selects_self_of_private h1 h2 (Bool.or_eq_false_iff.mp h4).1 hpriv hinst hy
theorem OwnEnds.cut {tb : Tables} {e : Env} {below : List Frame} {K : State → Outcome → Prop} {W : State} (A : (State → Prop) → Prop) (h1 : A (OwnEnds tb e below K)) (h2 : A (OwnEnds tb e below K) → OwnEnds tb e below K W) : OwnEnds tb e below K W := h2 h1
end Jvm.RoadKit
namespace Jvm.Pilot.@@N@@
open Jvm Jvm.ClassFile Sem Op Lib Jvm.Free Jvm.Stand Jvm.LawKit Jvm.RoadKit Bundle Jvm.Pilot.@@N@@.Jvm.D
theorem d2_0 : decode prog_57_method_2_code 0 = .ok (.aload_n 0, 1) := by decide +kernel
theorem d2_1 : decode prog_57_method_2_code 1 = .ok (.invokespecial 7, 3) := by decide +kernel
theorem d2_4 : decode prog_57_method_2_code 4 = .ok (.aload_n 0, 1) := by decide +kernel
theorem d2_5 : decode prog_57_method_2_code 5 = .ok (.aload_n 1, 1) := by decide +kernel
theorem d2_6 : decode prog_57_method_2_code 6 = .ok (.putfield 12, 3) := by decide +kernel
theorem d2_9 : decode prog_57_method_2_code 9 = .ok (.aload_n 0, 1) := by decide +kernel
theorem d2_10 : decode prog_57_method_2_code 10 = .ok (.iload_n 2, 1) := by decide +kernel
theorem d2_11 : decode prog_57_method_2_code 11 = .ok (.putfield 16, 3) := by decide +kernel
theorem d2_14 : decode prog_57_method_2_code 14 = .ok (.aload_n 0, 1) := by decide +kernel
theorem d2_15 : decode prog_57_method_2_code 15 = .ok (.iload_n 3, 1) := by decide +kernel
theorem d2_16 : decode prog_57_method_2_code 16 = .ok (.putfield 20, 3) := by decide +kernel
theorem d2_19 : decode prog_57_method_2_code 19 = .ok (.return_, 1) := by decide +kernel
theorem pn_rm2 : plainName "com/example/birchwire/birchwire/protocol/BerReader" = true := by first | (simp [plainName, overriddenIn]; done) | decide +kernel
theorem ef_rm2 (m : MethodId) (a : Addr) (dd : Addr) (ps : Int32) (en : Int32) : entryFrame m #[(.ref a), (.ref dd), (.int ps), (.int en)] 4 = mkF m 0 #[.val (.ref a), .val (.ref dd), .val (.int ps), .val (.int en)] [] := by first | (simp [entryFrame, mkF, argsToLocals, Value.category]; done) | rfl
def Q2 (Z : State) (a : Addr) (dd : Addr) (ps : Int32) (en : Int32) (h0 : Heap) (n0 : Nat) (v : Option Value) (h : Heap) (L : List Loc) : Prop := v = none ∧ Fr n0 L ∧ Keep h0 h [a] ∧ Exa Z h a "com/example/birchwire/birchwire/protocol/BerReader" ∧ Fld Z h a "com/example/birchwire/birchwire/protocol/BerReader" "data" "[B" (.ref dd) ∧ Fld Z h a "com/example/birchwire/birchwire/protocol/BerReader" "position" "I" (.int ps) ∧ Fld Z h a "com/example/birchwire/birchwire/protocol/BerReader" "end" "I" (.int en)
set_option maxRecDepth 65536 in
set_option maxHeartbeats 40000000 in
theorem rm2 (l : Launch) (Z : State) (a0 : Array Value) (hw : ∀ d ∈ tables_1, d.before a0 Z = true) (ws : List Jvm.Cond) (a : Addr) (dd : Addr) (ps : Int32) (en : Int32) (h0 : Heap) (n0 : Nat) (Z0 : n0 ≤ h0.size) (P0 : Exa Z h0 a "com/example/birchwire/birchwire/protocol/BerReader") (P1 : Fld Z h0 a "com/example/birchwire/birchwire/protocol/BerReader" "data" "[B" .null) (P2 : Fld Z h0 a "com/example/birchwire/birchwire/protocol/BerReader" "position" "I" (.int (0 : Int32))) (P3 : Fld Z h0 a "com/example/birchwire/birchwire/protocol/BerReader" "end" "I" (.int (0 : Int32))) (P4 : n0 ≤ a) :
    MetFree l (⟨"com/example/birchwire/birchwire/protocol/BerReader", "<init>", "([BII)V"⟩ : MethodName) (head1 (Jvm.Cond.code (⟨"com/example/birchwire/birchwire/protocol/BerReader", "<init>", "([BII)V"⟩ : MethodName) prog_57_method_2_code 4 none :: ws) ({ frames := 1, cells := 0, slots := 0, locals := 12 } : Room)) (fun aa U => aa = #[(.ref a), (.ref dd), (.int ps), (.int en)] ∧ Z.Warmed39 U.vm ∧ U.heap = h0) (fun _ _ _ _ _ => True) (fun _ U o U' => ∃ v L, o = .returned v ∧ Q2 Z a dd ps en h0 n0 v U'.heap L ∧ FrameEnd U o U' L ({ frames := 1, cells := 0, slots := 0, locals := 12 } : Room).cells ({ frames := 1, cells := 0, slots := 0, locals := 12 } : Room).slots) := by
  refine MetFree.of_bodySF (plainFor_of_name pn_rm2) hisR ?_
  intro p e s m args below meth c s₁ Bd hml0 hP hK
  obtain ⟨rfl, hZ, hh⟩ := hP
  have hx := Bd.exec
  have hby := Bd.bytes
  have hml : c.maxLocals = 4 := hml0
  have hown : s.vm.findClass "com/example/birchwire/birchwire/protocol/BerReader" = some m.cls := findClass_of_methodNamed Bd.named
  have hnm := (name_of_methodNamed Bd.named Bd.method).1
  have X0 : Stand p l e ({ frames := 1, cells := 0, slots := 0, locals := 12 } : Room) s m #[(.ref a), (.ref dd), (.int ps), (.int en)] below meth c s₁ [] 0 0 := Stand.of_body Bd
  have e0 : s₁.heap = h0 := by rw [← hh, Bd.state]; rfl
  have N0 := Fr.nil n0
  change OwnEnds p.tables e below _ _
  refine OwnEnds.via (fun t k => castTop (ef_rm2 m a dd ps en) k) ?_
  show OwnEnds _ _ _ _ (s₁.setTop (mkF m 0 #[.val (.ref a), .val (.ref dd), .val (.int ps), .val (.int en)] []))
  refine OwnEnds.via (fun t k => XS.aloadN X0.here hx rfl (hb hby d2_0) rfl rfl k) ?_
  show OwnEnds _ _ _ _ (s₁.setTop (mkF m 1 #[.val (.ref a), .val (.ref dd), .val (.int ps), .val (.int en)] [(.ref a)]))
  obtain ⟨T1, X1, e1, st1⟩ := initO X0 hx hZ hown (hw _ (List.mem_of_getElem? (i := 11) rfl)) (hw _ (List.mem_of_getElem? (i := 12) rfl)) (hw _ (List.mem_of_getElem? (i := 13) rfl)) e0 (g := (mkF m 1 #[.val (.ref a), .val (.ref dd), .val (.int ps), .val (.int en)] [(.ref a)])) rfl (by rw [hml]; rfl) rfl (hb hby d2_1) (by decide) (W := 0) (by show 2 * 0 + _ ≤ _; exact Nat.le_of_eq rfl) (by decide)
  refine OwnEnds.via st1 ?_
  show OwnEnds _ _ _ _ (T1.setTop (mkF m 4 #[.val (.ref a), .val (.ref dd), .val (.int ps), .val (.int en)] []))
  refine OwnEnds.via (fun t k => XS.aloadN X1.here hx rfl (hb hby d2_4) rfl rfl k) ?_
  show OwnEnds _ _ _ _ (T1.setTop (mkF m 5 #[.val (.ref a), .val (.ref dd), .val (.int ps), .val (.int en)] [(.ref a)]))
  refine OwnEnds.via (fun t k => XS.aloadN X1.here hx rfl (hb hby d2_5) rfl rfl k) ?_
  show OwnEnds _ _ _ _ (T1.setTop (mkF m 6 #[.val (.ref a), .val (.ref dd), .val (.int ps), .val (.int en)] [(.ref dd), (.ref a)]))
  obtain ⟨T2, h2, X2, e2, W2, st2⟩ := putF X1 hx hZ hown (host := "") (Or.inl (hw _ (List.mem_of_getElem? (i := 14) rfl))) Via.refl e1 P1 P0 (Or.inr ⟨(hw _ (List.mem_of_getElem? (i := 15) rfl)), rfl, hnm⟩) (hw _ (List.mem_of_getElem? (i := 3) rfl)) (ty := (.array .byte)) (by decide) rfl rfl (g := (mkF m 6 #[.val (.ref a), .val (.ref dd), .val (.int ps), .val (.int en)] [(.ref dd), (.ref a)])) rfl rfl (hb hby d2_6)
  have Fw2 : Fld Z h2 a "com/example/birchwire/birchwire/protocol/BerReader" "data" "[B" (.ref dd) := P1.same W2
  have N2 := Fr.snoc X2 N0 P4
  have Z2 : n0 ≤ h2.size := Nat.le_trans Z0 (Nat.le_of_eq W2.size.symm)
  have K2 : Keep h0 h2 [a] := (Keep.refl h0 [a]).wr W2 (Or.inl (by simp))
  refine OwnEnds.via st2 ?_
  show OwnEnds _ _ _ _ (T2.setTop (mkF m 9 #[.val (.ref a), .val (.ref dd), .val (.int ps), .val (.int en)] []))
  refine OwnEnds.via (fun t k => XS.aloadN X2.here hx rfl (hb hby d2_9) rfl rfl k) ?_
  show OwnEnds _ _ _ _ (T2.setTop (mkF m 10 #[.val (.ref a), .val (.ref dd), .val (.int ps), .val (.int en)] [(.ref a)]))
  refine OwnEnds.via (fun t k => XS.iloadN X2.here hx rfl (hb hby d2_10) rfl k) ?_
  show OwnEnds _ _ _ _ (T2.setTop (mkF m 11 #[.val (.ref a), .val (.ref dd), .val (.int ps), .val (.int en)] [(.int ps), (.ref a)]))
  obtain ⟨T3, h3, X3, e3, W3, st3⟩ := putF X2 hx hZ hown (host := "") (Or.inl (hw _ (List.mem_of_getElem? (i := 16) rfl))) Via.refl e2 (P2.other W2 (Or.inr (slot_ne (Or.inl (hw _ (List.mem_of_getElem? (i := 17) rfl))) (Or.inr (hw _ (List.mem_of_getElem? (i := 15) rfl))) (by decide) (t := .int) (t' := (.array .byte)) (by decide) (by decide)))) (P0.wr W2) (Or.inl (hw _ (List.mem_of_getElem? (i := 17) rfl))) (hw _ (List.mem_of_getElem? (i := 3) rfl)) (ty := .int) (by decide) rfl rfl (g := (mkF m 11 #[.val (.ref a), .val (.ref dd), .val (.int ps), .val (.int en)] [(.int ps), (.ref a)])) rfl rfl (hb hby d2_11)
  have Fw3 : Fld Z h3 a "com/example/birchwire/birchwire/protocol/BerReader" "position" "I" (.int ps) := (P2.other W2 (Or.inr (slot_ne (Or.inl (hw _ (List.mem_of_getElem? (i := 17) rfl))) (Or.inr (hw _ (List.mem_of_getElem? (i := 15) rfl))) (by decide) (t := .int) (t' := (.array .byte)) (by decide) (by decide)))).same W3
  have N3 := Fr.snoc X3 N2 P4
  have Z3 : n0 ≤ h3.size := Nat.le_trans Z2 (Nat.le_of_eq W3.size.symm)
  have K3 : Keep h0 h3 [a] := K2.wr W3 (Or.inl (by simp))
  refine OwnEnds.via st3 ?_
  show OwnEnds _ _ _ _ (T3.setTop (mkF m 14 #[.val (.ref a), .val (.ref dd), .val (.int ps), .val (.int en)] []))
  refine OwnEnds.via (fun t k => XS.aloadN X3.here hx rfl (hb hby d2_14) rfl rfl k) ?_
  show OwnEnds _ _ _ _ (T3.setTop (mkF m 15 #[.val (.ref a), .val (.ref dd), .val (.int ps), .val (.int en)] [(.ref a)]))
  refine OwnEnds.via (fun t k => XS.iloadN X3.here hx rfl (hb hby d2_15) rfl k) ?_
  show OwnEnds _ _ _ _ (T3.setTop (mkF m 16 #[.val (.ref a), .val (.ref dd), .val (.int ps), .val (.int en)] [(.int en), (.ref a)]))
  obtain ⟨T4, h4, X4, e4, W4, st4⟩ := putF X3 hx hZ hown (host := "") (Or.inl (hw _ (List.mem_of_getElem? (i := 18) rfl))) Via.refl e3 ((P3.other W2 (Or.inr (slot_ne (Or.inr (hw _ (List.mem_of_getElem? (i := 19) rfl))) (Or.inr (hw _ (List.mem_of_getElem? (i := 15) rfl))) (by decide) (t := .int) (t' := (.array .byte)) (by decide) (by decide)))).other W3 (Or.inr (slot_ne (Or.inr (hw _ (List.mem_of_getElem? (i := 19) rfl))) (Or.inl (hw _ (List.mem_of_getElem? (i := 17) rfl))) (by decide) (t := .int) (t' := .int) (by decide) (by decide)))) ((P0.wr W2).wr W3) (Or.inr ⟨(hw _ (List.mem_of_getElem? (i := 19) rfl)), rfl, hnm⟩) (hw _ (List.mem_of_getElem? (i := 3) rfl)) (ty := .int) (by decide) rfl rfl (g := (mkF m 16 #[.val (.ref a), .val (.ref dd), .val (.int ps), .val (.int en)] [(.int en), (.ref a)])) rfl rfl (hb hby d2_16)
  have Fw4 : Fld Z h4 a "com/example/birchwire/birchwire/protocol/BerReader" "end" "I" (.int en) := ((P3.other W2 (Or.inr (slot_ne (Or.inr (hw _ (List.mem_of_getElem? (i := 19) rfl))) (Or.inr (hw _ (List.mem_of_getElem? (i := 15) rfl))) (by decide) (t := .int) (t' := (.array .byte)) (by decide) (by decide)))).other W3 (Or.inr (slot_ne (Or.inr (hw _ (List.mem_of_getElem? (i := 19) rfl))) (Or.inl (hw _ (List.mem_of_getElem? (i := 17) rfl))) (by decide) (t := .int) (t' := .int) (by decide) (by decide)))).same W4
  have N4 := Fr.snoc X4 N3 P4
  have Z4 : n0 ≤ h4.size := Nat.le_trans Z3 (Nat.le_of_eq W4.size.symm)
  have K4 : Keep h0 h4 [a] := K3.wr W4 (Or.inl (by simp))
  refine OwnEnds.via st4 ?_
  show OwnEnds _ _ _ _ (T4.setTop (mkF m 19 #[.val (.ref a), .val (.ref dd), .val (.int ps), .val (.int en)] []))
  obtain ⟨fs, hr, hrun, hended, hW, hsame⟩ := X4.leave (v := none) (fun _ => rfl)
  refine ⟨_, _, ?_, hrun, hended, _, _, rfl, ?_, ⟨_, rfl⟩, hW, hsame.mono (by decide) (by decide)⟩
  · exact X4.returnOut hx Bd.returns (hb hby d2_19) hr
  · show Q2 Z a dd ps en h0 n0 _ T4.heap _
    rw [e4]
    exact ⟨rfl, N4, K4, (((P0.wr W2).wr W3).wr W4), ((Fw2.other W3 (Or.inr (slot_ne (Or.inr (hw _ (List.mem_of_getElem? (i := 15) rfl))) (Or.inl (hw _ (List.mem_of_getElem? (i := 17) rfl))) (by decide) (t := (.array .byte)) (t' := .int) (by decide) (by decide)))).other W4 (Or.inr (slot_ne (Or.inr (hw _ (List.mem_of_getElem? (i := 15) rfl))) (Or.inr (hw _ (List.mem_of_getElem? (i := 19) rfl))) (by decide) (t := (.array .byte)) (t' := .int) (by decide) (by decide)))), (Fw3.other W4 (Or.inr (slot_ne (Or.inl (hw _ (List.mem_of_getElem? (i := 17) rfl))) (Or.inr (hw _ (List.mem_of_getElem? (i := 19) rfl))) (by decide) (t := .int) (t' := .int) (by decide) (by decide)))), Fw4⟩

theorem d1_0 : decode prog_57_method_1_code 0 = .ok (.aload_n 0, 1) := by decide +kernel
theorem d1_1 : decode prog_57_method_1_code 1 = .ok (.aload_n 1, 1) := by decide +kernel
theorem d1_2 : decode prog_57_method_1_code 2 = .ok (.iconst 0, 1) := by decide +kernel
theorem d1_3 : decode prog_57_method_1_code 3 = .ok (.aload_n 1, 1) := by decide +kernel
theorem d1_4 : decode prog_57_method_1_code 4 = .ok (.arraylength, 1) := by decide +kernel
theorem d1_5 : decode prog_57_method_1_code 5 = .ok (.invokespecial 1, 3) := by decide +kernel
theorem d1_8 : decode prog_57_method_1_code 8 = .ok (.return_, 1) := by decide +kernel
theorem pn_rm1 : plainName "com/example/birchwire/birchwire/protocol/BerReader" = true := by first | (simp [plainName, overriddenIn]; done) | decide +kernel
theorem pd_0 : parseMethodDescriptor "([BII)V" = some ⟨[(.array .byte), .int, .int], none⟩ := by decide +kernel
theorem ef_rm1 (m : MethodId) (a : Addr) (dd : Addr) : entryFrame m #[(.ref a), (.ref dd)] 2 = mkF m 0 #[.val (.ref a), .val (.ref dd)] [] := by first | (simp [entryFrame, mkF, argsToLocals, Value.category]; done) | rfl
def Q1 (Z : State) (a : Addr) (dd : Addr) (kd : ClassId) (x0 : Int32) (x1 : Int32) (x2 : Int32) (x3 : Int32) (x4 : Int32) (h0 : Heap) (n0 : Nat) (v : Option Value) (h : Heap) (L : List Loc) : Prop := v = none ∧ Fr n0 L ∧ Keep h0 h [a] ∧ Exa Z h a "com/example/birchwire/birchwire/protocol/BerReader" ∧ Fld Z h a "com/example/birchwire/birchwire/protocol/BerReader" "data" "[B" (.ref dd) ∧ Fld Z h a "com/example/birchwire/birchwire/protocol/BerReader" "position" "I" (.int (0 : Int32)) ∧ Fld Z h a "com/example/birchwire/birchwire/protocol/BerReader" "end" "I" (.int (5 : Int32))
set_option maxRecDepth 65536 in
set_option maxHeartbeats 40000000 in
theorem rm1 (l : Launch) (Z : State) (a0 : Array Value) (hw : ∀ d ∈ tables_1, d.before a0 Z = true) (ws : List Jvm.Cond) (a : Addr) (dd : Addr) (kd : ClassId) (x0 : Int32) (x1 : Int32) (x2 : Int32) (x3 : Int32) (x4 : Int32) (h0 : Heap) (n0 : Nat) (Z0 : n0 ≤ h0.size) (P0 : Exa Z h0 a "com/example/birchwire/birchwire/protocol/BerReader") (P1 : Fld Z h0 a "com/example/birchwire/birchwire/protocol/BerReader" "data" "[B" .null) (P2 : Fld Z h0 a "com/example/birchwire/birchwire/protocol/BerReader" "position" "I" (.int (0 : Int32))) (P3 : Fld Z h0 a "com/example/birchwire/birchwire/protocol/BerReader" "end" "I" (.int (0 : Int32))) (P4 : n0 ≤ a) (P5 : Arv Z h0 dd kd .byte (5 : Int32) [(.int x0), (.int x1), (.int x2), (.int x3), (.int x4)] (.int (0 : Int32))) :
    MetFree l (⟨"com/example/birchwire/birchwire/protocol/BerReader", "<init>", "([B)V"⟩ : MethodName) (head1 (Jvm.Cond.code (⟨"com/example/birchwire/birchwire/protocol/BerReader", "<init>", "([B)V"⟩ : MethodName) prog_57_method_1_code 2 none :: ws) ({ frames := 2, cells := 0, slots := 0, locals := 27 } : Room)) (fun aa U => aa = #[(.ref a), (.ref dd)] ∧ Z.Warmed39 U.vm ∧ U.heap = h0) (fun _ _ _ _ _ => True) (fun _ U o U' => ∃ v L, o = .returned v ∧ Q1 Z a dd kd x0 x1 x2 x3 x4 h0 n0 v U'.heap L ∧ FrameEnd U o U' L ({ frames := 2, cells := 0, slots := 0, locals := 27 } : Room).cells ({ frames := 2, cells := 0, slots := 0, locals := 27 } : Room).slots) := by
  refine MetFree.of_bodySF (plainFor_of_name pn_rm1) hisR ?_
  intro p e s m args below meth c s₁ Bd hml0 hP hK
  obtain ⟨rfl, hZ, hh⟩ := hP
  have hx := Bd.exec
  have hby := Bd.bytes
  have hml : c.maxLocals = 2 := hml0
  have hown : s.vm.findClass "com/example/birchwire/birchwire/protocol/BerReader" = some m.cls := findClass_of_methodNamed Bd.named
  have hnm := (name_of_methodNamed Bd.named Bd.method).1
  have X0 : Stand p l e ({ frames := 2, cells := 0, slots := 0, locals := 27 } : Room) s m #[(.ref a), (.ref dd)] below meth c s₁ [] 0 0 := Stand.of_body Bd
  have e0 : s₁.heap = h0 := by rw [← hh, Bd.state]; rfl
  have N0 := Fr.nil n0
  change OwnEnds p.tables e below _ _
  refine OwnEnds.via (fun t k => castTop (ef_rm1 m a dd) k) ?_
  show OwnEnds _ _ _ _ (s₁.setTop (mkF m 0 #[.val (.ref a), .val (.ref dd)] []))
  refine OwnEnds.via (fun t k => XS.aloadN X0.here hx rfl (hb hby d1_0) rfl rfl k) ?_
  show OwnEnds _ _ _ _ (s₁.setTop (mkF m 1 #[.val (.ref a), .val (.ref dd)] [(.ref a)]))
  refine OwnEnds.via (fun t k => XS.aloadN X0.here hx rfl (hb hby d1_1) rfl rfl k) ?_
  show OwnEnds _ _ _ _ (s₁.setTop (mkF m 2 #[.val (.ref a), .val (.ref dd)] [(.ref dd), (.ref a)]))
  refine OwnEnds.via (fun t k => XS.iconst X0.here hx rfl (hb hby d1_2) k) ?_
  show OwnEnds _ _ _ _ (s₁.setTop (mkF m 3 #[.val (.ref a), .val (.ref dd)] [(.int (0 : Int32)), (.ref dd), (.ref a)]))
  refine OwnEnds.via (fun t k => XS.aloadN X0.here hx rfl (hb hby d1_3) rfl rfl k) ?_
  show OwnEnds _ _ _ _ (s₁.setTop (mkF m 4 #[.val (.ref a), .val (.ref dd)] [(.ref dd), (.int (0 : Int32)), (.ref dd), (.ref a)]))
  obtain ⟨cl1, Ar1, q1, S1, M1, H1, G1⟩ := id P5
  refine OwnEnds.via (X0.arraylength hx (by rw [e0]; exact Ar1.1) (State.isArrayOf_alike hZ.alike Ar1.2.1) (g := (mkF m 4 #[.val (.ref a), .val (.ref dd)] [(.ref dd), (.int (0 : Int32)), (.ref dd), (.ref a)])) rfl rfl (hb hby d1_4)) ?_
  rw [len_of S1 M1]
  show OwnEnds _ _ _ _ (s₁.setTop (mkF m 5 #[.val (.ref a), .val (.ref dd)] [(.int (5 : Int32)), (.int (0 : Int32)), (.ref dd), (.ref a)]))
  obtain ⟨_, _, ⟨T2, L2, k2, n2⟩, -, X2, ⟨Lc2, hQ2, l2, y2, z2⟩, st2⟩ := X0.specialBack hx (y := (⟨"com/example/birchwire/birchwire/protocol/BerReader", "<init>", "([BII)V"⟩ : MethodName)) rfl hown (mvT hZ (hw _ (List.mem_of_getElem? (i := 8) rfl))) (mvT hZ (hw _ (List.mem_of_getElem? (i := 9) rfl))) (mvT hZ (hw _ (List.mem_of_getElem? (i := 10) rfl))) (by decide) (backOf (W := 0) (rm2 l Z a0 hw [] a dd (0 : Int32) (5 : Int32) h0 n0 Z0 P0 P1 P2 P3 P4) hZ (hw _ (List.mem_of_getElem? (i := 10) rfl)) (hw _ (List.mem_of_getElem? (i := 4) rfl)) (by decide) (by decide)) (g := (mkF m 5 #[.val (.ref a), .val (.ref dd)] [(.int (5 : Int32)), (.int (0 : Int32)), (.ref dd), (.ref a)])) rfl (by rw [hml]; rfl) (Steps.refl _) (a := a) (argsL := [(.ref dd), (.int (0 : Int32)), (.int (5 : Int32))]) (rest := []) (lenOf pd_0 rfl) rfl (by show 2 * 0 + _ ≤ _; exact Nat.le_of_eq rfl) (hb hby d1_5) (fun _ _ => ⟨rfl, e0, (by decide : 0 + 0 ≤ _), (by decide : 0 + 0 ≤ _)⟩)
  dsimp only [Pt.U, Pt.locs, Pt.cells, Pt.slots] at X2 l2 y2 z2 st2 hQ2
  subst l2 y2 z2
  obtain ⟨h2, e2⟩ : ∃ z, T2.heap = z := ⟨_, rfl⟩
  rw [e2] at hQ2
  obtain ⟨rfl, Nq2, Kq2, q2_0, q2_1, q2_2, q2_3⟩ := hQ2
  have Z2 : n0 ≤ h2.size := Nat.le_trans Z0 Kq2.1
  have K2 : Keep h0 h2 [a] := (Keep.refl h0 [a]).trans Kq2 (allS (Or.inl (by simp)) all0)
  have N2 := Fr.app N0 Nq2
  refine OwnEnds.via (fun t k => st2.trans k) ?_
  show OwnEnds _ _ _ _ (T2.setTop (mkF m 8 #[.val (.ref a), .val (.ref dd)] []))
  obtain ⟨fs, hr, hrun, hended, hW, hsame⟩ := X2.leave (v := none) (fun _ => rfl)
  refine ⟨_, _, ?_, hrun, hended, _, _, rfl, ?_, ⟨_, rfl⟩, hW, hsame.mono (by decide) (by decide)⟩
  · exact X2.returnOut hx Bd.returns (hb hby d1_8) hr
  · show Q1 Z a dd kd x0 x1 x2 x3 x4 h0 n0 _ T2.heap _
    rw [e2]
    exact ⟨rfl, N2, K2, q2_0, q2_1, q2_2, q2_3⟩

theorem d4_0 : decode prog_57_method_4_code 0 = .ok (.aload_n 0, 1) := by decide +kernel
theorem d4_1 : decode prog_57_method_4_code 1 = .ok (.getfield 16, 3) := by decide +kernel
theorem d4_4 : decode prog_57_method_4_code 4 = .ok (.aload_n 0, 1) := by decide +kernel
theorem d4_5 : decode prog_57_method_4_code 5 = .ok (.getfield 20, 3) := by decide +kernel
theorem d4_8 : decode prog_57_method_4_code 8 = .ok (.if_icmp .ge 7, 3) := by decide +kernel
theorem d4_11 : decode prog_57_method_4_code 11 = .ok (.iconst 1, 1) := by decide +kernel
theorem d4_12 : decode prog_57_method_4_code 12 = .ok (.goto 4, 3) := by decide +kernel
theorem d4_15 : decode prog_57_method_4_code 15 = .ok (.iconst 0, 1) := by decide +kernel
theorem d4_16 : decode prog_57_method_4_code 16 = .ok (.ireturn, 1) := by decide +kernel
theorem pn_rm4 : plainName "com/example/birchwire/birchwire/protocol/BerReader" = true := by first | (simp [plainName, overriddenIn]; done) | decide +kernel
theorem ef_rm4 (m : MethodId) (a : Addr) : entryFrame m #[(.ref a)] 1 = mkF m 0 #[.val (.ref a)] [] := by first | (simp [entryFrame, mkF, argsToLocals, Value.category]; done) | rfl
def Q4 (Z : State) (a : Addr) (ps : Int32) (en : Int32) (h0 : Heap) (n0 : Nat) (v : Option Value) (h : Heap) (L : List Loc) : Prop := v = some (.int (if ps < en then (1 : Int32) else (0 : Int32))) ∧ Fr n0 L ∧ h = h0
set_option maxRecDepth 65536 in
set_option maxHeartbeats 40000000 in
theorem rm4 (l : Launch) (Z : State) (a0 : Array Value) (hw : ∀ d ∈ tables_1, d.before a0 Z = true) (ws : List Jvm.Cond) (a : Addr) (ps : Int32) (en : Int32) (h0 : Heap) (n0 : Nat) (Z0 : n0 ≤ h0.size) (P0 : Fld Z h0 a "com/example/birchwire/birchwire/protocol/BerReader" "position" "I" (.int ps)) (P1 : Fld Z h0 a "com/example/birchwire/birchwire/protocol/BerReader" "end" "I" (.int en)) :
    MetFree l (⟨"com/example/birchwire/birchwire/protocol/BerReader", "hasRemaining", "()Z"⟩ : MethodName) (head1 (Jvm.Cond.code (⟨"com/example/birchwire/birchwire/protocol/BerReader", "hasRemaining", "()Z"⟩ : MethodName) prog_57_method_4_code 1 (some .boolean) :: ws) ({ frames := 0, cells := 0, slots := 0, locals := 0 } : Room)) (fun aa U => aa = #[(.ref a)] ∧ Z.Warmed39 U.vm ∧ U.heap = h0) (fun _ _ _ _ _ => True) (fun _ U o U' => ∃ v L, o = .returned v ∧ Q4 Z a ps en h0 n0 v U'.heap L ∧ FrameEnd U o U' L ({ frames := 0, cells := 0, slots := 0, locals := 0 } : Room).cells ({ frames := 0, cells := 0, slots := 0, locals := 0 } : Room).slots) := by
  refine MetFree.of_bodySF (plainFor_of_name pn_rm4) hisR ?_
  intro p e s m args below meth c s₁ Bd hml0 hP hK
  obtain ⟨rfl, hZ, hh⟩ := hP
  have hx := Bd.exec
  have hby := Bd.bytes
  have hml : c.maxLocals = 1 := hml0
  have hown : s.vm.findClass "com/example/birchwire/birchwire/protocol/BerReader" = some m.cls := findClass_of_methodNamed Bd.named
  have hnm := (name_of_methodNamed Bd.named Bd.method).1
  have X0 : Stand p l e ({ frames := 0, cells := 0, slots := 0, locals := 0 } : Room) s m #[(.ref a)] below meth c s₁ [] 0 0 := Stand.of_body Bd
  have e0 : s₁.heap = h0 := by rw [← hh, Bd.state]; rfl
  have N0 := Fr.nil n0
  change OwnEnds p.tables e below _ _
  refine OwnEnds.via (fun t k => castTop (ef_rm4 m a) k) ?_
  show OwnEnds _ _ _ _ (s₁.setTop (mkF m 0 #[.val (.ref a)] []))
  refine OwnEnds.via (fun t k => XS.aloadN X0.here hx rfl (hb hby d4_0) rfl rfl k) ?_
  show OwnEnds _ _ _ _ (s₁.setTop (mkF m 1 #[.val (.ref a)] [(.ref a)]))
  obtain ⟨T1, X1, e1, st1⟩ := getF X0 hx hZ hown (host := "") (Or.inl (hw _ (List.mem_of_getElem? (i := 16) rfl))) Via.refl e0 P0 (g := (mkF m 1 #[.val (.ref a)] [(.ref a)])) rfl rfl (hb hby d4_1)
  refine OwnEnds.via st1 ?_
  show OwnEnds _ _ _ _ (T1.setTop (mkF m 4 #[.val (.ref a)] [(.int ps)]))
  refine OwnEnds.via (fun t k => XS.aloadN X1.here hx rfl (hb hby d4_4) rfl rfl k) ?_
  show OwnEnds _ _ _ _ (T1.setTop (mkF m 5 #[.val (.ref a)] [(.ref a), (.int ps)]))
  obtain ⟨T2, X2, e2, st2⟩ := getF X1 hx hZ hown (host := "") (Or.inl (hw _ (List.mem_of_getElem? (i := 18) rfl))) Via.refl e1 P1 (g := (mkF m 5 #[.val (.ref a)] [(.ref a), (.int ps)])) rfl rfl (hb hby d4_5)
  refine OwnEnds.via st2 ?_
  show OwnEnds _ _ _ _ (T2.setTop (mkF m 8 #[.val (.ref a)] [(.int en), (.int ps)]))
  by_cases hc8_3 : ps < en
  ·
    refine OwnEnds.via (fun t k => XS.icmpNo X2.here hx rfl (hb hby d4_8) rfl (tlt hc8_3).2.1 k) ?_
    show OwnEnds _ _ _ _ (T2.setTop (mkF m 11 #[.val (.ref a)] []))
    refine OwnEnds.via (fun t k => XS.iconst X2.here hx rfl (hb hby d4_11) k) ?_
    show OwnEnds _ _ _ _ (T2.setTop (mkF m 12 #[.val (.ref a)] [(.int (1 : Int32))]))
    refine OwnEnds.via (fun t k => XS.goto X2.here hx rfl (pc0 := 12) (pc' := 16) rfl (hb hby d4_12) (by decide) (by decide) k) ?_
    show OwnEnds _ _ _ _ (T2.setTop (mkF m 16 #[.val (.ref a)] [(.int (1 : Int32))]))
    obtain ⟨fs, hr, hrun, hended, hW, hsame⟩ := X2.leave (v := some (.int (1 : Int32))) (fun h => by rw [Bd.returns] at h; cases h)
    refine ⟨_, _, ?_, hrun, hended, _, _, rfl, ?_, ⟨_, rfl⟩, hW, hsame.mono (by decide) (by decide)⟩
    · exact retN X2 hx (t := .boolean) Bd.returns (by simp) (hb hby d4_16) hr
    · show Q4 Z a ps en h0 n0 _ T2.heap _
      rw [e2]
      exact ⟨(by rw [if_pos hc8_3]), N0, rfl⟩
  ·
    refine OwnEnds.via (fun t k => XS.icmpYes X2.here hx rfl (pc0 := 8) (pc' := 15) rfl (hb hby d4_8) rfl (flt hc8_3).2.1 (by decide) (by decide) k) ?_
    show OwnEnds _ _ _ _ (T2.setTop (mkF m 15 #[.val (.ref a)] []))
    refine OwnEnds.via (fun t k => XS.iconst X2.here hx rfl (hb hby d4_15) k) ?_
    show OwnEnds _ _ _ _ (T2.setTop (mkF m 16 #[.val (.ref a)] [(.int (0 : Int32))]))
    obtain ⟨fs, hr, hrun, hended, hW, hsame⟩ := X2.leave (v := some (.int (0 : Int32))) (fun h => by rw [Bd.returns] at h; cases h)
    refine ⟨_, _, ?_, hrun, hended, _, _, rfl, ?_, ⟨_, rfl⟩, hW, hsame.mono (by decide) (by decide)⟩
    · exact retN X2 hx (t := .boolean) Bd.returns (by simp) (hb hby d4_16) hr
    · show Q4 Z a ps en h0 n0 _ T2.heap _
      rw [e2]
      exact ⟨(by rw [if_neg hc8_3]), N0, rfl⟩

theorem d7_0 : decode prog_57_method_17_code 0 = .ok (.iload_n 0, 1) := by decide +kernel
theorem d7_1 : decode prog_57_method_17_code 1 = .ok (.bipush 31, 2) := by decide +kernel
theorem d7_3 : decode prog_57_method_17_code 3 = .ok (.iand, 1) := by decide +kernel
theorem d7_4 : decode prog_57_method_17_code 4 = .ok (.bipush 31, 2) := by decide +kernel
theorem d7_6 : decode prog_57_method_17_code 6 = .ok (.if_icmp .ne 13, 3) := by decide +kernel
theorem d7_19 : decode prog_57_method_17_code 19 = .ok (.iload_n 0, 1) := by decide +kernel
theorem d7_20 : decode prog_57_method_17_code 20 = .ok (.ireturn, 1) := by decide +kernel
theorem pn_rm7 : plainName "com/example/birchwire/birchwire/protocol/BerReader" = true := by first | (simp [plainName, overriddenIn]; done) | decide +kernel
theorem ef_rm7 (m : MethodId) (tg : Int32) : entryFrame m #[(.int tg)] 1 = mkF m 0 #[.val (.int tg)] [] := by first | (simp [entryFrame, mkF, argsToLocals, Value.category]; done) | rfl
def Q7 (Z : State) (tg : Int32) (h0 : Heap) (n0 : Nat) (v : Option Value) (h : Heap) (L : List Loc) : Prop := v = some (.int tg) ∧ Fr n0 L ∧ h = h0
set_option maxRecDepth 65536 in
set_option maxHeartbeats 40000000 in
theorem rm7 (l : Launch) (Z : State) (a0 : Array Value) (hw : ∀ d ∈ tables_1, d.before a0 Z = true) (ws : List Jvm.Cond) (tg : Int32) (h0 : Heap) (n0 : Nat) (Z0 : n0 ≤ h0.size) (P0 : ¬ (tg &&& (31 : Int32)) = (31 : Int32)) :
    MetFree l (⟨"com/example/birchwire/birchwire/protocol/BerReader", "checkTag", "(I)I"⟩ : MethodName) (head1 (Jvm.Cond.code (⟨"com/example/birchwire/birchwire/protocol/BerReader", "checkTag", "(I)I"⟩ : MethodName) prog_57_method_17_code 1 (some .int) :: ws) ({ frames := 0, cells := 0, slots := 0, locals := 0 } : Room)) (fun aa U => aa = #[(.int tg)] ∧ Z.Warmed39 U.vm ∧ U.heap = h0) (fun _ _ _ _ _ => True) (fun _ U o U' => ∃ v L, o = .returned v ∧ Q7 Z tg h0 n0 v U'.heap L ∧ FrameEnd U o U' L ({ frames := 0, cells := 0, slots := 0, locals := 0 } : Room).cells ({ frames := 0, cells := 0, slots := 0, locals := 0 } : Room).slots) := by
  refine MetFree.of_bodySF (plainFor_of_name pn_rm7) hisR ?_
  intro p e s m args below meth c s₁ Bd hml0 hP hK
  obtain ⟨rfl, hZ, hh⟩ := hP
  have hx := Bd.exec
  have hby := Bd.bytes
  have hml : c.maxLocals = 1 := hml0
  have hown : s.vm.findClass "com/example/birchwire/birchwire/protocol/BerReader" = some m.cls := findClass_of_methodNamed Bd.named
  have hnm := (name_of_methodNamed Bd.named Bd.method).1
  have X0 : Stand p l e ({ frames := 0, cells := 0, slots := 0, locals := 0 } : Room) s m #[(.int tg)] below meth c s₁ [] 0 0 := Stand.of_body Bd
  have e0 : s₁.heap = h0 := by rw [← hh, Bd.state]; rfl
  have N0 := Fr.nil n0
  change OwnEnds p.tables e below _ _
  refine OwnEnds.via (fun t k => castTop (ef_rm7 m tg) k) ?_
  show OwnEnds _ _ _ _ (s₁.setTop (mkF m 0 #[.val (.int tg)] []))
  refine OwnEnds.via (fun t k => XS.iloadN X0.here hx rfl (hb hby d7_0) rfl k) ?_
  show OwnEnds _ _ _ _ (s₁.setTop (mkF m 1 #[.val (.int tg)] [(.int tg)]))
  refine OwnEnds.via (fun t k => XS.bipush X0.here hx rfl (hb hby d7_1) k) ?_
  show OwnEnds _ _ _ _ (s₁.setTop (mkF m 3 #[.val (.int tg)] [(.int (31 : Int32)), (.int tg)]))
  refine OwnEnds.via (fun t k => XS.iand X0.here hx rfl (hb hby d7_3) rfl k) ?_
  show OwnEnds _ _ _ _ (s₁.setTop (mkF m 4 #[.val (.int tg)] [(.int (tg &&& (31 : Int32)))]))
  refine OwnEnds.via (fun t k => XS.bipush X0.here hx rfl (hb hby d7_4) k) ?_
  show OwnEnds _ _ _ _ (s₁.setTop (mkF m 6 #[.val (.int tg)] [(.int (31 : Int32)), (.int (tg &&& (31 : Int32)))]))
  refine OwnEnds.via (fun t k => XS.icmpYes X0.here hx rfl (pc0 := 6) (pc' := 19) rfl (hb hby d7_6) rfl (feq P0).2 (by decide) (by decide) k) ?_
  show OwnEnds _ _ _ _ (s₁.setTop (mkF m 19 #[.val (.int tg)] []))
  refine OwnEnds.via (fun t k => XS.iloadN X0.here hx rfl (hb hby d7_19) rfl k) ?_
  show OwnEnds _ _ _ _ (s₁.setTop (mkF m 20 #[.val (.int tg)] [(.int tg)]))
  obtain ⟨fs, hr, hrun, hended, hW, hsame⟩ := X0.leave (v := some (.int tg)) (fun h => by rw [Bd.returns] at h; cases h)
  refine ⟨_, _, ?_, hrun, hended, _, _, rfl, ?_, ⟨_, rfl⟩, hW, hsame.mono (by decide) (by decide)⟩
  · exact retI X0 hx Bd.returns (hb hby d7_20) hr
  · show Q7 Z tg h0 n0 _ s₁.heap _
    rw [e0]
    exact ⟨rfl, N0, rfl⟩

theorem d6_0 : decode prog_57_method_5_code 0 = .ok (.aload_n 0, 1) := by decide +kernel
theorem d6_1 : decode prog_57_method_5_code 1 = .ok (.invokevirtual 44, 3) := by decide +kernel
theorem d6_4 : decode prog_57_method_5_code 4 = .ok (.ifCond .ne 13, 3) := by decide +kernel
theorem d6_17 : decode prog_57_method_5_code 17 = .ok (.aload_n 0, 1) := by decide +kernel
theorem d6_18 : decode prog_57_method_5_code 18 = .ok (.getfield 12, 3) := by decide +kernel
theorem d6_21 : decode prog_57_method_5_code 21 = .ok (.aload_n 0, 1) := by decide +kernel
theorem d6_22 : decode prog_57_method_5_code 22 = .ok (.getfield 16, 3) := by decide +kernel
theorem d6_25 : decode prog_57_method_5_code 25 = .ok (.baload, 1) := by decide +kernel
theorem d6_26 : decode prog_57_method_5_code 26 = .ok (.sipush 255, 3) := by decide +kernel
theorem d6_29 : decode prog_57_method_5_code 29 = .ok (.iand, 1) := by decide +kernel
theorem d6_30 : decode prog_57_method_5_code 30 = .ok (.invokestatic 23, 3) := by decide +kernel
theorem d6_33 : decode prog_57_method_5_code 33 = .ok (.ireturn, 1) := by decide +kernel
theorem pn_rm6 : plainName "com/example/birchwire/birchwire/protocol/BerReader" = true := by first | (simp [plainName, overriddenIn]; done) | decide +kernel
theorem pd_1 : parseMethodDescriptor "()Z" = some ⟨[], some .boolean⟩ := by decide +kernel
theorem pd_2 : parseMethodDescriptor "(I)I" = some ⟨[.int], some .int⟩ := by decide +kernel
theorem ef_rm6 (m : MethodId) (a : Addr) : entryFrame m #[(.ref a)] 1 = mkF m 0 #[.val (.ref a)] [] := by first | (simp [entryFrame, mkF, argsToLocals, Value.category]; done) | rfl
def Q6 (Z : State) (a : Addr) (dd : Addr) (kd : ClassId) (x0 : Int32) (x1 : Int32) (x2 : Int32) (x3 : Int32) (x4 : Int32) (tg : Int32) (h0 : Heap) (n0 : Nat) (v : Option Value) (h : Heap) (L : List Loc) : Prop := v = some (.int tg) ∧ Fr n0 L ∧ h = h0
set_option maxRecDepth 65536 in
set_option maxHeartbeats 40000000 in
theorem rm6 (l : Launch) (Z : State) (a0 : Array Value) (hw : ∀ d ∈ tables_1, d.before a0 Z = true) (ws : List Jvm.Cond) (a : Addr) (dd : Addr) (kd : ClassId) (x0 : Int32) (x1 : Int32) (x2 : Int32) (x3 : Int32) (x4 : Int32) (tg : Int32) (h0 : Heap) (n0 : Nat) (Z0 : n0 ≤ h0.size) (P0 : Exa Z h0 a "com/example/birchwire/birchwire/protocol/BerReader") (P1 : Fld Z h0 a "com/example/birchwire/birchwire/protocol/BerReader" "data" "[B" (.ref dd)) (P2 : Fld Z h0 a "com/example/birchwire/birchwire/protocol/BerReader" "position" "I" (.int (0 : Int32))) (P3 : Fld Z h0 a "com/example/birchwire/birchwire/protocol/BerReader" "end" "I" (.int (5 : Int32))) (P4 : Arv Z h0 dd kd .byte (5 : Int32) [(.int x0), (.int x1), (.int x2), (.int x3), (.int x4)] (.int (0 : Int32))) (P5 : (x0 &&& (255 : Int32)) = tg) (P6 : ¬ (tg &&& (31 : Int32)) = (31 : Int32)) :
    MetFree l (⟨"com/example/birchwire/birchwire/protocol/BerReader", "peekTag", "()I"⟩ : MethodName) (head1 (Jvm.Cond.code (⟨"com/example/birchwire/birchwire/protocol/BerReader", "peekTag", "()I"⟩ : MethodName) prog_57_method_5_code 1 (some .int) :: ws) ({ frames := 1, cells := 0, slots := 0, locals := 12 } : Room)) (fun aa U => aa = #[(.ref a)] ∧ Z.Warmed39 U.vm ∧ U.heap = h0) (fun _ _ _ _ _ => True) (fun _ U o U' => ∃ v L, o = .returned v ∧ Q6 Z a dd kd x0 x1 x2 x3 x4 tg h0 n0 v U'.heap L ∧ FrameEnd U o U' L ({ frames := 1, cells := 0, slots := 0, locals := 12 } : Room).cells ({ frames := 1, cells := 0, slots := 0, locals := 12 } : Room).slots) := by
  refine MetFree.of_bodySF (plainFor_of_name pn_rm6) hisR ?_
  intro p e s m args below meth c s₁ Bd hml0 hP hK
  obtain ⟨rfl, hZ, hh⟩ := hP
  have hx := Bd.exec
  have hby := Bd.bytes
  have hml : c.maxLocals = 1 := hml0
  have hown : s.vm.findClass "com/example/birchwire/birchwire/protocol/BerReader" = some m.cls := findClass_of_methodNamed Bd.named
  have hnm := (name_of_methodNamed Bd.named Bd.method).1
  have X0 : Stand p l e ({ frames := 1, cells := 0, slots := 0, locals := 12 } : Room) s m #[(.ref a)] below meth c s₁ [] 0 0 := Stand.of_body Bd
  have e0 : s₁.heap = h0 := by rw [← hh, Bd.state]; rfl
  have N0 := Fr.nil n0
  change OwnEnds p.tables e below _ _
  refine OwnEnds.via (fun t k => castTop (ef_rm6 m a) k) ?_
  show OwnEnds _ _ _ _ (s₁.setTop (mkF m 0 #[.val (.ref a)] []))
  refine OwnEnds.via (fun t k => XS.aloadN X0.here hx rfl (hb hby d6_0) rfl rfl k) ?_
  show OwnEnds _ _ _ _ (s₁.setTop (mkF m 1 #[.val (.ref a)] [(.ref a)]))
  obtain ⟨cq1, kq1, q1a, q1b, q1c⟩ := isOf hZ e0 P0
  obtain ⟨_, _, ⟨T1, L1, k1, n1⟩, -, X1, ⟨Lc1, hQ1, l1, y1, z1⟩, st1⟩ := X0.virtualBack hx (y := (⟨"com/example/birchwire/birchwire/protocol/BerReader", "hasRemaining", "()Z"⟩ : MethodName)) (z := (⟨"com/example/birchwire/birchwire/protocol/BerReader", "hasRemaining", "()Z"⟩ : MethodName)) hown (mvT hZ (hw _ (List.mem_of_getElem? (i := 35) rfl))) (mvT hZ (hw _ (List.mem_of_getElem? (i := 21) rfl))) (notFace_of_selects (args := #[]) (mvT hZ (hw _ (List.mem_of_getElem? (i := 23) rfl)))) (mvT hZ (hw _ (List.mem_of_getElem? (i := 23) rfl))) (mvT hZ (hw _ (List.mem_of_getElem? (i := 22) rfl))) (by decide) (backOf (W := 0) (rm4 l Z a0 hw [] a (0 : Int32) (5 : Int32) h0 n0 Z0 P2 P3) hZ (hw _ (List.mem_of_getElem? (i := 24) rfl)) (hw _ (List.mem_of_getElem? (i := 4) rfl)) (by decide) (by decide)) q1a q1c (g := (mkF m 1 #[.val (.ref a)] [(.ref a)])) rfl (by rw [hml]; rfl) (Steps.refl _) (argsL := []) (rest := []) (lenOf pd_1 rfl) rfl (by show 2 * 0 + _ ≤ _; exact Nat.le_of_eq rfl) (hb hby d6_1) (fun _ _ => ⟨rfl, e0, (by decide : 0 + 0 ≤ _), (by decide : 0 + 0 ≤ _)⟩)
  dsimp only [Pt.U, Pt.locs, Pt.cells, Pt.slots] at X1 l1 y1 z1 st1 hQ1
  subst l1 y1 z1
  obtain ⟨rfl, Nq1, e1⟩ := hQ1
  have N1 := Fr.app N0 Nq1
  refine OwnEnds.via (fun t k => st1.trans k) ?_
  show OwnEnds _ _ _ _ (T1.setTop (mkF m 4 #[.val (.ref a)] [(.int (if (0 : Int32) < (5 : Int32) then (1 : Int32) else (0 : Int32)))]))
  refine OwnEnds.via (fun t k => XS.ifYes X1.here hx rfl (pc0 := 4) (pc' := 17) rfl (hb hby d6_4) rfl ((if0 _ _).trans (feq (by decide)).2) (by decide) (by decide) k) ?_
  show OwnEnds _ _ _ _ (T1.setTop (mkF m 17 #[.val (.ref a)] []))
  refine OwnEnds.via (fun t k => XS.aloadN X1.here hx rfl (hb hby d6_17) rfl rfl k) ?_
  show OwnEnds _ _ _ _ (T1.setTop (mkF m 18 #[.val (.ref a)] [(.ref a)]))
  obtain ⟨T2, X2, e2, st2⟩ := getF X1 hx hZ hown (host := "") (Or.inl (hw _ (List.mem_of_getElem? (i := 14) rfl))) Via.refl e1 P1 (g := (mkF m 18 #[.val (.ref a)] [(.ref a)])) rfl rfl (hb hby d6_18)
  refine OwnEnds.via st2 ?_
  show OwnEnds _ _ _ _ (T2.setTop (mkF m 21 #[.val (.ref a)] [(.ref dd)]))
  refine OwnEnds.via (fun t k => XS.aloadN X2.here hx rfl (hb hby d6_21) rfl rfl k) ?_
  show OwnEnds _ _ _ _ (T2.setTop (mkF m 22 #[.val (.ref a)] [(.ref a), (.ref dd)]))
  obtain ⟨T3, X3, e3, st3⟩ := getF X2 hx hZ hown (host := "") (Or.inl (hw _ (List.mem_of_getElem? (i := 16) rfl))) Via.refl e2 P2 (g := (mkF m 22 #[.val (.ref a)] [(.ref a), (.ref dd)])) rfl rfl (hb hby d6_22)
  refine OwnEnds.via st3 ?_
  show OwnEnds _ _ _ _ (T3.setTop (mkF m 25 #[.val (.ref a)] [(.int (0 : Int32)), (.ref dd)]))
  obtain ⟨cl4, Ar4, q4, S4, M4, H4, G4⟩ := id P4
  have hin4 : ¬ ((0 : Int32) < 0 ∨ cl4.slots.size ≤ ((0 : Int32)).toNatClampNeg) := inb_of S4 ⟨by decide, by decide⟩
  have hat4 : cl4.slots[((0 : Int32)).toNatClampNeg]? = some (.int x0) := H4.at hin4 rfl
  refine OwnEnds.via (X3.baloadBytes hx (j := (0 : Int32)) (v := (.int x0)) (by rw [e3]; exact Ar4.1) (State.isArrayOf_alike hZ.alike Ar4.2.1) Ar4.2.2 hin4 hat4 (g := (mkF m 25 #[.val (.ref a)] [(.int (0 : Int32)), (.ref dd)])) rfl rfl (hb hby d6_25)) ?_
  show OwnEnds _ _ _ _ (T3.setTop (mkF m 26 #[.val (.ref a)] [(.int x0)]))
  refine OwnEnds.via (fun t k => XS.sipush X3.here hx rfl (hb hby d6_26) k) ?_
  show OwnEnds _ _ _ _ (T3.setTop (mkF m 29 #[.val (.ref a)] [(.int (255 : Int32)), (.int x0)]))
  refine OwnEnds.via (fun t k => XS.iand X3.here hx rfl (hb hby d6_29) rfl k) ?_
  show OwnEnds _ _ _ _ (T3.setTop (mkF m 30 #[.val (.ref a)] [(.int (x0 &&& (255 : Int32)))]))
  obtain ⟨_, _, ⟨T5, L5, k5, n5⟩, -, X5, ⟨Lc5, hQ5, l5, y5, z5⟩, st5⟩ := Jvm.LawKit.callS X3 hx (y := (⟨"com/example/birchwire/birchwire/protocol/BerReader", "checkTag", "(I)I"⟩ : MethodName)) hown (mvT hZ (hw _ (List.mem_of_getElem? (i := 36) rfl))) (mvT hZ (hw _ (List.mem_of_getElem? (i := 37) rfl))) (mvT hZ (hw _ (List.mem_of_getElem? (i := 4) rfl))) (mvT hZ (hw _ (List.mem_of_getElem? (i := 38) rfl))) (by decide) (backOf (W := 0) (rm7 l Z a0 hw [] (x0 &&& (255 : Int32)) h0 n0 Z0 (P5 ▸ P6)) hZ (hw _ (List.mem_of_getElem? (i := 38) rfl)) (hw _ (List.mem_of_getElem? (i := 4) rfl)) (by decide) (by decide)) (g := (mkF m 30 #[.val (.ref a)] [(.int (x0 &&& (255 : Int32)))])) rfl (by rw [hml]; rfl) (argsL := [(.int (x0 &&& (255 : Int32)))]) (rest := []) (lenOf pd_2 rfl) rfl (by show 2 * 0 + _ ≤ _; exact Nat.le_of_eq rfl) (hb hby d6_30) (fun _ _ => ⟨rfl, e3, (by decide : 0 + 0 ≤ _), (by decide : 0 + 0 ≤ _)⟩)
  dsimp only [Pt.U, Pt.locs, Pt.cells, Pt.slots] at X5 l5 y5 z5 st5 hQ5
  subst l5 y5 z5
  obtain ⟨rfl, Nq5, e5⟩ := hQ5
  have N5 := Fr.app N1 Nq5
  refine OwnEnds.via st5 ?_
  show OwnEnds _ _ _ _ (T5.setTop (mkF m 33 #[.val (.ref a)] [(.int (x0 &&& (255 : Int32)))]))
  obtain ⟨fs, hr, hrun, hended, hW, hsame⟩ := X5.leave (v := some (.int (x0 &&& (255 : Int32)))) (fun h => by rw [Bd.returns] at h; cases h)
  refine ⟨_, _, ?_, hrun, hended, _, _, rfl, ?_, ⟨_, rfl⟩, hW, hsame.mono (by decide) (by decide)⟩
  · exact retI X5 hx Bd.returns (hb hby d6_33) hr
  · show Q6 Z a dd kd x0 x1 x2 x3 x4 tg h0 n0 _ T5.heap _
    rw [e5]
    exact ⟨(by rw [P5]), N5, rfl⟩

theorem d9_0 : decode prog_57_method_18_code 0 = .ok (.iload_n 1, 1) := by decide +kernel
theorem d9_1 : decode prog_57_method_18_code 1 = .ok (.iload_n 2, 1) := by decide +kernel
theorem d9_2 : decode prog_57_method_18_code 2 = .ok (.if_icmp .lt 5, 3) := by decide +kernel
theorem d9_7 : decode prog_57_method_18_code 7 = .ok (.aload_n 0, 1) := by decide +kernel
theorem d9_8 : decode prog_57_method_18_code 8 = .ok (.iload_n 1, 1) := by decide +kernel
theorem d9_9 : decode prog_57_method_18_code 9 = .ok (.baload, 1) := by decide +kernel
theorem d9_10 : decode prog_57_method_18_code 10 = .ok (.sipush 255, 3) := by decide +kernel
theorem d9_13 : decode prog_57_method_18_code 13 = .ok (.iand, 1) := by decide +kernel
theorem d9_14 : decode prog_57_method_18_code 14 = .ok (.istore_n 3, 1) := by decide +kernel
theorem d9_15 : decode prog_57_method_18_code 15 = .ok (.iload_n 3, 1) := by decide +kernel
theorem d9_16 : decode prog_57_method_18_code 16 = .ok (.sipush 128, 3) := by decide +kernel
theorem d9_19 : decode prog_57_method_18_code 19 = .ok (.if_icmp .ge 5, 3) := by decide +kernel
theorem d9_22 : decode prog_57_method_18_code 22 = .ok (.iconst 1, 1) := by decide +kernel
theorem d9_23 : decode prog_57_method_18_code 23 = .ok (.ireturn, 1) := by decide +kernel
theorem pn_rm9 : plainName "com/example/birchwire/birchwire/protocol/BerReader" = true := by first | (simp [plainName, overriddenIn]; done) | decide +kernel
theorem ef_rm9 (m : MethodId) (dd : Addr) : entryFrame m #[(.ref dd), (.int (1 : Int32)), (.int (5 : Int32))] 5 = mkF m 0 #[.val (.ref dd), .val (.int (1 : Int32)), .val (.int (5 : Int32)), .unset, .unset] [] := by first | (simp [entryFrame, mkF, argsToLocals, Value.category]; done) | rfl
def Q9 (Z : State) (dd : Addr) (kd : ClassId) (x0 : Int32) (x1 : Int32) (x2 : Int32) (x3 : Int32) (x4 : Int32) (h0 : Heap) (n0 : Nat) (v : Option Value) (h : Heap) (L : List Loc) : Prop := v = some (.int (1 : Int32)) ∧ Fr n0 L ∧ h = h0
set_option maxRecDepth 65536 in
set_option maxHeartbeats 40000000 in
theorem rm9 (l : Launch) (Z : State) (a0 : Array Value) (hw : ∀ d ∈ tables_1, d.before a0 Z = true) (ws : List Jvm.Cond) (dd : Addr) (kd : ClassId) (x0 : Int32) (x1 : Int32) (x2 : Int32) (x3 : Int32) (x4 : Int32) (h0 : Heap) (n0 : Nat) (Z0 : n0 ≤ h0.size) (P0 : Arv Z h0 dd kd .byte (5 : Int32) [(.int x0), (.int x1), (.int x2), (.int x3), (.int x4)] (.int (0 : Int32))) (P1 : (x1 &&& (255 : Int32)) < (128 : Int32)) :
    MetFree l (⟨"com/example/birchwire/birchwire/protocol/BerReader", "lengthOctets", "([BII)I"⟩ : MethodName) (head1 (Jvm.Cond.code (⟨"com/example/birchwire/birchwire/protocol/BerReader", "lengthOctets", "([BII)I"⟩ : MethodName) prog_57_method_18_code 5 (some .int) :: ws) ({ frames := 0, cells := 0, slots := 0, locals := 0 } : Room)) (fun aa U => aa = #[(.ref dd), (.int (1 : Int32)), (.int (5 : Int32))] ∧ Z.Warmed39 U.vm ∧ U.heap = h0) (fun _ _ _ _ _ => True) (fun _ U o U' => ∃ v L, o = .returned v ∧ Q9 Z dd kd x0 x1 x2 x3 x4 h0 n0 v U'.heap L ∧ FrameEnd U o U' L ({ frames := 0, cells := 0, slots := 0, locals := 0 } : Room).cells ({ frames := 0, cells := 0, slots := 0, locals := 0 } : Room).slots) := by
  refine MetFree.of_bodySF (plainFor_of_name pn_rm9) hisR ?_
  intro p e s m args below meth c s₁ Bd hml0 hP hK
  obtain ⟨rfl, hZ, hh⟩ := hP
  have hx := Bd.exec
  have hby := Bd.bytes
  have hml : c.maxLocals = 5 := hml0
  have hown : s.vm.findClass "com/example/birchwire/birchwire/protocol/BerReader" = some m.cls := findClass_of_methodNamed Bd.named
  have hnm := (name_of_methodNamed Bd.named Bd.method).1
  have X0 : Stand p l e ({ frames := 0, cells := 0, slots := 0, locals := 0 } : Room) s m #[(.ref dd), (.int (1 : Int32)), (.int (5 : Int32))] below meth c s₁ [] 0 0 := Stand.of_body Bd
  have e0 : s₁.heap = h0 := by rw [← hh, Bd.state]; rfl
  have N0 := Fr.nil n0
  change OwnEnds p.tables e below _ _
  refine OwnEnds.via (fun t k => castTop (ef_rm9 m dd) k) ?_
  show OwnEnds _ _ _ _ (s₁.setTop (mkF m 0 #[.val (.ref dd), .val (.int (1 : Int32)), .val (.int (5 : Int32)), .unset, .unset] []))
  refine OwnEnds.via (fun t k => XS.iloadN X0.here hx rfl (hb hby d9_0) rfl k) ?_
  show OwnEnds _ _ _ _ (s₁.setTop (mkF m 1 #[.val (.ref dd), .val (.int (1 : Int32)), .val (.int (5 : Int32)), .unset, .unset] [(.int (1 : Int32))]))
  refine OwnEnds.via (fun t k => XS.iloadN X0.here hx rfl (hb hby d9_1) rfl k) ?_
  show OwnEnds _ _ _ _ (s₁.setTop (mkF m 2 #[.val (.ref dd), .val (.int (1 : Int32)), .val (.int (5 : Int32)), .unset, .unset] [(.int (5 : Int32)), (.int (1 : Int32))]))
  refine OwnEnds.via (fun t k => XS.icmpYes X0.here hx rfl (pc0 := 2) (pc' := 7) rfl (hb hby d9_2) rfl (tlt (by decide)).1 (by decide) (by decide) k) ?_
  show OwnEnds _ _ _ _ (s₁.setTop (mkF m 7 #[.val (.ref dd), .val (.int (1 : Int32)), .val (.int (5 : Int32)), .unset, .unset] []))
  refine OwnEnds.via (fun t k => XS.aloadN X0.here hx rfl (hb hby d9_7) rfl rfl k) ?_
  show OwnEnds _ _ _ _ (s₁.setTop (mkF m 8 #[.val (.ref dd), .val (.int (1 : Int32)), .val (.int (5 : Int32)), .unset, .unset] [(.ref dd)]))
  refine OwnEnds.via (fun t k => XS.iloadN X0.here hx rfl (hb hby d9_8) rfl k) ?_
  show OwnEnds _ _ _ _ (s₁.setTop (mkF m 9 #[.val (.ref dd), .val (.int (1 : Int32)), .val (.int (5 : Int32)), .unset, .unset] [(.int (1 : Int32)), (.ref dd)]))
  obtain ⟨cl1, Ar1, q1, S1, M1, H1, G1⟩ := id P0
  have hin1 : ¬ ((1 : Int32) < 0 ∨ cl1.slots.size ≤ ((1 : Int32)).toNatClampNeg) := inb_of S1 ⟨by decide, by decide⟩
  have hat1 : cl1.slots[((1 : Int32)).toNatClampNeg]? = some (.int x1) := H1.at hin1 rfl
  refine OwnEnds.via (X0.baloadBytes hx (j := (1 : Int32)) (v := (.int x1)) (by rw [e0]; exact Ar1.1) (State.isArrayOf_alike hZ.alike Ar1.2.1) Ar1.2.2 hin1 hat1 (g := (mkF m 9 #[.val (.ref dd), .val (.int (1 : Int32)), .val (.int (5 : Int32)), .unset, .unset] [(.int (1 : Int32)), (.ref dd)])) rfl rfl (hb hby d9_9)) ?_
  show OwnEnds _ _ _ _ (s₁.setTop (mkF m 10 #[.val (.ref dd), .val (.int (1 : Int32)), .val (.int (5 : Int32)), .unset, .unset] [(.int x1)]))
  refine OwnEnds.via (fun t k => XS.sipush X0.here hx rfl (hb hby d9_10) k) ?_
  show OwnEnds _ _ _ _ (s₁.setTop (mkF m 13 #[.val (.ref dd), .val (.int (1 : Int32)), .val (.int (5 : Int32)), .unset, .unset] [(.int (255 : Int32)), (.int x1)]))
  refine OwnEnds.via (fun t k => XS.iand X0.here hx rfl (hb hby d9_13) rfl k) ?_
  show OwnEnds _ _ _ _ (s₁.setTop (mkF m 14 #[.val (.ref dd), .val (.int (1 : Int32)), .val (.int (5 : Int32)), .unset, .unset] [(.int (x1 &&& (255 : Int32)))]))
  refine OwnEnds.via (fun t k => XS.istoreN X0.here hx rfl (hb hby d9_14) rfl (l' := #[.val (.ref dd), .val (.int (1 : Int32)), .val (.int (5 : Int32)), .val (.int (x1 &&& (255 : Int32))), .unset]) rfl k) ?_
  show OwnEnds _ _ _ _ (s₁.setTop (mkF m 15 #[.val (.ref dd), .val (.int (1 : Int32)), .val (.int (5 : Int32)), .val (.int (x1 &&& (255 : Int32))), .unset] []))
  refine OwnEnds.via (fun t k => XS.iloadN X0.here hx rfl (hb hby d9_15) rfl k) ?_
  show OwnEnds _ _ _ _ (s₁.setTop (mkF m 16 #[.val (.ref dd), .val (.int (1 : Int32)), .val (.int (5 : Int32)), .val (.int (x1 &&& (255 : Int32))), .unset] [(.int (x1 &&& (255 : Int32)))]))
  refine OwnEnds.via (fun t k => XS.sipush X0.here hx rfl (hb hby d9_16) k) ?_
  show OwnEnds _ _ _ _ (s₁.setTop (mkF m 19 #[.val (.ref dd), .val (.int (1 : Int32)), .val (.int (5 : Int32)), .val (.int (x1 &&& (255 : Int32))), .unset] [(.int (128 : Int32)), (.int (x1 &&& (255 : Int32)))]))
  refine OwnEnds.via (fun t k => XS.icmpNo X0.here hx rfl (hb hby d9_19) rfl (tlt P1).2.1 k) ?_
  show OwnEnds _ _ _ _ (s₁.setTop (mkF m 22 #[.val (.ref dd), .val (.int (1 : Int32)), .val (.int (5 : Int32)), .val (.int (x1 &&& (255 : Int32))), .unset] []))
  refine OwnEnds.via (fun t k => XS.iconst X0.here hx rfl (hb hby d9_22) k) ?_
  show OwnEnds _ _ _ _ (s₁.setTop (mkF m 23 #[.val (.ref dd), .val (.int (1 : Int32)), .val (.int (5 : Int32)), .val (.int (x1 &&& (255 : Int32))), .unset] [(.int (1 : Int32))]))
  obtain ⟨fs, hr, hrun, hended, hW, hsame⟩ := X0.leave (v := some (.int (1 : Int32))) (fun h => by rw [Bd.returns] at h; cases h)
  refine ⟨_, _, ?_, hrun, hended, _, _, rfl, ?_, ⟨_, rfl⟩, hW, hsame.mono (by decide) (by decide)⟩
  · exact retI X0 hx Bd.returns (hb hby d9_23) hr
  · show Q9 Z dd kd x0 x1 x2 x3 x4 h0 n0 _ s₁.heap _
    rw [e0]
    exact ⟨rfl, N0, rfl⟩

theorem d10_0 : decode prog_57_method_19_code 0 = .ok (.iload_n 2, 1) := by decide +kernel
theorem d10_1 : decode prog_57_method_19_code 1 = .ok (.iconst 1, 1) := by decide +kernel
theorem d10_2 : decode prog_57_method_19_code 2 = .ok (.if_icmp .ne 12, 3) := by decide +kernel
theorem d10_5 : decode prog_57_method_19_code 5 = .ok (.aload_n 0, 1) := by decide +kernel
theorem d10_6 : decode prog_57_method_19_code 6 = .ok (.iload_n 1, 1) := by decide +kernel
theorem d10_7 : decode prog_57_method_19_code 7 = .ok (.baload, 1) := by decide +kernel
theorem d10_8 : decode prog_57_method_19_code 8 = .ok (.sipush 255, 3) := by decide +kernel
theorem d10_11 : decode prog_57_method_19_code 11 = .ok (.iand, 1) := by decide +kernel
theorem d10_12 : decode prog_57_method_19_code 12 = .ok (.i2l, 1) := by decide +kernel
theorem d10_13 : decode prog_57_method_19_code 13 = .ok (.lreturn, 1) := by decide +kernel
theorem pn_rm10 : plainName "com/example/birchwire/birchwire/protocol/BerReader" = true := by first | (simp [plainName, overriddenIn]; done) | decide +kernel
theorem ef_rm10 (m : MethodId) (dd : Addr) : entryFrame m #[(.ref dd), (.int (1 : Int32)), (.int (1 : Int32))] 6 = mkF m 0 #[.val (.ref dd), .val (.int (1 : Int32)), .val (.int (1 : Int32)), .unset, .unset, .unset] [] := by first | (simp [entryFrame, mkF, argsToLocals, Value.category]; done) | rfl
def Q10 (Z : State) (dd : Addr) (kd : ClassId) (cl : Int32) (x0 : Int32) (x1 : Int32) (x2 : Int32) (x3 : Int32) (x4 : Int32) (h0 : Heap) (n0 : Nat) (v : Option Value) (h : Heap) (L : List Loc) : Prop := v = some (.long cl.toInt64) ∧ Fr n0 L ∧ h = h0
set_option maxRecDepth 65536 in
set_option maxHeartbeats 40000000 in
theorem rm10 (l : Launch) (Z : State) (a0 : Array Value) (hw : ∀ d ∈ tables_1, d.before a0 Z = true) (ws : List Jvm.Cond) (dd : Addr) (kd : ClassId) (cl : Int32) (x0 : Int32) (x1 : Int32) (x2 : Int32) (x3 : Int32) (x4 : Int32) (h0 : Heap) (n0 : Nat) (Z0 : n0 ≤ h0.size) (P0 : Arv Z h0 dd kd .byte (5 : Int32) [(.int x0), (.int x1), (.int x2), (.int x3), (.int x4)] (.int (0 : Int32))) (P1 : (x1 &&& (255 : Int32)) = cl) :
    MetFree l (⟨"com/example/birchwire/birchwire/protocol/BerReader", "contentLength", "([BII)J"⟩ : MethodName) (head1 (Jvm.Cond.code (⟨"com/example/birchwire/birchwire/protocol/BerReader", "contentLength", "([BII)J"⟩ : MethodName) prog_57_method_19_code 6 (some .long) :: ws) ({ frames := 0, cells := 0, slots := 0, locals := 0 } : Room)) (fun aa U => aa = #[(.ref dd), (.int (1 : Int32)), (.int (1 : Int32))] ∧ Z.Warmed39 U.vm ∧ U.heap = h0) (fun _ _ _ _ _ => True) (fun _ U o U' => ∃ v L, o = .returned v ∧ Q10 Z dd kd cl x0 x1 x2 x3 x4 h0 n0 v U'.heap L ∧ FrameEnd U o U' L ({ frames := 0, cells := 0, slots := 0, locals := 0 } : Room).cells ({ frames := 0, cells := 0, slots := 0, locals := 0 } : Room).slots) := by
  refine MetFree.of_bodySF (plainFor_of_name pn_rm10) hisR ?_
  intro p e s m args below meth c s₁ Bd hml0 hP hK
  obtain ⟨rfl, hZ, hh⟩ := hP
  have hx := Bd.exec
  have hby := Bd.bytes
  have hml : c.maxLocals = 6 := hml0
  have hown : s.vm.findClass "com/example/birchwire/birchwire/protocol/BerReader" = some m.cls := findClass_of_methodNamed Bd.named
  have hnm := (name_of_methodNamed Bd.named Bd.method).1
  have X0 : Stand p l e ({ frames := 0, cells := 0, slots := 0, locals := 0 } : Room) s m #[(.ref dd), (.int (1 : Int32)), (.int (1 : Int32))] below meth c s₁ [] 0 0 := Stand.of_body Bd
  have e0 : s₁.heap = h0 := by rw [← hh, Bd.state]; rfl
  have N0 := Fr.nil n0
  change OwnEnds p.tables e below _ _
  refine OwnEnds.via (fun t k => castTop (ef_rm10 m dd) k) ?_
  show OwnEnds _ _ _ _ (s₁.setTop (mkF m 0 #[.val (.ref dd), .val (.int (1 : Int32)), .val (.int (1 : Int32)), .unset, .unset, .unset] []))
  refine OwnEnds.via (fun t k => XS.iloadN X0.here hx rfl (hb hby d10_0) rfl k) ?_
  show OwnEnds _ _ _ _ (s₁.setTop (mkF m 1 #[.val (.ref dd), .val (.int (1 : Int32)), .val (.int (1 : Int32)), .unset, .unset, .unset] [(.int (1 : Int32))]))
  refine OwnEnds.via (fun t k => XS.iconst X0.here hx rfl (hb hby d10_1) k) ?_
  show OwnEnds _ _ _ _ (s₁.setTop (mkF m 2 #[.val (.ref dd), .val (.int (1 : Int32)), .val (.int (1 : Int32)), .unset, .unset, .unset] [(.int (1 : Int32)), (.int (1 : Int32))]))
  refine OwnEnds.via (fun t k => XS.icmpNo X0.here hx rfl (hb hby d10_2) rfl (teq (by decide)).2 k) ?_
  show OwnEnds _ _ _ _ (s₁.setTop (mkF m 5 #[.val (.ref dd), .val (.int (1 : Int32)), .val (.int (1 : Int32)), .unset, .unset, .unset] []))
  refine OwnEnds.via (fun t k => XS.aloadN X0.here hx rfl (hb hby d10_5) rfl rfl k) ?_
  show OwnEnds _ _ _ _ (s₁.setTop (mkF m 6 #[.val (.ref dd), .val (.int (1 : Int32)), .val (.int (1 : Int32)), .unset, .unset, .unset] [(.ref dd)]))
  refine OwnEnds.via (fun t k => XS.iloadN X0.here hx rfl (hb hby d10_6) rfl k) ?_
  show OwnEnds _ _ _ _ (s₁.setTop (mkF m 7 #[.val (.ref dd), .val (.int (1 : Int32)), .val (.int (1 : Int32)), .unset, .unset, .unset] [(.int (1 : Int32)), (.ref dd)]))
  obtain ⟨cl1, Ar1, q1, S1, M1, H1, G1⟩ := id P0
  have hin1 : ¬ ((1 : Int32) < 0 ∨ cl1.slots.size ≤ ((1 : Int32)).toNatClampNeg) := inb_of S1 ⟨by decide, by decide⟩
  have hat1 : cl1.slots[((1 : Int32)).toNatClampNeg]? = some (.int x1) := H1.at hin1 rfl
  refine OwnEnds.via (X0.baloadBytes hx (j := (1 : Int32)) (v := (.int x1)) (by rw [e0]; exact Ar1.1) (State.isArrayOf_alike hZ.alike Ar1.2.1) Ar1.2.2 hin1 hat1 (g := (mkF m 7 #[.val (.ref dd), .val (.int (1 : Int32)), .val (.int (1 : Int32)), .unset, .unset, .unset] [(.int (1 : Int32)), (.ref dd)])) rfl rfl (hb hby d10_7)) ?_
  show OwnEnds _ _ _ _ (s₁.setTop (mkF m 8 #[.val (.ref dd), .val (.int (1 : Int32)), .val (.int (1 : Int32)), .unset, .unset, .unset] [(.int x1)]))
  refine OwnEnds.via (fun t k => XS.sipush X0.here hx rfl (hb hby d10_8) k) ?_
  show OwnEnds _ _ _ _ (s₁.setTop (mkF m 11 #[.val (.ref dd), .val (.int (1 : Int32)), .val (.int (1 : Int32)), .unset, .unset, .unset] [(.int (255 : Int32)), (.int x1)]))
  refine OwnEnds.via (fun t k => XS.iand X0.here hx rfl (hb hby d10_11) rfl k) ?_
  show OwnEnds _ _ _ _ (s₁.setTop (mkF m 12 #[.val (.ref dd), .val (.int (1 : Int32)), .val (.int (1 : Int32)), .unset, .unset, .unset] [(.int (x1 &&& (255 : Int32)))]))
  refine OwnEnds.via (fun t k => XS.i2l X0.here hx rfl (hb hby d10_12) rfl k) ?_
  show OwnEnds _ _ _ _ (s₁.setTop (mkF m 13 #[.val (.ref dd), .val (.int (1 : Int32)), .val (.int (1 : Int32)), .unset, .unset, .unset] [(.long ((x1 &&& (255 : Int32)).toInt64))]))
  obtain ⟨fs, hr, hrun, hended, hW, hsame⟩ := X0.leave (v := some (.long ((x1 &&& (255 : Int32)).toInt64))) (fun h => by rw [Bd.returns] at h; cases h)
  refine ⟨_, _, ?_, hrun, hended, _, _, rfl, ?_, ⟨_, rfl⟩, hW, hsame.mono (by decide) (by decide)⟩
  · exact X0.lreturnOut hx Bd.returns (hb hby d10_13) hr
  · show Q10 Z dd kd cl x0 x1 x2 x3 x4 h0 n0 _ s₁.heap _
    rw [e0]
    exact ⟨(by rw [P1]), N0, rfl⟩

theorem d8_0 : decode prog_57_method_16_code 0 = .ok (.aload_n 0, 1) := by decide +kernel
theorem d8_1 : decode prog_57_method_16_code 1 = .ok (.getfield 12, 3) := by decide +kernel
theorem d8_4 : decode prog_57_method_16_code 4 = .ok (.aload_n 0, 1) := by decide +kernel
theorem d8_5 : decode prog_57_method_16_code 5 = .ok (.getfield 16, 3) := by decide +kernel
theorem d8_8 : decode prog_57_method_16_code 8 = .ok (.iconst 1, 1) := by decide +kernel
theorem d8_9 : decode prog_57_method_16_code 9 = .ok (.iadd, 1) := by decide +kernel
theorem d8_10 : decode prog_57_method_16_code 10 = .ok (.aload_n 0, 1) := by decide +kernel
theorem d8_11 : decode prog_57_method_16_code 11 = .ok (.getfield 20, 3) := by decide +kernel
theorem d8_14 : decode prog_57_method_16_code 14 = .ok (.invokestatic 27, 3) := by decide +kernel
theorem d8_17 : decode prog_57_method_16_code 17 = .ok (.istore_n 1, 1) := by decide +kernel
theorem d8_18 : decode prog_57_method_16_code 18 = .ok (.iload_n 1, 1) := by decide +kernel
theorem d8_19 : decode prog_57_method_16_code 19 = .ok (.ifCond .ge 13, 3) := by decide +kernel
theorem d8_32 : decode prog_57_method_16_code 32 = .ok (.aload_n 0, 1) := by decide +kernel
theorem d8_33 : decode prog_57_method_16_code 33 = .ok (.getfield 12, 3) := by decide +kernel
theorem d8_36 : decode prog_57_method_16_code 36 = .ok (.aload_n 0, 1) := by decide +kernel
theorem d8_37 : decode prog_57_method_16_code 37 = .ok (.getfield 16, 3) := by decide +kernel
theorem d8_40 : decode prog_57_method_16_code 40 = .ok (.iconst 1, 1) := by decide +kernel
theorem d8_41 : decode prog_57_method_16_code 41 = .ok (.iadd, 1) := by decide +kernel
theorem d8_42 : decode prog_57_method_16_code 42 = .ok (.iload_n 1, 1) := by decide +kernel
theorem d8_43 : decode prog_57_method_16_code 43 = .ok (.invokestatic 31, 3) := by decide +kernel
theorem d8_46 : decode prog_57_method_16_code 46 = .ok (.lstore_n 2, 1) := by decide +kernel
theorem d8_47 : decode prog_57_method_16_code 47 = .ok (.aload_n 0, 1) := by decide +kernel
theorem d8_48 : decode prog_57_method_16_code 48 = .ok (.getfield 16, 3) := by decide +kernel
theorem d8_51 : decode prog_57_method_16_code 51 = .ok (.iconst 1, 1) := by decide +kernel
theorem d8_52 : decode prog_57_method_16_code 52 = .ok (.iadd, 1) := by decide +kernel
theorem d8_53 : decode prog_57_method_16_code 53 = .ok (.iload_n 1, 1) := by decide +kernel
theorem d8_54 : decode prog_57_method_16_code 54 = .ok (.iadd, 1) := by decide +kernel
theorem d8_55 : decode prog_57_method_16_code 55 = .ok (.istore 4, 2) := by decide +kernel
theorem d8_57 : decode prog_57_method_16_code 57 = .ok (.lload_n 2, 1) := by decide +kernel
theorem d8_58 : decode prog_57_method_16_code 58 = .ok (.aload_n 0, 1) := by decide +kernel
theorem d8_59 : decode prog_57_method_16_code 59 = .ok (.getfield 20, 3) := by decide +kernel
theorem d8_62 : decode prog_57_method_16_code 62 = .ok (.iload 4, 2) := by decide +kernel
theorem d8_64 : decode prog_57_method_16_code 64 = .ok (.isub, 1) := by decide +kernel
theorem d8_65 : decode prog_57_method_16_code 65 = .ok (.i2l, 1) := by decide +kernel
theorem d8_66 : decode prog_57_method_16_code 66 = .ok (.lcmp, 1) := by decide +kernel
theorem d8_67 : decode prog_57_method_16_code 67 = .ok (.ifCond .le 13, 3) := by decide +kernel
theorem d8_80 : decode prog_57_method_16_code 80 = .ok (.new 2, 3) := by decide +kernel
theorem d8_83 : decode prog_57_method_16_code 83 = .ok (.dup, 1) := by decide +kernel
theorem d8_84 : decode prog_57_method_16_code 84 = .ok (.aload_n 0, 1) := by decide +kernel
theorem d8_85 : decode prog_57_method_16_code 85 = .ok (.getfield 12, 3) := by decide +kernel
theorem d8_88 : decode prog_57_method_16_code 88 = .ok (.iload 4, 2) := by decide +kernel
theorem d8_90 : decode prog_57_method_16_code 90 = .ok (.iload 4, 2) := by decide +kernel
theorem d8_92 : decode prog_57_method_16_code 92 = .ok (.lload_n 2, 1) := by decide +kernel
theorem d8_93 : decode prog_57_method_16_code 93 = .ok (.l2i, 1) := by decide +kernel
theorem d8_94 : decode prog_57_method_16_code 94 = .ok (.iadd, 1) := by decide +kernel
theorem d8_95 : decode prog_57_method_16_code 95 = .ok (.invokespecial 1, 3) := by decide +kernel
theorem d8_98 : decode prog_57_method_16_code 98 = .ok (.astore 5, 2) := by decide +kernel
theorem d8_100 : decode prog_57_method_16_code 100 = .ok (.aload_n 0, 1) := by decide +kernel
theorem d8_101 : decode prog_57_method_16_code 101 = .ok (.aload 5, 2) := by decide +kernel
theorem d8_103 : decode prog_57_method_16_code 103 = .ok (.getfield 20, 3) := by decide +kernel
theorem d8_106 : decode prog_57_method_16_code 106 = .ok (.putfield 16, 3) := by decide +kernel
theorem d8_109 : decode prog_57_method_16_code 109 = .ok (.aload 5, 2) := by decide +kernel
theorem d8_111 : decode prog_57_method_16_code 111 = .ok (.areturn, 1) := by decide +kernel
theorem pn_rm8 : plainName "com/example/birchwire/birchwire/protocol/BerReader" = true := by first | (simp [plainName, overriddenIn]; done) | decide +kernel
theorem pd_3 : parseMethodDescriptor "([BII)I" = some ⟨[(.array .byte), .int, .int], some .int⟩ := by decide +kernel
theorem pd_4 : parseMethodDescriptor "([BII)J" = some ⟨[(.array .byte), .int, .int], some .long⟩ := by decide +kernel
theorem ef_rm8 (m : MethodId) (a : Addr) : entryFrame m #[(.ref a)] 6 = mkF m 0 #[.val (.ref a), .unset, .unset, .unset, .unset, .unset] [] := by first | (simp [entryFrame, mkF, argsToLocals, Value.category]; done) | rfl
def Q8 (Z : State) (a : Addr) (dd : Addr) (kd : ClassId) (x0 : Int32) (x1 : Int32) (x2 : Int32) (x3 : Int32) (x4 : Int32) (cl : Int32) (h0 : Heap) (n0 : Nat) (v : Option Value) (h : Heap) (L : List Loc) : Prop := ∃ b : Addr, v = some (.ref b) ∧ Fr n0 L ∧ Keep h0 h [a] ∧ h0.size ≤ b ∧ n0 ≤ b ∧ Exa Z h b "com/example/birchwire/birchwire/protocol/BerReader" ∧ Fld Z h b "com/example/birchwire/birchwire/protocol/BerReader" "data" "[B" (.ref dd) ∧ Fld Z h b "com/example/birchwire/birchwire/protocol/BerReader" "position" "I" (.int (2 : Int32)) ∧ Fld Z h b "com/example/birchwire/birchwire/protocol/BerReader" "end" "I" (.int ((2 : Int32) + ((cl.toInt64).toInt32))) ∧ Exa Z h a "com/example/birchwire/birchwire/protocol/BerReader" ∧ Fld Z h a "com/example/birchwire/birchwire/protocol/BerReader" "data" "[B" (.ref dd) ∧ Fld Z h a "com/example/birchwire/birchwire/protocol/BerReader" "position" "I" (.int ((2 : Int32) + ((cl.toInt64).toInt32))) ∧ Fld Z h a "com/example/birchwire/birchwire/protocol/BerReader" "end" "I" (.int (5 : Int32))
set_option maxRecDepth 65536 in
set_option maxHeartbeats 40000000 in
theorem rm8 (l : Launch) (Z : State) (a0 : Array Value) (hw : ∀ d ∈ tables_1, d.before a0 Z = true) (ws : List Jvm.Cond) (a : Addr) (dd : Addr) (kd : ClassId) (x0 : Int32) (x1 : Int32) (x2 : Int32) (x3 : Int32) (x4 : Int32) (cl : Int32) (h0 : Heap) (n0 : Nat) (Z0 : n0 ≤ h0.size) (P0 : Exa Z h0 a "com/example/birchwire/birchwire/protocol/BerReader") (P1 : Fld Z h0 a "com/example/birchwire/birchwire/protocol/BerReader" "data" "[B" (.ref dd)) (P2 : Fld Z h0 a "com/example/birchwire/birchwire/protocol/BerReader" "position" "I" (.int (0 : Int32))) (P3 : Fld Z h0 a "com/example/birchwire/birchwire/protocol/BerReader" "end" "I" (.int (5 : Int32))) (P4 : Arv Z h0 dd kd .byte (5 : Int32) [(.int x0), (.int x1), (.int x2), (.int x3), (.int x4)] (.int (0 : Int32))) (P5 : n0 ≤ a) (P6 : (x1 &&& (255 : Int32)) < (128 : Int32)) (P7 : (x1 &&& (255 : Int32)) = cl) (P8 : ¬ (0 : Int32) < lcmpW cl.toInt64 ((3 : Int32).toInt64)) :
    MetFree l (⟨"com/example/birchwire/birchwire/protocol/BerReader", "next", "()Lcom/example/birchwire/birchwire/protocol/BerReader;"⟩ : MethodName) (head1 (Jvm.Cond.code (⟨"com/example/birchwire/birchwire/protocol/BerReader", "next", "()Lcom/example/birchwire/birchwire/protocol/BerReader;"⟩ : MethodName) prog_57_method_16_code 6 (some (.object "com/example/birchwire/birchwire/protocol/BerReader")) :: ws) ({ frames := 2, cells := 1, slots := 3, locals := 28 } : Room)) (fun aa U => aa = #[(.ref a)] ∧ Z.Warmed39 U.vm ∧ U.heap = h0) (fun _ _ _ _ _ => True) (fun _ U o U' => ∃ v L, o = .returned v ∧ Q8 Z a dd kd x0 x1 x2 x3 x4 cl h0 n0 v U'.heap L ∧ FrameEnd U o U' L ({ frames := 2, cells := 1, slots := 3, locals := 28 } : Room).cells ({ frames := 2, cells := 1, slots := 3, locals := 28 } : Room).slots) := by
  refine MetFree.of_bodySF (plainFor_of_name pn_rm8) hisR ?_
  intro p e s m args below meth c s₁ Bd hml0 hP hK
  obtain ⟨rfl, hZ, hh⟩ := hP
  have hx := Bd.exec
  have hby := Bd.bytes
  have hml : c.maxLocals = 6 := hml0
  have hown : s.vm.findClass "com/example/birchwire/birchwire/protocol/BerReader" = some m.cls := findClass_of_methodNamed Bd.named
  have hnm := (name_of_methodNamed Bd.named Bd.method).1
  have X0 : Stand p l e ({ frames := 2, cells := 1, slots := 3, locals := 28 } : Room) s m #[(.ref a)] below meth c s₁ [] 0 0 := Stand.of_body Bd
  have e0 : s₁.heap = h0 := by rw [← hh, Bd.state]; rfl
  have N0 := Fr.nil n0
  change OwnEnds p.tables e below _ _
  refine OwnEnds.via (fun t k => castTop (ef_rm8 m a) k) ?_
  show OwnEnds _ _ _ _ (s₁.setTop (mkF m 0 #[.val (.ref a), .unset, .unset, .unset, .unset, .unset] []))
  refine OwnEnds.via (fun t k => XS.aloadN X0.here hx rfl (hb hby d8_0) rfl rfl k) ?_
  show OwnEnds _ _ _ _ (s₁.setTop (mkF m 1 #[.val (.ref a), .unset, .unset, .unset, .unset, .unset] [(.ref a)]))
  obtain ⟨T1, X1, e1, st1⟩ := getF X0 hx hZ hown (host := "") (Or.inl (hw _ (List.mem_of_getElem? (i := 14) rfl))) Via.refl e0 P1 (g := (mkF m 1 #[.val (.ref a), .unset, .unset, .unset, .unset, .unset] [(.ref a)])) rfl rfl (hb hby d8_1)
  refine OwnEnds.via st1 ?_
  show OwnEnds _ _ _ _ (T1.setTop (mkF m 4 #[.val (.ref a), .unset, .unset, .unset, .unset, .unset] [(.ref dd)]))
  refine OwnEnds.via (fun t k => XS.aloadN X1.here hx rfl (hb hby d8_4) rfl rfl k) ?_
  show OwnEnds _ _ _ _ (T1.setTop (mkF m 5 #[.val (.ref a), .unset, .unset, .unset, .unset, .unset] [(.ref a), (.ref dd)]))
  obtain ⟨T2, X2, e2, st2⟩ := getF X1 hx hZ hown (host := "") (Or.inl (hw _ (List.mem_of_getElem? (i := 16) rfl))) Via.refl e1 P2 (g := (mkF m 5 #[.val (.ref a), .unset, .unset, .unset, .unset, .unset] [(.ref a), (.ref dd)])) rfl rfl (hb hby d8_5)
  refine OwnEnds.via st2 ?_
  show OwnEnds _ _ _ _ (T2.setTop (mkF m 8 #[.val (.ref a), .unset, .unset, .unset, .unset, .unset] [(.int (0 : Int32)), (.ref dd)]))
  refine OwnEnds.via (fun t k => XS.iconst X2.here hx rfl (hb hby d8_8) k) ?_
  show OwnEnds _ _ _ _ (T2.setTop (mkF m 9 #[.val (.ref a), .unset, .unset, .unset, .unset, .unset] [(.int (1 : Int32)), (.int (0 : Int32)), (.ref dd)]))
  refine OwnEnds.via (fun t k => XS.iadd X2.here hx rfl (hb hby d8_9) rfl k) ?_
  show OwnEnds _ _ _ _ (T2.setTop (mkF m 10 #[.val (.ref a), .unset, .unset, .unset, .unset, .unset] [(.int (1 : Int32)), (.ref dd)]))
  refine OwnEnds.via (fun t k => XS.aloadN X2.here hx rfl (hb hby d8_10) rfl rfl k) ?_
  show OwnEnds _ _ _ _ (T2.setTop (mkF m 11 #[.val (.ref a), .unset, .unset, .unset, .unset, .unset] [(.ref a), (.int (1 : Int32)), (.ref dd)]))
  obtain ⟨T3, X3, e3, st3⟩ := getF X2 hx hZ hown (host := "") (Or.inl (hw _ (List.mem_of_getElem? (i := 18) rfl))) Via.refl e2 P3 (g := (mkF m 11 #[.val (.ref a), .unset, .unset, .unset, .unset, .unset] [(.ref a), (.int (1 : Int32)), (.ref dd)])) rfl rfl (hb hby d8_11)
  refine OwnEnds.via st3 ?_
  show OwnEnds _ _ _ _ (T3.setTop (mkF m 14 #[.val (.ref a), .unset, .unset, .unset, .unset, .unset] [(.int (5 : Int32)), (.int (1 : Int32)), (.ref dd)]))
  obtain ⟨_, _, ⟨T4, L4, k4, n4⟩, -, X4, ⟨Lc4, hQ4, l4, y4, z4⟩, st4⟩ := Jvm.LawKit.callS X3 hx (y := (⟨"com/example/birchwire/birchwire/protocol/BerReader", "lengthOctets", "([BII)I"⟩ : MethodName)) hown (mvT hZ (hw _ (List.mem_of_getElem? (i := 43) rfl))) (mvT hZ (hw _ (List.mem_of_getElem? (i := 44) rfl))) (mvT hZ (hw _ (List.mem_of_getElem? (i := 4) rfl))) (mvT hZ (hw _ (List.mem_of_getElem? (i := 45) rfl))) (by decide) (backOf (W := 0) (rm9 l Z a0 hw [] dd kd x0 x1 x2 x3 x4 h0 n0 Z0 P4 P6) hZ (hw _ (List.mem_of_getElem? (i := 45) rfl)) (hw _ (List.mem_of_getElem? (i := 4) rfl)) (by decide) (by decide)) (g := (mkF m 14 #[.val (.ref a), .unset, .unset, .unset, .unset, .unset] [(.int (5 : Int32)), (.int (1 : Int32)), (.ref dd)])) rfl (by rw [hml]; rfl) (argsL := [(.ref dd), (.int (1 : Int32)), (.int (5 : Int32))]) (rest := []) (lenOf pd_3 rfl) rfl (by show 2 * 0 + _ ≤ _; exact Nat.le_of_eq rfl) (hb hby d8_14) (fun _ _ => ⟨rfl, e3, (by decide : 0 + 0 ≤ _), (by decide : 0 + 0 ≤ _)⟩)
  dsimp only [Pt.U, Pt.locs, Pt.cells, Pt.slots] at X4 l4 y4 z4 st4 hQ4
  subst l4 y4 z4
  obtain ⟨rfl, Nq4, e4⟩ := hQ4
  have N4 := Fr.app N0 Nq4
  refine OwnEnds.via st4 ?_
  show OwnEnds _ _ _ _ (T4.setTop (mkF m 17 #[.val (.ref a), .unset, .unset, .unset, .unset, .unset] [(.int (1 : Int32))]))
  refine OwnEnds.via (fun t k => XS.istoreN X4.here hx rfl (hb hby d8_17) rfl (l' := #[.val (.ref a), .val (.int (1 : Int32)), .unset, .unset, .unset, .unset]) rfl k) ?_
  show OwnEnds _ _ _ _ (T4.setTop (mkF m 18 #[.val (.ref a), .val (.int (1 : Int32)), .unset, .unset, .unset, .unset] []))
  refine OwnEnds.via (fun t k => XS.iloadN X4.here hx rfl (hb hby d8_18) rfl k) ?_
  show OwnEnds _ _ _ _ (T4.setTop (mkF m 19 #[.val (.ref a), .val (.int (1 : Int32)), .unset, .unset, .unset, .unset] [(.int (1 : Int32))]))
  refine OwnEnds.via (fun t k => XS.ifYes X4.here hx rfl (pc0 := 19) (pc' := 32) rfl (hb hby d8_19) rfl ((if0 _ _).trans (flt (by decide)).2.1) (by decide) (by decide) k) ?_
  show OwnEnds _ _ _ _ (T4.setTop (mkF m 32 #[.val (.ref a), .val (.int (1 : Int32)), .unset, .unset, .unset, .unset] []))
  refine OwnEnds.via (fun t k => XS.aloadN X4.here hx rfl (hb hby d8_32) rfl rfl k) ?_
  show OwnEnds _ _ _ _ (T4.setTop (mkF m 33 #[.val (.ref a), .val (.int (1 : Int32)), .unset, .unset, .unset, .unset] [(.ref a)]))
  obtain ⟨T5, X5, e5, st5⟩ := getF X4 hx hZ hown (host := "") (Or.inl (hw _ (List.mem_of_getElem? (i := 14) rfl))) Via.refl e4 P1 (g := (mkF m 33 #[.val (.ref a), .val (.int (1 : Int32)), .unset, .unset, .unset, .unset] [(.ref a)])) rfl rfl (hb hby d8_33)
  refine OwnEnds.via st5 ?_
  show OwnEnds _ _ _ _ (T5.setTop (mkF m 36 #[.val (.ref a), .val (.int (1 : Int32)), .unset, .unset, .unset, .unset] [(.ref dd)]))
  refine OwnEnds.via (fun t k => XS.aloadN X5.here hx rfl (hb hby d8_36) rfl rfl k) ?_
  show OwnEnds _ _ _ _ (T5.setTop (mkF m 37 #[.val (.ref a), .val (.int (1 : Int32)), .unset, .unset, .unset, .unset] [(.ref a), (.ref dd)]))
  obtain ⟨T6, X6, e6, st6⟩ := getF X5 hx hZ hown (host := "") (Or.inl (hw _ (List.mem_of_getElem? (i := 16) rfl))) Via.refl e5 P2 (g := (mkF m 37 #[.val (.ref a), .val (.int (1 : Int32)), .unset, .unset, .unset, .unset] [(.ref a), (.ref dd)])) rfl rfl (hb hby d8_37)
  refine OwnEnds.via st6 ?_
  show OwnEnds _ _ _ _ (T6.setTop (mkF m 40 #[.val (.ref a), .val (.int (1 : Int32)), .unset, .unset, .unset, .unset] [(.int (0 : Int32)), (.ref dd)]))
  refine OwnEnds.via (fun t k => XS.iconst X6.here hx rfl (hb hby d8_40) k) ?_
  show OwnEnds _ _ _ _ (T6.setTop (mkF m 41 #[.val (.ref a), .val (.int (1 : Int32)), .unset, .unset, .unset, .unset] [(.int (1 : Int32)), (.int (0 : Int32)), (.ref dd)]))
  refine OwnEnds.via (fun t k => XS.iadd X6.here hx rfl (hb hby d8_41) rfl k) ?_
  show OwnEnds _ _ _ _ (T6.setTop (mkF m 42 #[.val (.ref a), .val (.int (1 : Int32)), .unset, .unset, .unset, .unset] [(.int (1 : Int32)), (.ref dd)]))
  refine OwnEnds.via (fun t k => XS.iloadN X6.here hx rfl (hb hby d8_42) rfl k) ?_
  show OwnEnds _ _ _ _ (T6.setTop (mkF m 43 #[.val (.ref a), .val (.int (1 : Int32)), .unset, .unset, .unset, .unset] [(.int (1 : Int32)), (.int (1 : Int32)), (.ref dd)]))
  obtain ⟨_, _, ⟨T7, L7, k7, n7⟩, -, X7, ⟨Lc7, hQ7, l7, y7, z7⟩, st7⟩ := Jvm.LawKit.callS X6 hx (y := (⟨"com/example/birchwire/birchwire/protocol/BerReader", "contentLength", "([BII)J"⟩ : MethodName)) hown (mvT hZ (hw _ (List.mem_of_getElem? (i := 46) rfl))) (mvT hZ (hw _ (List.mem_of_getElem? (i := 47) rfl))) (mvT hZ (hw _ (List.mem_of_getElem? (i := 4) rfl))) (mvT hZ (hw _ (List.mem_of_getElem? (i := 48) rfl))) (by decide) (backOf (W := 0) (rm10 l Z a0 hw [] dd kd cl x0 x1 x2 x3 x4 h0 n0 Z0 P4 P7) hZ (hw _ (List.mem_of_getElem? (i := 48) rfl)) (hw _ (List.mem_of_getElem? (i := 4) rfl)) (by decide) (by decide)) (g := (mkF m 43 #[.val (.ref a), .val (.int (1 : Int32)), .unset, .unset, .unset, .unset] [(.int (1 : Int32)), (.int (1 : Int32)), (.ref dd)])) rfl (by rw [hml]; rfl) (argsL := [(.ref dd), (.int (1 : Int32)), (.int (1 : Int32))]) (rest := []) (lenOf pd_4 rfl) rfl (by show 2 * 0 + _ ≤ _; exact Nat.le_of_eq rfl) (hb hby d8_43) (fun _ _ => ⟨rfl, e6, (by decide : 0 + 0 ≤ _), (by decide : 0 + 0 ≤ _)⟩)
  dsimp only [Pt.U, Pt.locs, Pt.cells, Pt.slots] at X7 l7 y7 z7 st7 hQ7
  subst l7 y7 z7
  obtain ⟨rfl, Nq7, e7⟩ := hQ7
  have N7 := Fr.app N4 Nq7
  refine OwnEnds.via st7 ?_
  show OwnEnds _ _ _ _ (T7.setTop (mkF m 46 #[.val (.ref a), .val (.int (1 : Int32)), .unset, .unset, .unset, .unset] [(.long cl.toInt64)]))
  refine OwnEnds.via (fun t k => XS.lstoreN X7.here hx rfl (hb hby d8_46) rfl (l' := #[.val (.ref a), .val (.int (1 : Int32)), .val (.long cl.toInt64), .second, .unset, .unset]) rfl k) ?_
  show OwnEnds _ _ _ _ (T7.setTop (mkF m 47 #[.val (.ref a), .val (.int (1 : Int32)), .val (.long cl.toInt64), .second, .unset, .unset] []))
  refine OwnEnds.via (fun t k => XS.aloadN X7.here hx rfl (hb hby d8_47) rfl rfl k) ?_
  show OwnEnds _ _ _ _ (T7.setTop (mkF m 48 #[.val (.ref a), .val (.int (1 : Int32)), .val (.long cl.toInt64), .second, .unset, .unset] [(.ref a)]))
  obtain ⟨T8, X8, e8, st8⟩ := getF X7 hx hZ hown (host := "") (Or.inl (hw _ (List.mem_of_getElem? (i := 16) rfl))) Via.refl e7 P2 (g := (mkF m 48 #[.val (.ref a), .val (.int (1 : Int32)), .val (.long cl.toInt64), .second, .unset, .unset] [(.ref a)])) rfl rfl (hb hby d8_48)
  refine OwnEnds.via st8 ?_
  show OwnEnds _ _ _ _ (T8.setTop (mkF m 51 #[.val (.ref a), .val (.int (1 : Int32)), .val (.long cl.toInt64), .second, .unset, .unset] [(.int (0 : Int32))]))
  refine OwnEnds.via (fun t k => XS.iconst X8.here hx rfl (hb hby d8_51) k) ?_
  show OwnEnds _ _ _ _ (T8.setTop (mkF m 52 #[.val (.ref a), .val (.int (1 : Int32)), .val (.long cl.toInt64), .second, .unset, .unset] [(.int (1 : Int32)), (.int (0 : Int32))]))
  refine OwnEnds.via (fun t k => XS.iadd X8.here hx rfl (hb hby d8_52) rfl k) ?_
  show OwnEnds _ _ _ _ (T8.setTop (mkF m 53 #[.val (.ref a), .val (.int (1 : Int32)), .val (.long cl.toInt64), .second, .unset, .unset] [(.int (1 : Int32))]))
  refine OwnEnds.via (fun t k => XS.iloadN X8.here hx rfl (hb hby d8_53) rfl k) ?_
  show OwnEnds _ _ _ _ (T8.setTop (mkF m 54 #[.val (.ref a), .val (.int (1 : Int32)), .val (.long cl.toInt64), .second, .unset, .unset] [(.int (1 : Int32)), (.int (1 : Int32))]))
  refine OwnEnds.via (fun t k => XS.iadd X8.here hx rfl (hb hby d8_54) rfl k) ?_
  show OwnEnds _ _ _ _ (T8.setTop (mkF m 55 #[.val (.ref a), .val (.int (1 : Int32)), .val (.long cl.toInt64), .second, .unset, .unset] [(.int (2 : Int32))]))
  refine OwnEnds.via (fun t k => XS.istore X8.here hx rfl (hb hby d8_55) rfl (l' := #[.val (.ref a), .val (.int (1 : Int32)), .val (.long cl.toInt64), .second, .val (.int (2 : Int32)), .unset]) rfl k) ?_
  show OwnEnds _ _ _ _ (T8.setTop (mkF m 57 #[.val (.ref a), .val (.int (1 : Int32)), .val (.long cl.toInt64), .second, .val (.int (2 : Int32)), .unset] []))
  refine OwnEnds.via (fun t k => XS.lloadN X8.here hx rfl (hb hby d8_57) rfl k) ?_
  show OwnEnds _ _ _ _ (T8.setTop (mkF m 58 #[.val (.ref a), .val (.int (1 : Int32)), .val (.long cl.toInt64), .second, .val (.int (2 : Int32)), .unset] [(.long cl.toInt64)]))
  refine OwnEnds.via (fun t k => XS.aloadN X8.here hx rfl (hb hby d8_58) rfl rfl k) ?_
  show OwnEnds _ _ _ _ (T8.setTop (mkF m 59 #[.val (.ref a), .val (.int (1 : Int32)), .val (.long cl.toInt64), .second, .val (.int (2 : Int32)), .unset] [(.ref a), (.long cl.toInt64)]))
  obtain ⟨T9, X9, e9, st9⟩ := getF X8 hx hZ hown (host := "") (Or.inl (hw _ (List.mem_of_getElem? (i := 18) rfl))) Via.refl e8 P3 (g := (mkF m 59 #[.val (.ref a), .val (.int (1 : Int32)), .val (.long cl.toInt64), .second, .val (.int (2 : Int32)), .unset] [(.ref a), (.long cl.toInt64)])) rfl rfl (hb hby d8_59)
  refine OwnEnds.via st9 ?_
  show OwnEnds _ _ _ _ (T9.setTop (mkF m 62 #[.val (.ref a), .val (.int (1 : Int32)), .val (.long cl.toInt64), .second, .val (.int (2 : Int32)), .unset] [(.int (5 : Int32)), (.long cl.toInt64)]))
  refine OwnEnds.via (fun t k => XS.iload X9.here hx rfl (hb hby d8_62) rfl k) ?_
  show OwnEnds _ _ _ _ (T9.setTop (mkF m 64 #[.val (.ref a), .val (.int (1 : Int32)), .val (.long cl.toInt64), .second, .val (.int (2 : Int32)), .unset] [(.int (2 : Int32)), (.int (5 : Int32)), (.long cl.toInt64)]))
  refine OwnEnds.via (fun t k => XS.isub X9.here hx rfl (hb hby d8_64) rfl k) ?_
  show OwnEnds _ _ _ _ (T9.setTop (mkF m 65 #[.val (.ref a), .val (.int (1 : Int32)), .val (.long cl.toInt64), .second, .val (.int (2 : Int32)), .unset] [(.int (3 : Int32)), (.long cl.toInt64)]))
  refine OwnEnds.via (fun t k => XS.i2l X9.here hx rfl (hb hby d8_65) rfl k) ?_
  show OwnEnds _ _ _ _ (T9.setTop (mkF m 66 #[.val (.ref a), .val (.int (1 : Int32)), .val (.long cl.toInt64), .second, .val (.int (2 : Int32)), .unset] [(.long ((3 : Int32).toInt64)), (.long cl.toInt64)]))
  refine OwnEnds.via (fun t k => XS.lcmp X9.here hx rfl (hb hby d8_66) rfl k) ?_
  show OwnEnds _ _ _ _ (T9.setTop (mkF m 67 #[.val (.ref a), .val (.int (1 : Int32)), .val (.long cl.toInt64), .second, .val (.int (2 : Int32)), .unset] [(.int (lcmpW cl.toInt64 ((3 : Int32).toInt64)))]))
  refine OwnEnds.via (fun t k => XS.ifYes X9.here hx rfl (pc0 := 67) (pc' := 80) rfl (hb hby d8_67) rfl ((if0 _ _).trans (flt P8).2.2.2) (by decide) (by decide) k) ?_
  show OwnEnds _ _ _ _ (T9.setTop (mkF m 80 #[.val (.ref a), .val (.int (1 : Int32)), .val (.long cl.toInt64), .second, .val (.int (2 : Int32)), .unset] []))
  obtain ⟨T10, h10, X10, e10, E10, A10, D10, -, st10⟩ := newO X9 hx hZ hown (hw _ (List.mem_of_getElem? (i := 49) rfl)) (hw _ (List.mem_of_getElem? (i := 3) rfl)) (hw _ (List.mem_of_getElem? (i := 4) rfl)) e9 (g := (mkF m 80 #[.val (.ref a), .val (.int (1 : Int32)), .val (.long cl.toInt64), .second, .val (.int (2 : Int32)), .unset] [])) rfl (hb hby d8_80) (by decide) (by decide)
  obtain ⟨b10, g10⟩ : ∃ z, z = h0.size := ⟨_, rfl⟩
  have ne_a_b10 : a ≠ b10 := Nat.ne_of_lt (Nat.lt_of_lt_of_le P0.lt (Nat.le_of_eq g10.symm))
  have ne_dd_b10 : dd ≠ b10 := Nat.ne_of_lt (Nat.lt_of_lt_of_le P4.lt (Nat.le_of_eq g10.symm))
  have ge_b10 : n0 ≤ b10 := Nat.le_trans Z0 (Nat.le_of_eq g10.symm)
  have sz_b10 : h0.size ≤ b10 := Nat.le_trans (Keep.refl h0 [a]).1 (Nat.le_of_eq g10.symm)
  have Z10 : n0 ≤ h10.size := Nat.le_trans Z0 E10.1
  have K10 : Keep h0 h10 [a] := (Keep.refl h0 [a]).ext E10
  rw [← g10] at A10 D10 st10
  have F10_data : Fld Z h10 b10 "com/example/birchwire/birchwire/protocol/BerReader" "data" "[B" .null := D10 (Or.inr (hw _ (List.mem_of_getElem? (i := 15) rfl))) (ty := (.array .byte)) (by decide)
  have F10_position : Fld Z h10 b10 "com/example/birchwire/birchwire/protocol/BerReader" "position" "I" (.int (0 : Int32)) := D10 (Or.inl (hw _ (List.mem_of_getElem? (i := 17) rfl))) (ty := .int) (by decide)
  have F10_end : Fld Z h10 b10 "com/example/birchwire/birchwire/protocol/BerReader" "end" "I" (.int (0 : Int32)) := D10 (Or.inr (hw _ (List.mem_of_getElem? (i := 19) rfl))) (ty := .int) (by decide)
  refine OwnEnds.via st10 ?_
  show OwnEnds _ _ _ _ (T10.setTop (mkF m 83 #[.val (.ref a), .val (.int (1 : Int32)), .val (.long cl.toInt64), .second, .val (.int (2 : Int32)), .unset] [(.ref b10)]))
  refine OwnEnds.via (fun t k => XS.dup X10.here hx rfl (hb hby d8_83) rfl rfl k) ?_
  show OwnEnds _ _ _ _ (T10.setTop (mkF m 84 #[.val (.ref a), .val (.int (1 : Int32)), .val (.long cl.toInt64), .second, .val (.int (2 : Int32)), .unset] [(.ref b10), (.ref b10)]))
  refine OwnEnds.via (fun t k => XS.aloadN X10.here hx rfl (hb hby d8_84) rfl rfl k) ?_
  show OwnEnds _ _ _ _ (T10.setTop (mkF m 85 #[.val (.ref a), .val (.int (1 : Int32)), .val (.long cl.toInt64), .second, .val (.int (2 : Int32)), .unset] [(.ref a), (.ref b10), (.ref b10)]))
  obtain ⟨T11, X11, e11, st11⟩ := getF X10 hx hZ hown (host := "") (Or.inl (hw _ (List.mem_of_getElem? (i := 14) rfl))) Via.refl e10 (P1.ext E10) (g := (mkF m 85 #[.val (.ref a), .val (.int (1 : Int32)), .val (.long cl.toInt64), .second, .val (.int (2 : Int32)), .unset] [(.ref a), (.ref b10), (.ref b10)])) rfl rfl (hb hby d8_85)
  refine OwnEnds.via st11 ?_
  show OwnEnds _ _ _ _ (T11.setTop (mkF m 88 #[.val (.ref a), .val (.int (1 : Int32)), .val (.long cl.toInt64), .second, .val (.int (2 : Int32)), .unset] [(.ref dd), (.ref b10), (.ref b10)]))
  refine OwnEnds.via (fun t k => XS.iload X11.here hx rfl (hb hby d8_88) rfl k) ?_
  show OwnEnds _ _ _ _ (T11.setTop (mkF m 90 #[.val (.ref a), .val (.int (1 : Int32)), .val (.long cl.toInt64), .second, .val (.int (2 : Int32)), .unset] [(.int (2 : Int32)), (.ref dd), (.ref b10), (.ref b10)]))
  refine OwnEnds.via (fun t k => XS.iload X11.here hx rfl (hb hby d8_90) rfl k) ?_
  show OwnEnds _ _ _ _ (T11.setTop (mkF m 92 #[.val (.ref a), .val (.int (1 : Int32)), .val (.long cl.toInt64), .second, .val (.int (2 : Int32)), .unset] [(.int (2 : Int32)), (.int (2 : Int32)), (.ref dd), (.ref b10), (.ref b10)]))
  refine OwnEnds.via (fun t k => XS.lloadN X11.here hx rfl (hb hby d8_92) rfl k) ?_
  show OwnEnds _ _ _ _ (T11.setTop (mkF m 93 #[.val (.ref a), .val (.int (1 : Int32)), .val (.long cl.toInt64), .second, .val (.int (2 : Int32)), .unset] [(.long cl.toInt64), (.int (2 : Int32)), (.int (2 : Int32)), (.ref dd), (.ref b10), (.ref b10)]))
  refine OwnEnds.via (fun t k => XS.l2i X11.here hx rfl (hb hby d8_93) rfl k) ?_
  show OwnEnds _ _ _ _ (T11.setTop (mkF m 94 #[.val (.ref a), .val (.int (1 : Int32)), .val (.long cl.toInt64), .second, .val (.int (2 : Int32)), .unset] [(.int (cl.toInt64.toInt32)), (.int (2 : Int32)), (.int (2 : Int32)), (.ref dd), (.ref b10), (.ref b10)]))
  refine OwnEnds.via (fun t k => XS.iadd X11.here hx rfl (hb hby d8_94) rfl k) ?_
  show OwnEnds _ _ _ _ (T11.setTop (mkF m 95 #[.val (.ref a), .val (.int (1 : Int32)), .val (.long cl.toInt64), .second, .val (.int (2 : Int32)), .unset] [(.int ((2 : Int32) + (cl.toInt64.toInt32))), (.int (2 : Int32)), (.ref dd), (.ref b10), (.ref b10)]))
  obtain ⟨_, _, ⟨T12, L12, k12, n12⟩, -, X12, ⟨Lc12, hQ12, l12, y12, z12⟩, st12⟩ := X11.specialBack hx (y := (⟨"com/example/birchwire/birchwire/protocol/BerReader", "<init>", "([BII)V"⟩ : MethodName)) rfl hown (mvT hZ (hw _ (List.mem_of_getElem? (i := 8) rfl))) (mvT hZ (hw _ (List.mem_of_getElem? (i := 9) rfl))) (mvT hZ (hw _ (List.mem_of_getElem? (i := 10) rfl))) (by decide) (backOf (W := 1) (rm2 l Z a0 hw [] b10 dd (2 : Int32) ((2 : Int32) + (cl.toInt64.toInt32)) h10 n0 Z10 A10 F10_data F10_position F10_end ge_b10) hZ (hw _ (List.mem_of_getElem? (i := 10) rfl)) (hw _ (List.mem_of_getElem? (i := 4) rfl)) (by decide) (by decide)) (g := (mkF m 95 #[.val (.ref a), .val (.int (1 : Int32)), .val (.long cl.toInt64), .second, .val (.int (2 : Int32)), .unset] [(.int ((2 : Int32) + (cl.toInt64.toInt32))), (.int (2 : Int32)), (.ref dd), (.ref b10), (.ref b10)])) rfl (by rw [hml]; rfl) (Steps.refl _) (a := b10) (argsL := [(.ref dd), (.int (2 : Int32)), (.int ((2 : Int32) + (cl.toInt64.toInt32)))]) (rest := [(.ref b10)]) (lenOf pd_0 rfl) rfl (by show 2 * 0 + _ ≤ _; exact Nat.le_of_eq rfl) (hb hby d8_95) (fun _ _ => ⟨rfl, e11, (by decide : 1 + 0 ≤ _), (by decide : 3 + 0 ≤ _)⟩)
  dsimp only [Pt.U, Pt.locs, Pt.cells, Pt.slots] at X12 l12 y12 z12 st12 hQ12
  subst l12 y12 z12
  obtain ⟨h12, e12⟩ : ∃ z, T12.heap = z := ⟨_, rfl⟩
  rw [e12] at hQ12
  obtain ⟨rfl, Nq12, Kq12, q12_0, q12_1, q12_2, q12_3⟩ := hQ12
  have Z12 : n0 ≤ h12.size := Nat.le_trans Z10 Kq12.1
  have K12 : Keep h0 h12 [a] := K10.trans Kq12 (allS (Or.inr sz_b10) all0)
  have N12 := Fr.app N7 Nq12
  refine OwnEnds.via (fun t k => st12.trans k) ?_
  show OwnEnds _ _ _ _ (T12.setTop (mkF m 98 #[.val (.ref a), .val (.int (1 : Int32)), .val (.long cl.toInt64), .second, .val (.int (2 : Int32)), .unset] [(.ref b10)]))
  refine OwnEnds.via (fun t k => XS.astore X12.here hx rfl (hb hby d8_98) rfl rfl (l' := #[.val (.ref a), .val (.int (1 : Int32)), .val (.long cl.toInt64), .second, .val (.int (2 : Int32)), .val (.ref b10)]) rfl k) ?_
  show OwnEnds _ _ _ _ (T12.setTop (mkF m 100 #[.val (.ref a), .val (.int (1 : Int32)), .val (.long cl.toInt64), .second, .val (.int (2 : Int32)), .val (.ref b10)] []))
  refine OwnEnds.via (fun t k => XS.aloadN X12.here hx rfl (hb hby d8_100) rfl rfl k) ?_
  show OwnEnds _ _ _ _ (T12.setTop (mkF m 101 #[.val (.ref a), .val (.int (1 : Int32)), .val (.long cl.toInt64), .second, .val (.int (2 : Int32)), .val (.ref b10)] [(.ref a)]))
  refine OwnEnds.via (fun t k => XS.aload X12.here hx rfl (hb hby d8_101) rfl rfl k) ?_
  show OwnEnds _ _ _ _ (T12.setTop (mkF m 103 #[.val (.ref a), .val (.int (1 : Int32)), .val (.long cl.toInt64), .second, .val (.int (2 : Int32)), .val (.ref b10)] [(.ref b10), (.ref a)]))
  obtain ⟨T13, X13, e13, st13⟩ := getF X12 hx hZ hown (host := "") (Or.inl (hw _ (List.mem_of_getElem? (i := 18) rfl))) Via.refl e12 q12_3 (g := (mkF m 103 #[.val (.ref a), .val (.int (1 : Int32)), .val (.long cl.toInt64), .second, .val (.int (2 : Int32)), .val (.ref b10)] [(.ref b10), (.ref a)])) rfl rfl (hb hby d8_103)
  refine OwnEnds.via st13 ?_
  show OwnEnds _ _ _ _ (T13.setTop (mkF m 106 #[.val (.ref a), .val (.int (1 : Int32)), .val (.long cl.toInt64), .second, .val (.int (2 : Int32)), .val (.ref b10)] [(.int ((2 : Int32) + (cl.toInt64.toInt32))), (.ref a)]))
  obtain ⟨T14, h14, X14, e14, W14, st14⟩ := putF X13 hx hZ hown (host := "") (Or.inl (hw _ (List.mem_of_getElem? (i := 16) rfl))) Via.refl e13 ((P2.ext E10).keep Kq12 (ninS ne_a_b10 nin0)) ((P0.ext E10).keep Kq12) (Or.inl (hw _ (List.mem_of_getElem? (i := 17) rfl))) (hw _ (List.mem_of_getElem? (i := 3) rfl)) (ty := .int) (by decide) rfl rfl (g := (mkF m 106 #[.val (.ref a), .val (.int (1 : Int32)), .val (.long cl.toInt64), .second, .val (.int (2 : Int32)), .val (.ref b10)] [(.int ((2 : Int32) + (cl.toInt64.toInt32))), (.ref a)])) rfl rfl (hb hby d8_106)
  have Fw14 : Fld Z h14 a "com/example/birchwire/birchwire/protocol/BerReader" "position" "I" (.int ((2 : Int32) + (cl.toInt64.toInt32))) := ((P2.ext E10).keep Kq12 (ninS ne_a_b10 nin0)).same W14
  have N14 := Fr.snoc X14 N12 P5
  have Z14 : n0 ≤ h14.size := Nat.le_trans Z12 (Nat.le_of_eq W14.size.symm)
  have K14 : Keep h0 h14 [a] := K12.wr W14 (Or.inl (by simp))
  refine OwnEnds.via st14 ?_
  show OwnEnds _ _ _ _ (T14.setTop (mkF m 109 #[.val (.ref a), .val (.int (1 : Int32)), .val (.long cl.toInt64), .second, .val (.int (2 : Int32)), .val (.ref b10)] []))
  refine OwnEnds.via (fun t k => XS.aload X14.here hx rfl (hb hby d8_109) rfl rfl k) ?_
  show OwnEnds _ _ _ _ (T14.setTop (mkF m 111 #[.val (.ref a), .val (.int (1 : Int32)), .val (.long cl.toInt64), .second, .val (.int (2 : Int32)), .val (.ref b10)] [(.ref b10)]))
  obtain ⟨fs, hr, hrun, hended, hW, hsame⟩ := X14.leave (v := some (.ref b10)) (fun h => by rw [Bd.returns] at h; cases h)
  refine ⟨_, _, ?_, hrun, hended, _, _, rfl, ?_, ⟨_, rfl⟩, hW, hsame.mono (by decide) (by decide)⟩
  · jvm_step X14.here [X14.here.top, hx, (hb hby d8_111), X14.method', Bd.returns, Value.isRef, FieldType.isReference]
    first | (intro acts; rw [hr _ acts rfl rfl rfl]) | rw [hr _ _ rfl rfl rfl]
    exact Steps.refl _
  · show Q8 Z a dd kd x0 x1 x2 x3 x4 cl h0 n0 _ T14.heap _
    rw [e14]
    exact ⟨b10, rfl, N14, K14, sz_b10, ge_b10, (q12_0.wr W14), (q12_1.other W14 (Or.inl (Ne.symm ne_a_b10))), (q12_2.other W14 (Or.inl (Ne.symm ne_a_b10))), (q12_3.other W14 (Or.inl (Ne.symm ne_a_b10))), (((P0.ext E10).keep Kq12).wr W14), (((P1.ext E10).keep Kq12 (ninS ne_a_b10 nin0)).other W14 (Or.inr (slot_ne (Or.inr (hw _ (List.mem_of_getElem? (i := 15) rfl))) (Or.inl (hw _ (List.mem_of_getElem? (i := 17) rfl))) (by decide) (t := (.array .byte)) (t' := .int) (by decide) (by decide)))), Fw14, (((P3.ext E10).keep Kq12 (ninS ne_a_b10 nin0)).other W14 (Or.inr (slot_ne (Or.inr (hw _ (List.mem_of_getElem? (i := 19) rfl))) (Or.inl (hw _ (List.mem_of_getElem? (i := 17) rfl))) (by decide) (t := .int) (t' := .int) (by decide) (by decide))))⟩

theorem d5_0 : decode prog_57_method_6_code 0 = .ok (.aload_n 0, 1) := by decide +kernel
theorem d5_1 : decode prog_57_method_6_code 1 = .ok (.invokevirtual 50, 3) := by decide +kernel
theorem d5_4 : decode prog_57_method_6_code 4 = .ok (.istore_n 2, 1) := by decide +kernel
theorem d5_5 : decode prog_57_method_6_code 5 = .ok (.iload_n 2, 1) := by decide +kernel
theorem d5_6 : decode prog_57_method_6_code 6 = .ok (.iload_n 1, 1) := by decide +kernel
theorem d5_7 : decode prog_57_method_6_code 7 = .ok (.if_icmp .eq 34, 3) := by decide +kernel
theorem d5_41 : decode prog_57_method_6_code 41 = .ok (.aload_n 0, 1) := by decide +kernel
theorem d5_42 : decode prog_57_method_6_code 42 = .ok (.invokevirtual 68, 3) := by decide +kernel
theorem d5_45 : decode prog_57_method_6_code 45 = .ok (.areturn, 1) := by decide +kernel
theorem pn_rm5 : plainName "com/example/birchwire/birchwire/protocol/BerReader" = true := by first | (simp [plainName, overriddenIn]; done) | decide +kernel
theorem pd_5 : parseMethodDescriptor "()I" = some ⟨[], some .int⟩ := by decide +kernel
theorem pd_6 : parseMethodDescriptor "()Lcom/example/birchwire/birchwire/protocol/BerReader;" = some ⟨[], some (.object "com/example/birchwire/birchwire/protocol/BerReader")⟩ := by decide +kernel
theorem ef_rm5 (m : MethodId) (a : Addr) (tg : Int32) : entryFrame m #[(.ref a), (.int tg)] 3 = mkF m 0 #[.val (.ref a), .val (.int tg), .unset] [] := by first | (simp [entryFrame, mkF, argsToLocals, Value.category]; done) | rfl
def Q5 (Z : State) (a : Addr) (dd : Addr) (kd : ClassId) (x0 : Int32) (x1 : Int32) (x2 : Int32) (x3 : Int32) (x4 : Int32) (tg : Int32) (cl : Int32) (h0 : Heap) (n0 : Nat) (v : Option Value) (h : Heap) (L : List Loc) : Prop := ∃ b : Addr, v = some (.ref b) ∧ Fr n0 L ∧ Keep h0 h [a] ∧ h0.size ≤ b ∧ n0 ≤ b ∧ Exa Z h b "com/example/birchwire/birchwire/protocol/BerReader" ∧ Fld Z h b "com/example/birchwire/birchwire/protocol/BerReader" "data" "[B" (.ref dd) ∧ Fld Z h b "com/example/birchwire/birchwire/protocol/BerReader" "position" "I" (.int (2 : Int32)) ∧ Fld Z h b "com/example/birchwire/birchwire/protocol/BerReader" "end" "I" (.int ((2 : Int32) + ((cl.toInt64).toInt32))) ∧ Exa Z h a "com/example/birchwire/birchwire/protocol/BerReader" ∧ Fld Z h a "com/example/birchwire/birchwire/protocol/BerReader" "data" "[B" (.ref dd) ∧ Fld Z h a "com/example/birchwire/birchwire/protocol/BerReader" "position" "I" (.int ((2 : Int32) + ((cl.toInt64).toInt32))) ∧ Fld Z h a "com/example/birchwire/birchwire/protocol/BerReader" "end" "I" (.int (5 : Int32))
set_option maxRecDepth 65536 in
set_option maxHeartbeats 40000000 in
theorem rm5 (l : Launch) (Z : State) (a0 : Array Value) (hw : ∀ d ∈ tables_1, d.before a0 Z = true) (ws : List Jvm.Cond) (a : Addr) (dd : Addr) (kd : ClassId) (x0 : Int32) (x1 : Int32) (x2 : Int32) (x3 : Int32) (x4 : Int32) (tg : Int32) (cl : Int32) (h0 : Heap) (n0 : Nat) (Z0 : n0 ≤ h0.size) (P0 : Exa Z h0 a "com/example/birchwire/birchwire/protocol/BerReader") (P1 : Fld Z h0 a "com/example/birchwire/birchwire/protocol/BerReader" "data" "[B" (.ref dd)) (P2 : Fld Z h0 a "com/example/birchwire/birchwire/protocol/BerReader" "position" "I" (.int (0 : Int32))) (P3 : Fld Z h0 a "com/example/birchwire/birchwire/protocol/BerReader" "end" "I" (.int (5 : Int32))) (P4 : Arv Z h0 dd kd .byte (5 : Int32) [(.int x0), (.int x1), (.int x2), (.int x3), (.int x4)] (.int (0 : Int32))) (P5 : n0 ≤ a) (P6 : (x1 &&& (255 : Int32)) < (128 : Int32)) (P7 : (x1 &&& (255 : Int32)) = cl) (P8 : ¬ (0 : Int32) < lcmpW cl.toInt64 ((3 : Int32).toInt64)) (P9 : (x0 &&& (255 : Int32)) = tg) (P10 : ¬ (tg &&& (31 : Int32)) = (31 : Int32)) :
    MetFree l (⟨"com/example/birchwire/birchwire/protocol/BerReader", "readElement", "(I)Lcom/example/birchwire/birchwire/protocol/BerReader;"⟩ : MethodName) (head1 (Jvm.Cond.code (⟨"com/example/birchwire/birchwire/protocol/BerReader", "readElement", "(I)Lcom/example/birchwire/birchwire/protocol/BerReader;"⟩ : MethodName) prog_57_method_6_code 3 (some (.object "com/example/birchwire/birchwire/protocol/BerReader")) :: ws) ({ frames := 3, cells := 1, slots := 3, locals := 45 } : Room)) (fun aa U => aa = #[(.ref a), (.int tg)] ∧ Z.Warmed39 U.vm ∧ U.heap = h0) (fun _ _ _ _ _ => True) (fun _ U o U' => ∃ v L, o = .returned v ∧ Q5 Z a dd kd x0 x1 x2 x3 x4 tg cl h0 n0 v U'.heap L ∧ FrameEnd U o U' L ({ frames := 3, cells := 1, slots := 3, locals := 45 } : Room).cells ({ frames := 3, cells := 1, slots := 3, locals := 45 } : Room).slots) := by
  refine MetFree.of_bodySF (plainFor_of_name pn_rm5) hisR ?_
  intro p e s m args below meth c s₁ Bd hml0 hP hK
  obtain ⟨rfl, hZ, hh⟩ := hP
  have hx := Bd.exec
  have hby := Bd.bytes
  have hml : c.maxLocals = 3 := hml0
  have hown : s.vm.findClass "com/example/birchwire/birchwire/protocol/BerReader" = some m.cls := findClass_of_methodNamed Bd.named
  have hnm := (name_of_methodNamed Bd.named Bd.method).1
  have X0 : Stand p l e ({ frames := 3, cells := 1, slots := 3, locals := 45 } : Room) s m #[(.ref a), (.int tg)] below meth c s₁ [] 0 0 := Stand.of_body Bd
  have e0 : s₁.heap = h0 := by rw [← hh, Bd.state]; rfl
  have N0 := Fr.nil n0
  change OwnEnds p.tables e below _ _
  refine OwnEnds.via (fun t k => castTop (ef_rm5 m a tg) k) ?_
  show OwnEnds _ _ _ _ (s₁.setTop (mkF m 0 #[.val (.ref a), .val (.int tg), .unset] []))
  refine OwnEnds.via (fun t k => XS.aloadN X0.here hx rfl (hb hby d5_0) rfl rfl k) ?_
  show OwnEnds _ _ _ _ (s₁.setTop (mkF m 1 #[.val (.ref a), .val (.int tg), .unset] [(.ref a)]))
  obtain ⟨cq1, kq1, q1a, q1b, q1c⟩ := isOf hZ e0 P0
  obtain ⟨_, _, ⟨T1, L1, k1, n1⟩, -, X1, ⟨Lc1, hQ1, l1, y1, z1⟩, st1⟩ := X0.virtualBack hx (y := (⟨"com/example/birchwire/birchwire/protocol/BerReader", "peekTag", "()I"⟩ : MethodName)) (z := (⟨"com/example/birchwire/birchwire/protocol/BerReader", "peekTag", "()I"⟩ : MethodName)) hown (mvT hZ (hw _ (List.mem_of_getElem? (i := 30) rfl))) (mvT hZ (hw _ (List.mem_of_getElem? (i := 31) rfl))) (notFace_of_selects (args := #[]) (mvT hZ (hw _ (List.mem_of_getElem? (i := 33) rfl)))) (mvT hZ (hw _ (List.mem_of_getElem? (i := 33) rfl))) (mvT hZ (hw _ (List.mem_of_getElem? (i := 32) rfl))) (by decide) (backOf (W := 0) (rm6 l Z a0 hw [] a dd kd x0 x1 x2 x3 x4 tg h0 n0 Z0 P0 P1 P2 P3 P4 P9 P10) hZ (hw _ (List.mem_of_getElem? (i := 34) rfl)) (hw _ (List.mem_of_getElem? (i := 4) rfl)) (by decide) (by decide)) q1a q1c (g := (mkF m 1 #[.val (.ref a), .val (.int tg), .unset] [(.ref a)])) rfl (by rw [hml]; rfl) (Steps.refl _) (argsL := []) (rest := []) (lenOf pd_5 rfl) rfl (by show 2 * 0 + _ ≤ _; exact Nat.le_of_eq rfl) (hb hby d5_1) (fun _ _ => ⟨rfl, e0, (by decide : 0 + 0 ≤ _), (by decide : 0 + 0 ≤ _)⟩)
  dsimp only [Pt.U, Pt.locs, Pt.cells, Pt.slots] at X1 l1 y1 z1 st1 hQ1
  subst l1 y1 z1
  obtain ⟨rfl, Nq1, e1⟩ := hQ1
  have N1 := Fr.app N0 Nq1
  refine OwnEnds.via (fun t k => st1.trans k) ?_
  show OwnEnds _ _ _ _ (T1.setTop (mkF m 4 #[.val (.ref a), .val (.int tg), .unset] [(.int tg)]))
  refine OwnEnds.via (fun t k => XS.istoreN X1.here hx rfl (hb hby d5_4) rfl (l' := #[.val (.ref a), .val (.int tg), .val (.int tg)]) rfl k) ?_
  show OwnEnds _ _ _ _ (T1.setTop (mkF m 5 #[.val (.ref a), .val (.int tg), .val (.int tg)] []))
  refine OwnEnds.via (fun t k => XS.iloadN X1.here hx rfl (hb hby d5_5) rfl k) ?_
  show OwnEnds _ _ _ _ (T1.setTop (mkF m 6 #[.val (.ref a), .val (.int tg), .val (.int tg)] [(.int tg)]))
  refine OwnEnds.via (fun t k => XS.iloadN X1.here hx rfl (hb hby d5_6) rfl k) ?_
  show OwnEnds _ _ _ _ (T1.setTop (mkF m 7 #[.val (.ref a), .val (.int tg), .val (.int tg)] [(.int tg), (.int tg)]))
  refine OwnEnds.via (fun t k => XS.icmpYes X1.here hx rfl (pc0 := 7) (pc' := 41) rfl (hb hby d5_7) rfl (teq rfl).1 (by decide) (by decide) k) ?_
  show OwnEnds _ _ _ _ (T1.setTop (mkF m 41 #[.val (.ref a), .val (.int tg), .val (.int tg)] []))
  refine OwnEnds.via (fun t k => XS.aloadN X1.here hx rfl (hb hby d5_41) rfl rfl k) ?_
  show OwnEnds _ _ _ _ (T1.setTop (mkF m 42 #[.val (.ref a), .val (.int tg), .val (.int tg)] [(.ref a)]))
  obtain ⟨cq2, q2, q2'⟩ := P0.cell
  obtain ⟨_, _, ⟨T2, L2, k2, n2⟩, -, X2, ⟨Lc2, hQ2, l2, y2, z2⟩, st2⟩ := X1.privateBack hx (y := (⟨"com/example/birchwire/birchwire/protocol/BerReader", "next", "()Lcom/example/birchwire/birchwire/protocol/BerReader;"⟩ : MethodName)) hown (mvT hZ (hw _ (List.mem_of_getElem? (i := 39) rfl))) (mvT hZ (hw _ (List.mem_of_getElem? (i := 40) rfl))) (own_selp (mvT hZ (hw _ (List.mem_of_getElem? (i := 3) rfl))) (Cond.privateMethod_at (mvP hZ (hw _ (List.mem_of_getElem? (i := 41) rfl)) (args := #[]))) (mvT hZ (hw _ (List.mem_of_getElem? (i := 40) rfl))) (by decide)) (Cond.privateMethod_at (mvP hZ (hw _ (List.mem_of_getElem? (i := 41) rfl)) (args := #[]))) (mvT hZ (hw _ (List.mem_of_getElem? (i := 42) rfl))) (by decide) (backOf (W := 0) (rm8 l Z a0 hw [] a dd kd x0 x1 x2 x3 x4 cl h0 n0 Z0 P0 P1 P2 P3 P4 P5 P6 P7 P8) hZ (hw _ (List.mem_of_getElem? (i := 42) rfl)) (hw _ (List.mem_of_getElem? (i := 4) rfl)) (by decide) (by decide)) (g := (mkF m 42 #[.val (.ref a), .val (.int tg), .val (.int tg)] [(.ref a)])) rfl (by rw [hml]; rfl) (Steps.refl _) (a := a) (by rw [e1]; exact q2) q2' (argsL := []) (rest := []) (lenOf pd_6 rfl) rfl (by show 2 * 0 + _ ≤ _; exact Nat.le_of_eq rfl) (hb hby d5_42) (fun _ _ => ⟨rfl, e1, (by decide : 0 + 1 ≤ _), (by decide : 0 + 3 ≤ _)⟩)
  dsimp only [Pt.U, Pt.locs, Pt.cells, Pt.slots] at X2 l2 y2 z2 st2 hQ2
  subst l2 y2 z2
  obtain ⟨h2, e2⟩ : ∃ z, T2.heap = z := ⟨_, rfl⟩
  rw [e2] at hQ2
  obtain ⟨b_2, rfl, Nq2, Kq2, q2_0, q2_1, q2_2, q2_3, q2_4, q2_5, q2_6, q2_7, q2_8, q2_9⟩ := hQ2
  have Z2 : n0 ≤ h2.size := Nat.le_trans Z0 Kq2.1
  have K2 : Keep h0 h2 [a] := (Keep.refl h0 [a]).trans Kq2 (allS (Or.inl (by simp)) all0)
  have sz_b_2 : h0.size ≤ b_2 := Nat.le_trans (Keep.refl h0 [a]).1 q2_0
  have ne_a_b_2 : a ≠ b_2 := Nat.ne_of_lt (Nat.lt_of_lt_of_le P0.lt q2_0)
  have ne_dd_b_2 : dd ≠ b_2 := Nat.ne_of_lt (Nat.lt_of_lt_of_le P4.lt q2_0)
  have N2 := Fr.app N1 Nq2
  refine OwnEnds.via (fun t k => st2.trans k) ?_
  show OwnEnds _ _ _ _ (T2.setTop (mkF m 45 #[.val (.ref a), .val (.int tg), .val (.int tg)] [(.ref b_2)]))
  obtain ⟨fs, hr, hrun, hended, hW, hsame⟩ := X2.leave (v := some (.ref b_2)) (fun h => by rw [Bd.returns] at h; cases h)
  refine ⟨_, _, ?_, hrun, hended, _, _, rfl, ?_, ⟨_, rfl⟩, hW, hsame.mono (by decide) (by decide)⟩
  · jvm_step X2.here [X2.here.top, hx, (hb hby d5_45), X2.method', Bd.returns, Value.isRef, FieldType.isReference]
    first | (intro acts; rw [hr _ acts rfl rfl rfl]) | rw [hr _ _ rfl rfl rfl]
    exact Steps.refl _
  · show Q5 Z a dd kd x0 x1 x2 x3 x4 tg cl h0 n0 _ T2.heap _
    rw [e2]
    exact ⟨b_2, rfl, N2, K2, sz_b_2, q2_1, q2_2, q2_3, q2_4, q2_5, q2_6, q2_7, q2_8, q2_9⟩

def own_min (x y : Int32) : Int32 := if y < x then y else x
theorem own_i {f t : Int32} (h : 0 ≤ f.toInt ∧ f.toInt ≤ t.toInt ∧ t.toInt ≤ 5) : (t - f).toInt = t.toInt - f.toInt := by
  have a := c_isub t f
  have r := rng32 (t - f)
  omega
theorem own_nn {f t : Int32} (h : 0 ≤ f.toInt ∧ f.toInt ≤ t.toInt ∧ t.toInt ≤ 5) : ¬ (t - f) < 0 := by
  rw [Int32.lt_iff_toInt_lt, own_i h]
  have z : (0 : Int32).toInt = 0 := by decide
  omega
theorem own_le {f t : Int32} (h : 0 ≤ f.toInt ∧ f.toInt ≤ t.toInt ∧ t.toInt ≤ 5) : (t - f).toNatClampNeg ≤ 5 := by
  have e := nat_of (own_nn h)
  rw [own_i h] at e
  omega
theorem own_f0 {f t : Int32} (h : 0 ≤ f.toInt ∧ f.toInt ≤ t.toInt ∧ t.toInt ≤ 5) : ¬ f < 0 := by
  rw [Int32.lt_iff_toInt_lt]
  have z : (0 : Int32).toInt = 0 := by decide
  omega
theorem own_ck {f t : Int32} (h : 0 ≤ f.toInt ∧ f.toInt ≤ t.toInt ∧ t.toInt ≤ 5) : ¬ t < f := by
  rw [Int32.lt_iff_toInt_lt]
  omega
theorem own_h4 {f t : Int32} (h : 0 ≤ f.toInt ∧ f.toInt ≤ t.toInt ∧ t.toInt ≤ 5) : f.toNatClampNeg + (t - f).toNatClampNeg ≤ (5 : Int32).toNatClampNeg := by
  have e := nat_of (own_nn h)
  rw [own_i h] at e
  have e2 := nat_of (own_f0 h)
  have e3 : (5 : Int32).toNatClampNeg = 5 := by decide
  omega
theorem own_mn {f t : Int32} (h : 0 ≤ f.toInt ∧ f.toInt ≤ t.toInt ∧ t.toInt ≤ 5) : own_min ((5 : Int32) - f) (t - f) = t - f := by
  unfold own_min
  by_cases q : t - f < (5 : Int32) - f
  · rw [if_pos q]
  · rw [if_neg q, ← Int32.toInt_inj, own_i h]
    rw [Int32.lt_iff_toInt_lt, own_i h] at q
    have z : (5 : Int32).toInt = 5 := by decide
    have a := c_isub 5 f
    have r := rng32 (5 - f)
    omega

theorem d14_0 : decode jdk_65_method_131_code 0 = .ok (.iload_n 1, 1) := by decide +kernel
theorem d14_1 : decode jdk_65_method_131_code 1 = .ok (.iload_n 0, 1) := by decide +kernel
theorem d14_2 : decode jdk_65_method_131_code 2 = .ok (.if_icmp .ge 35, 3) := by decide +kernel
theorem d14_37 : decode jdk_65_method_131_code 37 = .ok (.return_, 1) := by decide +kernel
theorem pn_rm14 : plainName "java/util/Arrays" = true := by first | (simp [plainName, overriddenIn]; done) | decide +kernel
theorem ef_rm14 (m : MethodId) (fr : Int32) (to : Int32) : entryFrame m #[(.int fr), (.int to)] 2 = mkF m 0 #[.val (.int fr), .val (.int to)] [] := by first | (simp [entryFrame, mkF, argsToLocals, Value.category]; done) | rfl
def Q14 (Z : State) (fr : Int32) (to : Int32) (h0 : Heap) (n0 : Nat) (v : Option Value) (h : Heap) (L : List Loc) : Prop := v = none ∧ Fr n0 L ∧ h = h0
set_option maxRecDepth 65536 in
set_option maxHeartbeats 40000000 in
theorem rm14 (l : Launch) (Z : State) (a0 : Array Value) (hw : ∀ d ∈ tables_1, d.before a0 Z = true) (ws : List Jvm.Cond) (fr : Int32) (to : Int32) (h0 : Heap) (n0 : Nat) (Z0 : n0 ≤ h0.size) (P0 : ¬ to < fr) :
    MetFree l (⟨"java/util/Arrays", "checkLength", "(II)V"⟩ : MethodName) (head1 (Jvm.Cond.code (⟨"java/util/Arrays", "checkLength", "(II)V"⟩ : MethodName) jdk_65_method_131_code 2 none :: ws) ({ frames := 0, cells := 0, slots := 0, locals := 0 } : Room)) (fun aa U => aa = #[(.int fr), (.int to)] ∧ Z.Warmed39 U.vm ∧ U.heap = h0) (fun _ _ _ _ _ => True) (fun _ U o U' => ∃ v L, o = .returned v ∧ Q14 Z fr to h0 n0 v U'.heap L ∧ FrameEnd U o U' L ({ frames := 0, cells := 0, slots := 0, locals := 0 } : Room).cells ({ frames := 0, cells := 0, slots := 0, locals := 0 } : Room).slots) := by
  refine MetFree.of_bodySF (plainFor_of_name pn_rm14) hisR ?_
  intro p e s m args below meth c s₁ Bd hml0 hP hK
  obtain ⟨rfl, hZ, hh⟩ := hP
  have hx := Bd.exec
  have hby := Bd.bytes
  have hml : c.maxLocals = 2 := hml0
  have hown : s.vm.findClass "java/util/Arrays" = some m.cls := findClass_of_methodNamed Bd.named
  have hnm := (name_of_methodNamed Bd.named Bd.method).1
  have X0 : Stand p l e ({ frames := 0, cells := 0, slots := 0, locals := 0 } : Room) s m #[(.int fr), (.int to)] below meth c s₁ [] 0 0 := Stand.of_body Bd
  have e0 : s₁.heap = h0 := by rw [← hh, Bd.state]; rfl
  have N0 := Fr.nil n0
  change OwnEnds p.tables e below _ _
  refine OwnEnds.via (fun t k => castTop (ef_rm14 m fr to) k) ?_
  show OwnEnds _ _ _ _ (s₁.setTop (mkF m 0 #[.val (.int fr), .val (.int to)] []))
  refine OwnEnds.via (fun t k => XS.iloadN X0.here hx rfl (hb hby d14_0) rfl k) ?_
  show OwnEnds _ _ _ _ (s₁.setTop (mkF m 1 #[.val (.int fr), .val (.int to)] [(.int to)]))
  refine OwnEnds.via (fun t k => XS.iloadN X0.here hx rfl (hb hby d14_1) rfl k) ?_
  show OwnEnds _ _ _ _ (s₁.setTop (mkF m 2 #[.val (.int fr), .val (.int to)] [(.int fr), (.int to)]))
  refine OwnEnds.via (fun t k => XS.icmpYes X0.here hx rfl (pc0 := 2) (pc' := 37) rfl (hb hby d14_2) rfl (flt P0).2.1 (by decide) (by decide) k) ?_
  show OwnEnds _ _ _ _ (s₁.setTop (mkF m 37 #[.val (.int fr), .val (.int to)] []))
  obtain ⟨fs, hr, hrun, hended, hW, hsame⟩ := X0.leave (v := none) (fun _ => rfl)
  refine ⟨_, _, ?_, hrun, hended, _, _, rfl, ?_, ⟨_, rfl⟩, hW, hsame.mono (by decide) (by decide)⟩
  · exact X0.returnOut hx Bd.returns (hb hby d14_37) hr
  · show Q14 Z fr to h0 n0 _ s₁.heap _
    rw [e0]
    exact ⟨rfl, N0, rfl⟩

theorem d15_0 : decode jdk_29_method_69_code 0 = .ok (.iload_n 0, 1) := by decide +kernel
theorem d15_1 : decode jdk_29_method_69_code 1 = .ok (.iload_n 1, 1) := by decide +kernel
theorem d15_2 : decode jdk_29_method_69_code 2 = .ok (.if_icmp .gt 7, 3) := by decide +kernel
theorem d15_5 : decode jdk_29_method_69_code 5 = .ok (.iload_n 0, 1) := by decide +kernel
theorem d15_6 : decode jdk_29_method_69_code 6 = .ok (.goto 4, 3) := by decide +kernel
theorem d15_9 : decode jdk_29_method_69_code 9 = .ok (.iload_n 1, 1) := by decide +kernel
theorem d15_10 : decode jdk_29_method_69_code 10 = .ok (.ireturn, 1) := by decide +kernel
theorem pn_rm15 : plainFor (⟨"java/lang/Math", "min", "(II)I"⟩ : MethodName) = true := Jvm.Free.JP.mathPlain rfl (by decide +kernel)
theorem ef_rm15 (m : MethodId) (ix : Int32) (iy : Int32) : entryFrame m #[(.int ix), (.int iy)] 2 = mkF m 0 #[.val (.int ix), .val (.int iy)] [] := by first | (simp [entryFrame, mkF, argsToLocals, Value.category]; done) | rfl
def Q15 (Z : State) (ix : Int32) (iy : Int32) (h0 : Heap) (n0 : Nat) (v : Option Value) (h : Heap) (L : List Loc) : Prop := v = some (.int (own_min ix iy)) ∧ Fr n0 L ∧ h = h0
set_option maxRecDepth 65536 in
set_option maxHeartbeats 40000000 in
theorem rm15 (l : Launch) (Z : State) (a0 : Array Value) (hw : ∀ d ∈ tables_1, d.before a0 Z = true) (ws : List Jvm.Cond) (ix : Int32) (iy : Int32) (h0 : Heap) (n0 : Nat) (Z0 : n0 ≤ h0.size)  :
    MetFree l (⟨"java/lang/Math", "min", "(II)I"⟩ : MethodName) (head1 (Jvm.Cond.code (⟨"java/lang/Math", "min", "(II)I"⟩ : MethodName) jdk_29_method_69_code 2 (some .int) :: ws) ({ frames := 0, cells := 0, slots := 0, locals := 0 } : Room)) (fun aa U => aa = #[(.int ix), (.int iy)] ∧ Z.Warmed39 U.vm ∧ U.heap = h0) (fun _ _ _ _ _ => True) (fun _ U o U' => ∃ v L, o = .returned v ∧ Q15 Z ix iy h0 n0 v U'.heap L ∧ FrameEnd U o U' L ({ frames := 0, cells := 0, slots := 0, locals := 0 } : Room).cells ({ frames := 0, cells := 0, slots := 0, locals := 0 } : Room).slots) := by
  refine MetFree.of_bodySF pn_rm15 hisR ?_
  intro p e s m args below meth c s₁ Bd hml0 hP hK
  obtain ⟨rfl, hZ, hh⟩ := hP
  have hx := Bd.exec
  have hby := Bd.bytes
  have hml : c.maxLocals = 2 := hml0
  have hown : s.vm.findClass "java/lang/Math" = some m.cls := findClass_of_methodNamed Bd.named
  have hnm := (name_of_methodNamed Bd.named Bd.method).1
  have X0 : Stand p l e ({ frames := 0, cells := 0, slots := 0, locals := 0 } : Room) s m #[(.int ix), (.int iy)] below meth c s₁ [] 0 0 := Stand.of_body Bd
  have e0 : s₁.heap = h0 := by rw [← hh, Bd.state]; rfl
  have N0 := Fr.nil n0
  change OwnEnds p.tables e below _ _
  refine OwnEnds.via (fun t k => castTop (ef_rm15 m ix iy) k) ?_
  show OwnEnds _ _ _ _ (s₁.setTop (mkF m 0 #[.val (.int ix), .val (.int iy)] []))
  refine OwnEnds.via (fun t k => XS.iloadN X0.here hx rfl (hb hby d15_0) rfl k) ?_
  show OwnEnds _ _ _ _ (s₁.setTop (mkF m 1 #[.val (.int ix), .val (.int iy)] [(.int ix)]))
  refine OwnEnds.via (fun t k => XS.iloadN X0.here hx rfl (hb hby d15_1) rfl k) ?_
  show OwnEnds _ _ _ _ (s₁.setTop (mkF m 2 #[.val (.int ix), .val (.int iy)] [(.int iy), (.int ix)]))
  by_cases hc2_1 : iy < ix
  ·
    refine OwnEnds.via (fun t k => XS.icmpYes X0.here hx rfl (pc0 := 2) (pc' := 9) rfl (hb hby d15_2) rfl (tlt hc2_1).2.2.1 (by decide) (by decide) k) ?_
    show OwnEnds _ _ _ _ (s₁.setTop (mkF m 9 #[.val (.int ix), .val (.int iy)] []))
    refine OwnEnds.via (fun t k => XS.iloadN X0.here hx rfl (hb hby d15_9) rfl k) ?_
    show OwnEnds _ _ _ _ (s₁.setTop (mkF m 10 #[.val (.int ix), .val (.int iy)] [(.int iy)]))
    obtain ⟨fs, hr, hrun, hended, hW, hsame⟩ := X0.leave (v := some (.int iy)) (fun h => by rw [Bd.returns] at h; cases h)
    refine ⟨_, _, ?_, hrun, hended, _, _, rfl, ?_, ⟨_, rfl⟩, hW, hsame.mono (by decide) (by decide)⟩
    · exact retI X0 hx Bd.returns (hb hby d15_10) hr
    · show Q15 Z ix iy h0 n0 _ s₁.heap _
      rw [e0]
      exact ⟨(by rw [own_min, if_pos hc2_1]), N0, rfl⟩
  ·
    refine OwnEnds.via (fun t k => XS.icmpNo X0.here hx rfl (hb hby d15_2) rfl (flt hc2_1).2.2.1 k) ?_
    show OwnEnds _ _ _ _ (s₁.setTop (mkF m 5 #[.val (.int ix), .val (.int iy)] []))
    refine OwnEnds.via (fun t k => XS.iloadN X0.here hx rfl (hb hby d15_5) rfl k) ?_
    show OwnEnds _ _ _ _ (s₁.setTop (mkF m 6 #[.val (.int ix), .val (.int iy)] [(.int ix)]))
    refine OwnEnds.via (fun t k => XS.goto X0.here hx rfl (pc0 := 6) (pc' := 10) rfl (hb hby d15_6) (by decide) (by decide) k) ?_
    show OwnEnds _ _ _ _ (s₁.setTop (mkF m 10 #[.val (.int ix), .val (.int iy)] [(.int ix)]))
    obtain ⟨fs, hr, hrun, hended, hW, hsame⟩ := X0.leave (v := some (.int ix)) (fun h => by rw [Bd.returns] at h; cases h)
    refine ⟨_, _, ?_, hrun, hended, _, _, rfl, ?_, ⟨_, rfl⟩, hW, hsame.mono (by decide) (by decide)⟩
    · exact retI X0 hx Bd.returns (hb hby d15_10) hr
    · show Q15 Z ix iy h0 n0 _ s₁.heap _
      rw [e0]
      exact ⟨(by rw [own_min, if_neg hc2_1]), N0, rfl⟩

theorem d13_0 : decode jdk_65_method_133_code 0 = .ok (.iload_n 1, 1) := by decide +kernel
theorem d13_1 : decode jdk_65_method_133_code 1 = .ok (.iload_n 2, 1) := by decide +kernel
theorem d13_2 : decode jdk_65_method_133_code 2 = .ok (.invokestatic 343, 3) := by decide +kernel
theorem d13_5 : decode jdk_65_method_133_code 5 = .ok (.iload_n 2, 1) := by decide +kernel
theorem d13_6 : decode jdk_65_method_133_code 6 = .ok (.iload_n 1, 1) := by decide +kernel
theorem d13_7 : decode jdk_65_method_133_code 7 = .ok (.isub, 1) := by decide +kernel
theorem d13_8 : decode jdk_65_method_133_code 8 = .ok (.istore_n 3, 1) := by decide +kernel
theorem d13_9 : decode jdk_65_method_133_code 9 = .ok (.iload_n 3, 1) := by decide +kernel
theorem d13_10 : decode jdk_65_method_133_code 10 = .ok (.newarray .byte, 2) := by decide +kernel
theorem d13_12 : decode jdk_65_method_133_code 12 = .ok (.astore 4, 2) := by decide +kernel
theorem d13_14 : decode jdk_65_method_133_code 14 = .ok (.aload_n 0, 1) := by decide +kernel
theorem d13_15 : decode jdk_65_method_133_code 15 = .ok (.iload_n 1, 1) := by decide +kernel
theorem d13_16 : decode jdk_65_method_133_code 16 = .ok (.aload 4, 2) := by decide +kernel
theorem d13_18 : decode jdk_65_method_133_code 18 = .ok (.iconst 0, 1) := by decide +kernel
theorem d13_19 : decode jdk_65_method_133_code 19 = .ok (.aload_n 0, 1) := by decide +kernel
theorem d13_20 : decode jdk_65_method_133_code 20 = .ok (.arraylength, 1) := by decide +kernel
theorem d13_21 : decode jdk_65_method_133_code 21 = .ok (.iload_n 1, 1) := by decide +kernel
theorem d13_22 : decode jdk_65_method_133_code 22 = .ok (.isub, 1) := by decide +kernel
theorem d13_23 : decode jdk_65_method_133_code 23 = .ok (.iload_n 3, 1) := by decide +kernel
theorem d13_24 : decode jdk_65_method_133_code 24 = .ok (.invokestatic 304, 3) := by decide +kernel
theorem d13_27 : decode jdk_65_method_133_code 27 = .ok (.invokestatic 150, 3) := by decide +kernel
theorem d13_30 : decode jdk_65_method_133_code 30 = .ok (.aload 4, 2) := by decide +kernel
theorem d13_32 : decode jdk_65_method_133_code 32 = .ok (.areturn, 1) := by decide +kernel
theorem pn_rm13 : plainName "java/util/Arrays" = true := by first | (simp [plainName, overriddenIn]; done) | decide +kernel
theorem pd_7 : parseMethodDescriptor "(II)V" = some ⟨[.int, .int], none⟩ := by decide +kernel
theorem pd_8 : parseMethodDescriptor "(II)I" = some ⟨[.int, .int], some .int⟩ := by decide +kernel
theorem ef_rm13 (m : MethodId) (dd : Addr) (fr : Int32) (to : Int32) : entryFrame m #[(.ref dd), (.int fr), (.int to)] 5 = mkF m 0 #[.val (.ref dd), .val (.int fr), .val (.int to), .unset, .unset] [] := by first | (simp [entryFrame, mkF, argsToLocals, Value.category]; done) | rfl
def Q13 (Z : State) (dd : Addr) (fr : Int32) (to : Int32) (kd : ClassId) (vs : List Value) (h0 : Heap) (n0 : Nat) (v : Option Value) (h : Heap) (L : List Loc) : Prop := ∃ b : Addr, ∃ kb : ClassId, ∃ us : List Value, v = some (.ref b) ∧ Fr n0 L ∧ Keep h0 h [] ∧ h0.size ≤ b ∧ Arv Z h b kb .byte (to - fr) us (.int (0 : Int32))
set_option maxRecDepth 65536 in
set_option maxHeartbeats 40000000 in
theorem rm13 (l : Launch) (Z : State) (a0 : Array Value) (hw : ∀ d ∈ tables_1, d.before a0 Z = true) (ws : List Jvm.Cond) (dd : Addr) (fr : Int32) (to : Int32) (kd : ClassId) (vs : List Value) (h0 : Heap) (n0 : Nat) (Z0 : n0 ≤ h0.size) (P0 : Arv Z h0 dd kd .byte (5 : Int32) vs (.int (0 : Int32))) (P1 : 0 ≤ fr.toInt ∧ fr.toInt ≤ to.toInt ∧ to.toInt ≤ 5) :
    MetFree l (⟨"java/util/Arrays", "copyOfRangeByte", "([BII)[B"⟩ : MethodName) (head1 (Jvm.Cond.code (⟨"java/util/Arrays", "copyOfRangeByte", "([BII)[B"⟩ : MethodName) jdk_65_method_133_code 5 (some (.array .byte)) :: ws) ({ frames := 1, cells := 1, slots := 5, locals := 18 } : Room)) (fun aa U => aa = #[(.ref dd), (.int fr), (.int to)] ∧ Z.Warmed39 U.vm ∧ U.heap = h0) (fun _ _ _ _ _ => True) (fun _ U o U' => ∃ v L, o = .returned v ∧ Q13 Z dd fr to kd vs h0 n0 v U'.heap L ∧ FrameEnd U o U' L ({ frames := 1, cells := 1, slots := 5, locals := 18 } : Room).cells ({ frames := 1, cells := 1, slots := 5, locals := 18 } : Room).slots) := by
  refine MetFree.of_bodySF (plainFor_of_name pn_rm13) hisR ?_
  intro p e s m args below meth c s₁ Bd hml0 hP hK
  obtain ⟨rfl, hZ, hh⟩ := hP
  have hx := Bd.exec
  have hby := Bd.bytes
  have hml : c.maxLocals = 5 := hml0
  have hown : s.vm.findClass "java/util/Arrays" = some m.cls := findClass_of_methodNamed Bd.named
  have hnm := (name_of_methodNamed Bd.named Bd.method).1
  have X0 : Stand p l e ({ frames := 1, cells := 1, slots := 5, locals := 18 } : Room) s m #[(.ref dd), (.int fr), (.int to)] below meth c s₁ [] 0 0 := Stand.of_body Bd
  have e0 : s₁.heap = h0 := by rw [← hh, Bd.state]; rfl
  have N0 := Fr.nil n0
  change OwnEnds p.tables e below _ _
  refine OwnEnds.via (fun t k => castTop (ef_rm13 m dd fr to) k) ?_
  show OwnEnds _ _ _ _ (s₁.setTop (mkF m 0 #[.val (.ref dd), .val (.int fr), .val (.int to), .unset, .unset] []))
  refine OwnEnds.via (fun t k => XS.iloadN X0.here hx rfl (hb hby d13_0) rfl k) ?_
  show OwnEnds _ _ _ _ (s₁.setTop (mkF m 1 #[.val (.ref dd), .val (.int fr), .val (.int to), .unset, .unset] [(.int fr)]))
  refine OwnEnds.via (fun t k => XS.iloadN X0.here hx rfl (hb hby d13_1) rfl k) ?_
  show OwnEnds _ _ _ _ (s₁.setTop (mkF m 2 #[.val (.ref dd), .val (.int fr), .val (.int to), .unset, .unset] [(.int to), (.int fr)]))
  obtain ⟨_, _, ⟨T1, L1, k1, n1⟩, -, X1, ⟨Lc1, hQ1, l1, y1, z1⟩, st1⟩ := Jvm.LawKit.callS X0 hx (y := (⟨"java/util/Arrays", "checkLength", "(II)V"⟩ : MethodName)) hown (mvT hZ (hw _ (List.mem_of_getElem? (i := 62) rfl))) (mvT hZ (hw _ (List.mem_of_getElem? (i := 63) rfl))) (mvT hZ (hw _ (List.mem_of_getElem? (i := 57) rfl))) (mvT hZ (hw _ (List.mem_of_getElem? (i := 64) rfl))) (by decide) (backOf (W := 0) (rm14 l Z a0 hw [] fr to h0 n0 Z0 (own_ck P1)) hZ (hw _ (List.mem_of_getElem? (i := 64) rfl)) (hw _ (List.mem_of_getElem? (i := 57) rfl)) (by decide) (by decide)) (g := (mkF m 2 #[.val (.ref dd), .val (.int fr), .val (.int to), .unset, .unset] [(.int to), (.int fr)])) rfl (by rw [hml]; rfl) (argsL := [(.int fr), (.int to)]) (rest := []) (lenOf pd_7 rfl) rfl (by show 2 * 0 + _ ≤ _; exact Nat.le_of_eq rfl) (hb hby d13_2) (fun _ _ => ⟨rfl, e0, (by decide : 0 + 0 ≤ _), (by decide : 0 + 0 ≤ _)⟩)
  dsimp only [Pt.U, Pt.locs, Pt.cells, Pt.slots] at X1 l1 y1 z1 st1 hQ1
  subst l1 y1 z1
  obtain ⟨rfl, Nq1, e1⟩ := hQ1
  have N1 := Fr.app N0 Nq1
  refine OwnEnds.via st1 ?_
  show OwnEnds _ _ _ _ (T1.setTop (mkF m 5 #[.val (.ref dd), .val (.int fr), .val (.int to), .unset, .unset] []))
  refine OwnEnds.via (fun t k => XS.iloadN X1.here hx rfl (hb hby d13_5) rfl k) ?_
  show OwnEnds _ _ _ _ (T1.setTop (mkF m 6 #[.val (.ref dd), .val (.int fr), .val (.int to), .unset, .unset] [(.int to)]))
  refine OwnEnds.via (fun t k => XS.iloadN X1.here hx rfl (hb hby d13_6) rfl k) ?_
  show OwnEnds _ _ _ _ (T1.setTop (mkF m 7 #[.val (.ref dd), .val (.int fr), .val (.int to), .unset, .unset] [(.int fr), (.int to)]))
  refine OwnEnds.via (fun t k => XS.isub X1.here hx rfl (hb hby d13_7) rfl k) ?_
  show OwnEnds _ _ _ _ (T1.setTop (mkF m 8 #[.val (.ref dd), .val (.int fr), .val (.int to), .unset, .unset] [(.int (to - fr))]))
  refine OwnEnds.via (fun t k => XS.istoreN X1.here hx rfl (hb hby d13_8) rfl (l' := #[.val (.ref dd), .val (.int fr), .val (.int to), .val (.int (to - fr)), .unset]) rfl k) ?_
  show OwnEnds _ _ _ _ (T1.setTop (mkF m 9 #[.val (.ref dd), .val (.int fr), .val (.int to), .val (.int (to - fr)), .unset] []))
  refine OwnEnds.via (fun t k => XS.iloadN X1.here hx rfl (hb hby d13_9) rfl k) ?_
  show OwnEnds _ _ _ _ (T1.setTop (mkF m 10 #[.val (.ref dd), .val (.int fr), .val (.int to), .val (.int (to - fr)), .unset] [(.int (to - fr))]))
  obtain ⟨T2, h2, k2, X2, e2, E2, A2, st2⟩ := newP X1 hx hZ (hw _ (List.mem_of_getElem? (i := 1) rfl)) e1 (g := (mkF m 10 #[.val (.ref dd), .val (.int fr), .val (.int to), .val (.int (to - fr)), .unset] [(.int (to - fr))])) rfl (hb hby d13_10) rfl (own_nn P1) (cap := 5) (own_le P1) (by decide) (by decide) (by decide)
  obtain ⟨b2, g2⟩ : ∃ z, z = h0.size := ⟨_, rfl⟩
  have ne_dd_b2 : dd ≠ b2 := Nat.ne_of_lt (Nat.lt_of_lt_of_le P0.lt (Nat.le_of_eq g2.symm))
  have ge_b2 : n0 ≤ b2 := Nat.le_trans Z0 (Nat.le_of_eq g2.symm)
  have sz_b2 : h0.size ≤ b2 := Nat.le_trans (Keep.refl h0 []).1 (Nat.le_of_eq g2.symm)
  have Z2 : n0 ≤ h2.size := Nat.le_trans Z0 E2.1
  have K2 : Keep h0 h2 [] := (Keep.refl h0 []).ext E2
  rw [← g2] at A2 st2
  have V2 : Arv Z h2 b2 k2 .byte (to - fr) (List.replicate 5 (.int (0 : Int32))) (.int (0 : Int32)) := (Arv.new A2 (own_nn P1)).pad (pad_rep [] (.int (0 : Int32)) 5)
  refine OwnEnds.via st2 ?_
  show OwnEnds _ _ _ _ (T2.setTop (mkF m 12 #[.val (.ref dd), .val (.int fr), .val (.int to), .val (.int (to - fr)), .unset] [(.ref b2)]))
  refine OwnEnds.via (fun t k => XS.astore X2.here hx rfl (hb hby d13_12) rfl rfl (l' := #[.val (.ref dd), .val (.int fr), .val (.int to), .val (.int (to - fr)), .val (.ref b2)]) rfl k) ?_
  show OwnEnds _ _ _ _ (T2.setTop (mkF m 14 #[.val (.ref dd), .val (.int fr), .val (.int to), .val (.int (to - fr)), .val (.ref b2)] []))
  refine OwnEnds.via (fun t k => XS.aloadN X2.here hx rfl (hb hby d13_14) rfl rfl k) ?_
  show OwnEnds _ _ _ _ (T2.setTop (mkF m 15 #[.val (.ref dd), .val (.int fr), .val (.int to), .val (.int (to - fr)), .val (.ref b2)] [(.ref dd)]))
  refine OwnEnds.via (fun t k => XS.iloadN X2.here hx rfl (hb hby d13_15) rfl k) ?_
  show OwnEnds _ _ _ _ (T2.setTop (mkF m 16 #[.val (.ref dd), .val (.int fr), .val (.int to), .val (.int (to - fr)), .val (.ref b2)] [(.int fr), (.ref dd)]))
  refine OwnEnds.via (fun t k => XS.aload X2.here hx rfl (hb hby d13_16) rfl rfl k) ?_
  show OwnEnds _ _ _ _ (T2.setTop (mkF m 18 #[.val (.ref dd), .val (.int fr), .val (.int to), .val (.int (to - fr)), .val (.ref b2)] [(.ref b2), (.int fr), (.ref dd)]))
  refine OwnEnds.via (fun t k => XS.iconst X2.here hx rfl (hb hby d13_18) k) ?_
  show OwnEnds _ _ _ _ (T2.setTop (mkF m 19 #[.val (.ref dd), .val (.int fr), .val (.int to), .val (.int (to - fr)), .val (.ref b2)] [(.int (0 : Int32)), (.ref b2), (.int fr), (.ref dd)]))
  refine OwnEnds.via (fun t k => XS.aloadN X2.here hx rfl (hb hby d13_19) rfl rfl k) ?_
  show OwnEnds _ _ _ _ (T2.setTop (mkF m 20 #[.val (.ref dd), .val (.int fr), .val (.int to), .val (.int (to - fr)), .val (.ref b2)] [(.ref dd), (.int (0 : Int32)), (.ref b2), (.int fr), (.ref dd)]))
  obtain ⟨cl3, Ar3, q3, S3, M3, H3, G3⟩ := id (P0.ext E2)
  refine OwnEnds.via (X2.arraylength hx (by rw [e2]; exact Ar3.1) (State.isArrayOf_alike hZ.alike Ar3.2.1) (g := (mkF m 20 #[.val (.ref dd), .val (.int fr), .val (.int to), .val (.int (to - fr)), .val (.ref b2)] [(.ref dd), (.int (0 : Int32)), (.ref b2), (.int fr), (.ref dd)])) rfl rfl (hb hby d13_20)) ?_
  rw [len_of S3 M3]
  show OwnEnds _ _ _ _ (T2.setTop (mkF m 21 #[.val (.ref dd), .val (.int fr), .val (.int to), .val (.int (to - fr)), .val (.ref b2)] [(.int (5 : Int32)), (.int (0 : Int32)), (.ref b2), (.int fr), (.ref dd)]))
  refine OwnEnds.via (fun t k => XS.iloadN X2.here hx rfl (hb hby d13_21) rfl k) ?_
  show OwnEnds _ _ _ _ (T2.setTop (mkF m 22 #[.val (.ref dd), .val (.int fr), .val (.int to), .val (.int (to - fr)), .val (.ref b2)] [(.int fr), (.int (5 : Int32)), (.int (0 : Int32)), (.ref b2), (.int fr), (.ref dd)]))
  refine OwnEnds.via (fun t k => XS.isub X2.here hx rfl (hb hby d13_22) rfl k) ?_
  show OwnEnds _ _ _ _ (T2.setTop (mkF m 23 #[.val (.ref dd), .val (.int fr), .val (.int to), .val (.int (to - fr)), .val (.ref b2)] [(.int ((5 : Int32) - fr)), (.int (0 : Int32)), (.ref b2), (.int fr), (.ref dd)]))
  refine OwnEnds.via (fun t k => XS.iloadN X2.here hx rfl (hb hby d13_23) rfl k) ?_
  show OwnEnds _ _ _ _ (T2.setTop (mkF m 24 #[.val (.ref dd), .val (.int fr), .val (.int to), .val (.int (to - fr)), .val (.ref b2)] [(.int (to - fr)), (.int ((5 : Int32) - fr)), (.int (0 : Int32)), (.ref b2), (.int fr), (.ref dd)]))
  obtain ⟨_, _, ⟨T4, L4, k4, n4⟩, -, X4, ⟨Lc4, hQ4, l4, y4, z4⟩, st4⟩ := Jvm.LawKit.callS X2 hx (y := (⟨"java/lang/Math", "min", "(II)I"⟩ : MethodName)) hown (mvT hZ (hw _ (List.mem_of_getElem? (i := 65) rfl))) (mvT hZ (hw _ (List.mem_of_getElem? (i := 66) rfl))) (mvT hZ (hw _ (List.mem_of_getElem? (i := 67) rfl))) (mvT hZ (hw _ (List.mem_of_getElem? (i := 68) rfl))) (by decide) (backOf (W := 4) (rm15 l Z a0 hw [] ((5 : Int32) - fr) (to - fr) h2 n0 Z2 ) hZ (hw _ (List.mem_of_getElem? (i := 68) rfl)) (hw _ (List.mem_of_getElem? (i := 67) rfl)) (by decide) (by decide)) (g := (mkF m 24 #[.val (.ref dd), .val (.int fr), .val (.int to), .val (.int (to - fr)), .val (.ref b2)] [(.int (to - fr)), (.int ((5 : Int32) - fr)), (.int (0 : Int32)), (.ref b2), (.int fr), (.ref dd)])) rfl (by rw [hml]; rfl) (argsL := [(.int ((5 : Int32) - fr)), (.int (to - fr))]) (rest := [(.int (0 : Int32)), (.ref b2), (.int fr), (.ref dd)]) (lenOf pd_8 rfl) rfl (by show 2 * 0 + _ ≤ _; exact Nat.le_of_eq rfl) (hb hby d13_24) (fun _ _ => ⟨rfl, e2, (by decide : 1 + 0 ≤ _), (by decide : 5 + 0 ≤ _)⟩)
  dsimp only [Pt.U, Pt.locs, Pt.cells, Pt.slots] at X4 l4 y4 z4 st4 hQ4
  subst l4 y4 z4
  obtain ⟨rfl, Nq4, e4⟩ := hQ4
  have N4 := Fr.app N1 Nq4
  refine OwnEnds.via st4 ?_
  show OwnEnds _ _ _ _ (T4.setTop (mkF m 27 #[.val (.ref dd), .val (.int fr), .val (.int to), .val (.int (to - fr)), .val (.ref b2)] [(.int (own_min ((5 : Int32) - fr) (to - fr))), (.int (0 : Int32)), (.ref b2), (.int fr), (.ref dd)]))
  rw [show (own_min ((5 : Int32) - fr) (to - fr)) = (to - fr) from own_mn P1]
  show OwnEnds _ _ _ _ (T4.setTop (mkF m 27 #[.val (.ref dd), .val (.int fr), .val (.int to), .val (.int (to - fr)), .val (.ref b2)] [(.int (to - fr)), (.int (0 : Int32)), (.ref b2), (.int fr), (.ref dd)]))
  obtain ⟨T5, h5, L5, X5, e5, N5, Kq5, V5, st5⟩ := cpA X4 hx hZ hown (hw _ (List.mem_of_getElem? (i := 69) rfl)) (hw _ (List.mem_of_getElem? (i := 72) rfl)) (hw _ (List.mem_of_getElem? (i := 70) rfl)) (hw _ (List.mem_of_getElem? (i := 71) rfl)) e4 (sp := fr) (dp := (0 : Int32)) (nn := (to - fr)) (P0.ext E2) V2 (Or.inl ⟨rfl, rfl⟩) (own_f0 P1) (by decide) (own_nn P1) (own_h4 P1) (by show 0 + (to - fr).toNatClampNeg ≤ (to - fr).toNatClampNeg; omega) rfl (by show 0 + (to - fr).toNatClampNeg ≤ _; simp only [List.length_replicate]; have := own_le P1; omega) N4 ge_b2 (g := (mkF m 27 #[.val (.ref dd), .val (.int fr), .val (.int to), .val (.int (to - fr)), .val (.ref b2)] [(.int (to - fr)), (.int (0 : Int32)), (.ref b2), (.int fr), (.ref dd)])) rfl (by rw [hml]; rfl) rfl (hb hby d13_27) (by decide) (W := 0) (by show 2 * 0 + _ ≤ _; exact Nat.le_of_eq rfl) (by decide)
  have Z5 : n0 ≤ h5.size := Nat.le_trans Z2 Kq5.1
  have K5 : Keep h0 h5 [] := K2.trans Kq5 (allS (Or.inr sz_b2) all0)
  obtain ⟨us5, V5⟩ : ∃ us : List Value, Arv Z h5 b2 k2 .byte (to - fr) us (.int (0 : Int32)) := ⟨_, V5⟩
  refine OwnEnds.via st5 ?_
  show OwnEnds _ _ _ _ (T5.setTop (mkF m 30 #[.val (.ref dd), .val (.int fr), .val (.int to), .val (.int (to - fr)), .val (.ref b2)] []))
  refine OwnEnds.via (fun t k => XS.aload X5.here hx rfl (hb hby d13_30) rfl rfl k) ?_
  show OwnEnds _ _ _ _ (T5.setTop (mkF m 32 #[.val (.ref dd), .val (.int fr), .val (.int to), .val (.int (to - fr)), .val (.ref b2)] [(.ref b2)]))
  obtain ⟨fs, hr, hrun, hended, hW, hsame⟩ := X5.leave (v := some (.ref b2)) (fun h => by rw [Bd.returns] at h; cases h)
  refine ⟨_, _, ?_, hrun, hended, _, _, rfl, ?_, ⟨_, rfl⟩, hW, hsame.mono (by decide) (by decide)⟩
  · jvm_step X5.here [X5.here.top, hx, (hb hby d13_32), X5.method', Bd.returns, Value.isRef, FieldType.isReference]
    first | (intro acts; rw [hr _ acts rfl rfl rfl]) | rw [hr _ _ rfl rfl rfl]
    exact Steps.refl _
  · show Q13 Z dd fr to kd vs h0 n0 _ T5.heap _
    rw [e5]
    exact ⟨b2, k2, us5, rfl, N5, K5, sz_b2, V5⟩

theorem d12_0 : decode jdk_65_method_132_code 0 = .ok (.iload_n 1, 1) := by decide +kernel
theorem d12_1 : decode jdk_65_method_132_code 1 = .ok (.ifCond .ne 9, 3) := by decide +kernel
theorem d12_10 : decode jdk_65_method_132_code 10 = .ok (.aload_n 0, 1) := by decide +kernel
theorem d12_11 : decode jdk_65_method_132_code 11 = .ok (.iload_n 1, 1) := by decide +kernel
theorem d12_12 : decode jdk_65_method_132_code 12 = .ok (.iload_n 2, 1) := by decide +kernel
theorem d12_13 : decode jdk_65_method_132_code 13 = .ok (.invokestatic 339, 3) := by decide +kernel
theorem d12_16 : decode jdk_65_method_132_code 16 = .ok (.areturn, 1) := by decide +kernel
theorem pn_rm12 : plainName "java/util/Arrays" = true := by first | (simp [plainName, overriddenIn]; done) | decide +kernel
theorem pd_9 : parseMethodDescriptor "([BII)[B" = some ⟨[(.array .byte), .int, .int], some (.array .byte)⟩ := by decide +kernel
theorem ef_rm12 (m : MethodId) (dd : Addr) (fr : Int32) (to : Int32) : entryFrame m #[(.ref dd), (.int fr), (.int to)] 3 = mkF m 0 #[.val (.ref dd), .val (.int fr), .val (.int to)] [] := by first | (simp [entryFrame, mkF, argsToLocals, Value.category]; done) | rfl
def Q12 (Z : State) (dd : Addr) (fr : Int32) (to : Int32) (kd : ClassId) (vs : List Value) (h0 : Heap) (n0 : Nat) (v : Option Value) (h : Heap) (L : List Loc) : Prop := ∃ b : Addr, ∃ kb : ClassId, ∃ us : List Value, v = some (.ref b) ∧ Fr n0 L ∧ Keep h0 h [] ∧ h0.size ≤ b ∧ Arv Z h b kb .byte (to - fr) us (.int (0 : Int32))
set_option maxRecDepth 65536 in
set_option maxHeartbeats 40000000 in
theorem rm12 (l : Launch) (Z : State) (a0 : Array Value) (hw : ∀ d ∈ tables_1, d.before a0 Z = true) (ws : List Jvm.Cond) (dd : Addr) (fr : Int32) (to : Int32) (kd : ClassId) (vs : List Value) (h0 : Heap) (n0 : Nat) (Z0 : n0 ≤ h0.size) (P0 : Arv Z h0 dd kd .byte (5 : Int32) vs (.int (0 : Int32))) (P1 : 0 ≤ fr.toInt ∧ fr.toInt ≤ to.toInt ∧ to.toInt ≤ 5) (P2 : ¬ fr = (0 : Int32)) :
    MetFree l (⟨"java/util/Arrays", "copyOfRange", "([BII)[B"⟩ : MethodName) (head1 (Jvm.Cond.code (⟨"java/util/Arrays", "copyOfRange", "([BII)[B"⟩ : MethodName) jdk_65_method_132_code 3 (some (.array .byte)) :: ws) ({ frames := 2, cells := 1, slots := 5, locals := 34 } : Room)) (fun aa U => aa = #[(.ref dd), (.int fr), (.int to)] ∧ Z.Warmed39 U.vm ∧ U.heap = h0) (fun _ _ _ _ _ => True) (fun _ U o U' => ∃ v L, o = .returned v ∧ Q12 Z dd fr to kd vs h0 n0 v U'.heap L ∧ FrameEnd U o U' L ({ frames := 2, cells := 1, slots := 5, locals := 34 } : Room).cells ({ frames := 2, cells := 1, slots := 5, locals := 34 } : Room).slots) := by
  refine MetFree.of_bodySF (plainFor_of_name pn_rm12) hisR ?_
  intro p e s m args below meth c s₁ Bd hml0 hP hK
  obtain ⟨rfl, hZ, hh⟩ := hP
  have hx := Bd.exec
  have hby := Bd.bytes
  have hml : c.maxLocals = 3 := hml0
  have hown : s.vm.findClass "java/util/Arrays" = some m.cls := findClass_of_methodNamed Bd.named
  have hnm := (name_of_methodNamed Bd.named Bd.method).1
  have X0 : Stand p l e ({ frames := 2, cells := 1, slots := 5, locals := 34 } : Room) s m #[(.ref dd), (.int fr), (.int to)] below meth c s₁ [] 0 0 := Stand.of_body Bd
  have e0 : s₁.heap = h0 := by rw [← hh, Bd.state]; rfl
  have N0 := Fr.nil n0
  change OwnEnds p.tables e below _ _
  refine OwnEnds.via (fun t k => castTop (ef_rm12 m dd fr to) k) ?_
  show OwnEnds _ _ _ _ (s₁.setTop (mkF m 0 #[.val (.ref dd), .val (.int fr), .val (.int to)] []))
  refine OwnEnds.via (fun t k => XS.iloadN X0.here hx rfl (hb hby d12_0) rfl k) ?_
  show OwnEnds _ _ _ _ (s₁.setTop (mkF m 1 #[.val (.ref dd), .val (.int fr), .val (.int to)] [(.int fr)]))
  refine OwnEnds.via (fun t k => XS.ifYes X0.here hx rfl (pc0 := 1) (pc' := 10) rfl (hb hby d12_1) rfl ((if0 _ _).trans (feq P2).2) (by decide) (by decide) k) ?_
  show OwnEnds _ _ _ _ (s₁.setTop (mkF m 10 #[.val (.ref dd), .val (.int fr), .val (.int to)] []))
  refine OwnEnds.via (fun t k => XS.aloadN X0.here hx rfl (hb hby d12_10) rfl rfl k) ?_
  show OwnEnds _ _ _ _ (s₁.setTop (mkF m 11 #[.val (.ref dd), .val (.int fr), .val (.int to)] [(.ref dd)]))
  refine OwnEnds.via (fun t k => XS.iloadN X0.here hx rfl (hb hby d12_11) rfl k) ?_
  show OwnEnds _ _ _ _ (s₁.setTop (mkF m 12 #[.val (.ref dd), .val (.int fr), .val (.int to)] [(.int fr), (.ref dd)]))
  refine OwnEnds.via (fun t k => XS.iloadN X0.here hx rfl (hb hby d12_12) rfl k) ?_
  show OwnEnds _ _ _ _ (s₁.setTop (mkF m 13 #[.val (.ref dd), .val (.int fr), .val (.int to)] [(.int to), (.int fr), (.ref dd)]))
  obtain ⟨_, _, ⟨T1, L1, k1, n1⟩, -, X1, ⟨Lc1, hQ1, l1, y1, z1⟩, st1⟩ := Jvm.LawKit.callS X0 hx (y := (⟨"java/util/Arrays", "copyOfRangeByte", "([BII)[B"⟩ : MethodName)) hown (mvT hZ (hw _ (List.mem_of_getElem? (i := 59) rfl))) (mvT hZ (hw _ (List.mem_of_getElem? (i := 60) rfl))) (mvT hZ (hw _ (List.mem_of_getElem? (i := 57) rfl))) (mvT hZ (hw _ (List.mem_of_getElem? (i := 61) rfl))) (by decide) (backOf (W := 0) (rm13 l Z a0 hw [] dd fr to kd vs h0 n0 Z0 P0 P1) hZ (hw _ (List.mem_of_getElem? (i := 61) rfl)) (hw _ (List.mem_of_getElem? (i := 57) rfl)) (by decide) (by decide)) (g := (mkF m 13 #[.val (.ref dd), .val (.int fr), .val (.int to)] [(.int to), (.int fr), (.ref dd)])) rfl (by rw [hml]; rfl) (argsL := [(.ref dd), (.int fr), (.int to)]) (rest := []) (lenOf pd_9 rfl) rfl (by show 2 * 0 + _ ≤ _; exact Nat.le_of_eq rfl) (hb hby d12_13) (fun _ _ => ⟨rfl, e0, (by decide : 0 + 1 ≤ _), (by decide : 0 + 5 ≤ _)⟩)
  dsimp only [Pt.U, Pt.locs, Pt.cells, Pt.slots] at X1 l1 y1 z1 st1 hQ1
  subst l1 y1 z1
  obtain ⟨h1, e1⟩ : ∃ z, T1.heap = z := ⟨_, rfl⟩
  rw [e1] at hQ1
  obtain ⟨b_1, kb_1, us_1, rfl, Nq1, Kq1, q1_0, q1_1⟩ := hQ1
  have Z1 : n0 ≤ h1.size := Nat.le_trans Z0 Kq1.1
  have K1 : Keep h0 h1 [] := (Keep.refl h0 []).trans Kq1 all0
  have sz_b_1 : h0.size ≤ b_1 := Nat.le_trans (Keep.refl h0 []).1 q1_0
  have ne_dd_b_1 : dd ≠ b_1 := Nat.ne_of_lt (Nat.lt_of_lt_of_le P0.lt q1_0)
  have N1 := Fr.app N0 Nq1
  refine OwnEnds.via st1 ?_
  show OwnEnds _ _ _ _ (T1.setTop (mkF m 16 #[.val (.ref dd), .val (.int fr), .val (.int to)] [(.ref b_1)]))
  obtain ⟨fs, hr, hrun, hended, hW, hsame⟩ := X1.leave (v := some (.ref b_1)) (fun h => by rw [Bd.returns] at h; cases h)
  refine ⟨_, _, ?_, hrun, hended, _, _, rfl, ?_, ⟨_, rfl⟩, hW, hsame.mono (by decide) (by decide)⟩
  · jvm_step X1.here [X1.here.top, hx, (hb hby d12_16), X1.method', Bd.returns, Value.isRef, FieldType.isReference]
    first | (intro acts; rw [hr _ acts rfl rfl rfl]) | rw [hr _ _ rfl rfl rfl]
    exact Steps.refl _
  · show Q12 Z dd fr to kd vs h0 n0 _ T1.heap _
    rw [e1]
    exact ⟨b_1, kb_1, us_1, rfl, N1, K1, sz_b_1, q1_1⟩

theorem d11_0 : decode prog_57_method_12_code 0 = .ok (.aload_n 0, 1) := by decide +kernel
theorem d11_1 : decode prog_57_method_12_code 1 = .ok (.getfield 12, 3) := by decide +kernel
theorem d11_4 : decode prog_57_method_12_code 4 = .ok (.aload_n 0, 1) := by decide +kernel
theorem d11_5 : decode prog_57_method_12_code 5 = .ok (.getfield 16, 3) := by decide +kernel
theorem d11_8 : decode prog_57_method_12_code 8 = .ok (.aload_n 0, 1) := by decide +kernel
theorem d11_9 : decode prog_57_method_12_code 9 = .ok (.getfield 20, 3) := by decide +kernel
theorem d11_12 : decode prog_57_method_12_code 12 = .ok (.invokestatic 90, 3) := by decide +kernel
theorem d11_15 : decode prog_57_method_12_code 15 = .ok (.astore_n 1, 1) := by decide +kernel
theorem d11_16 : decode prog_57_method_12_code 16 = .ok (.aload_n 0, 1) := by decide +kernel
theorem d11_17 : decode prog_57_method_12_code 17 = .ok (.aload_n 0, 1) := by decide +kernel
theorem d11_18 : decode prog_57_method_12_code 18 = .ok (.getfield 20, 3) := by decide +kernel
theorem d11_21 : decode prog_57_method_12_code 21 = .ok (.putfield 16, 3) := by decide +kernel
theorem d11_24 : decode prog_57_method_12_code 24 = .ok (.aload_n 1, 1) := by decide +kernel
theorem d11_25 : decode prog_57_method_12_code 25 = .ok (.areturn, 1) := by decide +kernel
theorem pn_rm11 : plainName "com/example/birchwire/birchwire/protocol/BerReader" = true := by first | (simp [plainName, overriddenIn]; done) | decide +kernel
theorem ef_rm11 (m : MethodId) (a : Addr) : entryFrame m #[(.ref a)] 2 = mkF m 0 #[.val (.ref a), .unset] [] := by first | (simp [entryFrame, mkF, argsToLocals, Value.category]; done) | rfl
def Q11 (Z : State) (a : Addr) (dd : Addr) (fr : Int32) (to : Int32) (kd : ClassId) (vs : List Value) (h0 : Heap) (n0 : Nat) (v : Option Value) (h : Heap) (L : List Loc) : Prop := ∃ b : Addr, ∃ kb : ClassId, ∃ us : List Value, v = some (.ref b) ∧ Fr n0 L ∧ Keep h0 h [a] ∧ h0.size ≤ b ∧ Arv Z h b kb .byte (to - fr) us (.int (0 : Int32)) ∧ Exa Z h a "com/example/birchwire/birchwire/protocol/BerReader" ∧ Fld Z h a "com/example/birchwire/birchwire/protocol/BerReader" "data" "[B" (.ref dd) ∧ Fld Z h a "com/example/birchwire/birchwire/protocol/BerReader" "position" "I" (.int to) ∧ Fld Z h a "com/example/birchwire/birchwire/protocol/BerReader" "end" "I" (.int to)
set_option maxRecDepth 65536 in
set_option maxHeartbeats 40000000 in
theorem rm11 (l : Launch) (Z : State) (a0 : Array Value) (hw : ∀ d ∈ tables_1, d.before a0 Z = true) (ws : List Jvm.Cond) (a : Addr) (dd : Addr) (fr : Int32) (to : Int32) (kd : ClassId) (vs : List Value) (h0 : Heap) (n0 : Nat) (Z0 : n0 ≤ h0.size) (P0 : Exa Z h0 a "com/example/birchwire/birchwire/protocol/BerReader") (P1 : Fld Z h0 a "com/example/birchwire/birchwire/protocol/BerReader" "data" "[B" (.ref dd)) (P2 : Fld Z h0 a "com/example/birchwire/birchwire/protocol/BerReader" "position" "I" (.int fr)) (P3 : Fld Z h0 a "com/example/birchwire/birchwire/protocol/BerReader" "end" "I" (.int to)) (P4 : Arv Z h0 dd kd .byte (5 : Int32) vs (.int (0 : Int32))) (P5 : n0 ≤ a) (P6 : 0 ≤ fr.toInt ∧ fr.toInt ≤ to.toInt ∧ to.toInt ≤ 5) (P7 : ¬ fr = (0 : Int32)) :
    MetFree l (⟨"com/example/birchwire/birchwire/protocol/BerReader", "contentAsBytes", "()[B"⟩ : MethodName) (head1 (Jvm.Cond.code (⟨"com/example/birchwire/birchwire/protocol/BerReader", "contentAsBytes", "()[B"⟩ : MethodName) prog_57_method_12_code 2 (some (.array .byte)) :: ws) ({ frames := 3, cells := 1, slots := 5, locals := 48 } : Room)) (fun aa U => aa = #[(.ref a)] ∧ Z.Warmed39 U.vm ∧ U.heap = h0) (fun _ _ _ _ _ => True) (fun _ U o U' => ∃ v L, o = .returned v ∧ Q11 Z a dd fr to kd vs h0 n0 v U'.heap L ∧ FrameEnd U o U' L ({ frames := 3, cells := 1, slots := 5, locals := 48 } : Room).cells ({ frames := 3, cells := 1, slots := 5, locals := 48 } : Room).slots) := by
  refine MetFree.of_bodySF (plainFor_of_name pn_rm11) hisR ?_
  intro p e s m args below meth c s₁ Bd hml0 hP hK
  obtain ⟨rfl, hZ, hh⟩ := hP
  have hx := Bd.exec
  have hby := Bd.bytes
  have hml : c.maxLocals = 2 := hml0
  have hown : s.vm.findClass "com/example/birchwire/birchwire/protocol/BerReader" = some m.cls := findClass_of_methodNamed Bd.named
  have hnm := (name_of_methodNamed Bd.named Bd.method).1
  have X0 : Stand p l e ({ frames := 3, cells := 1, slots := 5, locals := 48 } : Room) s m #[(.ref a)] below meth c s₁ [] 0 0 := Stand.of_body Bd
  have e0 : s₁.heap = h0 := by rw [← hh, Bd.state]; rfl
  have N0 := Fr.nil n0
  change OwnEnds p.tables e below _ _
  refine OwnEnds.via (fun t k => castTop (ef_rm11 m a) k) ?_
  show OwnEnds _ _ _ _ (s₁.setTop (mkF m 0 #[.val (.ref a), .unset] []))
  refine OwnEnds.via (fun t k => XS.aloadN X0.here hx rfl (hb hby d11_0) rfl rfl k) ?_
  show OwnEnds _ _ _ _ (s₁.setTop (mkF m 1 #[.val (.ref a), .unset] [(.ref a)]))
  obtain ⟨T1, X1, e1, st1⟩ := getF X0 hx hZ hown (host := "") (Or.inl (hw _ (List.mem_of_getElem? (i := 14) rfl))) Via.refl e0 P1 (g := (mkF m 1 #[.val (.ref a), .unset] [(.ref a)])) rfl rfl (hb hby d11_1)
  refine OwnEnds.via st1 ?_
  show OwnEnds _ _ _ _ (T1.setTop (mkF m 4 #[.val (.ref a), .unset] [(.ref dd)]))
  refine OwnEnds.via (fun t k => XS.aloadN X1.here hx rfl (hb hby d11_4) rfl rfl k) ?_
  show OwnEnds _ _ _ _ (T1.setTop (mkF m 5 #[.val (.ref a), .unset] [(.ref a), (.ref dd)]))
  obtain ⟨T2, X2, e2, st2⟩ := getF X1 hx hZ hown (host := "") (Or.inl (hw _ (List.mem_of_getElem? (i := 16) rfl))) Via.refl e1 P2 (g := (mkF m 5 #[.val (.ref a), .unset] [(.ref a), (.ref dd)])) rfl rfl (hb hby d11_5)
  refine OwnEnds.via st2 ?_
  show OwnEnds _ _ _ _ (T2.setTop (mkF m 8 #[.val (.ref a), .unset] [(.int fr), (.ref dd)]))
  refine OwnEnds.via (fun t k => XS.aloadN X2.here hx rfl (hb hby d11_8) rfl rfl k) ?_
  show OwnEnds _ _ _ _ (T2.setTop (mkF m 9 #[.val (.ref a), .unset] [(.ref a), (.int fr), (.ref dd)]))
  obtain ⟨T3, X3, e3, st3⟩ := getF X2 hx hZ hown (host := "") (Or.inl (hw _ (List.mem_of_getElem? (i := 18) rfl))) Via.refl e2 P3 (g := (mkF m 9 #[.val (.ref a), .unset] [(.ref a), (.int fr), (.ref dd)])) rfl rfl (hb hby d11_9)
  refine OwnEnds.via st3 ?_
  show OwnEnds _ _ _ _ (T3.setTop (mkF m 12 #[.val (.ref a), .unset] [(.int to), (.int fr), (.ref dd)]))
  obtain ⟨_, _, ⟨T4, L4, k4, n4⟩, -, X4, ⟨Lc4, hQ4, l4, y4, z4⟩, st4⟩ := Jvm.LawKit.callS X3 hx (y := (⟨"java/util/Arrays", "copyOfRange", "([BII)[B"⟩ : MethodName)) hown (mvT hZ (hw _ (List.mem_of_getElem? (i := 55) rfl))) (mvT hZ (hw _ (List.mem_of_getElem? (i := 56) rfl))) (mvT hZ (hw _ (List.mem_of_getElem? (i := 57) rfl))) (mvT hZ (hw _ (List.mem_of_getElem? (i := 58) rfl))) (by decide) (backOf (W := 0) (rm12 l Z a0 hw [] dd fr to kd vs h0 n0 Z0 P4 P6 P7) hZ (hw _ (List.mem_of_getElem? (i := 58) rfl)) (hw _ (List.mem_of_getElem? (i := 57) rfl)) (by decide) (by decide)) (g := (mkF m 12 #[.val (.ref a), .unset] [(.int to), (.int fr), (.ref dd)])) rfl (by rw [hml]; rfl) (argsL := [(.ref dd), (.int fr), (.int to)]) (rest := []) (lenOf pd_9 rfl) rfl (by show 2 * 0 + _ ≤ _; exact Nat.le_of_eq rfl) (hb hby d11_12) (fun _ _ => ⟨rfl, e3, (by decide : 0 + 1 ≤ _), (by decide : 0 + 5 ≤ _)⟩)
  dsimp only [Pt.U, Pt.locs, Pt.cells, Pt.slots] at X4 l4 y4 z4 st4 hQ4
  subst l4 y4 z4
  obtain ⟨h4, e4⟩ : ∃ z, T4.heap = z := ⟨_, rfl⟩
  rw [e4] at hQ4
  obtain ⟨b_4, kb_4, us_4, rfl, Nq4, Kq4, q4_0, q4_1⟩ := hQ4
  have Z4 : n0 ≤ h4.size := Nat.le_trans Z0 Kq4.1
  have K4 : Keep h0 h4 [a] := (Keep.refl h0 [a]).trans Kq4 all0
  have sz_b_4 : h0.size ≤ b_4 := Nat.le_trans (Keep.refl h0 [a]).1 q4_0
  have ne_a_b_4 : a ≠ b_4 := Nat.ne_of_lt (Nat.lt_of_lt_of_le P0.lt q4_0)
  have ne_dd_b_4 : dd ≠ b_4 := Nat.ne_of_lt (Nat.lt_of_lt_of_le P4.lt q4_0)
  have N4 := Fr.app N0 Nq4
  refine OwnEnds.via st4 ?_
  show OwnEnds _ _ _ _ (T4.setTop (mkF m 15 #[.val (.ref a), .unset] [(.ref b_4)]))
  refine OwnEnds.via (fun t k => XS.astoreN X4.here hx rfl (hb hby d11_15) rfl rfl (l' := #[.val (.ref a), .val (.ref b_4)]) rfl k) ?_
  show OwnEnds _ _ _ _ (T4.setTop (mkF m 16 #[.val (.ref a), .val (.ref b_4)] []))
  refine OwnEnds.via (fun t k => XS.aloadN X4.here hx rfl (hb hby d11_16) rfl rfl k) ?_
  show OwnEnds _ _ _ _ (T4.setTop (mkF m 17 #[.val (.ref a), .val (.ref b_4)] [(.ref a)]))
  refine OwnEnds.via (fun t k => XS.aloadN X4.here hx rfl (hb hby d11_17) rfl rfl k) ?_
  show OwnEnds _ _ _ _ (T4.setTop (mkF m 18 #[.val (.ref a), .val (.ref b_4)] [(.ref a), (.ref a)]))
  obtain ⟨T5, X5, e5, st5⟩ := getF X4 hx hZ hown (host := "") (Or.inl (hw _ (List.mem_of_getElem? (i := 18) rfl))) Via.refl e4 (P3.keep Kq4 nin0) (g := (mkF m 18 #[.val (.ref a), .val (.ref b_4)] [(.ref a), (.ref a)])) rfl rfl (hb hby d11_18)
  refine OwnEnds.via st5 ?_
  show OwnEnds _ _ _ _ (T5.setTop (mkF m 21 #[.val (.ref a), .val (.ref b_4)] [(.int to), (.ref a)]))
  obtain ⟨T6, h6, X6, e6, W6, st6⟩ := putF X5 hx hZ hown (host := "") (Or.inl (hw _ (List.mem_of_getElem? (i := 16) rfl))) Via.refl e5 (P2.keep Kq4 nin0) (P0.keep Kq4) (Or.inl (hw _ (List.mem_of_getElem? (i := 17) rfl))) (hw _ (List.mem_of_getElem? (i := 3) rfl)) (ty := .int) (by decide) rfl rfl (g := (mkF m 21 #[.val (.ref a), .val (.ref b_4)] [(.int to), (.ref a)])) rfl rfl (hb hby d11_21)
  have Fw6 : Fld Z h6 a "com/example/birchwire/birchwire/protocol/BerReader" "position" "I" (.int to) := (P2.keep Kq4 nin0).same W6
  have N6 := Fr.snoc X6 N4 P5
  have Z6 : n0 ≤ h6.size := Nat.le_trans Z4 (Nat.le_of_eq W6.size.symm)
  have K6 : Keep h0 h6 [a] := K4.wr W6 (Or.inl (by simp))
  refine OwnEnds.via st6 ?_
  show OwnEnds _ _ _ _ (T6.setTop (mkF m 24 #[.val (.ref a), .val (.ref b_4)] []))
  refine OwnEnds.via (fun t k => XS.aloadN X6.here hx rfl (hb hby d11_24) rfl rfl k) ?_
  show OwnEnds _ _ _ _ (T6.setTop (mkF m 25 #[.val (.ref a), .val (.ref b_4)] [(.ref b_4)]))
  obtain ⟨fs, hr, hrun, hended, hW, hsame⟩ := X6.leave (v := some (.ref b_4)) (fun h => by rw [Bd.returns] at h; cases h)
  refine ⟨_, _, ?_, hrun, hended, _, _, rfl, ?_, ⟨_, rfl⟩, hW, hsame.mono (by decide) (by decide)⟩
  · jvm_step X6.here [X6.here.top, hx, (hb hby d11_25), X6.method', Bd.returns, Value.isRef, FieldType.isReference]
    first | (intro acts; rw [hr _ acts rfl rfl rfl]) | rw [hr _ _ rfl rfl rfl]
    exact Steps.refl _
  · show Q11 Z a dd fr to kd vs h0 n0 _ T6.heap _
    rw [e6]
    exact ⟨b_4, kb_4, us_4, rfl, N6, K6, sz_b_4, (q4_1.other W6 (Ne.symm ne_a_b_4)), ((P0.keep Kq4).wr W6), ((P1.keep Kq4 nin0).other W6 (Or.inr (slot_ne (Or.inr (hw _ (List.mem_of_getElem? (i := 15) rfl))) (Or.inl (hw _ (List.mem_of_getElem? (i := 17) rfl))) (by decide) (t := (.array .byte)) (t' := .int) (by decide) (by decide)))), Fw6, ((P3.keep Kq4 nin0).other W6 (Or.inr (slot_ne (Or.inr (hw _ (List.mem_of_getElem? (i := 19) rfl))) (Or.inl (hw _ (List.mem_of_getElem? (i := 17) rfl))) (by decide) (t := .int) (t' := .int) (by decide) (by decide))))⟩

theorem own_ofNat (r : Int32) (N : Nat) (hN : N ≤ 2147483648) (h0 : 0 ≤ r.toInt) (h1 : r.toInt < N) : ∃ n : Fin N, r = n.val.toInt32 := by
  refine ⟨⟨r.toInt.toNat, by omega⟩, Int32.toInt_inj.mp ?_⟩
  rw [len_toInt (by show r.toInt.toNat < 2 ^ 31; omega)]
  show r.toInt = (r.toInt.toNat : Int)
  omega
theorem own_t0 : ∀ n : Fin 256, n.val.toInt32 &&& (31 : Int32) = (31 : Int32) → (0 ≤ (n.val.toInt32 ^^^ (1 : Int32)).toInt ∧ (n.val.toInt32 ^^^ (1 : Int32)).toInt ≤ 255) ∧ ¬ ((n.val.toInt32 ^^^ (1 : Int32)) &&& (31 : Int32)) = (31 : Int32) := by decide +kernel
theorem own_r8 (x : Int32) : 0 ≤ (x &&& (255 : Int32)).toInt ∧ (x &&& (255 : Int32)).toInt ≤ 255 := by
  have hm := c_mask x (255 : Int32) 8 (by decide) (by decide)
  rw [hm]
  omega
theorem own_t (x : Int32) (h : (x &&& (255 : Int32)) &&& (31 : Int32) = (31 : Int32)) : (0 ≤ ((x &&& (255 : Int32)) ^^^ (1 : Int32)).toInt ∧ ((x &&& (255 : Int32)) ^^^ (1 : Int32)).toInt ≤ 255) ∧ ¬ (((x &&& (255 : Int32)) ^^^ (1 : Int32)) &&& (31 : Int32)) = (31 : Int32) := by
  obtain ⟨n, hn⟩ := own_ofNat (x &&& (255 : Int32)) 256 (by decide) (own_r8 x).1 (by have := (own_r8 x).2; omega)
  rw [hn] at h ⊢
  exact own_t0 n h
theorem own_c4 (x : Int32) : 0 ≤ ((x &&& (2147483647 : Int32)) % (4 : Int32)).toInt ∧ ((x &&& (2147483647 : Int32)) % (4 : Int32)).toInt ≤ 3 := by
  have hm := c_mask x (2147483647 : Int32) 31 (by decide) (by decide)
  have h0 : 0 ≤ (x &&& (2147483647 : Int32)).toInt := by rw [hm]; exact Int.emod_nonneg _ (by decide)
  have h := (c_irem (x &&& (2147483647 : Int32)) 4 4 (by decide)).1 h0
  rw [h]
  omega
theorem own_by (v : Int32) (h : 0 ≤ v.toInt ∧ v.toInt ≤ 255) : ((nar .byte (v.toInt8.toInt32)) &&& (255 : Int32)) = v := by
  obtain ⟨c1, c2, c3⟩ := c_i2b v
  obtain ⟨d1, d2, d3⟩ := c_i2b v.toInt8.toInt32
  have m2 := c_mask v.toInt8.toInt32.toInt8.toInt32 (255 : Int32) 8 (by decide) (by decide)
  have e : (nar .byte (v.toInt8.toInt32)) = v.toInt8.toInt32.toInt8.toInt32 := rfl
  rw [e, ← Int32.toInt_inj, m2]
  omega
theorem own_b3 {v : Int32} (h : 0 ≤ v.toInt ∧ v.toInt ≤ 3) : ((nar .byte (v.toInt8.toInt32)) &&& (255 : Int32)) = v := own_by v ⟨h.1, by omega⟩
theorem own_lt {v : Int32} (h : 0 ≤ v.toInt ∧ v.toInt ≤ 3) : ((nar .byte (v.toInt8.toInt32)) &&& (255 : Int32)) < (128 : Int32) := by
  rw [own_b3 h, Int32.lt_iff_toInt_lt]
  have z : (128 : Int32).toInt = 128 := by decide
  omega
theorem own_lc {v : Int32} (h : 0 ≤ v.toInt ∧ v.toInt ≤ 3) : ¬ (0 : Int32) < lcmpW v.toInt64 ((3 : Int32).toInt64) := by
  rw [lw_gt, Int64.lt_iff_toInt_lt, c_i2l, c_i2l]
  have z : (3 : Int32).toInt = 3 := by decide
  omega
theorem own_e2 {cl : Int32} (h : 0 ≤ cl.toInt ∧ cl.toInt ≤ 3) : ((2 : Int32) + ((cl.toInt64).toInt32)).toInt = 2 + cl.toInt := by
  have a := c_iadd 2 (cl.toInt64).toInt32
  have r := rng32 ((2 : Int32) + ((cl.toInt64).toInt32))
  have z : (2 : Int32).toInt = 2 := by decide
  have b := c_l2i cl.toInt64
  rw [c_i2l] at b
  have r2 := rng32 (cl.toInt64).toInt32
  omega
theorem own_g1 {cl : Int32} (h : 0 ≤ cl.toInt ∧ cl.toInt ≤ 3) (q : (0 : Int32) < cl) : (if (2 : Int32) < ((2 : Int32) + ((cl.toInt64).toInt32)) then (1 : Int32) else (0 : Int32)) = (1 : Int32) := by
  rw [if_pos]
  rw [Int32.lt_iff_toInt_lt] at q ⊢
  rw [own_e2 h]
  have z : (2 : Int32).toInt = 2 := by decide
  have z0 : (0 : Int32).toInt = 0 := by decide
  omega
theorem own_g0 {cl : Int32} (h : 0 ≤ cl.toInt ∧ cl.toInt ≤ 3) (q : ¬ (0 : Int32) < cl) : (if (2 : Int32) < ((2 : Int32) + ((cl.toInt64).toInt32)) then (1 : Int32) else (0 : Int32)) = (0 : Int32) := by
  rw [if_neg]
  rw [Int32.lt_iff_toInt_lt] at q ⊢
  rw [own_e2 h]
  have z : (2 : Int32).toInt = 2 := by decide
  have z0 : (0 : Int32).toInt = 0 := by decide
  omega
theorem own_k1 {cl : Int32} (h : 0 ≤ cl.toInt ∧ cl.toInt ≤ 3) (q : cl < (3 : Int32)) : (if ((2 : Int32) + ((cl.toInt64).toInt32)) < (5 : Int32) then (1 : Int32) else (0 : Int32)) = (1 : Int32) := by
  rw [if_pos]
  rw [Int32.lt_iff_toInt_lt] at q ⊢
  rw [own_e2 h]
  have z : (5 : Int32).toInt = 5 := by decide
  have z0 : (3 : Int32).toInt = 3 := by decide
  omega
theorem own_k0 {cl : Int32} (h : 0 ≤ cl.toInt ∧ cl.toInt ≤ 3) (q : ¬ cl < (3 : Int32)) : (if ((2 : Int32) + ((cl.toInt64).toInt32)) < (5 : Int32) then (1 : Int32) else (0 : Int32)) = (0 : Int32) := by
  rw [if_neg]
  rw [Int32.lt_iff_toInt_lt] at q ⊢
  rw [own_e2 h]
  have z : (5 : Int32).toInt = 5 := by decide
  have z0 : (3 : Int32).toInt = 3 := by decide
  omega
theorem own_w1 {cl : Int32} (h : 0 ≤ cl.toInt ∧ cl.toInt ≤ 3) : 0 ≤ (2 : Int32).toInt ∧ (2 : Int32).toInt ≤ ((2 : Int32) + ((cl.toInt64).toInt32)).toInt ∧ ((2 : Int32) + ((cl.toInt64).toInt32)).toInt ≤ 5 := by
  rw [own_e2 h]
  have z : (2 : Int32).toInt = 2 := by decide
  omega
theorem own_w2 {cl : Int32} (h : 0 ≤ cl.toInt ∧ cl.toInt ≤ 3) : 0 ≤ ((2 : Int32) + ((cl.toInt64).toInt32)).toInt ∧ ((2 : Int32) + ((cl.toInt64).toInt32)).toInt ≤ (5 : Int32).toInt ∧ (5 : Int32).toInt ≤ 5 := by
  rw [own_e2 h]
  have z : (5 : Int32).toInt = 5 := by decide
  omega
theorem own_nz {cl : Int32} (h : 0 ≤ cl.toInt ∧ cl.toInt ≤ 3) : ¬ ((2 : Int32) + ((cl.toInt64).toInt32)) = (0 : Int32) := by
  rw [← Int32.toInt_inj, own_e2 h]
  have z0 : (0 : Int32).toInt = 0 := by decide
  omega
theorem own_l1 {cl : Int32} (h : 0 ≤ cl.toInt ∧ cl.toInt ≤ 3) : (((2 : Int32) + ((cl.toInt64).toInt32)) - (2 : Int32)) = cl := by
  rw [← Int32.toInt_inj]
  have a := c_isub ((2 : Int32) + ((cl.toInt64).toInt32)) 2
  have r := rng32 (((2 : Int32) + ((cl.toInt64).toInt32)) - (2 : Int32))
  rw [own_e2 h] at a
  have z : (2 : Int32).toInt = 2 := by decide
  omega
theorem own_l2 {cl : Int32} (h : 0 ≤ cl.toInt ∧ cl.toInt ≤ 3) : ((5 : Int32) - ((2 : Int32) + ((cl.toInt64).toInt32))) = ((3 : Int32) - cl) := by
  rw [← Int32.toInt_inj]
  have a := c_isub 5 ((2 : Int32) + ((cl.toInt64).toInt32))
  have r := rng32 ((5 : Int32) - ((2 : Int32) + ((cl.toInt64).toInt32)))
  have a2 := c_isub 3 cl
  have r2 := rng32 ((3 : Int32) - cl)
  rw [own_e2 h] at a
  have z : (5 : Int32).toInt = 5 := by decide
  have z3 : (3 : Int32).toInt = 3 := by decide
  omega
theorem own_ir (x : Int32) : (if x < x then (1 : Int32) else (0 : Int32)) = (0 : Int32) := by simp

theorem pn_rm0 : plainName "com/example/birchwire/birchwire/protocol/BerReaderHasRemainingPinLaw" = true := by first | (simp [plainName, overriddenIn]; done) | decide +kernel
theorem pd_10 : parseMethodDescriptor "([B)V" = some ⟨[(.array .byte)], none⟩ := by decide +kernel
theorem pd_11 : parseMethodDescriptor "(I)Lcom/example/birchwire/birchwire/protocol/BerReader;" = some ⟨[.int], some (.object "com/example/birchwire/birchwire/protocol/BerReader")⟩ := by decide +kernel
theorem pd_12 : parseMethodDescriptor "()[B" = some ⟨[], some (.array .byte)⟩ := by decide +kernel
theorem ef_rm0 (m : MethodId) (pt : Int32) (pl : Int32) (p0 : Int32) (p1 : Int32) (p2 : Int32) : entryFrame m #[(.int pt), (.int pl), (.int p0), (.int p1), (.int p2)] maxLocals = mkF m 0 #[.val (.int pt), .val (.int pl), .val (.int p0), .val (.int p1), .val (.int p2), .unset, .unset, .unset, .unset, .unset, .unset, .unset, .unset] [] := by first | (simp [entryFrame, mkF, argsToLocals, Value.category, maxLocals]; done) | rfl
def Q0 (Z : State) (pt : Int32) (pl : Int32) (p0 : Int32) (p1 : Int32) (p2 : Int32) (h0 : Heap) (n0 : Nat) (v : Option Value) (h : Heap) (L : List Loc) : Prop := v = some (.int (1 : Int32)) ∧ Fr n0 L
set_option maxRecDepth 65536 in
set_option maxHeartbeats 40000000 in
theorem rm0 (l : Launch) (Z : State) (a0 : Array Value) (hw : ∀ d ∈ tables_1, d.before a0 Z = true) (ws : List Jvm.Cond) (pt : Int32) (pl : Int32) (p0 : Int32) (p1 : Int32) (p2 : Int32) (h0 : Heap) (n0 : Nat) (Z0 : n0 ≤ h0.size)  :
    MetFree l x (head1 (Jvm.Cond.code x code maxLocals ret :: ws) room_1) (fun aa U => aa = #[(.int pt), (.int pl), (.int p0), (.int p1), (.int p2)] ∧ Z.Warmed39 U.vm ∧ U.heap = h0) (fun _ _ _ _ _ => True) (fun _ U o U' => ∃ v L, o = .returned v ∧ Q0 Z pt pl p0 p1 p2 h0 n0 v U'.heap L ∧ FrameEnd U o U' L room_1.cells room_1.slots) := by
  refine MetFree.of_bodySF (plainFor_of_name pn_rm0) hisR ?_
  intro p e s m args below meth c s₁ Bd hml0 hP hK
  obtain ⟨rfl, hZ, hh⟩ := hP
  have hx := Bd.exec
  have hby := Bd.bytes
  have hml : c.maxLocals = 13 := hml0
  have hown : s.vm.findClass "com/example/birchwire/birchwire/protocol/BerReaderHasRemainingPinLaw" = some m.cls := findClass_of_methodNamed Bd.named
  have hnm := (name_of_methodNamed Bd.named Bd.method).1
  have X0 : Stand p l e room_1 s m #[(.int pt), (.int pl), (.int p0), (.int p1), (.int p2)] below meth c s₁ [] 0 0 := Stand.of_body Bd
  have e0 : s₁.heap = h0 := by rw [← hh, Bd.state]; rfl
  have N0 := Fr.nil n0
  change OwnEnds p.tables e below _ _
  refine OwnEnds.via (fun t k => castTop (ef_rm0 m pt pl p0 p1 p2) k) ?_
  show OwnEnds _ _ _ _ (s₁.setTop (mkF m 0 #[.val (.int pt), .val (.int pl), .val (.int p0), .val (.int p1), .val (.int p2), .unset, .unset, .unset, .unset, .unset, .unset, .unset, .unset] []))
  refine OwnEnds.via (fun t k => XS.iloadN X0.here hx rfl (hb hby at_0) rfl k) ?_
  show OwnEnds _ _ _ _ (s₁.setTop (mkF m 1 #[.val (.int pt), .val (.int pl), .val (.int p0), .val (.int p1), .val (.int p2), .unset, .unset, .unset, .unset, .unset, .unset, .unset, .unset] [(.int pt)]))
  refine OwnEnds.via (fun t k => XS.sipush X0.here hx rfl (hb hby at_1) k) ?_
  show OwnEnds _ _ _ _ (s₁.setTop (mkF m 4 #[.val (.int pt), .val (.int pl), .val (.int p0), .val (.int p1), .val (.int p2), .unset, .unset, .unset, .unset, .unset, .unset, .unset, .unset] [(.int (255 : Int32)), (.int pt)]))
  refine OwnEnds.via (fun t k => XS.iand X0.here hx rfl (hb hby at_4) rfl k) ?_
  show OwnEnds _ _ _ _ (s₁.setTop (mkF m 5 #[.val (.int pt), .val (.int pl), .val (.int p0), .val (.int p1), .val (.int p2), .unset, .unset, .unset, .unset, .unset, .unset, .unset, .unset] [(.int (pt &&& (255 : Int32)))]))
  refine OwnEnds.via (fun t k => XS.istore X0.here hx rfl (hb hby at_5) rfl (l' := #[.val (.int pt), .val (.int pl), .val (.int p0), .val (.int p1), .val (.int p2), .val (.int (pt &&& (255 : Int32))), .unset, .unset, .unset, .unset, .unset, .unset, .unset]) rfl k) ?_
  show OwnEnds _ _ _ _ (s₁.setTop (mkF m 7 #[.val (.int pt), .val (.int pl), .val (.int p0), .val (.int p1), .val (.int p2), .val (.int (pt &&& (255 : Int32))), .unset, .unset, .unset, .unset, .unset, .unset, .unset] []))
  refine OwnEnds.via (fun t k => XS.iload X0.here hx rfl (hb hby at_7) rfl k) ?_
  show OwnEnds _ _ _ _ (s₁.setTop (mkF m 9 #[.val (.int pt), .val (.int pl), .val (.int p0), .val (.int p1), .val (.int p2), .val (.int (pt &&& (255 : Int32))), .unset, .unset, .unset, .unset, .unset, .unset, .unset] [(.int (pt &&& (255 : Int32)))]))
  refine OwnEnds.via (fun t k => XS.bipush X0.here hx rfl (hb hby at_9) k) ?_
  show OwnEnds _ _ _ _ (s₁.setTop (mkF m 11 #[.val (.int pt), .val (.int pl), .val (.int p0), .val (.int p1), .val (.int p2), .val (.int (pt &&& (255 : Int32))), .unset, .unset, .unset, .unset, .unset, .unset, .unset] [(.int (31 : Int32)), (.int (pt &&& (255 : Int32)))]))
  refine OwnEnds.via (fun t k => XS.iand X0.here hx rfl (hb hby at_11) rfl k) ?_
  show OwnEnds _ _ _ _ (s₁.setTop (mkF m 12 #[.val (.int pt), .val (.int pl), .val (.int p0), .val (.int p1), .val (.int p2), .val (.int (pt &&& (255 : Int32))), .unset, .unset, .unset, .unset, .unset, .unset, .unset] [(.int ((pt &&& (255 : Int32)) &&& (31 : Int32)))]))
  refine OwnEnds.via (fun t k => XS.bipush X0.here hx rfl (hb hby at_12) k) ?_
  show OwnEnds _ _ _ _ (s₁.setTop (mkF m 14 #[.val (.int pt), .val (.int pl), .val (.int p0), .val (.int p1), .val (.int p2), .val (.int (pt &&& (255 : Int32))), .unset, .unset, .unset, .unset, .unset, .unset, .unset] [(.int (31 : Int32)), (.int ((pt &&& (255 : Int32)) &&& (31 : Int32)))]))
  refine OwnEnds.cut (fun G => ∀ (T1 : State) (lc1 : List Loc) (X1 : Stand p l e room_1 s m #[(.int pt), (.int pl), (.int p0), (.int p1), (.int p2)] below meth c T1 lc1 0 0) (e1 : T1.heap = h0) (N1 : Fr n0 lc1) (tg : Int32) (hj1_0 : 0 ≤ tg.toInt ∧ tg.toInt ≤ 255) (hj1_1 : ¬ (tg &&& (31 : Int32)) = (31 : Int32)), G (T1.setTop (mkF m 23 #[.val (.int pt), .val (.int pl), .val (.int p0), .val (.int p1), .val (.int p2), .val (.int tg), .unset, .unset, .unset, .unset, .unset, .unset, .unset] []))) ?_ ?_
  · intro T1 lc1 X1 e1 N1 tg hj1_0 hj1_1
    show OwnEnds _ _ _ _ (T1.setTop (mkF m 23 #[.val (.int pt), .val (.int pl), .val (.int p0), .val (.int p1), .val (.int p2), .val (.int tg), .unset, .unset, .unset, .unset, .unset, .unset, .unset] []))
    refine OwnEnds.via (fun t k => XS.iloadN X1.here hx rfl (hb hby at_23) rfl k) ?_
    show OwnEnds _ _ _ _ (T1.setTop (mkF m 24 #[.val (.int pt), .val (.int pl), .val (.int p0), .val (.int p1), .val (.int p2), .val (.int tg), .unset, .unset, .unset, .unset, .unset, .unset, .unset] [(.int pl)]))
    refine OwnEnds.via (X1.ldcInt hx hown (mvT hZ (hw _ (List.mem_of_getElem? (i := 0) rfl))) (g := (mkF m 24 #[.val (.int pt), .val (.int pl), .val (.int p0), .val (.int p1), .val (.int p2), .val (.int tg), .unset, .unset, .unset, .unset, .unset, .unset, .unset] [(.int pl)])) rfl (hb hby at_24)) ?_
    show OwnEnds _ _ _ _ (T1.setTop (mkF m 26 #[.val (.int pt), .val (.int pl), .val (.int p0), .val (.int p1), .val (.int p2), .val (.int tg), .unset, .unset, .unset, .unset, .unset, .unset, .unset] [(.int (2147483647 : Int32)), (.int pl)]))
    refine OwnEnds.via (fun t k => XS.iand X1.here hx rfl (hb hby at_26) rfl k) ?_
    show OwnEnds _ _ _ _ (T1.setTop (mkF m 27 #[.val (.int pt), .val (.int pl), .val (.int p0), .val (.int p1), .val (.int p2), .val (.int tg), .unset, .unset, .unset, .unset, .unset, .unset, .unset] [(.int (pl &&& (2147483647 : Int32)))]))
    refine OwnEnds.via (fun t k => XS.iconst X1.here hx rfl (hb hby at_27) k) ?_
    show OwnEnds _ _ _ _ (T1.setTop (mkF m 28 #[.val (.int pt), .val (.int pl), .val (.int p0), .val (.int p1), .val (.int p2), .val (.int tg), .unset, .unset, .unset, .unset, .unset, .unset, .unset] [(.int (4 : Int32)), (.int (pl &&& (2147483647 : Int32)))]))
    refine OwnEnds.via (fun t k => XS.irem X1.here hx rfl (hb hby at_28) rfl (by decide) k) ?_
    rw [Jvm.irem_eq_mod]
    show OwnEnds _ _ _ _ (T1.setTop (mkF m 29 #[.val (.int pt), .val (.int pl), .val (.int p0), .val (.int p1), .val (.int p2), .val (.int tg), .unset, .unset, .unset, .unset, .unset, .unset, .unset] [(.int ((pl &&& (2147483647 : Int32)) % (4 : Int32)))]))
    refine OwnEnds.via (fun t k => XS.istore X1.here hx rfl (hb hby at_29) rfl (l' := #[.val (.int pt), .val (.int pl), .val (.int p0), .val (.int p1), .val (.int p2), .val (.int tg), .val (.int ((pl &&& (2147483647 : Int32)) % (4 : Int32))), .unset, .unset, .unset, .unset, .unset, .unset]) rfl k) ?_
    show OwnEnds _ _ _ _ (T1.setTop (mkF m 31 #[.val (.int pt), .val (.int pl), .val (.int p0), .val (.int p1), .val (.int p2), .val (.int tg), .val (.int ((pl &&& (2147483647 : Int32)) % (4 : Int32))), .unset, .unset, .unset, .unset, .unset, .unset] []))
    obtain ⟨cl, h_cl⟩ : ∃ z : Int32, z = ((pl &&& (2147483647 : Int32)) % (4 : Int32)) := ⟨_, rfl⟩
    rw [← h_cl]
    have rc : 0 ≤ cl.toInt ∧ cl.toInt ≤ 3 := by rw [h_cl]; exact own_c4 pl
    show OwnEnds _ _ _ _ (T1.setTop (mkF m 31 #[.val (.int pt), .val (.int pl), .val (.int p0), .val (.int p1), .val (.int p2), .val (.int tg), .val (.int cl), .unset, .unset, .unset, .unset, .unset, .unset] []))
    refine OwnEnds.via (fun t k => XS.iconst X1.here hx rfl (hb hby at_31) k) ?_
    show OwnEnds _ _ _ _ (T1.setTop (mkF m 32 #[.val (.int pt), .val (.int pl), .val (.int p0), .val (.int p1), .val (.int p2), .val (.int tg), .val (.int cl), .unset, .unset, .unset, .unset, .unset, .unset] [(.int (5 : Int32))]))
    obtain ⟨T2, h2, k2, X2, e2, E2, A2, st2⟩ := newP X1 hx hZ (hw _ (List.mem_of_getElem? (i := 1) rfl)) e1 (g := (mkF m 32 #[.val (.int pt), .val (.int pl), .val (.int p0), .val (.int p1), .val (.int p2), .val (.int tg), .val (.int cl), .unset, .unset, .unset, .unset, .unset, .unset] [(.int (5 : Int32))])) rfl (hb hby at_32) rfl (by decide) (cap := 5) (by decide) (by decide) (by decide) (by decide)
    obtain ⟨b2, g2⟩ : ∃ z, z = h0.size := ⟨_, rfl⟩
    have ge_b2 : n0 ≤ b2 := Nat.le_trans Z0 (Nat.le_of_eq g2.symm)
    have Z2 : n0 ≤ h2.size := Nat.le_trans Z0 E2.1
    rw [← g2] at A2 st2
    have V2 : Arv Z h2 b2 k2 .byte (5 : Int32) [(.int (0 : Int32)), (.int (0 : Int32)), (.int (0 : Int32)), (.int (0 : Int32)), (.int (0 : Int32))] (.int (0 : Int32)) := (Arv.new A2 (by decide)).pad (pad_rep [] (.int (0 : Int32)) 5)
    refine OwnEnds.via st2 ?_
    show OwnEnds _ _ _ _ (T2.setTop (mkF m 34 #[.val (.int pt), .val (.int pl), .val (.int p0), .val (.int p1), .val (.int p2), .val (.int tg), .val (.int cl), .unset, .unset, .unset, .unset, .unset, .unset] [(.ref b2)]))
    refine OwnEnds.via (fun t k => XS.astore X2.here hx rfl (hb hby at_34) rfl rfl (l' := #[.val (.int pt), .val (.int pl), .val (.int p0), .val (.int p1), .val (.int p2), .val (.int tg), .val (.int cl), .val (.ref b2), .unset, .unset, .unset, .unset, .unset]) rfl k) ?_
    show OwnEnds _ _ _ _ (T2.setTop (mkF m 36 #[.val (.int pt), .val (.int pl), .val (.int p0), .val (.int p1), .val (.int p2), .val (.int tg), .val (.int cl), .val (.ref b2), .unset, .unset, .unset, .unset, .unset] []))
    refine OwnEnds.via (fun t k => XS.aload X2.here hx rfl (hb hby at_36) rfl rfl k) ?_
    show OwnEnds _ _ _ _ (T2.setTop (mkF m 38 #[.val (.int pt), .val (.int pl), .val (.int p0), .val (.int p1), .val (.int p2), .val (.int tg), .val (.int cl), .val (.ref b2), .unset, .unset, .unset, .unset, .unset] [(.ref b2)]))
    refine OwnEnds.via (fun t k => XS.iconst X2.here hx rfl (hb hby at_38) k) ?_
    show OwnEnds _ _ _ _ (T2.setTop (mkF m 39 #[.val (.int pt), .val (.int pl), .val (.int p0), .val (.int p1), .val (.int p2), .val (.int tg), .val (.int cl), .val (.ref b2), .unset, .unset, .unset, .unset, .unset] [(.int (0 : Int32)), (.ref b2)]))
    refine OwnEnds.via (fun t k => XS.iload X2.here hx rfl (hb hby at_39) rfl k) ?_
    show OwnEnds _ _ _ _ (T2.setTop (mkF m 41 #[.val (.int pt), .val (.int pl), .val (.int p0), .val (.int p1), .val (.int p2), .val (.int tg), .val (.int cl), .val (.ref b2), .unset, .unset, .unset, .unset, .unset] [(.int tg), (.int (0 : Int32)), (.ref b2)]))
    refine OwnEnds.via (fun t k => XS.i2b X2.here hx rfl (hb hby at_41) rfl k) ?_
    show OwnEnds _ _ _ _ (T2.setTop (mkF m 42 #[.val (.int pt), .val (.int pl), .val (.int p0), .val (.int p1), .val (.int p2), .val (.int tg), .val (.int cl), .val (.ref b2), .unset, .unset, .unset, .unset, .unset] [(.int (tg.toInt8.toInt32)), (.int (0 : Int32)), (.ref b2)]))
    obtain ⟨cl3, Ar3, q3, S3, M3, H3, G3⟩ := id V2
    have hin3 : ¬ ((0 : Int32) < 0 ∨ cl3.slots.size ≤ ((0 : Int32)).toNatClampNeg) := inb_of S3 ⟨by decide, by decide⟩
    obtain ⟨T3, h3, X3, e3, W3, st3⟩ := stB X2 hx hZ e2 Ar3 (j := (0 : Int32)) hin3 (g := (mkF m 42 #[.val (.int pt), .val (.int pl), .val (.int p0), .val (.int p1), .val (.int p2), .val (.int tg), .val (.int cl), .val (.ref b2), .unset, .unset, .unset, .unset, .unset] [(.int (tg.toInt8.toInt32)), (.int (0 : Int32)), (.ref b2)])) rfl rfl (hb hby at_42)
    have V3 : Arv Z h3 b2 k2 .byte (5 : Int32) [(.int (nar .byte (tg.toInt8.toInt32))), (.int (0 : Int32)), (.int (0 : Int32)), (.int (0 : Int32)), (.int (0 : Int32))] (.int (0 : Int32)) := Arv.set Ar3 q3 S3 M3 H3 G3 (fits_nar_byte _) W3 0 rfl (Nat.le_of_ble_eq_true rfl)
    have N3 := Fr.snoc X3 N1 ge_b2
    have Z3 : n0 ≤ h3.size := Nat.le_trans Z2 (Nat.le_of_eq W3.size.symm)
    refine OwnEnds.via st3 ?_
    show OwnEnds _ _ _ _ (T3.setTop (mkF m 43 #[.val (.int pt), .val (.int pl), .val (.int p0), .val (.int p1), .val (.int p2), .val (.int tg), .val (.int cl), .val (.ref b2), .unset, .unset, .unset, .unset, .unset] []))
    refine OwnEnds.via (fun t k => XS.aload X3.here hx rfl (hb hby at_43) rfl rfl k) ?_
    show OwnEnds _ _ _ _ (T3.setTop (mkF m 45 #[.val (.int pt), .val (.int pl), .val (.int p0), .val (.int p1), .val (.int p2), .val (.int tg), .val (.int cl), .val (.ref b2), .unset, .unset, .unset, .unset, .unset] [(.ref b2)]))
    refine OwnEnds.via (fun t k => XS.iconst X3.here hx rfl (hb hby at_45) k) ?_
    show OwnEnds _ _ _ _ (T3.setTop (mkF m 46 #[.val (.int pt), .val (.int pl), .val (.int p0), .val (.int p1), .val (.int p2), .val (.int tg), .val (.int cl), .val (.ref b2), .unset, .unset, .unset, .unset, .unset] [(.int (1 : Int32)), (.ref b2)]))
    refine OwnEnds.via (fun t k => XS.iload X3.here hx rfl (hb hby at_46) rfl k) ?_
    show OwnEnds _ _ _ _ (T3.setTop (mkF m 48 #[.val (.int pt), .val (.int pl), .val (.int p0), .val (.int p1), .val (.int p2), .val (.int tg), .val (.int cl), .val (.ref b2), .unset, .unset, .unset, .unset, .unset] [(.int cl), (.int (1 : Int32)), (.ref b2)]))
    refine OwnEnds.via (fun t k => XS.i2b X3.here hx rfl (hb hby at_48) rfl k) ?_
    show OwnEnds _ _ _ _ (T3.setTop (mkF m 49 #[.val (.int pt), .val (.int pl), .val (.int p0), .val (.int p1), .val (.int p2), .val (.int tg), .val (.int cl), .val (.ref b2), .unset, .unset, .unset, .unset, .unset] [(.int (cl.toInt8.toInt32)), (.int (1 : Int32)), (.ref b2)]))
    obtain ⟨cl4, Ar4, q4, S4, M4, H4, G4⟩ := id V3
    have hin4 : ¬ ((1 : Int32) < 0 ∨ cl4.slots.size ≤ ((1 : Int32)).toNatClampNeg) := inb_of S4 ⟨by decide, by decide⟩
    obtain ⟨T4, h4, X4, e4, W4, st4⟩ := stB X3 hx hZ e3 Ar4 (j := (1 : Int32)) hin4 (g := (mkF m 49 #[.val (.int pt), .val (.int pl), .val (.int p0), .val (.int p1), .val (.int p2), .val (.int tg), .val (.int cl), .val (.ref b2), .unset, .unset, .unset, .unset, .unset] [(.int (cl.toInt8.toInt32)), (.int (1 : Int32)), (.ref b2)])) rfl rfl (hb hby at_49)
    have V4 : Arv Z h4 b2 k2 .byte (5 : Int32) [(.int (nar .byte (tg.toInt8.toInt32))), (.int (nar .byte (cl.toInt8.toInt32))), (.int (0 : Int32)), (.int (0 : Int32)), (.int (0 : Int32))] (.int (0 : Int32)) := Arv.set Ar4 q4 S4 M4 H4 G4 (fits_nar_byte _) W4 1 rfl (Nat.le_of_ble_eq_true rfl)
    have N4 := Fr.snoc X4 N3 ge_b2
    have Z4 : n0 ≤ h4.size := Nat.le_trans Z3 (Nat.le_of_eq W4.size.symm)
    refine OwnEnds.via st4 ?_
    show OwnEnds _ _ _ _ (T4.setTop (mkF m 50 #[.val (.int pt), .val (.int pl), .val (.int p0), .val (.int p1), .val (.int p2), .val (.int tg), .val (.int cl), .val (.ref b2), .unset, .unset, .unset, .unset, .unset] []))
    refine OwnEnds.via (fun t k => XS.aload X4.here hx rfl (hb hby at_50) rfl rfl k) ?_
    show OwnEnds _ _ _ _ (T4.setTop (mkF m 52 #[.val (.int pt), .val (.int pl), .val (.int p0), .val (.int p1), .val (.int p2), .val (.int tg), .val (.int cl), .val (.ref b2), .unset, .unset, .unset, .unset, .unset] [(.ref b2)]))
    refine OwnEnds.via (fun t k => XS.iconst X4.here hx rfl (hb hby at_52) k) ?_
    show OwnEnds _ _ _ _ (T4.setTop (mkF m 53 #[.val (.int pt), .val (.int pl), .val (.int p0), .val (.int p1), .val (.int p2), .val (.int tg), .val (.int cl), .val (.ref b2), .unset, .unset, .unset, .unset, .unset] [(.int (2 : Int32)), (.ref b2)]))
    refine OwnEnds.via (fun t k => XS.iloadN X4.here hx rfl (hb hby at_53) rfl k) ?_
    show OwnEnds _ _ _ _ (T4.setTop (mkF m 54 #[.val (.int pt), .val (.int pl), .val (.int p0), .val (.int p1), .val (.int p2), .val (.int tg), .val (.int cl), .val (.ref b2), .unset, .unset, .unset, .unset, .unset] [(.int p0), (.int (2 : Int32)), (.ref b2)]))
    refine OwnEnds.via (fun t k => XS.i2b X4.here hx rfl (hb hby at_54) rfl k) ?_
    show OwnEnds _ _ _ _ (T4.setTop (mkF m 55 #[.val (.int pt), .val (.int pl), .val (.int p0), .val (.int p1), .val (.int p2), .val (.int tg), .val (.int cl), .val (.ref b2), .unset, .unset, .unset, .unset, .unset] [(.int (p0.toInt8.toInt32)), (.int (2 : Int32)), (.ref b2)]))
    obtain ⟨cl5, Ar5, q5, S5, M5, H5, G5⟩ := id V4
    have hin5 : ¬ ((2 : Int32) < 0 ∨ cl5.slots.size ≤ ((2 : Int32)).toNatClampNeg) := inb_of S5 ⟨by decide, by decide⟩
    obtain ⟨T5, h5, X5, e5, W5, st5⟩ := stB X4 hx hZ e4 Ar5 (j := (2 : Int32)) hin5 (g := (mkF m 55 #[.val (.int pt), .val (.int pl), .val (.int p0), .val (.int p1), .val (.int p2), .val (.int tg), .val (.int cl), .val (.ref b2), .unset, .unset, .unset, .unset, .unset] [(.int (p0.toInt8.toInt32)), (.int (2 : Int32)), (.ref b2)])) rfl rfl (hb hby at_55)
    have V5 : Arv Z h5 b2 k2 .byte (5 : Int32) [(.int (nar .byte (tg.toInt8.toInt32))), (.int (nar .byte (cl.toInt8.toInt32))), (.int (nar .byte (p0.toInt8.toInt32))), (.int (0 : Int32)), (.int (0 : Int32))] (.int (0 : Int32)) := Arv.set Ar5 q5 S5 M5 H5 G5 (fits_nar_byte _) W5 2 rfl (Nat.le_of_ble_eq_true rfl)
    have N5 := Fr.snoc X5 N4 ge_b2
    have Z5 : n0 ≤ h5.size := Nat.le_trans Z4 (Nat.le_of_eq W5.size.symm)
    refine OwnEnds.via st5 ?_
    show OwnEnds _ _ _ _ (T5.setTop (mkF m 56 #[.val (.int pt), .val (.int pl), .val (.int p0), .val (.int p1), .val (.int p2), .val (.int tg), .val (.int cl), .val (.ref b2), .unset, .unset, .unset, .unset, .unset] []))
    refine OwnEnds.via (fun t k => XS.aload X5.here hx rfl (hb hby at_56) rfl rfl k) ?_
    show OwnEnds _ _ _ _ (T5.setTop (mkF m 58 #[.val (.int pt), .val (.int pl), .val (.int p0), .val (.int p1), .val (.int p2), .val (.int tg), .val (.int cl), .val (.ref b2), .unset, .unset, .unset, .unset, .unset] [(.ref b2)]))
    refine OwnEnds.via (fun t k => XS.iconst X5.here hx rfl (hb hby at_58) k) ?_
    show OwnEnds _ _ _ _ (T5.setTop (mkF m 59 #[.val (.int pt), .val (.int pl), .val (.int p0), .val (.int p1), .val (.int p2), .val (.int tg), .val (.int cl), .val (.ref b2), .unset, .unset, .unset, .unset, .unset] [(.int (3 : Int32)), (.ref b2)]))
    refine OwnEnds.via (fun t k => XS.iloadN X5.here hx rfl (hb hby at_59) rfl k) ?_
    show OwnEnds _ _ _ _ (T5.setTop (mkF m 60 #[.val (.int pt), .val (.int pl), .val (.int p0), .val (.int p1), .val (.int p2), .val (.int tg), .val (.int cl), .val (.ref b2), .unset, .unset, .unset, .unset, .unset] [(.int p1), (.int (3 : Int32)), (.ref b2)]))
    refine OwnEnds.via (fun t k => XS.i2b X5.here hx rfl (hb hby at_60) rfl k) ?_
    show OwnEnds _ _ _ _ (T5.setTop (mkF m 61 #[.val (.int pt), .val (.int pl), .val (.int p0), .val (.int p1), .val (.int p2), .val (.int tg), .val (.int cl), .val (.ref b2), .unset, .unset, .unset, .unset, .unset] [(.int (p1.toInt8.toInt32)), (.int (3 : Int32)), (.ref b2)]))
    obtain ⟨cl6, Ar6, q6, S6, M6, H6, G6⟩ := id V5
    have hin6 : ¬ ((3 : Int32) < 0 ∨ cl6.slots.size ≤ ((3 : Int32)).toNatClampNeg) := inb_of S6 ⟨by decide, by decide⟩
    obtain ⟨T6, h6, X6, e6, W6, st6⟩ := stB X5 hx hZ e5 Ar6 (j := (3 : Int32)) hin6 (g := (mkF m 61 #[.val (.int pt), .val (.int pl), .val (.int p0), .val (.int p1), .val (.int p2), .val (.int tg), .val (.int cl), .val (.ref b2), .unset, .unset, .unset, .unset, .unset] [(.int (p1.toInt8.toInt32)), (.int (3 : Int32)), (.ref b2)])) rfl rfl (hb hby at_61)
    have V6 : Arv Z h6 b2 k2 .byte (5 : Int32) [(.int (nar .byte (tg.toInt8.toInt32))), (.int (nar .byte (cl.toInt8.toInt32))), (.int (nar .byte (p0.toInt8.toInt32))), (.int (nar .byte (p1.toInt8.toInt32))), (.int (0 : Int32))] (.int (0 : Int32)) := Arv.set Ar6 q6 S6 M6 H6 G6 (fits_nar_byte _) W6 3 rfl (Nat.le_of_ble_eq_true rfl)
    have N6 := Fr.snoc X6 N5 ge_b2
    have Z6 : n0 ≤ h6.size := Nat.le_trans Z5 (Nat.le_of_eq W6.size.symm)
    refine OwnEnds.via st6 ?_
    show OwnEnds _ _ _ _ (T6.setTop (mkF m 62 #[.val (.int pt), .val (.int pl), .val (.int p0), .val (.int p1), .val (.int p2), .val (.int tg), .val (.int cl), .val (.ref b2), .unset, .unset, .unset, .unset, .unset] []))
    refine OwnEnds.via (fun t k => XS.aload X6.here hx rfl (hb hby at_62) rfl rfl k) ?_
    show OwnEnds _ _ _ _ (T6.setTop (mkF m 64 #[.val (.int pt), .val (.int pl), .val (.int p0), .val (.int p1), .val (.int p2), .val (.int tg), .val (.int cl), .val (.ref b2), .unset, .unset, .unset, .unset, .unset] [(.ref b2)]))
    refine OwnEnds.via (fun t k => XS.iconst X6.here hx rfl (hb hby at_64) k) ?_
    show OwnEnds _ _ _ _ (T6.setTop (mkF m 65 #[.val (.int pt), .val (.int pl), .val (.int p0), .val (.int p1), .val (.int p2), .val (.int tg), .val (.int cl), .val (.ref b2), .unset, .unset, .unset, .unset, .unset] [(.int (4 : Int32)), (.ref b2)]))
    refine OwnEnds.via (fun t k => XS.iload X6.here hx rfl (hb hby at_65) rfl k) ?_
    show OwnEnds _ _ _ _ (T6.setTop (mkF m 67 #[.val (.int pt), .val (.int pl), .val (.int p0), .val (.int p1), .val (.int p2), .val (.int tg), .val (.int cl), .val (.ref b2), .unset, .unset, .unset, .unset, .unset] [(.int p2), (.int (4 : Int32)), (.ref b2)]))
    refine OwnEnds.via (fun t k => XS.i2b X6.here hx rfl (hb hby at_67) rfl k) ?_
    show OwnEnds _ _ _ _ (T6.setTop (mkF m 68 #[.val (.int pt), .val (.int pl), .val (.int p0), .val (.int p1), .val (.int p2), .val (.int tg), .val (.int cl), .val (.ref b2), .unset, .unset, .unset, .unset, .unset] [(.int (p2.toInt8.toInt32)), (.int (4 : Int32)), (.ref b2)]))
    obtain ⟨cl7, Ar7, q7, S7, M7, H7, G7⟩ := id V6
    have hin7 : ¬ ((4 : Int32) < 0 ∨ cl7.slots.size ≤ ((4 : Int32)).toNatClampNeg) := inb_of S7 ⟨by decide, by decide⟩
    obtain ⟨T7, h7, X7, e7, W7, st7⟩ := stB X6 hx hZ e6 Ar7 (j := (4 : Int32)) hin7 (g := (mkF m 68 #[.val (.int pt), .val (.int pl), .val (.int p0), .val (.int p1), .val (.int p2), .val (.int tg), .val (.int cl), .val (.ref b2), .unset, .unset, .unset, .unset, .unset] [(.int (p2.toInt8.toInt32)), (.int (4 : Int32)), (.ref b2)])) rfl rfl (hb hby at_68)
    have V7 : Arv Z h7 b2 k2 .byte (5 : Int32) [(.int (nar .byte (tg.toInt8.toInt32))), (.int (nar .byte (cl.toInt8.toInt32))), (.int (nar .byte (p0.toInt8.toInt32))), (.int (nar .byte (p1.toInt8.toInt32))), (.int (nar .byte (p2.toInt8.toInt32)))] (.int (0 : Int32)) := Arv.set Ar7 q7 S7 M7 H7 G7 (fits_nar_byte _) W7 4 rfl (Nat.le_of_ble_eq_true rfl)
    have N7 := Fr.snoc X7 N6 ge_b2
    have Z7 : n0 ≤ h7.size := Nat.le_trans Z6 (Nat.le_of_eq W7.size.symm)
    refine OwnEnds.via st7 ?_
    show OwnEnds _ _ _ _ (T7.setTop (mkF m 69 #[.val (.int pt), .val (.int pl), .val (.int p0), .val (.int p1), .val (.int p2), .val (.int tg), .val (.int cl), .val (.ref b2), .unset, .unset, .unset, .unset, .unset] []))
    obtain ⟨T8, h8, X8, e8, E8, A8, D8, -, st8⟩ := newO X7 hx hZ hown (hw _ (List.mem_of_getElem? (i := 2) rfl)) (hw _ (List.mem_of_getElem? (i := 3) rfl)) (hw _ (List.mem_of_getElem? (i := 4) rfl)) e7 (g := (mkF m 69 #[.val (.int pt), .val (.int pl), .val (.int p0), .val (.int p1), .val (.int p2), .val (.int tg), .val (.int cl), .val (.ref b2), .unset, .unset, .unset, .unset, .unset] [])) rfl (hb hby at_69) (by decide) (by decide)
    obtain ⟨b8, g8⟩ : ∃ z, z = h7.size := ⟨_, rfl⟩
    have ne_b2_b8 : b2 ≠ b8 := Nat.ne_of_lt (Nat.lt_of_lt_of_le V7.lt (Nat.le_of_eq g8.symm))
    have ge_b8 : n0 ≤ b8 := Nat.le_trans Z7 (Nat.le_of_eq g8.symm)
    have Z8 : n0 ≤ h8.size := Nat.le_trans Z7 E8.1
    rw [← g8] at A8 D8 st8
    have F8_data : Fld Z h8 b8 "com/example/birchwire/birchwire/protocol/BerReader" "data" "[B" .null := D8 (Or.inr (hw _ (List.mem_of_getElem? (i := 15) rfl))) (ty := (.array .byte)) (by decide)
    have F8_position : Fld Z h8 b8 "com/example/birchwire/birchwire/protocol/BerReader" "position" "I" (.int (0 : Int32)) := D8 (Or.inl (hw _ (List.mem_of_getElem? (i := 17) rfl))) (ty := .int) (by decide)
    have F8_end : Fld Z h8 b8 "com/example/birchwire/birchwire/protocol/BerReader" "end" "I" (.int (0 : Int32)) := D8 (Or.inr (hw _ (List.mem_of_getElem? (i := 19) rfl))) (ty := .int) (by decide)
    refine OwnEnds.via st8 ?_
    show OwnEnds _ _ _ _ (T8.setTop (mkF m 72 #[.val (.int pt), .val (.int pl), .val (.int p0), .val (.int p1), .val (.int p2), .val (.int tg), .val (.int cl), .val (.ref b2), .unset, .unset, .unset, .unset, .unset] [(.ref b8)]))
    refine OwnEnds.via (fun t k => XS.dup X8.here hx rfl (hb hby at_72) rfl rfl k) ?_
    show OwnEnds _ _ _ _ (T8.setTop (mkF m 73 #[.val (.int pt), .val (.int pl), .val (.int p0), .val (.int p1), .val (.int p2), .val (.int tg), .val (.int cl), .val (.ref b2), .unset, .unset, .unset, .unset, .unset] [(.ref b8), (.ref b8)]))
    refine OwnEnds.via (fun t k => XS.aload X8.here hx rfl (hb hby at_73) rfl rfl k) ?_
    show OwnEnds _ _ _ _ (T8.setTop (mkF m 75 #[.val (.int pt), .val (.int pl), .val (.int p0), .val (.int p1), .val (.int p2), .val (.int tg), .val (.int cl), .val (.ref b2), .unset, .unset, .unset, .unset, .unset] [(.ref b2), (.ref b8), (.ref b8)]))
    obtain ⟨_, _, ⟨T9, L9, k9, n9⟩, -, X9, ⟨Lc9, hQ9, l9, y9, z9⟩, st9⟩ := X8.specialBack hx (y := (⟨"com/example/birchwire/birchwire/protocol/BerReader", "<init>", "([B)V"⟩ : MethodName)) rfl hown (mvT hZ (hw _ (List.mem_of_getElem? (i := 5) rfl))) (mvT hZ (hw _ (List.mem_of_getElem? (i := 6) rfl))) (mvT hZ (hw _ (List.mem_of_getElem? (i := 7) rfl))) (by decide) (backOf (W := 1) (rm1 l Z a0 hw [] b8 b2 k2 (nar .byte (tg.toInt8.toInt32)) (nar .byte (cl.toInt8.toInt32)) (nar .byte (p0.toInt8.toInt32)) (nar .byte (p1.toInt8.toInt32)) (nar .byte (p2.toInt8.toInt32)) h8 n0 Z8 A8 F8_data F8_position F8_end ge_b8 (V7.ext E8)) hZ (hw _ (List.mem_of_getElem? (i := 7) rfl)) (hw _ (List.mem_of_getElem? (i := 4) rfl)) (by decide) (by decide)) (g := (mkF m 75 #[.val (.int pt), .val (.int pl), .val (.int p0), .val (.int p1), .val (.int p2), .val (.int tg), .val (.int cl), .val (.ref b2), .unset, .unset, .unset, .unset, .unset] [(.ref b2), (.ref b8), (.ref b8)])) rfl (by rw [hml]; rfl) (Steps.refl _) (a := b8) (argsL := [(.ref b2)]) (rest := [(.ref b8)]) (lenOf pd_10 rfl) rfl (by show 2 * 0 + _ ≤ _; exact Nat.le_of_eq rfl) (hb hby at_75) (fun _ _ => ⟨rfl, e8, (by decide : 2 + 0 ≤ _), (by decide : 8 + 0 ≤ _)⟩)
    dsimp only [Pt.U, Pt.locs, Pt.cells, Pt.slots] at X9 l9 y9 z9 st9 hQ9
    subst l9 y9 z9
    obtain ⟨h9, e9⟩ : ∃ z, T9.heap = z := ⟨_, rfl⟩
    rw [e9] at hQ9
    obtain ⟨rfl, Nq9, Kq9, q9_0, q9_1, q9_2, q9_3⟩ := hQ9
    have Z9 : n0 ≤ h9.size := Nat.le_trans Z8 Kq9.1
    have N9 := Fr.app N7 Nq9
    refine OwnEnds.via (fun t k => st9.trans k) ?_
    show OwnEnds _ _ _ _ (T9.setTop (mkF m 78 #[.val (.int pt), .val (.int pl), .val (.int p0), .val (.int p1), .val (.int p2), .val (.int tg), .val (.int cl), .val (.ref b2), .unset, .unset, .unset, .unset, .unset] [(.ref b8)]))
    refine OwnEnds.via (fun t k => XS.astore X9.here hx rfl (hb hby at_78) rfl rfl (l' := #[.val (.int pt), .val (.int pl), .val (.int p0), .val (.int p1), .val (.int p2), .val (.int tg), .val (.int cl), .val (.ref b2), .val (.ref b8), .unset, .unset, .unset, .unset]) rfl k) ?_
    show OwnEnds _ _ _ _ (T9.setTop (mkF m 80 #[.val (.int pt), .val (.int pl), .val (.int p0), .val (.int p1), .val (.int p2), .val (.int tg), .val (.int cl), .val (.ref b2), .val (.ref b8), .unset, .unset, .unset, .unset] []))
    refine OwnEnds.via (fun t k => XS.aload X9.here hx rfl (hb hby at_80) rfl rfl k) ?_
    show OwnEnds _ _ _ _ (T9.setTop (mkF m 82 #[.val (.int pt), .val (.int pl), .val (.int p0), .val (.int p1), .val (.int p2), .val (.int tg), .val (.int cl), .val (.ref b2), .val (.ref b8), .unset, .unset, .unset, .unset] [(.ref b8)]))
    obtain ⟨cq10, kq10, q10a, q10b, q10c⟩ := isOf hZ e9 q9_0
    obtain ⟨_, _, ⟨T10, L10, k10, n10⟩, -, X10, ⟨Lc10, hQ10, l10, y10, z10⟩, st10⟩ := X9.virtualBack hx (y := (⟨"com/example/birchwire/birchwire/protocol/BerReader", "hasRemaining", "()Z"⟩ : MethodName)) (z := (⟨"com/example/birchwire/birchwire/protocol/BerReader", "hasRemaining", "()Z"⟩ : MethodName)) hown (mvT hZ (hw _ (List.mem_of_getElem? (i := 20) rfl))) (mvT hZ (hw _ (List.mem_of_getElem? (i := 21) rfl))) (notFace_of_selects (args := #[]) (mvT hZ (hw _ (List.mem_of_getElem? (i := 23) rfl)))) (mvT hZ (hw _ (List.mem_of_getElem? (i := 23) rfl))) (mvT hZ (hw _ (List.mem_of_getElem? (i := 22) rfl))) (by decide) (backOf (W := 0) (rm4 l Z a0 hw [] b8 (0 : Int32) (5 : Int32) h9 n0 Z9 q9_2 q9_3) hZ (hw _ (List.mem_of_getElem? (i := 24) rfl)) (hw _ (List.mem_of_getElem? (i := 4) rfl)) (by decide) (by decide)) q10a q10c (g := (mkF m 82 #[.val (.int pt), .val (.int pl), .val (.int p0), .val (.int p1), .val (.int p2), .val (.int tg), .val (.int cl), .val (.ref b2), .val (.ref b8), .unset, .unset, .unset, .unset] [(.ref b8)])) rfl (by rw [hml]; rfl) (Steps.refl _) (argsL := []) (rest := []) (lenOf pd_1 rfl) rfl (by show 2 * 0 + _ ≤ _; exact Nat.le_of_eq rfl) (hb hby at_82) (fun _ _ => ⟨rfl, e9, (by decide : 2 + 0 ≤ _), (by decide : 8 + 0 ≤ _)⟩)
    dsimp only [Pt.U, Pt.locs, Pt.cells, Pt.slots] at X10 l10 y10 z10 st10 hQ10
    subst l10 y10 z10
    obtain ⟨rfl, Nq10, e10⟩ := hQ10
    have N10 := Fr.app N9 Nq10
    refine OwnEnds.via (fun t k => st10.trans k) ?_
    show OwnEnds _ _ _ _ (T10.setTop (mkF m 85 #[.val (.int pt), .val (.int pl), .val (.int p0), .val (.int p1), .val (.int p2), .val (.int tg), .val (.int cl), .val (.ref b2), .val (.ref b8), .unset, .unset, .unset, .unset] [(.int (if (0 : Int32) < (5 : Int32) then (1 : Int32) else (0 : Int32)))]))
    rw [show (if (0 : Int32) < (5 : Int32) then (1 : Int32) else (0 : Int32)) = (1 : Int32) from (if_pos (by decide))]
    show OwnEnds _ _ _ _ (T10.setTop (mkF m 85 #[.val (.int pt), .val (.int pl), .val (.int p0), .val (.int p1), .val (.int p2), .val (.int tg), .val (.int cl), .val (.ref b2), .val (.ref b8), .unset, .unset, .unset, .unset] [(.int (1 : Int32))]))
    refine OwnEnds.via (fun t k => XS.istore X10.here hx rfl (hb hby at_85) rfl (l' := #[.val (.int pt), .val (.int pl), .val (.int p0), .val (.int p1), .val (.int p2), .val (.int tg), .val (.int cl), .val (.ref b2), .val (.ref b8), .val (.int (1 : Int32)), .unset, .unset, .unset]) rfl k) ?_
    show OwnEnds _ _ _ _ (T10.setTop (mkF m 87 #[.val (.int pt), .val (.int pl), .val (.int p0), .val (.int p1), .val (.int p2), .val (.int tg), .val (.int cl), .val (.ref b2), .val (.ref b8), .val (.int (1 : Int32)), .unset, .unset, .unset] []))
    refine OwnEnds.via (fun t k => XS.aload X10.here hx rfl (hb hby at_87) rfl rfl k) ?_
    show OwnEnds _ _ _ _ (T10.setTop (mkF m 89 #[.val (.int pt), .val (.int pl), .val (.int p0), .val (.int p1), .val (.int p2), .val (.int tg), .val (.int cl), .val (.ref b2), .val (.ref b8), .val (.int (1 : Int32)), .unset, .unset, .unset] [(.ref b8)]))
    refine OwnEnds.via (fun t k => XS.iload X10.here hx rfl (hb hby at_89) rfl k) ?_
    show OwnEnds _ _ _ _ (T10.setTop (mkF m 91 #[.val (.int pt), .val (.int pl), .val (.int p0), .val (.int p1), .val (.int p2), .val (.int tg), .val (.int cl), .val (.ref b2), .val (.ref b8), .val (.int (1 : Int32)), .unset, .unset, .unset] [(.int tg), (.ref b8)]))
    obtain ⟨cq11, kq11, q11a, q11b, q11c⟩ := isOf hZ e10 q9_0
    obtain ⟨_, _, ⟨T11, L11, k11, n11⟩, -, X11, ⟨Lc11, hQ11, l11, y11, z11⟩, st11⟩ := X10.virtualBack hx (y := (⟨"com/example/birchwire/birchwire/protocol/BerReader", "readElement", "(I)Lcom/example/birchwire/birchwire/protocol/BerReader;"⟩ : MethodName)) (z := (⟨"com/example/birchwire/birchwire/protocol/BerReader", "readElement", "(I)Lcom/example/birchwire/birchwire/protocol/BerReader;"⟩ : MethodName)) hown (mvT hZ (hw _ (List.mem_of_getElem? (i := 25) rfl))) (mvT hZ (hw _ (List.mem_of_getElem? (i := 26) rfl))) (notFace_of_selects (args := #[]) (mvT hZ (hw _ (List.mem_of_getElem? (i := 28) rfl)))) (mvT hZ (hw _ (List.mem_of_getElem? (i := 28) rfl))) (mvT hZ (hw _ (List.mem_of_getElem? (i := 27) rfl))) (by decide) (backOf (W := 0) (rm5 l Z a0 hw [] b8 b2 k2 (nar .byte (tg.toInt8.toInt32)) (nar .byte (cl.toInt8.toInt32)) (nar .byte (p0.toInt8.toInt32)) (nar .byte (p1.toInt8.toInt32)) (nar .byte (p2.toInt8.toInt32)) tg cl h9 n0 Z9 q9_0 q9_1 q9_2 q9_3 ((V7.ext E8).keep Kq9 (ninS ne_b2_b8 nin0)) ge_b8 (own_lt rc) (own_b3 rc) (own_lc rc) (own_by tg hj1_0) hj1_1) hZ (hw _ (List.mem_of_getElem? (i := 29) rfl)) (hw _ (List.mem_of_getElem? (i := 4) rfl)) (by decide) (by decide)) q11a q11c (g := (mkF m 91 #[.val (.int pt), .val (.int pl), .val (.int p0), .val (.int p1), .val (.int p2), .val (.int tg), .val (.int cl), .val (.ref b2), .val (.ref b8), .val (.int (1 : Int32)), .unset, .unset, .unset] [(.int tg), (.ref b8)])) rfl (by rw [hml]; rfl) (Steps.refl _) (argsL := [(.int tg)]) (rest := []) (lenOf pd_11 rfl) rfl (by show 2 * 0 + _ ≤ _; exact Nat.le_of_eq rfl) (hb hby at_91) (fun _ _ => ⟨rfl, e10, (by decide : 2 + 1 ≤ _), (by decide : 8 + 3 ≤ _)⟩)
    dsimp only [Pt.U, Pt.locs, Pt.cells, Pt.slots] at X11 l11 y11 z11 st11 hQ11
    subst l11 y11 z11
    obtain ⟨h11, e11⟩ : ∃ z, T11.heap = z := ⟨_, rfl⟩
    rw [e11] at hQ11
    obtain ⟨b_11, rfl, Nq11, Kq11, q11_0, q11_1, q11_2, q11_3, q11_4, q11_5, q11_6, q11_7, q11_8, q11_9⟩ := hQ11
    have Z11 : n0 ≤ h11.size := Nat.le_trans Z9 Kq11.1
    have ne_b2_b_11 : b2 ≠ b_11 := Nat.ne_of_lt (Nat.lt_of_lt_of_le ((V7.ext E8).keep Kq9 (ninS ne_b2_b8 nin0)).lt q11_0)
    have ne_b8_b_11 : b8 ≠ b_11 := Nat.ne_of_lt (Nat.lt_of_lt_of_le q9_0.lt q11_0)
    have N11 := Fr.app N10 Nq11
    refine OwnEnds.via (fun t k => st11.trans k) ?_
    show OwnEnds _ _ _ _ (T11.setTop (mkF m 94 #[.val (.int pt), .val (.int pl), .val (.int p0), .val (.int p1), .val (.int p2), .val (.int tg), .val (.int cl), .val (.ref b2), .val (.ref b8), .val (.int (1 : Int32)), .unset, .unset, .unset] [(.ref b_11)]))
    refine OwnEnds.via (fun t k => XS.astore X11.here hx rfl (hb hby at_94) rfl rfl (l' := #[.val (.int pt), .val (.int pl), .val (.int p0), .val (.int p1), .val (.int p2), .val (.int tg), .val (.int cl), .val (.ref b2), .val (.ref b8), .val (.int (1 : Int32)), .val (.ref b_11), .unset, .unset]) rfl k) ?_
    show OwnEnds _ _ _ _ (T11.setTop (mkF m 96 #[.val (.int pt), .val (.int pl), .val (.int p0), .val (.int p1), .val (.int p2), .val (.int tg), .val (.int cl), .val (.ref b2), .val (.ref b8), .val (.int (1 : Int32)), .val (.ref b_11), .unset, .unset] []))
    refine OwnEnds.via (fun t k => XS.iload X11.here hx rfl (hb hby at_96) rfl k) ?_
    show OwnEnds _ _ _ _ (T11.setTop (mkF m 98 #[.val (.int pt), .val (.int pl), .val (.int p0), .val (.int p1), .val (.int p2), .val (.int tg), .val (.int cl), .val (.ref b2), .val (.ref b8), .val (.int (1 : Int32)), .val (.ref b_11), .unset, .unset] [(.int (1 : Int32))]))
    refine OwnEnds.via (fun t k => XS.aload X11.here hx rfl (hb hby at_98) rfl rfl k) ?_
    show OwnEnds _ _ _ _ (T11.setTop (mkF m 100 #[.val (.int pt), .val (.int pl), .val (.int p0), .val (.int p1), .val (.int p2), .val (.int tg), .val (.int cl), .val (.ref b2), .val (.ref b8), .val (.int (1 : Int32)), .val (.ref b_11), .unset, .unset] [(.ref b_11), (.int (1 : Int32))]))
    obtain ⟨cq12, kq12, q12a, q12b, q12c⟩ := isOf hZ e11 q11_2
    obtain ⟨_, _, ⟨T12, L12, k12, n12⟩, -, X12, ⟨Lc12, hQ12, l12, y12, z12⟩, st12⟩ := X11.virtualBack hx (y := (⟨"com/example/birchwire/birchwire/protocol/BerReader", "hasRemaining", "()Z"⟩ : MethodName)) (z := (⟨"com/example/birchwire/birchwire/protocol/BerReader", "hasRemaining", "()Z"⟩ : MethodName)) hown (mvT hZ (hw _ (List.mem_of_getElem? (i := 20) rfl))) (mvT hZ (hw _ (List.mem_of_getElem? (i := 21) rfl))) (notFace_of_selects (args := #[]) (mvT hZ (hw _ (List.mem_of_getElem? (i := 23) rfl)))) (mvT hZ (hw _ (List.mem_of_getElem? (i := 23) rfl))) (mvT hZ (hw _ (List.mem_of_getElem? (i := 22) rfl))) (by decide) (backOf (W := 1) (rm4 l Z a0 hw [] b_11 (2 : Int32) ((2 : Int32) + ((cl.toInt64).toInt32)) h11 n0 Z11 q11_4 q11_5) hZ (hw _ (List.mem_of_getElem? (i := 24) rfl)) (hw _ (List.mem_of_getElem? (i := 4) rfl)) (by decide) (by decide)) q12a q12c (g := (mkF m 100 #[.val (.int pt), .val (.int pl), .val (.int p0), .val (.int p1), .val (.int p2), .val (.int tg), .val (.int cl), .val (.ref b2), .val (.ref b8), .val (.int (1 : Int32)), .val (.ref b_11), .unset, .unset] [(.ref b_11), (.int (1 : Int32))])) rfl (by rw [hml]; rfl) (Steps.refl _) (argsL := []) (rest := [(.int (1 : Int32))]) (lenOf pd_1 rfl) rfl (by show 2 * 0 + _ ≤ _; exact Nat.le_of_eq rfl) (hb hby at_100) (fun _ _ => ⟨rfl, e11, (by decide : 3 + 0 ≤ _), (by decide : 11 + 0 ≤ _)⟩)
    dsimp only [Pt.U, Pt.locs, Pt.cells, Pt.slots] at X12 l12 y12 z12 st12 hQ12
    subst l12 y12 z12
    obtain ⟨rfl, Nq12, e12⟩ := hQ12
    have N12 := Fr.app N11 Nq12
    refine OwnEnds.via (fun t k => st12.trans k) ?_
    show OwnEnds _ _ _ _ (T12.setTop (mkF m 103 #[.val (.int pt), .val (.int pl), .val (.int p0), .val (.int p1), .val (.int p2), .val (.int tg), .val (.int cl), .val (.ref b2), .val (.ref b8), .val (.int (1 : Int32)), .val (.ref b_11), .unset, .unset] [(.int (if (2 : Int32) < ((2 : Int32) + ((cl.toInt64).toInt32)) then (1 : Int32) else (0 : Int32))), (.int (1 : Int32))]))
    refine OwnEnds.via (fun t k => XS.iload X12.here hx rfl (hb hby at_103) rfl k) ?_
    show OwnEnds _ _ _ _ (T12.setTop (mkF m 105 #[.val (.int pt), .val (.int pl), .val (.int p0), .val (.int p1), .val (.int p2), .val (.int tg), .val (.int cl), .val (.ref b2), .val (.ref b8), .val (.int (1 : Int32)), .val (.ref b_11), .unset, .unset] [(.int cl), (.int (if (2 : Int32) < ((2 : Int32) + ((cl.toInt64).toInt32)) then (1 : Int32) else (0 : Int32))), (.int (1 : Int32))]))
    refine OwnEnds.cut (fun G => ∀ (T13 : State) (lc13 : List Loc) (X13 : Stand p l e room_1 s m #[(.int pt), (.int pl), (.int p0), (.int p1), (.int p2)] below meth c T13 lc13 3 11) (e13 : T13.heap = h11) (N13 : Fr n0 lc13), G (T13.setTop (mkF m 121 #[.val (.int pt), .val (.int pl), .val (.int p0), .val (.int p1), .val (.int p2), .val (.int tg), .val (.int cl), .val (.ref b2), .val (.ref b8), .val (.int (1 : Int32)), .val (.ref b_11), .unset, .unset] [(.int (1 : Int32)), (.int (1 : Int32))]))) ?_ ?_
    · intro T13 lc13 X13 e13 N13
      show OwnEnds _ _ _ _ (T13.setTop (mkF m 121 #[.val (.int pt), .val (.int pl), .val (.int p0), .val (.int p1), .val (.int p2), .val (.int tg), .val (.int cl), .val (.ref b2), .val (.ref b8), .val (.int (1 : Int32)), .val (.ref b_11), .unset, .unset] [(.int (1 : Int32)), (.int (1 : Int32))]))
      refine OwnEnds.via (fun t k => XS.iand X13.here hx rfl (hb hby at_121) rfl k) ?_
      show OwnEnds _ _ _ _ (T13.setTop (mkF m 122 #[.val (.int pt), .val (.int pl), .val (.int p0), .val (.int p1), .val (.int p2), .val (.int tg), .val (.int cl), .val (.ref b2), .val (.ref b8), .val (.int (1 : Int32)), .val (.ref b_11), .unset, .unset] [(.int (1 : Int32))]))
      refine OwnEnds.via (fun t k => XS.istore X13.here hx rfl (hb hby at_122) rfl (l' := #[.val (.int pt), .val (.int pl), .val (.int p0), .val (.int p1), .val (.int p2), .val (.int tg), .val (.int cl), .val (.ref b2), .val (.ref b8), .val (.int (1 : Int32)), .val (.ref b_11), .unset, .unset]) rfl k) ?_
      show OwnEnds _ _ _ _ (T13.setTop (mkF m 124 #[.val (.int pt), .val (.int pl), .val (.int p0), .val (.int p1), .val (.int p2), .val (.int tg), .val (.int cl), .val (.ref b2), .val (.ref b8), .val (.int (1 : Int32)), .val (.ref b_11), .unset, .unset] []))
      refine OwnEnds.via (fun t k => XS.iload X13.here hx rfl (hb hby at_124) rfl k) ?_
      show OwnEnds _ _ _ _ (T13.setTop (mkF m 126 #[.val (.int pt), .val (.int pl), .val (.int p0), .val (.int p1), .val (.int p2), .val (.int tg), .val (.int cl), .val (.ref b2), .val (.ref b8), .val (.int (1 : Int32)), .val (.ref b_11), .unset, .unset] [(.int (1 : Int32))]))
      refine OwnEnds.via (fun t k => XS.aload X13.here hx rfl (hb hby at_126) rfl rfl k) ?_
      show OwnEnds _ _ _ _ (T13.setTop (mkF m 128 #[.val (.int pt), .val (.int pl), .val (.int p0), .val (.int p1), .val (.int p2), .val (.int tg), .val (.int cl), .val (.ref b2), .val (.ref b8), .val (.int (1 : Int32)), .val (.ref b_11), .unset, .unset] [(.ref b8), (.int (1 : Int32))]))
      obtain ⟨cq14, kq14, q14a, q14b, q14c⟩ := isOf hZ e13 q11_6
      obtain ⟨_, _, ⟨T14, L14, k14, n14⟩, -, X14, ⟨Lc14, hQ14, l14, y14, z14⟩, st14⟩ := X13.virtualBack hx (y := (⟨"com/example/birchwire/birchwire/protocol/BerReader", "hasRemaining", "()Z"⟩ : MethodName)) (z := (⟨"com/example/birchwire/birchwire/protocol/BerReader", "hasRemaining", "()Z"⟩ : MethodName)) hown (mvT hZ (hw _ (List.mem_of_getElem? (i := 20) rfl))) (mvT hZ (hw _ (List.mem_of_getElem? (i := 21) rfl))) (notFace_of_selects (args := #[]) (mvT hZ (hw _ (List.mem_of_getElem? (i := 23) rfl)))) (mvT hZ (hw _ (List.mem_of_getElem? (i := 23) rfl))) (mvT hZ (hw _ (List.mem_of_getElem? (i := 22) rfl))) (by decide) (backOf (W := 1) (rm4 l Z a0 hw [] b8 ((2 : Int32) + ((cl.toInt64).toInt32)) (5 : Int32) h11 n0 Z11 q11_8 q11_9) hZ (hw _ (List.mem_of_getElem? (i := 24) rfl)) (hw _ (List.mem_of_getElem? (i := 4) rfl)) (by decide) (by decide)) q14a q14c (g := (mkF m 128 #[.val (.int pt), .val (.int pl), .val (.int p0), .val (.int p1), .val (.int p2), .val (.int tg), .val (.int cl), .val (.ref b2), .val (.ref b8), .val (.int (1 : Int32)), .val (.ref b_11), .unset, .unset] [(.ref b8), (.int (1 : Int32))])) rfl (by rw [hml]; rfl) (Steps.refl _) (argsL := []) (rest := [(.int (1 : Int32))]) (lenOf pd_1 rfl) rfl (by show 2 * 0 + _ ≤ _; exact Nat.le_of_eq rfl) (hb hby at_128) (fun _ _ => ⟨rfl, e13, (by decide : 3 + 0 ≤ _), (by decide : 11 + 0 ≤ _)⟩)
      dsimp only [Pt.U, Pt.locs, Pt.cells, Pt.slots] at X14 l14 y14 z14 st14 hQ14
      subst l14 y14 z14
      obtain ⟨rfl, Nq14, e14⟩ := hQ14
      have N14 := Fr.app N13 Nq14
      refine OwnEnds.via (fun t k => st14.trans k) ?_
      show OwnEnds _ _ _ _ (T14.setTop (mkF m 131 #[.val (.int pt), .val (.int pl), .val (.int p0), .val (.int p1), .val (.int p2), .val (.int tg), .val (.int cl), .val (.ref b2), .val (.ref b8), .val (.int (1 : Int32)), .val (.ref b_11), .unset, .unset] [(.int (if ((2 : Int32) + ((cl.toInt64).toInt32)) < (5 : Int32) then (1 : Int32) else (0 : Int32))), (.int (1 : Int32))]))
      refine OwnEnds.via (fun t k => XS.iload X14.here hx rfl (hb hby at_131) rfl k) ?_
      show OwnEnds _ _ _ _ (T14.setTop (mkF m 133 #[.val (.int pt), .val (.int pl), .val (.int p0), .val (.int p1), .val (.int p2), .val (.int tg), .val (.int cl), .val (.ref b2), .val (.ref b8), .val (.int (1 : Int32)), .val (.ref b_11), .unset, .unset] [(.int cl), (.int (if ((2 : Int32) + ((cl.toInt64).toInt32)) < (5 : Int32) then (1 : Int32) else (0 : Int32))), (.int (1 : Int32))]))
      refine OwnEnds.via (fun t k => XS.iconst X14.here hx rfl (hb hby at_133) k) ?_
      show OwnEnds _ _ _ _ (T14.setTop (mkF m 134 #[.val (.int pt), .val (.int pl), .val (.int p0), .val (.int p1), .val (.int p2), .val (.int tg), .val (.int cl), .val (.ref b2), .val (.ref b8), .val (.int (1 : Int32)), .val (.ref b_11), .unset, .unset] [(.int (3 : Int32)), (.int cl), (.int (if ((2 : Int32) + ((cl.toInt64).toInt32)) < (5 : Int32) then (1 : Int32) else (0 : Int32))), (.int (1 : Int32))]))
      refine OwnEnds.cut (fun G => ∀ (T15 : State) (lc15 : List Loc) (X15 : Stand p l e room_1 s m #[(.int pt), (.int pl), (.int p0), (.int p1), (.int p2)] below meth c T15 lc15 3 11) (e15 : T15.heap = h11) (N15 : Fr n0 lc15), G (T15.setTop (mkF m 150 #[.val (.int pt), .val (.int pl), .val (.int p0), .val (.int p1), .val (.int p2), .val (.int tg), .val (.int cl), .val (.ref b2), .val (.ref b8), .val (.int (1 : Int32)), .val (.ref b_11), .unset, .unset] [(.int (1 : Int32)), (.int (1 : Int32))]))) ?_ ?_
      · intro T15 lc15 X15 e15 N15
        show OwnEnds _ _ _ _ (T15.setTop (mkF m 150 #[.val (.int pt), .val (.int pl), .val (.int p0), .val (.int p1), .val (.int p2), .val (.int tg), .val (.int cl), .val (.ref b2), .val (.ref b8), .val (.int (1 : Int32)), .val (.ref b_11), .unset, .unset] [(.int (1 : Int32)), (.int (1 : Int32))]))
        refine OwnEnds.via (fun t k => XS.iand X15.here hx rfl (hb hby at_150) rfl k) ?_
        show OwnEnds _ _ _ _ (T15.setTop (mkF m 151 #[.val (.int pt), .val (.int pl), .val (.int p0), .val (.int p1), .val (.int p2), .val (.int tg), .val (.int cl), .val (.ref b2), .val (.ref b8), .val (.int (1 : Int32)), .val (.ref b_11), .unset, .unset] [(.int (1 : Int32))]))
        refine OwnEnds.via (fun t k => XS.istore X15.here hx rfl (hb hby at_151) rfl (l' := #[.val (.int pt), .val (.int pl), .val (.int p0), .val (.int p1), .val (.int p2), .val (.int tg), .val (.int cl), .val (.ref b2), .val (.ref b8), .val (.int (1 : Int32)), .val (.ref b_11), .unset, .unset]) rfl k) ?_
        show OwnEnds _ _ _ _ (T15.setTop (mkF m 153 #[.val (.int pt), .val (.int pl), .val (.int p0), .val (.int p1), .val (.int p2), .val (.int tg), .val (.int cl), .val (.ref b2), .val (.ref b8), .val (.int (1 : Int32)), .val (.ref b_11), .unset, .unset] []))
        refine OwnEnds.via (fun t k => XS.aload X15.here hx rfl (hb hby at_153) rfl rfl k) ?_
        show OwnEnds _ _ _ _ (T15.setTop (mkF m 155 #[.val (.int pt), .val (.int pl), .val (.int p0), .val (.int p1), .val (.int p2), .val (.int tg), .val (.int cl), .val (.ref b2), .val (.ref b8), .val (.int (1 : Int32)), .val (.ref b_11), .unset, .unset] [(.ref b_11)]))
        obtain ⟨cq16, kq16, q16a, q16b, q16c⟩ := isOf hZ e15 q11_2
        obtain ⟨_, _, ⟨T16, L16, k16, n16⟩, -, X16, ⟨Lc16, hQ16, l16, y16, z16⟩, st16⟩ := X15.virtualBack hx (y := (⟨"com/example/birchwire/birchwire/protocol/BerReader", "contentAsBytes", "()[B"⟩ : MethodName)) (z := (⟨"com/example/birchwire/birchwire/protocol/BerReader", "contentAsBytes", "()[B"⟩ : MethodName)) hown (mvT hZ (hw _ (List.mem_of_getElem? (i := 50) rfl))) (mvT hZ (hw _ (List.mem_of_getElem? (i := 51) rfl))) (notFace_of_selects (args := #[]) (mvT hZ (hw _ (List.mem_of_getElem? (i := 53) rfl)))) (mvT hZ (hw _ (List.mem_of_getElem? (i := 53) rfl))) (mvT hZ (hw _ (List.mem_of_getElem? (i := 52) rfl))) (by decide) (backOf (W := 0) (rm11 l Z a0 hw [] b_11 b2 (2 : Int32) ((2 : Int32) + ((cl.toInt64).toInt32)) k2 [(.int (nar .byte (tg.toInt8.toInt32))), (.int (nar .byte (cl.toInt8.toInt32))), (.int (nar .byte (p0.toInt8.toInt32))), (.int (nar .byte (p1.toInt8.toInt32))), (.int (nar .byte (p2.toInt8.toInt32)))] h11 n0 Z11 q11_2 q11_3 q11_4 q11_5 (((V7.ext E8).keep Kq9 (ninS ne_b2_b8 nin0)).keep Kq11 (ninS ne_b2_b8 nin0)) q11_1 (own_w1 rc) (by decide)) hZ (hw _ (List.mem_of_getElem? (i := 54) rfl)) (hw _ (List.mem_of_getElem? (i := 4) rfl)) (by decide) (by decide)) q16a q16c (g := (mkF m 155 #[.val (.int pt), .val (.int pl), .val (.int p0), .val (.int p1), .val (.int p2), .val (.int tg), .val (.int cl), .val (.ref b2), .val (.ref b8), .val (.int (1 : Int32)), .val (.ref b_11), .unset, .unset] [(.ref b_11)])) rfl (by rw [hml]; rfl) (Steps.refl _) (argsL := []) (rest := []) (lenOf pd_12 rfl) rfl (by show 2 * 0 + _ ≤ _; exact Nat.le_of_eq rfl) (hb hby at_155) (fun _ _ => ⟨rfl, e15, (by decide : 3 + 1 ≤ _), (by decide : 11 + 5 ≤ _)⟩)
        dsimp only [Pt.U, Pt.locs, Pt.cells, Pt.slots] at X16 l16 y16 z16 st16 hQ16
        subst l16 y16 z16
        obtain ⟨h16, e16⟩ : ∃ z, T16.heap = z := ⟨_, rfl⟩
        rw [e16] at hQ16
        obtain ⟨b_16, kb_16, us_16, rfl, Nq16, Kq16, q16_0, q16_1, q16_2, q16_3, q16_4, q16_5⟩ := hQ16
        have Z16 : n0 ≤ h16.size := Nat.le_trans Z11 Kq16.1
        have ne_b2_b_16 : b2 ≠ b_16 := Nat.ne_of_lt (Nat.lt_of_lt_of_le (((V7.ext E8).keep Kq9 (ninS ne_b2_b8 nin0)).keep Kq11 (ninS ne_b2_b8 nin0)).lt q16_0)
        have ne_b8_b_16 : b8 ≠ b_16 := Nat.ne_of_lt (Nat.lt_of_lt_of_le q11_6.lt q16_0)
        have ne_b_11_b_16 : b_11 ≠ b_16 := Nat.ne_of_lt (Nat.lt_of_lt_of_le q11_2.lt q16_0)
        have N16 := Fr.app N15 Nq16
        refine OwnEnds.via (fun t k => st16.trans k) ?_
        show OwnEnds _ _ _ _ (T16.setTop (mkF m 158 #[.val (.int pt), .val (.int pl), .val (.int p0), .val (.int p1), .val (.int p2), .val (.int tg), .val (.int cl), .val (.ref b2), .val (.ref b8), .val (.int (1 : Int32)), .val (.ref b_11), .unset, .unset] [(.ref b_16)]))
        refine OwnEnds.via (fun t k => XS.astore X16.here hx rfl (hb hby at_158) rfl rfl (l' := #[.val (.int pt), .val (.int pl), .val (.int p0), .val (.int p1), .val (.int p2), .val (.int tg), .val (.int cl), .val (.ref b2), .val (.ref b8), .val (.int (1 : Int32)), .val (.ref b_11), .val (.ref b_16), .unset]) rfl k) ?_
        show OwnEnds _ _ _ _ (T16.setTop (mkF m 160 #[.val (.int pt), .val (.int pl), .val (.int p0), .val (.int p1), .val (.int p2), .val (.int tg), .val (.int cl), .val (.ref b2), .val (.ref b8), .val (.int (1 : Int32)), .val (.ref b_11), .val (.ref b_16), .unset] []))
        refine OwnEnds.via (fun t k => XS.iload X16.here hx rfl (hb hby at_160) rfl k) ?_
        show OwnEnds _ _ _ _ (T16.setTop (mkF m 162 #[.val (.int pt), .val (.int pl), .val (.int p0), .val (.int p1), .val (.int p2), .val (.int tg), .val (.int cl), .val (.ref b2), .val (.ref b8), .val (.int (1 : Int32)), .val (.ref b_11), .val (.ref b_16), .unset] [(.int (1 : Int32))]))
        refine OwnEnds.via (fun t k => XS.aload X16.here hx rfl (hb hby at_162) rfl rfl k) ?_
        show OwnEnds _ _ _ _ (T16.setTop (mkF m 164 #[.val (.int pt), .val (.int pl), .val (.int p0), .val (.int p1), .val (.int p2), .val (.int tg), .val (.int cl), .val (.ref b2), .val (.ref b8), .val (.int (1 : Int32)), .val (.ref b_11), .val (.ref b_16), .unset] [(.ref b_16), (.int (1 : Int32))]))
        obtain ⟨cl17, Ar17, q17, S17, M17, H17, G17⟩ := id q16_1
        refine OwnEnds.via (X16.arraylength hx (by rw [e16]; exact Ar17.1) (State.isArrayOf_alike hZ.alike Ar17.2.1) (g := (mkF m 164 #[.val (.int pt), .val (.int pl), .val (.int p0), .val (.int p1), .val (.int p2), .val (.int tg), .val (.int cl), .val (.ref b2), .val (.ref b8), .val (.int (1 : Int32)), .val (.ref b_11), .val (.ref b_16), .unset] [(.ref b_16), (.int (1 : Int32))])) rfl rfl (hb hby at_164)) ?_
        rw [len_of S17 M17]
        show OwnEnds _ _ _ _ (T16.setTop (mkF m 165 #[.val (.int pt), .val (.int pl), .val (.int p0), .val (.int p1), .val (.int p2), .val (.int tg), .val (.int cl), .val (.ref b2), .val (.ref b8), .val (.int (1 : Int32)), .val (.ref b_11), .val (.ref b_16), .unset] [(.int (((2 : Int32) + ((cl.toInt64).toInt32)) - (2 : Int32))), (.int (1 : Int32))]))
        refine OwnEnds.via (fun t k => XS.iload X16.here hx rfl (hb hby at_165) rfl k) ?_
        show OwnEnds _ _ _ _ (T16.setTop (mkF m 167 #[.val (.int pt), .val (.int pl), .val (.int p0), .val (.int p1), .val (.int p2), .val (.int tg), .val (.int cl), .val (.ref b2), .val (.ref b8), .val (.int (1 : Int32)), .val (.ref b_11), .val (.ref b_16), .unset] [(.int cl), (.int (((2 : Int32) + ((cl.toInt64).toInt32)) - (2 : Int32))), (.int (1 : Int32))]))
        refine OwnEnds.via (fun t k => XS.icmpNo X16.here hx rfl (hb hby at_167) rfl (teq (own_l1 rc)).2 k) ?_
        show OwnEnds _ _ _ _ (T16.setTop (mkF m 170 #[.val (.int pt), .val (.int pl), .val (.int p0), .val (.int p1), .val (.int p2), .val (.int tg), .val (.int cl), .val (.ref b2), .val (.ref b8), .val (.int (1 : Int32)), .val (.ref b_11), .val (.ref b_16), .unset] [(.int (1 : Int32))]))
        refine OwnEnds.via (fun t k => XS.iconst X16.here hx rfl (hb hby at_170) k) ?_
        show OwnEnds _ _ _ _ (T16.setTop (mkF m 171 #[.val (.int pt), .val (.int pl), .val (.int p0), .val (.int p1), .val (.int p2), .val (.int tg), .val (.int cl), .val (.ref b2), .val (.ref b8), .val (.int (1 : Int32)), .val (.ref b_11), .val (.ref b_16), .unset] [(.int (1 : Int32)), (.int (1 : Int32))]))
        refine OwnEnds.via (fun t k => XS.goto X16.here hx rfl (pc0 := 171) (pc' := 175) rfl (hb hby at_171) (by decide) (by decide) k) ?_
        show OwnEnds _ _ _ _ (T16.setTop (mkF m 175 #[.val (.int pt), .val (.int pl), .val (.int p0), .val (.int p1), .val (.int p2), .val (.int tg), .val (.int cl), .val (.ref b2), .val (.ref b8), .val (.int (1 : Int32)), .val (.ref b_11), .val (.ref b_16), .unset] [(.int (1 : Int32)), (.int (1 : Int32))]))
        refine OwnEnds.via (fun t k => XS.iand X16.here hx rfl (hb hby at_175) rfl k) ?_
        show OwnEnds _ _ _ _ (T16.setTop (mkF m 176 #[.val (.int pt), .val (.int pl), .val (.int p0), .val (.int p1), .val (.int p2), .val (.int tg), .val (.int cl), .val (.ref b2), .val (.ref b8), .val (.int (1 : Int32)), .val (.ref b_11), .val (.ref b_16), .unset] [(.int (1 : Int32))]))
        refine OwnEnds.via (fun t k => XS.istore X16.here hx rfl (hb hby at_176) rfl (l' := #[.val (.int pt), .val (.int pl), .val (.int p0), .val (.int p1), .val (.int p2), .val (.int tg), .val (.int cl), .val (.ref b2), .val (.ref b8), .val (.int (1 : Int32)), .val (.ref b_11), .val (.ref b_16), .unset]) rfl k) ?_
        show OwnEnds _ _ _ _ (T16.setTop (mkF m 178 #[.val (.int pt), .val (.int pl), .val (.int p0), .val (.int p1), .val (.int p2), .val (.int tg), .val (.int cl), .val (.ref b2), .val (.ref b8), .val (.int (1 : Int32)), .val (.ref b_11), .val (.ref b_16), .unset] []))
        refine OwnEnds.via (fun t k => XS.iload X16.here hx rfl (hb hby at_178) rfl k) ?_
        show OwnEnds _ _ _ _ (T16.setTop (mkF m 180 #[.val (.int pt), .val (.int pl), .val (.int p0), .val (.int p1), .val (.int p2), .val (.int tg), .val (.int cl), .val (.ref b2), .val (.ref b8), .val (.int (1 : Int32)), .val (.ref b_11), .val (.ref b_16), .unset] [(.int (1 : Int32))]))
        refine OwnEnds.via (fun t k => XS.aload X16.here hx rfl (hb hby at_180) rfl rfl k) ?_
        show OwnEnds _ _ _ _ (T16.setTop (mkF m 182 #[.val (.int pt), .val (.int pl), .val (.int p0), .val (.int p1), .val (.int p2), .val (.int tg), .val (.int cl), .val (.ref b2), .val (.ref b8), .val (.int (1 : Int32)), .val (.ref b_11), .val (.ref b_16), .unset] [(.ref b_11), (.int (1 : Int32))]))
        obtain ⟨cq18, kq18, q18a, q18b, q18c⟩ := isOf hZ e16 q16_2
        obtain ⟨_, _, ⟨T18, L18, k18, n18⟩, -, X18, ⟨Lc18, hQ18, l18, y18, z18⟩, st18⟩ := X16.virtualBack hx (y := (⟨"com/example/birchwire/birchwire/protocol/BerReader", "hasRemaining", "()Z"⟩ : MethodName)) (z := (⟨"com/example/birchwire/birchwire/protocol/BerReader", "hasRemaining", "()Z"⟩ : MethodName)) hown (mvT hZ (hw _ (List.mem_of_getElem? (i := 20) rfl))) (mvT hZ (hw _ (List.mem_of_getElem? (i := 21) rfl))) (notFace_of_selects (args := #[]) (mvT hZ (hw _ (List.mem_of_getElem? (i := 23) rfl)))) (mvT hZ (hw _ (List.mem_of_getElem? (i := 23) rfl))) (mvT hZ (hw _ (List.mem_of_getElem? (i := 22) rfl))) (by decide) (backOf (W := 1) (rm4 l Z a0 hw [] b_11 ((2 : Int32) + ((cl.toInt64).toInt32)) ((2 : Int32) + ((cl.toInt64).toInt32)) h16 n0 Z16 q16_4 q16_5) hZ (hw _ (List.mem_of_getElem? (i := 24) rfl)) (hw _ (List.mem_of_getElem? (i := 4) rfl)) (by decide) (by decide)) q18a q18c (g := (mkF m 182 #[.val (.int pt), .val (.int pl), .val (.int p0), .val (.int p1), .val (.int p2), .val (.int tg), .val (.int cl), .val (.ref b2), .val (.ref b8), .val (.int (1 : Int32)), .val (.ref b_11), .val (.ref b_16), .unset] [(.ref b_11), (.int (1 : Int32))])) rfl (by rw [hml]; rfl) (Steps.refl _) (argsL := []) (rest := [(.int (1 : Int32))]) (lenOf pd_1 rfl) rfl (by show 2 * 0 + _ ≤ _; exact Nat.le_of_eq rfl) (hb hby at_182) (fun _ _ => ⟨rfl, e16, (by decide : 4 + 0 ≤ _), (by decide : 16 + 0 ≤ _)⟩)
        dsimp only [Pt.U, Pt.locs, Pt.cells, Pt.slots] at X18 l18 y18 z18 st18 hQ18
        subst l18 y18 z18
        obtain ⟨rfl, Nq18, e18⟩ := hQ18
        have N18 := Fr.app N16 Nq18
        refine OwnEnds.via (fun t k => st18.trans k) ?_
        show OwnEnds _ _ _ _ (T18.setTop (mkF m 185 #[.val (.int pt), .val (.int pl), .val (.int p0), .val (.int p1), .val (.int p2), .val (.int tg), .val (.int cl), .val (.ref b2), .val (.ref b8), .val (.int (1 : Int32)), .val (.ref b_11), .val (.ref b_16), .unset] [(.int (if ((2 : Int32) + ((cl.toInt64).toInt32)) < ((2 : Int32) + ((cl.toInt64).toInt32)) then (1 : Int32) else (0 : Int32))), (.int (1 : Int32))]))
        refine OwnEnds.via (fun t k => XS.ifNo X18.here hx rfl (hb hby at_185) rfl ((if0 _ _).trans (teq (own_ir _)).2) k) ?_
        show OwnEnds _ _ _ _ (T18.setTop (mkF m 188 #[.val (.int pt), .val (.int pl), .val (.int p0), .val (.int p1), .val (.int p2), .val (.int tg), .val (.int cl), .val (.ref b2), .val (.ref b8), .val (.int (1 : Int32)), .val (.ref b_11), .val (.ref b_16), .unset] [(.int (1 : Int32))]))
        refine OwnEnds.via (fun t k => XS.iconst X18.here hx rfl (hb hby at_188) k) ?_
        show OwnEnds _ _ _ _ (T18.setTop (mkF m 189 #[.val (.int pt), .val (.int pl), .val (.int p0), .val (.int p1), .val (.int p2), .val (.int tg), .val (.int cl), .val (.ref b2), .val (.ref b8), .val (.int (1 : Int32)), .val (.ref b_11), .val (.ref b_16), .unset] [(.int (1 : Int32)), (.int (1 : Int32))]))
        refine OwnEnds.via (fun t k => XS.goto X18.here hx rfl (pc0 := 189) (pc' := 193) rfl (hb hby at_189) (by decide) (by decide) k) ?_
        show OwnEnds _ _ _ _ (T18.setTop (mkF m 193 #[.val (.int pt), .val (.int pl), .val (.int p0), .val (.int p1), .val (.int p2), .val (.int tg), .val (.int cl), .val (.ref b2), .val (.ref b8), .val (.int (1 : Int32)), .val (.ref b_11), .val (.ref b_16), .unset] [(.int (1 : Int32)), (.int (1 : Int32))]))
        refine OwnEnds.via (fun t k => XS.iand X18.here hx rfl (hb hby at_193) rfl k) ?_
        show OwnEnds _ _ _ _ (T18.setTop (mkF m 194 #[.val (.int pt), .val (.int pl), .val (.int p0), .val (.int p1), .val (.int p2), .val (.int tg), .val (.int cl), .val (.ref b2), .val (.ref b8), .val (.int (1 : Int32)), .val (.ref b_11), .val (.ref b_16), .unset] [(.int (1 : Int32))]))
        refine OwnEnds.via (fun t k => XS.istore X18.here hx rfl (hb hby at_194) rfl (l' := #[.val (.int pt), .val (.int pl), .val (.int p0), .val (.int p1), .val (.int p2), .val (.int tg), .val (.int cl), .val (.ref b2), .val (.ref b8), .val (.int (1 : Int32)), .val (.ref b_11), .val (.ref b_16), .unset]) rfl k) ?_
        show OwnEnds _ _ _ _ (T18.setTop (mkF m 196 #[.val (.int pt), .val (.int pl), .val (.int p0), .val (.int p1), .val (.int p2), .val (.int tg), .val (.int cl), .val (.ref b2), .val (.ref b8), .val (.int (1 : Int32)), .val (.ref b_11), .val (.ref b_16), .unset] []))
        refine OwnEnds.via (fun t k => XS.aload X18.here hx rfl (hb hby at_196) rfl rfl k) ?_
        show OwnEnds _ _ _ _ (T18.setTop (mkF m 198 #[.val (.int pt), .val (.int pl), .val (.int p0), .val (.int p1), .val (.int p2), .val (.int tg), .val (.int cl), .val (.ref b2), .val (.ref b8), .val (.int (1 : Int32)), .val (.ref b_11), .val (.ref b_16), .unset] [(.ref b8)]))
        obtain ⟨cq19, kq19, q19a, q19b, q19c⟩ := isOf hZ e18 (q11_6.keep Kq16)
        obtain ⟨_, _, ⟨T19, L19, k19, n19⟩, -, X19, ⟨Lc19, hQ19, l19, y19, z19⟩, st19⟩ := X18.virtualBack hx (y := (⟨"com/example/birchwire/birchwire/protocol/BerReader", "contentAsBytes", "()[B"⟩ : MethodName)) (z := (⟨"com/example/birchwire/birchwire/protocol/BerReader", "contentAsBytes", "()[B"⟩ : MethodName)) hown (mvT hZ (hw _ (List.mem_of_getElem? (i := 50) rfl))) (mvT hZ (hw _ (List.mem_of_getElem? (i := 51) rfl))) (notFace_of_selects (args := #[]) (mvT hZ (hw _ (List.mem_of_getElem? (i := 53) rfl)))) (mvT hZ (hw _ (List.mem_of_getElem? (i := 53) rfl))) (mvT hZ (hw _ (List.mem_of_getElem? (i := 52) rfl))) (by decide) (backOf (W := 0) (rm11 l Z a0 hw [] b8 b2 ((2 : Int32) + ((cl.toInt64).toInt32)) (5 : Int32) k2 [(.int (nar .byte (tg.toInt8.toInt32))), (.int (nar .byte (cl.toInt8.toInt32))), (.int (nar .byte (p0.toInt8.toInt32))), (.int (nar .byte (p1.toInt8.toInt32))), (.int (nar .byte (p2.toInt8.toInt32)))] h16 n0 Z16 (q11_6.keep Kq16) (q11_7.keep Kq16 (ninS ne_b8_b_11 nin0)) (q11_8.keep Kq16 (ninS ne_b8_b_11 nin0)) (q11_9.keep Kq16 (ninS ne_b8_b_11 nin0)) ((((V7.ext E8).keep Kq9 (ninS ne_b2_b8 nin0)).keep Kq11 (ninS ne_b2_b8 nin0)).keep Kq16 (ninS ne_b2_b_11 nin0)) ge_b8 (own_w2 rc) (own_nz rc)) hZ (hw _ (List.mem_of_getElem? (i := 54) rfl)) (hw _ (List.mem_of_getElem? (i := 4) rfl)) (by decide) (by decide)) q19a q19c (g := (mkF m 198 #[.val (.int pt), .val (.int pl), .val (.int p0), .val (.int p1), .val (.int p2), .val (.int tg), .val (.int cl), .val (.ref b2), .val (.ref b8), .val (.int (1 : Int32)), .val (.ref b_11), .val (.ref b_16), .unset] [(.ref b8)])) rfl (by rw [hml]; rfl) (Steps.refl _) (argsL := []) (rest := []) (lenOf pd_12 rfl) rfl (by show 2 * 0 + _ ≤ _; exact Nat.le_of_eq rfl) (hb hby at_198) (fun _ _ => ⟨rfl, e18, (by decide : 4 + 1 ≤ _), (by decide : 16 + 5 ≤ _)⟩)
        dsimp only [Pt.U, Pt.locs, Pt.cells, Pt.slots] at X19 l19 y19 z19 st19 hQ19
        subst l19 y19 z19
        obtain ⟨h19, e19⟩ : ∃ z, T19.heap = z := ⟨_, rfl⟩
        rw [e19] at hQ19
        obtain ⟨b_19, kb_19, us_19, rfl, Nq19, Kq19, q19_0, q19_1, q19_2, q19_3, q19_4, q19_5⟩ := hQ19
        have Z19 : n0 ≤ h19.size := Nat.le_trans Z16 Kq19.1
        have ne_b2_b_19 : b2 ≠ b_19 := Nat.ne_of_lt (Nat.lt_of_lt_of_le ((((V7.ext E8).keep Kq9 (ninS ne_b2_b8 nin0)).keep Kq11 (ninS ne_b2_b8 nin0)).keep Kq16 (ninS ne_b2_b_11 nin0)).lt q19_0)
        have ne_b8_b_19 : b8 ≠ b_19 := Nat.ne_of_lt (Nat.lt_of_lt_of_le (q11_6.keep Kq16).lt q19_0)
        have ne_b_11_b_19 : b_11 ≠ b_19 := Nat.ne_of_lt (Nat.lt_of_lt_of_le q16_2.lt q19_0)
        have ne_b_16_b_19 : b_16 ≠ b_19 := Nat.ne_of_lt (Nat.lt_of_lt_of_le q16_1.lt q19_0)
        have N19 := Fr.app N18 Nq19
        refine OwnEnds.via (fun t k => st19.trans k) ?_
        show OwnEnds _ _ _ _ (T19.setTop (mkF m 201 #[.val (.int pt), .val (.int pl), .val (.int p0), .val (.int p1), .val (.int p2), .val (.int tg), .val (.int cl), .val (.ref b2), .val (.ref b8), .val (.int (1 : Int32)), .val (.ref b_11), .val (.ref b_16), .unset] [(.ref b_19)]))
        refine OwnEnds.via (fun t k => XS.astore X19.here hx rfl (hb hby at_201) rfl rfl (l' := #[.val (.int pt), .val (.int pl), .val (.int p0), .val (.int p1), .val (.int p2), .val (.int tg), .val (.int cl), .val (.ref b2), .val (.ref b8), .val (.int (1 : Int32)), .val (.ref b_11), .val (.ref b_16), .val (.ref b_19)]) rfl k) ?_
        show OwnEnds _ _ _ _ (T19.setTop (mkF m 203 #[.val (.int pt), .val (.int pl), .val (.int p0), .val (.int p1), .val (.int p2), .val (.int tg), .val (.int cl), .val (.ref b2), .val (.ref b8), .val (.int (1 : Int32)), .val (.ref b_11), .val (.ref b_16), .val (.ref b_19)] []))
        refine OwnEnds.via (fun t k => XS.iload X19.here hx rfl (hb hby at_203) rfl k) ?_
        show OwnEnds _ _ _ _ (T19.setTop (mkF m 205 #[.val (.int pt), .val (.int pl), .val (.int p0), .val (.int p1), .val (.int p2), .val (.int tg), .val (.int cl), .val (.ref b2), .val (.ref b8), .val (.int (1 : Int32)), .val (.ref b_11), .val (.ref b_16), .val (.ref b_19)] [(.int (1 : Int32))]))
        refine OwnEnds.via (fun t k => XS.aload X19.here hx rfl (hb hby at_205) rfl rfl k) ?_
        show OwnEnds _ _ _ _ (T19.setTop (mkF m 207 #[.val (.int pt), .val (.int pl), .val (.int p0), .val (.int p1), .val (.int p2), .val (.int tg), .val (.int cl), .val (.ref b2), .val (.ref b8), .val (.int (1 : Int32)), .val (.ref b_11), .val (.ref b_16), .val (.ref b_19)] [(.ref b_19), (.int (1 : Int32))]))
        obtain ⟨cl20, Ar20, q20, S20, M20, H20, G20⟩ := id q19_1
        refine OwnEnds.via (X19.arraylength hx (by rw [e19]; exact Ar20.1) (State.isArrayOf_alike hZ.alike Ar20.2.1) (g := (mkF m 207 #[.val (.int pt), .val (.int pl), .val (.int p0), .val (.int p1), .val (.int p2), .val (.int tg), .val (.int cl), .val (.ref b2), .val (.ref b8), .val (.int (1 : Int32)), .val (.ref b_11), .val (.ref b_16), .val (.ref b_19)] [(.ref b_19), (.int (1 : Int32))])) rfl rfl (hb hby at_207)) ?_
        rw [len_of S20 M20]
        show OwnEnds _ _ _ _ (T19.setTop (mkF m 208 #[.val (.int pt), .val (.int pl), .val (.int p0), .val (.int p1), .val (.int p2), .val (.int tg), .val (.int cl), .val (.ref b2), .val (.ref b8), .val (.int (1 : Int32)), .val (.ref b_11), .val (.ref b_16), .val (.ref b_19)] [(.int ((5 : Int32) - ((2 : Int32) + ((cl.toInt64).toInt32)))), (.int (1 : Int32))]))
        refine OwnEnds.via (fun t k => XS.iconst X19.here hx rfl (hb hby at_208) k) ?_
        show OwnEnds _ _ _ _ (T19.setTop (mkF m 209 #[.val (.int pt), .val (.int pl), .val (.int p0), .val (.int p1), .val (.int p2), .val (.int tg), .val (.int cl), .val (.ref b2), .val (.ref b8), .val (.int (1 : Int32)), .val (.ref b_11), .val (.ref b_16), .val (.ref b_19)] [(.int (3 : Int32)), (.int ((5 : Int32) - ((2 : Int32) + ((cl.toInt64).toInt32)))), (.int (1 : Int32))]))
        refine OwnEnds.via (fun t k => XS.iload X19.here hx rfl (hb hby at_209) rfl k) ?_
        show OwnEnds _ _ _ _ (T19.setTop (mkF m 211 #[.val (.int pt), .val (.int pl), .val (.int p0), .val (.int p1), .val (.int p2), .val (.int tg), .val (.int cl), .val (.ref b2), .val (.ref b8), .val (.int (1 : Int32)), .val (.ref b_11), .val (.ref b_16), .val (.ref b_19)] [(.int cl), (.int (3 : Int32)), (.int ((5 : Int32) - ((2 : Int32) + ((cl.toInt64).toInt32)))), (.int (1 : Int32))]))
        refine OwnEnds.via (fun t k => XS.isub X19.here hx rfl (hb hby at_211) rfl k) ?_
        show OwnEnds _ _ _ _ (T19.setTop (mkF m 212 #[.val (.int pt), .val (.int pl), .val (.int p0), .val (.int p1), .val (.int p2), .val (.int tg), .val (.int cl), .val (.ref b2), .val (.ref b8), .val (.int (1 : Int32)), .val (.ref b_11), .val (.ref b_16), .val (.ref b_19)] [(.int ((3 : Int32) - cl)), (.int ((5 : Int32) - ((2 : Int32) + ((cl.toInt64).toInt32)))), (.int (1 : Int32))]))
        refine OwnEnds.via (fun t k => XS.icmpNo X19.here hx rfl (hb hby at_212) rfl (teq (own_l2 rc)).2 k) ?_
        show OwnEnds _ _ _ _ (T19.setTop (mkF m 215 #[.val (.int pt), .val (.int pl), .val (.int p0), .val (.int p1), .val (.int p2), .val (.int tg), .val (.int cl), .val (.ref b2), .val (.ref b8), .val (.int (1 : Int32)), .val (.ref b_11), .val (.ref b_16), .val (.ref b_19)] [(.int (1 : Int32))]))
        refine OwnEnds.via (fun t k => XS.iconst X19.here hx rfl (hb hby at_215) k) ?_
        show OwnEnds _ _ _ _ (T19.setTop (mkF m 216 #[.val (.int pt), .val (.int pl), .val (.int p0), .val (.int p1), .val (.int p2), .val (.int tg), .val (.int cl), .val (.ref b2), .val (.ref b8), .val (.int (1 : Int32)), .val (.ref b_11), .val (.ref b_16), .val (.ref b_19)] [(.int (1 : Int32)), (.int (1 : Int32))]))
        refine OwnEnds.via (fun t k => XS.goto X19.here hx rfl (pc0 := 216) (pc' := 220) rfl (hb hby at_216) (by decide) (by decide) k) ?_
        show OwnEnds _ _ _ _ (T19.setTop (mkF m 220 #[.val (.int pt), .val (.int pl), .val (.int p0), .val (.int p1), .val (.int p2), .val (.int tg), .val (.int cl), .val (.ref b2), .val (.ref b8), .val (.int (1 : Int32)), .val (.ref b_11), .val (.ref b_16), .val (.ref b_19)] [(.int (1 : Int32)), (.int (1 : Int32))]))
        refine OwnEnds.via (fun t k => XS.iand X19.here hx rfl (hb hby at_220) rfl k) ?_
        show OwnEnds _ _ _ _ (T19.setTop (mkF m 221 #[.val (.int pt), .val (.int pl), .val (.int p0), .val (.int p1), .val (.int p2), .val (.int tg), .val (.int cl), .val (.ref b2), .val (.ref b8), .val (.int (1 : Int32)), .val (.ref b_11), .val (.ref b_16), .val (.ref b_19)] [(.int (1 : Int32))]))
        refine OwnEnds.via (fun t k => XS.istore X19.here hx rfl (hb hby at_221) rfl (l' := #[.val (.int pt), .val (.int pl), .val (.int p0), .val (.int p1), .val (.int p2), .val (.int tg), .val (.int cl), .val (.ref b2), .val (.ref b8), .val (.int (1 : Int32)), .val (.ref b_11), .val (.ref b_16), .val (.ref b_19)]) rfl k) ?_
        show OwnEnds _ _ _ _ (T19.setTop (mkF m 223 #[.val (.int pt), .val (.int pl), .val (.int p0), .val (.int p1), .val (.int p2), .val (.int tg), .val (.int cl), .val (.ref b2), .val (.ref b8), .val (.int (1 : Int32)), .val (.ref b_11), .val (.ref b_16), .val (.ref b_19)] []))
        refine OwnEnds.via (fun t k => XS.iload X19.here hx rfl (hb hby at_223) rfl k) ?_
        show OwnEnds _ _ _ _ (T19.setTop (mkF m 225 #[.val (.int pt), .val (.int pl), .val (.int p0), .val (.int p1), .val (.int p2), .val (.int tg), .val (.int cl), .val (.ref b2), .val (.ref b8), .val (.int (1 : Int32)), .val (.ref b_11), .val (.ref b_16), .val (.ref b_19)] [(.int (1 : Int32))]))
        refine OwnEnds.via (fun t k => XS.aload X19.here hx rfl (hb hby at_225) rfl rfl k) ?_
        show OwnEnds _ _ _ _ (T19.setTop (mkF m 227 #[.val (.int pt), .val (.int pl), .val (.int p0), .val (.int p1), .val (.int p2), .val (.int tg), .val (.int cl), .val (.ref b2), .val (.ref b8), .val (.int (1 : Int32)), .val (.ref b_11), .val (.ref b_16), .val (.ref b_19)] [(.ref b8), (.int (1 : Int32))]))
        obtain ⟨cq21, kq21, q21a, q21b, q21c⟩ := isOf hZ e19 q19_2
        obtain ⟨_, _, ⟨T21, L21, k21, n21⟩, -, X21, ⟨Lc21, hQ21, l21, y21, z21⟩, st21⟩ := X19.virtualBack hx (y := (⟨"com/example/birchwire/birchwire/protocol/BerReader", "hasRemaining", "()Z"⟩ : MethodName)) (z := (⟨"com/example/birchwire/birchwire/protocol/BerReader", "hasRemaining", "()Z"⟩ : MethodName)) hown (mvT hZ (hw _ (List.mem_of_getElem? (i := 20) rfl))) (mvT hZ (hw _ (List.mem_of_getElem? (i := 21) rfl))) (notFace_of_selects (args := #[]) (mvT hZ (hw _ (List.mem_of_getElem? (i := 23) rfl)))) (mvT hZ (hw _ (List.mem_of_getElem? (i := 23) rfl))) (mvT hZ (hw _ (List.mem_of_getElem? (i := 22) rfl))) (by decide) (backOf (W := 1) (rm4 l Z a0 hw [] b8 (5 : Int32) (5 : Int32) h19 n0 Z19 q19_4 q19_5) hZ (hw _ (List.mem_of_getElem? (i := 24) rfl)) (hw _ (List.mem_of_getElem? (i := 4) rfl)) (by decide) (by decide)) q21a q21c (g := (mkF m 227 #[.val (.int pt), .val (.int pl), .val (.int p0), .val (.int p1), .val (.int p2), .val (.int tg), .val (.int cl), .val (.ref b2), .val (.ref b8), .val (.int (1 : Int32)), .val (.ref b_11), .val (.ref b_16), .val (.ref b_19)] [(.ref b8), (.int (1 : Int32))])) rfl (by rw [hml]; rfl) (Steps.refl _) (argsL := []) (rest := [(.int (1 : Int32))]) (lenOf pd_1 rfl) rfl (by show 2 * 0 + _ ≤ _; exact Nat.le_of_eq rfl) (hb hby at_227) (fun _ _ => ⟨rfl, e19, (by decide : 5 + 0 ≤ _), (by decide : 21 + 0 ≤ _)⟩)
        dsimp only [Pt.U, Pt.locs, Pt.cells, Pt.slots] at X21 l21 y21 z21 st21 hQ21
        subst l21 y21 z21
        obtain ⟨rfl, Nq21, e21⟩ := hQ21
        have N21 := Fr.app N19 Nq21
        refine OwnEnds.via (fun t k => st21.trans k) ?_
        show OwnEnds _ _ _ _ (T21.setTop (mkF m 230 #[.val (.int pt), .val (.int pl), .val (.int p0), .val (.int p1), .val (.int p2), .val (.int tg), .val (.int cl), .val (.ref b2), .val (.ref b8), .val (.int (1 : Int32)), .val (.ref b_11), .val (.ref b_16), .val (.ref b_19)] [(.int (if (5 : Int32) < (5 : Int32) then (1 : Int32) else (0 : Int32))), (.int (1 : Int32))]))
        refine OwnEnds.via (fun t k => XS.ifNo X21.here hx rfl (hb hby at_230) rfl ((if0 _ _).trans (teq (by decide)).2) k) ?_
        show OwnEnds _ _ _ _ (T21.setTop (mkF m 233 #[.val (.int pt), .val (.int pl), .val (.int p0), .val (.int p1), .val (.int p2), .val (.int tg), .val (.int cl), .val (.ref b2), .val (.ref b8), .val (.int (1 : Int32)), .val (.ref b_11), .val (.ref b_16), .val (.ref b_19)] [(.int (1 : Int32))]))
        refine OwnEnds.via (fun t k => XS.iconst X21.here hx rfl (hb hby at_233) k) ?_
        show OwnEnds _ _ _ _ (T21.setTop (mkF m 234 #[.val (.int pt), .val (.int pl), .val (.int p0), .val (.int p1), .val (.int p2), .val (.int tg), .val (.int cl), .val (.ref b2), .val (.ref b8), .val (.int (1 : Int32)), .val (.ref b_11), .val (.ref b_16), .val (.ref b_19)] [(.int (1 : Int32)), (.int (1 : Int32))]))
        refine OwnEnds.via (fun t k => XS.goto X21.here hx rfl (pc0 := 234) (pc' := 238) rfl (hb hby at_234) (by decide) (by decide) k) ?_
        show OwnEnds _ _ _ _ (T21.setTop (mkF m 238 #[.val (.int pt), .val (.int pl), .val (.int p0), .val (.int p1), .val (.int p2), .val (.int tg), .val (.int cl), .val (.ref b2), .val (.ref b8), .val (.int (1 : Int32)), .val (.ref b_11), .val (.ref b_16), .val (.ref b_19)] [(.int (1 : Int32)), (.int (1 : Int32))]))
        refine OwnEnds.via (fun t k => XS.iand X21.here hx rfl (hb hby at_238) rfl k) ?_
        show OwnEnds _ _ _ _ (T21.setTop (mkF m 239 #[.val (.int pt), .val (.int pl), .val (.int p0), .val (.int p1), .val (.int p2), .val (.int tg), .val (.int cl), .val (.ref b2), .val (.ref b8), .val (.int (1 : Int32)), .val (.ref b_11), .val (.ref b_16), .val (.ref b_19)] [(.int (1 : Int32))]))
        refine OwnEnds.via (fun t k => XS.istore X21.here hx rfl (hb hby at_239) rfl (l' := #[.val (.int pt), .val (.int pl), .val (.int p0), .val (.int p1), .val (.int p2), .val (.int tg), .val (.int cl), .val (.ref b2), .val (.ref b8), .val (.int (1 : Int32)), .val (.ref b_11), .val (.ref b_16), .val (.ref b_19)]) rfl k) ?_
        show OwnEnds _ _ _ _ (T21.setTop (mkF m 241 #[.val (.int pt), .val (.int pl), .val (.int p0), .val (.int p1), .val (.int p2), .val (.int tg), .val (.int cl), .val (.ref b2), .val (.ref b8), .val (.int (1 : Int32)), .val (.ref b_11), .val (.ref b_16), .val (.ref b_19)] []))
        refine OwnEnds.via (fun t k => XS.iload X21.here hx rfl (hb hby at_241) rfl k) ?_
        show OwnEnds _ _ _ _ (T21.setTop (mkF m 243 #[.val (.int pt), .val (.int pl), .val (.int p0), .val (.int p1), .val (.int p2), .val (.int tg), .val (.int cl), .val (.ref b2), .val (.ref b8), .val (.int (1 : Int32)), .val (.ref b_11), .val (.ref b_16), .val (.ref b_19)] [(.int (1 : Int32))]))
        obtain ⟨fs, hr, hrun, hended, hW, hsame⟩ := X21.leave (v := some (.int (1 : Int32))) (fun h => by rw [Bd.returns] at h; cases h)
        refine ⟨_, _, ?_, hrun, hended, _, _, rfl, ?_, ⟨_, rfl⟩, hW, hsame.mono (by decide) (by decide)⟩
        · exact retN X21 hx (t := .boolean) Bd.returns (by simp) (hb hby at_243) hr
        · show Q0 Z pt pl p0 p1 p2 h0 n0 _ T21.heap _
          rw [e21]
          exact ⟨rfl, N21⟩
      intro J15
      by_cases hc134_22 : cl < (3 : Int32)
      ·
        refine OwnEnds.via (fun t k => XS.icmpNo X14.here hx rfl (hb hby at_134) rfl (tlt hc134_22).2.1 k) ?_
        show OwnEnds _ _ _ _ (T14.setTop (mkF m 137 #[.val (.int pt), .val (.int pl), .val (.int p0), .val (.int p1), .val (.int p2), .val (.int tg), .val (.int cl), .val (.ref b2), .val (.ref b8), .val (.int (1 : Int32)), .val (.ref b_11), .unset, .unset] [(.int (if ((2 : Int32) + ((cl.toInt64).toInt32)) < (5 : Int32) then (1 : Int32) else (0 : Int32))), (.int (1 : Int32))]))
        refine OwnEnds.via (fun t k => XS.iconst X14.here hx rfl (hb hby at_137) k) ?_
        show OwnEnds _ _ _ _ (T14.setTop (mkF m 138 #[.val (.int pt), .val (.int pl), .val (.int p0), .val (.int p1), .val (.int p2), .val (.int tg), .val (.int cl), .val (.ref b2), .val (.ref b8), .val (.int (1 : Int32)), .val (.ref b_11), .unset, .unset] [(.int (1 : Int32)), (.int (if ((2 : Int32) + ((cl.toInt64).toInt32)) < (5 : Int32) then (1 : Int32) else (0 : Int32))), (.int (1 : Int32))]))
        refine OwnEnds.via (fun t k => XS.goto X14.here hx rfl (pc0 := 138) (pc' := 142) rfl (hb hby at_138) (by decide) (by decide) k) ?_
        show OwnEnds _ _ _ _ (T14.setTop (mkF m 142 #[.val (.int pt), .val (.int pl), .val (.int p0), .val (.int p1), .val (.int p2), .val (.int tg), .val (.int cl), .val (.ref b2), .val (.ref b8), .val (.int (1 : Int32)), .val (.ref b_11), .unset, .unset] [(.int (1 : Int32)), (.int (if ((2 : Int32) + ((cl.toInt64).toInt32)) < (5 : Int32) then (1 : Int32) else (0 : Int32))), (.int (1 : Int32))]))
        refine OwnEnds.via (fun t k => XS.icmpNo X14.here hx rfl (hb hby at_142) rfl (teq (own_k1 rc hc134_22)).2 k) ?_
        show OwnEnds _ _ _ _ (T14.setTop (mkF m 145 #[.val (.int pt), .val (.int pl), .val (.int p0), .val (.int p1), .val (.int p2), .val (.int tg), .val (.int cl), .val (.ref b2), .val (.ref b8), .val (.int (1 : Int32)), .val (.ref b_11), .unset, .unset] [(.int (1 : Int32))]))
        refine OwnEnds.via (fun t k => XS.iconst X14.here hx rfl (hb hby at_145) k) ?_
        show OwnEnds _ _ _ _ (T14.setTop (mkF m 146 #[.val (.int pt), .val (.int pl), .val (.int p0), .val (.int p1), .val (.int p2), .val (.int tg), .val (.int cl), .val (.ref b2), .val (.ref b8), .val (.int (1 : Int32)), .val (.ref b_11), .unset, .unset] [(.int (1 : Int32)), (.int (1 : Int32))]))
        refine OwnEnds.via (fun t k => XS.goto X14.here hx rfl (pc0 := 146) (pc' := 150) rfl (hb hby at_146) (by decide) (by decide) k) ?_
        exact J15 _ _ X14 e14 N14
      ·
        refine OwnEnds.via (fun t k => XS.icmpYes X14.here hx rfl (pc0 := 134) (pc' := 141) rfl (hb hby at_134) rfl (flt hc134_22).2.1 (by decide) (by decide) k) ?_
        show OwnEnds _ _ _ _ (T14.setTop (mkF m 141 #[.val (.int pt), .val (.int pl), .val (.int p0), .val (.int p1), .val (.int p2), .val (.int tg), .val (.int cl), .val (.ref b2), .val (.ref b8), .val (.int (1 : Int32)), .val (.ref b_11), .unset, .unset] [(.int (if ((2 : Int32) + ((cl.toInt64).toInt32)) < (5 : Int32) then (1 : Int32) else (0 : Int32))), (.int (1 : Int32))]))
        refine OwnEnds.via (fun t k => XS.iconst X14.here hx rfl (hb hby at_141) k) ?_
        show OwnEnds _ _ _ _ (T14.setTop (mkF m 142 #[.val (.int pt), .val (.int pl), .val (.int p0), .val (.int p1), .val (.int p2), .val (.int tg), .val (.int cl), .val (.ref b2), .val (.ref b8), .val (.int (1 : Int32)), .val (.ref b_11), .unset, .unset] [(.int (0 : Int32)), (.int (if ((2 : Int32) + ((cl.toInt64).toInt32)) < (5 : Int32) then (1 : Int32) else (0 : Int32))), (.int (1 : Int32))]))
        refine OwnEnds.via (fun t k => XS.icmpNo X14.here hx rfl (hb hby at_142) rfl (teq (own_k0 rc hc134_22)).2 k) ?_
        show OwnEnds _ _ _ _ (T14.setTop (mkF m 145 #[.val (.int pt), .val (.int pl), .val (.int p0), .val (.int p1), .val (.int p2), .val (.int tg), .val (.int cl), .val (.ref b2), .val (.ref b8), .val (.int (1 : Int32)), .val (.ref b_11), .unset, .unset] [(.int (1 : Int32))]))
        refine OwnEnds.via (fun t k => XS.iconst X14.here hx rfl (hb hby at_145) k) ?_
        show OwnEnds _ _ _ _ (T14.setTop (mkF m 146 #[.val (.int pt), .val (.int pl), .val (.int p0), .val (.int p1), .val (.int p2), .val (.int tg), .val (.int cl), .val (.ref b2), .val (.ref b8), .val (.int (1 : Int32)), .val (.ref b_11), .unset, .unset] [(.int (1 : Int32)), (.int (1 : Int32))]))
        refine OwnEnds.via (fun t k => XS.goto X14.here hx rfl (pc0 := 146) (pc' := 150) rfl (hb hby at_146) (by decide) (by decide) k) ?_
        exact J15 _ _ X14 e14 N14
    intro J13
    by_cases hc105_23 : (0 : Int32) < cl
    ·
      refine OwnEnds.via (fun t k => XS.ifNo X12.here hx rfl (hb hby at_105) rfl ((if0 _ _).trans (tlt hc105_23).2.2.2) k) ?_
      show OwnEnds _ _ _ _ (T12.setTop (mkF m 108 #[.val (.int pt), .val (.int pl), .val (.int p0), .val (.int p1), .val (.int p2), .val (.int tg), .val (.int cl), .val (.ref b2), .val (.ref b8), .val (.int (1 : Int32)), .val (.ref b_11), .unset, .unset] [(.int (if (2 : Int32) < ((2 : Int32) + ((cl.toInt64).toInt32)) then (1 : Int32) else (0 : Int32))), (.int (1 : Int32))]))
      refine OwnEnds.via (fun t k => XS.iconst X12.here hx rfl (hb hby at_108) k) ?_
      show OwnEnds _ _ _ _ (T12.setTop (mkF m 109 #[.val (.int pt), .val (.int pl), .val (.int p0), .val (.int p1), .val (.int p2), .val (.int tg), .val (.int cl), .val (.ref b2), .val (.ref b8), .val (.int (1 : Int32)), .val (.ref b_11), .unset, .unset] [(.int (1 : Int32)), (.int (if (2 : Int32) < ((2 : Int32) + ((cl.toInt64).toInt32)) then (1 : Int32) else (0 : Int32))), (.int (1 : Int32))]))
      refine OwnEnds.via (fun t k => XS.goto X12.here hx rfl (pc0 := 109) (pc' := 113) rfl (hb hby at_109) (by decide) (by decide) k) ?_
      show OwnEnds _ _ _ _ (T12.setTop (mkF m 113 #[.val (.int pt), .val (.int pl), .val (.int p0), .val (.int p1), .val (.int p2), .val (.int tg), .val (.int cl), .val (.ref b2), .val (.ref b8), .val (.int (1 : Int32)), .val (.ref b_11), .unset, .unset] [(.int (1 : Int32)), (.int (if (2 : Int32) < ((2 : Int32) + ((cl.toInt64).toInt32)) then (1 : Int32) else (0 : Int32))), (.int (1 : Int32))]))
      refine OwnEnds.via (fun t k => XS.icmpNo X12.here hx rfl (hb hby at_113) rfl (teq (own_g1 rc hc105_23)).2 k) ?_
      show OwnEnds _ _ _ _ (T12.setTop (mkF m 116 #[.val (.int pt), .val (.int pl), .val (.int p0), .val (.int p1), .val (.int p2), .val (.int tg), .val (.int cl), .val (.ref b2), .val (.ref b8), .val (.int (1 : Int32)), .val (.ref b_11), .unset, .unset] [(.int (1 : Int32))]))
      refine OwnEnds.via (fun t k => XS.iconst X12.here hx rfl (hb hby at_116) k) ?_
      show OwnEnds _ _ _ _ (T12.setTop (mkF m 117 #[.val (.int pt), .val (.int pl), .val (.int p0), .val (.int p1), .val (.int p2), .val (.int tg), .val (.int cl), .val (.ref b2), .val (.ref b8), .val (.int (1 : Int32)), .val (.ref b_11), .unset, .unset] [(.int (1 : Int32)), (.int (1 : Int32))]))
      refine OwnEnds.via (fun t k => XS.goto X12.here hx rfl (pc0 := 117) (pc' := 121) rfl (hb hby at_117) (by decide) (by decide) k) ?_
      exact J13 _ _ X12 e12 N12
    ·
      refine OwnEnds.via (fun t k => XS.ifYes X12.here hx rfl (pc0 := 105) (pc' := 112) rfl (hb hby at_105) rfl ((if0 _ _).trans (flt hc105_23).2.2.2) (by decide) (by decide) k) ?_
      show OwnEnds _ _ _ _ (T12.setTop (mkF m 112 #[.val (.int pt), .val (.int pl), .val (.int p0), .val (.int p1), .val (.int p2), .val (.int tg), .val (.int cl), .val (.ref b2), .val (.ref b8), .val (.int (1 : Int32)), .val (.ref b_11), .unset, .unset] [(.int (if (2 : Int32) < ((2 : Int32) + ((cl.toInt64).toInt32)) then (1 : Int32) else (0 : Int32))), (.int (1 : Int32))]))
      refine OwnEnds.via (fun t k => XS.iconst X12.here hx rfl (hb hby at_112) k) ?_
      show OwnEnds _ _ _ _ (T12.setTop (mkF m 113 #[.val (.int pt), .val (.int pl), .val (.int p0), .val (.int p1), .val (.int p2), .val (.int tg), .val (.int cl), .val (.ref b2), .val (.ref b8), .val (.int (1 : Int32)), .val (.ref b_11), .unset, .unset] [(.int (0 : Int32)), (.int (if (2 : Int32) < ((2 : Int32) + ((cl.toInt64).toInt32)) then (1 : Int32) else (0 : Int32))), (.int (1 : Int32))]))
      refine OwnEnds.via (fun t k => XS.icmpNo X12.here hx rfl (hb hby at_113) rfl (teq (own_g0 rc hc105_23)).2 k) ?_
      show OwnEnds _ _ _ _ (T12.setTop (mkF m 116 #[.val (.int pt), .val (.int pl), .val (.int p0), .val (.int p1), .val (.int p2), .val (.int tg), .val (.int cl), .val (.ref b2), .val (.ref b8), .val (.int (1 : Int32)), .val (.ref b_11), .unset, .unset] [(.int (1 : Int32))]))
      refine OwnEnds.via (fun t k => XS.iconst X12.here hx rfl (hb hby at_116) k) ?_
      show OwnEnds _ _ _ _ (T12.setTop (mkF m 117 #[.val (.int pt), .val (.int pl), .val (.int p0), .val (.int p1), .val (.int p2), .val (.int tg), .val (.int cl), .val (.ref b2), .val (.ref b8), .val (.int (1 : Int32)), .val (.ref b_11), .unset, .unset] [(.int (1 : Int32)), (.int (1 : Int32))]))
      refine OwnEnds.via (fun t k => XS.goto X12.here hx rfl (pc0 := 117) (pc' := 121) rfl (hb hby at_117) (by decide) (by decide) k) ?_
      exact J13 _ _ X12 e12 N12
  intro J1
  by_cases hc14_24 : ((pt &&& (255 : Int32)) &&& (31 : Int32)) = (31 : Int32)
  ·
    refine OwnEnds.via (fun t k => XS.icmpNo X0.here hx rfl (hb hby at_14) rfl (teq hc14_24).2 k) ?_
    show OwnEnds _ _ _ _ (s₁.setTop (mkF m 17 #[.val (.int pt), .val (.int pl), .val (.int p0), .val (.int p1), .val (.int p2), .val (.int (pt &&& (255 : Int32))), .unset, .unset, .unset, .unset, .unset, .unset, .unset] []))
    refine OwnEnds.via (fun t k => XS.iload X0.here hx rfl (hb hby at_17) rfl k) ?_
    show OwnEnds _ _ _ _ (s₁.setTop (mkF m 19 #[.val (.int pt), .val (.int pl), .val (.int p0), .val (.int p1), .val (.int p2), .val (.int (pt &&& (255 : Int32))), .unset, .unset, .unset, .unset, .unset, .unset, .unset] [(.int (pt &&& (255 : Int32)))]))
    refine OwnEnds.via (fun t k => XS.iconst X0.here hx rfl (hb hby at_19) k) ?_
    show OwnEnds _ _ _ _ (s₁.setTop (mkF m 20 #[.val (.int pt), .val (.int pl), .val (.int p0), .val (.int p1), .val (.int p2), .val (.int (pt &&& (255 : Int32))), .unset, .unset, .unset, .unset, .unset, .unset, .unset] [(.int (1 : Int32)), (.int (pt &&& (255 : Int32)))]))
    refine OwnEnds.via (fun t k => XS.ixor X0.here hx rfl (hb hby at_20) rfl k) ?_
    show OwnEnds _ _ _ _ (s₁.setTop (mkF m 21 #[.val (.int pt), .val (.int pl), .val (.int p0), .val (.int p1), .val (.int p2), .val (.int (pt &&& (255 : Int32))), .unset, .unset, .unset, .unset, .unset, .unset, .unset] [(.int ((pt &&& (255 : Int32)) ^^^ (1 : Int32)))]))
    refine OwnEnds.via (fun t k => XS.istore X0.here hx rfl (hb hby at_21) rfl (l' := #[.val (.int pt), .val (.int pl), .val (.int p0), .val (.int p1), .val (.int p2), .val (.int ((pt &&& (255 : Int32)) ^^^ (1 : Int32))), .unset, .unset, .unset, .unset, .unset, .unset, .unset]) rfl k) ?_
    exact J1 _ _ X0 e0 N0 ((pt &&& (255 : Int32)) ^^^ (1 : Int32)) (own_t pt hc14_24).1 (own_t pt hc14_24).2
  ·
    refine OwnEnds.via (fun t k => XS.icmpYes X0.here hx rfl (pc0 := 14) (pc' := 23) rfl (hb hby at_14) rfl (feq hc14_24).2 (by decide) (by decide) k) ?_
    exact J1 _ _ X0 e0 N0 (pt &&& (255 : Int32)) (own_r8 pt) hc14_24

set_option maxRecDepth 65536 in
set_option maxHeartbeats 40000000 in
theorem comes_1 {Post : Tables → Env → Array Value → State → Outcome → State → Prop} (hpost : ∀ tb e args s v u, (limb_1_1.after args s (.returned v) u = true ∧ limb_1_2.after args s (.returned v) u = true ∧ True) → FrameEnd s (.returned v) u (Jvm.fieldLocs frame_1_writes args s ++ Jvm.arrayLocs frame_1_arrays args s ++ Jvm.staticLocs frame_1_statics s) 24 128 → Post tb e args s (.returned v) u) :
    ArmFor flags0 classFile x code maxLocals ret World_1 tables_1 room_1 Calls_1 rest_1 Pre_1 Post := by
  intro l hfl _ _ p e ha hc hk s m args below hf hA hF happ hP
  obtain ⟨hcalls, hrest, hpre⟩ := hP
  obtain ⟨-, -, -, hnamed, -, -, -, hat⟩ := (Spec.applies_iff hf).mp happ
  obtain ⟨hg, hn⟩ := and_e (Cond.before_iff.mp (show (Jvm.Cond.and given_1 narrow_1).before args s = true from hpre))
  obtain ⟨hg0, hh0⟩ := and_e hg
  obtain ⟨hg1, hh1⟩ := and_e hh0
  obtain ⟨hg2, hh2⟩ := and_e hh1
  obtain ⟨hg3, hh3⟩ := and_e hh2
  obtain ⟨hg4, hh4⟩ := and_e hh3
  obtain ⟨w0, w1, w2, w3, w4, rfl⟩ : ∃ w0 w1 w2 w3 w4 : Value, args = #[w0, w1, w2, w3, w4] := by
    have hs : args.size = 5 := by simpa [Cond.value, given_1] using hg0
    obtain ⟨L⟩ := args
    match L, hs with
    | [w0, w1, w2, w3, w4], _ => exact ⟨w0, w1, w2, w3, w4, rfl⟩
  have hw := fun d (hd : d ∈ tables_1) => atoms_spec (ws := Jvm.Cond.code x code maxLocals ret :: tables_1) hat d (List.mem_cons_of_mem _ hd)
  have hfit : Fit s := fun {y c} hc i hi => by
    obtain ⟨ha, rfl⟩ := Array.getElem?_eq_some_iff.mp hc
    have q := List.all_eq_true.mp ((Array.all_eq_true_iff_forall_mem.mp hF) _ (Array.getElem_mem ha)) i (List.mem_range.mpr hi)
    simpa [Array.getElem?_eq_getElem hi] using q
  obtain ⟨i0, ei0⟩ := is_v hg1
  obtain rfl : w0 = (.int i0) := Option.some.inj ei0
  obtain ⟨i1, ei1⟩ := is_v hg2
  obtain rfl : w1 = (.int i1) := Option.some.inj ei1
  obtain ⟨i2, ei2⟩ := is_v hg3
  obtain rfl : w2 = (.int i2) := Option.some.inj ei2
  obtain ⟨i3, ei3⟩ := is_v hg4
  obtain rfl : w3 = (.int i3) := Option.some.inj ei3
  obtain ⟨i4, ei4⟩ := is_v hh4
  obtain rfl : w4 = (.int i4) := Option.some.inj ei4
  obtain ⟨n, o, h1, h2, h3, _, L, rfl, ⟨rfl, N⟩, hq⟩ := rm0 l s _ hw tables_1 i0 i1 i2 i3 i4 s.heap s.heap.size (Nat.le_refl _) p e ha hc hk s m _ below hf ((Spec.applies_iff_loose hf).mp happ).1 ⟨rfl, State.Warmed39.refl s, rfl⟩ trivial
  refine ⟨n, _, h1, h2, h3, hpost _ _ _ _ _ _ ⟨Cond.after_iff.mpr rfl, Cond.after_iff.mpr (eq_i res_at (Term.int_eval (1)) rfl), trivial⟩ ⟨hq.1, hq.2.1, (hq.2.2.sift fun y hy => Or.inr (N y hy)).mono (by decide) (by decide)⟩⟩
theorem main_1_1 : Claimed_1_1 := comes_1 fun _ _ _ _ _ _ h hF => ⟨h.1, hF⟩
theorem main_1_2 : Claimed_1_2 := comes_1 fun _ _ _ _ _ _ h hF => ⟨h.2.1, hF⟩
end Jvm.Pilot.@@N@@
namespace Jvm.Pilot.@@N@@
open Jvm Jvm.ClassFile Sem Op Lib Jvm.Free Jvm.Stand Jvm.Pilot.@@N@@.Jvm.D
/-! MADE BY PROGRAM (witnessworld.py) out of the Statement's table words and the real class files: 12 classes; the members and pool entries that the words name. The judged class is class 1, her method 1. -/
namespace start1
open Jvm.ClassFile
def u (s : String) : CpInfo := .utf8 (stringToUtf16 s)
/-- a pool by its gaps: so many unusable entries, then the entry; so many at the end -/
def gap : Nat → List CpInfo → List CpInfo
  | 0, r => r
  | n + 1, r => .unusable :: gap n r
def poolList (es : List (Nat × CpInfo)) (last : Nat) : List CpInfo := es.foldr (fun e r => gap e.1 (e.2 :: r)) (gap last [])
def pool (es : List (Nat × CpInfo)) (last : Nat) : Array CpInfo := ⟨poolList es last⟩
def fileOf (pool : Array CpInfo) (this : Nat) (attrs : Array Attribute := #[]) (ms : Array MethodInfo := #[]) (fl : Nat := 33) (sup : Nat := 0) (ifs : Array Nat := #[]) (fds : Array FieldInfo := #[]) : ClassFile where
  minorVersion := 0
  majorVersion := 65
  constantPool := pool
  accessFlags := fl
  thisClass := this
  superClass := sup
  interfaces := ifs
  fields := fds
  methods := ms
  attributes := attrs
def plain (name : String) (sup : Option ClassId) : Class where
  name := name
  kind := .ordinary
  loader := none
  accessFlags := 33
  super := sup
  interfaces := #[]
  cf := none
  fields := #[]
  methods := #[]
  instanceTypes := #[]
  staticTypes := #[]
  resolved := #[]
  callSites := []
  init := .initialized
  statics := none
  mirror := none

def pool0 : Array CpInfo := pool [(5, u "<init>"), (0, u "()V"), (1, .class_ 10), (1, u "java/lang/Object")] 113

def k0c0 : Code := { maxStack := 0, maxLocals := 1, code := object_method_1_code, exceptionTable := #[], attributes := #[] }
def k0m0 : Method := { name := "<init>", desc := "()V", sig := { parameters := [], returnType := none }, accessFlags := 1, code := some k0c0 }
/-- java/lang/Object -/
def k0 : Class := { plain "java/lang/Object" none with
  accessFlags := 33
  interfaces := #[]
  cf := some (fileOf pool0 8 #[] #[{ accessFlags := 1, nameIndex := 5, descriptorIndex := 6, attributes := #[] }] 33 0 #[] #[])
  fields := #[]
  methods := #[k0m0]
  instanceTypes := #[]
  staticTypes := #[]
  resolved := Array.replicate 124 none
  statics := none }

def pool1 : Array CpInfo := pool [(2, .class_ 4), (1, u "java/lang/Object"), (0, u "<init>"), (0, u "()V"), (0, .integer 2147483647), (0, .class_ 9), (0, u "com/example/birchwire/birchwire/protocol/BerReader"), (0, .methodref 8 11), (0, .nameAndType 5 12), (0, u "([B)V"), (0, .methodref 8 14), (0, .nameAndType 15 16), (0, u "hasRemaining"), (0, u "()Z"), (0, .methodref 8 18), (0, .nameAndType 19 20), (0, u "readElement"), (0, u "(I)Lcom/example/birchwire/birchwire/protocol/BerReader;"), (0, .methodref 8 22), (0, .nameAndType 23 24), (0, u "contentAsBytes"), (0, u "()[B"), (0, .class_ 26), (0, u "com/example/birchwire/birchwire/protocol/BerReaderHasRemainingPinLaw"), (2, u "law"), (0, u "(IIIII)Z")] 8

def k1m0 : Method := { name := "<init>", desc := "()V", sig := { parameters := [], returnType := none }, accessFlags := 2, code := none }
def k1c1 : Code := { maxStack := 4, maxLocals := 13, code := code, exceptionTable := #[], attributes := #[] }
def k1m1 : Method := { name := "law", desc := "(IIIII)Z", sig := { parameters := [.int, .int, .int, .int, .int], returnType := some .boolean }, accessFlags := 9, code := some k1c1 }
/-- com/example/birchwire/birchwire/protocol/BerReaderHasRemainingPinLaw -/
def k1 : Class := { plain "com/example/birchwire/birchwire/protocol/BerReaderHasRemainingPinLaw" (some 0) with
  accessFlags := 49
  interfaces := #[]
  cf := some (fileOf pool1 25 #[] #[{ accessFlags := 2, nameIndex := 5, descriptorIndex := 6, attributes := #[] }, { accessFlags := 9, nameIndex := 29, descriptorIndex := 30, attributes := #[] }] 49 2 #[] #[])
  fields := #[]
  methods := #[k1m0, k1m1]
  instanceTypes := #[]
  staticTypes := #[]
  resolved := Array.replicate 39 none
  statics := none }

def pool2 : Array CpInfo := pool [(1, .methodref 2 3), (0, .class_ 4), (0, .nameAndType 5 6), (0, u "com/example/birchwire/birchwire/protocol/BerReader"), (0, u "<init>"), (0, u "([BII)V"), (0, .methodref 8 9), (0, .class_ 10), (0, .nameAndType 5 11), (0, u "java/lang/Object"), (0, u "()V"), (0, .fieldref 2 13), (0, .nameAndType 14 15), (0, u "data"), (0, u "[B"), (0, .fieldref 2 17), (0, .nameAndType 18 19), (0, u "position"), (0, u "I"), (0, .fieldref 2 21), (0, .nameAndType 22 19), (0, u "end"), (0, .methodref 2 24), (0, .nameAndType 25 26), (0, u "checkTag"), (0, u "(I)I"), (0, .methodref 2 28), (0, .nameAndType 29 30), (0, u "lengthOctets"), (0, u "([BII)I"), (0, .methodref 2 32), (0, .nameAndType 33 34), (0, u "contentLength"), (0, u "([BII)J"), (9, .methodref 2 45), (0, .nameAndType 46 47), (0, u "hasRemaining"), (0, u "()Z"), (2, .methodref 2 51), (0, .nameAndType 52 53), (0, u "peekTag"), (0, u "()I"), (14, .methodref 2 69), (0, .nameAndType 70 71), (0, u "next"), (0, u "()Lcom/example/birchwire/birchwire/protocol/BerReader;"), (2, u "readElement"), (0, u "(I)Lcom/example/birchwire/birchwire/protocol/BerReader;"), (2, u "contentAsBytes"), (0, u "()[B"), (10, .methodref 91 92), (0, .class_ 93), (0, .nameAndType 94 95), (0, u "java/util/Arrays"), (0, u "copyOfRange"), (0, u "([BII)[B"), (55, u "MAX_LENGTH_OCTETS"), (2, u "([B)V")] 36

def k2c0 : Code := { maxStack := 4, maxLocals := 2, code := prog_57_method_1_code, exceptionTable := #[], attributes := #[] }
def k2m0 : Method := { name := "<init>", desc := "([B)V", sig := { parameters := [(.array .byte)], returnType := none }, accessFlags := 1, code := some k2c0 }
def k2c1 : Code := { maxStack := 2, maxLocals := 4, code := prog_57_method_2_code, exceptionTable := #[], attributes := #[] }
def k2m1 : Method := { name := "<init>", desc := "([BII)V", sig := { parameters := [(.array .byte), .int, .int], returnType := none }, accessFlags := 2, code := some k2c1 }
def k2c2 : Code := { maxStack := 2, maxLocals := 1, code := prog_57_method_4_code, exceptionTable := #[], attributes := #[] }
def k2m2 : Method := { name := "hasRemaining", desc := "()Z", sig := { parameters := [], returnType := some .boolean }, accessFlags := 1, code := some k2c2 }
def k2c3 : Code := { maxStack := 3, maxLocals := 1, code := prog_57_method_5_code, exceptionTable := #[], attributes := #[] }
def k2m3 : Method := { name := "peekTag", desc := "()I", sig := { parameters := [], returnType := some .int }, accessFlags := 1, code := some k2c3 }
def k2c4 : Code := { maxStack := 7, maxLocals := 3, code := prog_57_method_6_code, exceptionTable := #[], attributes := #[] }
def k2m4 : Method := { name := "readElement", desc := "(I)Lcom/example/birchwire/birchwire/protocol/BerReader;", sig := { parameters := [.int], returnType := some (.object "com/example/birchwire/birchwire/protocol/BerReader") }, accessFlags := 1, code := some k2c4 }
def k2c5 : Code := { maxStack := 3, maxLocals := 2, code := prog_57_method_12_code, exceptionTable := #[], attributes := #[] }
def k2m5 : Method := { name := "contentAsBytes", desc := "()[B", sig := { parameters := [], returnType := some (.array .byte) }, accessFlags := 1, code := some k2c5 }
def k2c6 : Code := { maxStack := 7, maxLocals := 6, code := prog_57_method_16_code, exceptionTable := #[], attributes := #[] }
def k2m6 : Method := { name := "next", desc := "()Lcom/example/birchwire/birchwire/protocol/BerReader;", sig := { parameters := [], returnType := some (.object "com/example/birchwire/birchwire/protocol/BerReader") }, accessFlags := 2, code := some k2c6 }
def k2c7 : Code := { maxStack := 3, maxLocals := 1, code := prog_57_method_17_code, exceptionTable := #[], attributes := #[] }
def k2m7 : Method := { name := "checkTag", desc := "(I)I", sig := { parameters := [.int], returnType := some .int }, accessFlags := 10, code := some k2c7 }
def k2c8 : Code := { maxStack := 3, maxLocals := 5, code := prog_57_method_18_code, exceptionTable := #[], attributes := #[] }
def k2m8 : Method := { name := "lengthOctets", desc := "([BII)I", sig := { parameters := [(.array .byte), .int, .int], returnType := some .int }, accessFlags := 10, code := some k2c8 }
def k2c9 : Code := { maxStack := 4, maxLocals := 6, code := prog_57_method_19_code, exceptionTable := #[], attributes := #[] }
def k2m9 : Method := { name := "contentLength", desc := "([BII)J", sig := { parameters := [(.array .byte), .int, .int], returnType := some .long }, accessFlags := 10, code := some k2c9 }
/-- com/example/birchwire/birchwire/protocol/BerReader -/
def k2 : Class := { plain "com/example/birchwire/birchwire/protocol/BerReader" (some 0) with
  accessFlags := 49
  interfaces := #[]
  cf := some (fileOf pool2 2 #[] #[{ accessFlags := 1, nameIndex := 5, descriptorIndex := 154, attributes := #[] }, { accessFlags := 2, nameIndex := 5, descriptorIndex := 6, attributes := #[] }, { accessFlags := 1, nameIndex := 46, descriptorIndex := 47, attributes := #[] }, { accessFlags := 1, nameIndex := 52, descriptorIndex := 53, attributes := #[] }, { accessFlags := 1, nameIndex := 74, descriptorIndex := 75, attributes := #[] }, { accessFlags := 1, nameIndex := 78, descriptorIndex := 79, attributes := #[] }, { accessFlags := 2, nameIndex := 70, descriptorIndex := 71, attributes := #[] }, { accessFlags := 10, nameIndex := 25, descriptorIndex := 26, attributes := #[] }, { accessFlags := 10, nameIndex := 29, descriptorIndex := 30, attributes := #[] }, { accessFlags := 10, nameIndex := 33, descriptorIndex := 34, attributes := #[] }] 49 8 #[] #[{ accessFlags := 26, nameIndex := 151, descriptorIndex := 19, attributes := #[] }, { accessFlags := 18, nameIndex := 14, descriptorIndex := 15, attributes := #[] }, { accessFlags := 18, nameIndex := 22, descriptorIndex := 19, attributes := #[] }, { accessFlags := 2, nameIndex := 18, descriptorIndex := 19, attributes := #[] }])
  fields := #[{ name := "MAX_LENGTH_OCTETS", type := .int, accessFlags := 26, slot := 0, constantValue := 0 }, { name := "data", type := (.array .byte), accessFlags := 18, slot := 0, constantValue := 0 }, { name := "end", type := .int, accessFlags := 18, slot := 1, constantValue := 0 }, { name := "position", type := .int, accessFlags := 2, slot := 2, constantValue := 0 }]
  methods := #[k2m0, k2m1, k2m2, k2m3, k2m4, k2m5, k2m6, k2m7, k2m8, k2m9]
  instanceTypes := #[(.array .byte), .int, .int]
  staticTypes := #[.int]
  resolved := Array.replicate 191 none
  statics := none }

def pool3 : Array CpInfo := pool [(2, .class_ 4), (1, u "java/lang/Object"), (0, u "<init>"), (0, u "()V"), (7, .class_ 16), (1, u "java/util/Arrays"), (57, .class_ 76), (1, u "java/util/Arrays$NaturalOrder"), (36, .class_ 115), (1, u "java/util/Arrays$LegacyMergeSort"), (1, u "Z"), (21, u "copyOfRange"), (10, .methodref 151 152), (0, .class_ 153), (0, .nameAndType 154 155), (0, u "java/lang/System"), (0, u "arraycopy"), (0, u "(Ljava/lang/Object;ILjava/lang/Object;II)V"), (148, .methodref 305 306), (0, .class_ 307), (0, .nameAndType 308 309), (0, u "java/lang/Math"), (0, u "min"), (0, u "(II)I"), (29, .methodref 14 340), (0, .nameAndType 341 342), (0, u "copyOfRangeByte"), (0, u "([BII)[B"), (0, .methodref 14 344), (0, .nameAndType 345 346), (0, u "checkLength"), (0, u "(II)V"), (28, .class_ 376), (0, u "java/util/Arrays$ArrayList"), (68, u "$assertionsDisabled"), (269, u "MIN_ARRAY_SORT_GRAN"), (0, u "I"), (2, u "INSERTIONSORT_THRESHOLD"), (255, .class_ 976), (0, u "java/util/Arrays$ArrayItr")] 52

def k3m0 : Method := { name := "<init>", desc := "()V", sig := { parameters := [], returnType := none }, accessFlags := 2, code := none }
def k3c1 : Code := { maxStack := 4, maxLocals := 2, code := jdk_65_method_131_code, exceptionTable := #[], attributes := #[] }
def k3m1 : Method := { name := "checkLength", desc := "(II)V", sig := { parameters := [.int, .int], returnType := none }, accessFlags := 10, code := some k3c1 }
def k3c2 : Code := { maxStack := 3, maxLocals := 3, code := jdk_65_method_132_code, exceptionTable := #[], attributes := #[] }
def k3m2 : Method := { name := "copyOfRange", desc := "([BII)[B", sig := { parameters := [(.array .byte), .int, .int], returnType := some (.array .byte) }, accessFlags := 9, code := some k3c2 }
def k3c3 : Code := { maxStack := 6, maxLocals := 5, code := jdk_65_method_133_code, exceptionTable := #[], attributes := #[] }
def k3m3 : Method := { name := "copyOfRangeByte", desc := "([BII)[B", sig := { parameters := [(.array .byte), .int, .int], returnType := some (.array .byte) }, accessFlags := 10, code := some k3c3 }
/-- java/util/Arrays -/
def k3 : Class := { plain "java/util/Arrays" (some 0) with
  accessFlags := 49
  interfaces := #[]
  cf := some (fileOf pool3 14 #[.nestMembers #[975, 375, 113, 74]] #[{ accessFlags := 2, nameIndex := 5, descriptorIndex := 6, attributes := #[] }, { accessFlags := 10, nameIndex := 345, descriptorIndex := 346, attributes := #[] }, { accessFlags := 9, nameIndex := 139, descriptorIndex := 342, attributes := #[] }, { accessFlags := 10, nameIndex := 341, descriptorIndex := 342, attributes := #[] }] 49 2 #[] #[{ accessFlags := 26, nameIndex := 715, descriptorIndex := 716, attributes := #[] }, { accessFlags := 26, nameIndex := 719, descriptorIndex := 716, attributes := #[] }, { accessFlags := 4120, nameIndex := 445, descriptorIndex := 117, attributes := #[] }])
  fields := #[{ name := "MIN_ARRAY_SORT_GRAN", type := .int, accessFlags := 26, slot := 0, constantValue := 0 }, { name := "INSERTIONSORT_THRESHOLD", type := .int, accessFlags := 26, slot := 1, constantValue := 0 }, { name := "$assertionsDisabled", type := .boolean, accessFlags := 4120, slot := 2, constantValue := 0 }]
  methods := #[k3m0, k3m1, k3m2, k3m3]
  instanceTypes := #[]
  staticTypes := #[.int, .int, .boolean]
  resolved := Array.replicate 1029 none
  statics := none }

def pool4 : Array CpInfo := pool [(1, .class_ 2), (0, u "java/lang/Math"), (1, .class_ 6), (1, u "java/lang/Object"), (0, u "<init>"), (0, u "()V"), (89, .class_ 100), (1, u "java/lang/Math$RandomNumberGeneratorHolder"), (71, u "negativeZeroFloatBits"), (0, u "J"), (2, u "negativeZeroDoubleBits"), (24, u "min"), (43, u "$assertionsDisabled"), (0, u "Z"), (88, u "(II)I"), (2, u "twoToTheDoubleScaleDown"), (0, u "D"), (4, u "twoToTheDoubleScaleUp"), (9, u "E"), (3, u "PI"), (2, u "TAU"), (2, u "DEGREES_TO_RADIANS"), (0, u "RADIANS_TO_DEGREES")] 94

def k4m0 : Method := { name := "<init>", desc := "()V", sig := { parameters := [], returnType := none }, accessFlags := 2, code := none }
def k4c1 : Code := { maxStack := 2, maxLocals := 2, code := jdk_29_method_69_code, exceptionTable := #[], attributes := #[] }
def k4m1 : Method := { name := "min", desc := "(II)I", sig := { parameters := [.int, .int], returnType := some .int }, accessFlags := 9, code := some k4c1 }
/-- java/lang/Math -/
def k4 : Class := { plain "java/lang/Math" (some 0) with
  accessFlags := 49
  interfaces := #[]
  cf := some (fileOf pool4 1 #[.nestMembers #[98]] #[{ accessFlags := 2, nameIndex := 7, descriptorIndex := 8, attributes := #[] }, { accessFlags := 9, nameIndex := 201, descriptorIndex := 335, attributes := #[] }] 49 4 #[] #[{ accessFlags := 25, nameIndex := 354, descriptorIndex := 339, attributes := #[] }, { accessFlags := 25, nameIndex := 358, descriptorIndex := 339, attributes := #[] }, { accessFlags := 25, nameIndex := 361, descriptorIndex := 339, attributes := #[] }, { accessFlags := 26, nameIndex := 364, descriptorIndex := 339, attributes := #[] }, { accessFlags := 26, nameIndex := 365, descriptorIndex := 339, attributes := #[] }, { accessFlags := 26, nameIndex := 172, descriptorIndex := 173, attributes := #[] }, { accessFlags := 26, nameIndex := 176, descriptorIndex := 173, attributes := #[] }, { accessFlags := 8, nameIndex := 344, descriptorIndex := 339, attributes := #[] }, { accessFlags := 8, nameIndex := 338, descriptorIndex := 339, attributes := #[] }, { accessFlags := 4120, nameIndex := 245, descriptorIndex := 246, attributes := #[] }])
  fields := #[{ name := "E", type := .double, accessFlags := 25, slot := 0, constantValue := 0 }, { name := "PI", type := .double, accessFlags := 25, slot := 1, constantValue := 0 }, { name := "TAU", type := .double, accessFlags := 25, slot := 2, constantValue := 0 }, { name := "DEGREES_TO_RADIANS", type := .double, accessFlags := 26, slot := 3, constantValue := 0 }, { name := "RADIANS_TO_DEGREES", type := .double, accessFlags := 26, slot := 4, constantValue := 0 }, { name := "negativeZeroFloatBits", type := .long, accessFlags := 26, slot := 5, constantValue := 0 }, { name := "negativeZeroDoubleBits", type := .long, accessFlags := 26, slot := 6, constantValue := 0 }, { name := "twoToTheDoubleScaleUp", type := .double, accessFlags := 8, slot := 7, constantValue := 0 }, { name := "twoToTheDoubleScaleDown", type := .double, accessFlags := 8, slot := 8, constantValue := 0 }, { name := "$assertionsDisabled", type := .boolean, accessFlags := 4120, slot := 9, constantValue := 0 }]
  methods := #[k4m0, k4m1]
  instanceTypes := #[]
  staticTypes := #[.double, .double, .double, .double, .double, .long, .long, .double, .double, .boolean]
  resolved := Array.replicate 460 none
  statics := none }

def pool5 : Array CpInfo := pool [(2, .class_ 4), (1, u "java/lang/Object"), (0, u "<init>"), (0, u "()V"), (1, .class_ 10), (1, u "java/lang/System"), (0, u "allowSecurityManager"), (0, u "I"), (16, u "cons"), (0, u "Ljava/io/Console;"), (77, .class_ 110), (1, u "java/lang/System$CallersHolder"), (43, u "initialErrStream"), (0, u "Ljava/io/PrintStream;"), (19, u "security"), (0, u "Ljava/lang/SecurityManager;"), (31, .class_ 209), (0, u "java/lang/System$1"), (7, u "props"), (0, u "Ljava/util/Properties;"), (2, u "lineSeparator"), (0, u "Ljava/lang/String;"), (96, .class_ 321), (1, u "java/lang/System$LoggerFinder"), (5, .class_ 328), (0, u "java/lang/System$Logger"), (67, u "err"), (2, u "out"), (91, u "notSupportedJnuEncoding"), (15, u "in"), (17, u "initialIn"), (0, u "Ljava/io/InputStream;"), (35, u "bootLayer"), (0, u "Ljava/lang/ModuleLayer;"), (99, .class_ 664), (0, u "java/lang/System$2"), (9, u "NEVER"), (2, u "MAYBE"), (49, u "arraycopy"), (0, u "(Ljava/lang/Object;ILjava/lang/Object;II)V"), (72, .class_ 802), (0, u "java/lang/System$Logger$Level")] 31

def k5m0 : Method := { name := "<init>", desc := "()V", sig := { parameters := [], returnType := none }, accessFlags := 2, code := none }
def k5m1 : Method := { name := "arraycopy", desc := "(Ljava/lang/Object;ILjava/lang/Object;II)V", sig := { parameters := [(.object "java/lang/Object"), .int, (.object "java/lang/Object"), .int, .int], returnType := none }, accessFlags := 265, code := none }
/-- java/lang/System -/
def k5 : Class := { plain "java/lang/System" (some 0) with
  accessFlags := 49
  interfaces := #[]
  cf := some (fileOf pool5 8 #[.nestMembers #[319, 327, 801, 108, 663, 208]] #[{ accessFlags := 2, nameIndex := 5, descriptorIndex := 6, attributes := #[] }, { accessFlags := 265, nameIndex := 727, descriptorIndex := 728, attributes := #[] }] 49 2 #[] #[{ accessFlags := 25, nameIndex := 507, descriptorIndex := 526, attributes := #[] }, { accessFlags := 25, nameIndex := 399, descriptorIndex := 155, attributes := #[] }, { accessFlags := 25, nameIndex := 396, descriptorIndex := 155, attributes := #[] }, { accessFlags := 10, nameIndex := 525, descriptorIndex := 526, attributes := #[] }, { accessFlags := 26, nameIndex := 674, descriptorIndex := 12, attributes := #[] }, { accessFlags := 26, nameIndex := 677, descriptorIndex := 12, attributes := #[] }, { accessFlags := 10, nameIndex := 11, descriptorIndex := 12, attributes := #[] }, { accessFlags := 74, nameIndex := 175, descriptorIndex := 176, attributes := #[] }, { accessFlags := 10, nameIndex := 491, descriptorIndex := 222, attributes := #[] }, { accessFlags := 74, nameIndex := 29, descriptorIndex := 30, attributes := #[] }, { accessFlags := 74, nameIndex := 154, descriptorIndex := 155, attributes := #[] }, { accessFlags := 10, nameIndex := 217, descriptorIndex := 218, attributes := #[] }, { accessFlags := 10, nameIndex := 221, descriptorIndex := 222, attributes := #[] }, { accessFlags := 8, nameIndex := 562, descriptorIndex := 563, attributes := #[] }])
  fields := #[{ name := "in", type := (.object "java/io/InputStream"), accessFlags := 25, slot := 0, constantValue := 0 }, { name := "out", type := (.object "java/io/PrintStream"), accessFlags := 25, slot := 1, constantValue := 0 }, { name := "err", type := (.object "java/io/PrintStream"), accessFlags := 25, slot := 2, constantValue := 0 }, { name := "initialIn", type := (.object "java/io/InputStream"), accessFlags := 10, slot := 3, constantValue := 0 }, { name := "NEVER", type := .int, accessFlags := 26, slot := 4, constantValue := 0 }, { name := "MAYBE", type := .int, accessFlags := 26, slot := 5, constantValue := 0 }, { name := "allowSecurityManager", type := .int, accessFlags := 10, slot := 6, constantValue := 0 }, { name := "security", type := (.object "java/lang/SecurityManager"), accessFlags := 74, slot := 7, constantValue := 0 }, { name := "notSupportedJnuEncoding", type := (.object "java/lang/String"), accessFlags := 10, slot := 8, constantValue := 0 }, { name := "cons", type := (.object "java/io/Console"), accessFlags := 74, slot := 9, constantValue := 0 }, { name := "initialErrStream", type := (.object "java/io/PrintStream"), accessFlags := 74, slot := 10, constantValue := 0 }, { name := "props", type := (.object "java/util/Properties"), accessFlags := 10, slot := 11, constantValue := 0 }, { name := "lineSeparator", type := (.object "java/lang/String"), accessFlags := 10, slot := 12, constantValue := 0 }, { name := "bootLayer", type := (.object "java/lang/ModuleLayer"), accessFlags := 8, slot := 13, constantValue := 0 }]
  methods := #[k5m0, k5m1]
  instanceTypes := #[]
  staticTypes := #[(.object "java/io/InputStream"), (.object "java/io/PrintStream"), (.object "java/io/PrintStream"), (.object "java/io/InputStream"), .int, .int, .int, (.object "java/lang/SecurityManager"), (.object "java/lang/String"), (.object "java/io/Console"), (.object "java/io/PrintStream"), (.object "java/util/Properties"), (.object "java/lang/String"), (.object "java/lang/ModuleLayer")]
  resolved := Array.replicate 834 none
  statics := none }

def pool6 : Array CpInfo := pool [(1, u "java/lang/Cloneable"), (0, .class_ 1), (0, u "java/lang/Object"), (0, .class_ 3)] 3

/-- java/lang/Cloneable -/
def k6 : Class := { plain "java/lang/Cloneable" (some 0) with
  accessFlags := 1537
  interfaces := #[]
  cf := some (fileOf pool6 2 #[] #[] 1537 4 #[] #[])
  fields := #[]
  methods := #[]
  instanceTypes := #[]
  staticTypes := #[]
  resolved := Array.replicate 8 none
  statics := none }

def pool7 : Array CpInfo := pool [(1, u "java/io/Serializable"), (0, .class_ 1), (0, u "java/lang/Object"), (0, .class_ 3)] 3

/-- java/io/Serializable -/
def k7 : Class := { plain "java/io/Serializable" (some 0) with
  accessFlags := 1537
  interfaces := #[]
  cf := some (fileOf pool7 2 #[] #[] 1537 4 #[] #[])
  fields := #[]
  methods := #[]
  instanceTypes := #[]
  staticTypes := #[]
  resolved := Array.replicate 8 none
  statics := none }

/-- the primitive byte -/
def k8 : Class := { plain "byte" none with kind := .primitive 'B', accessFlags := 0x411 }
/-- [B -/
def k9 : Class := { plain "[B" (some 0) with kind := .array 8 .byte, interfaces := #[6, 7], accessFlags := 1041 }

/-- the primitive int -/
def k10 : Class := { plain "int" none with kind := .primitive 'I', accessFlags := 0x411 }
/-- [I -/
def k11 : Class := { plain "[I" (some 0) with kind := .array 10 .int, interfaces := #[6, 7], accessFlags := 1041 }

def heap : Heap := #[]
def classes : Array Class := #[k0, k1, k2, k3, k4, k5, k6, k7, k8, k9, k10, k11]
def interned : List (Array UInt16 × Addr) := []
def slotsUsed : Nat := 0
def theMethod : MethodId := ⟨1, 1⟩
def args0 : Array Value := #[.int 3, .int 65, .int 66, .int 1, .int 2]
def aboutOver (below : List Frame) : State where
  vm := { classes := classes, interned := interned.toArray }
  heap := heap
  slotsUsed := slotsUsed
  threads := #[{ frames := .invoking theMethod args0 :: below }]
def below0 : List Frame := [.native { method := ⟨0, 0⟩, args := #[] }]
def about1 : State := aboutOver below0
def p0 : Program := .bare "" "" ""
def e0 : Env := launch0.env 0 0 0
theorem w_frames : about1.frames = Frame.invoking theMethod args0 :: below0 := rfl
set_option maxRecDepth 65536 in
theorem w_args : argsFit about1.vm theMethod args0 = true := by decide +kernel
set_option maxRecDepth 65536 in
theorem w_heap : heapFits about1 = true := by decide +kernel
set_option maxRecDepth 65536 in
theorem w_runnable : about1.curStatus? = some .runnable := by decide +kernel
set_option maxRecDepth 65536 in
theorem w_alone : about1.alone = true := by decide +kernel
set_option maxRecDepth 65536 in
theorem w_named : about1.methodNamed? x = some theMethod := by decide +kernel
set_option maxRecDepth 65536 in
theorem w_hears : about1.hears theMethod below0 = true := by decide +kernel
set_option maxRecDepth 65536 in
theorem w_ripe : about1.ripe theMethod args0 below0 = true := by decide +kernel
theorem w_running : about1.status = .running := rfl
set_option maxRecDepth 65536 in
theorem w_room : about1.hasRoom e0.platform room_1 = true :=
  launch0.hasRoom_least _ room_1 (by decide +kernel) (by decide +kernel) (by decide +kernel) (by decide +kernel) (by decide +kernel) (by decide +kernel)
theorem allAtoms_all (ts : List Jvm.Cond) (a : Array Jvm.Value) (st : Jvm.State) : (allAtoms ts).before a st = ts.all (fun c => c.before a st) := by
  induction ts with
  | nil => rfl
  | cons c t ih =>
    show (Jvm.Cond.and c (allAtoms t)).before a st = _
    rw [Jvm.Cond.before_and, ih, List.all_cons]
def words1 : List Jvm.Cond := Jvm.Cond.code x code maxLocals ret :: tables_1
/-- a 'code' word, met by the world's own term for the bytes: nothing is compared byte by byte -/
theorem code_word {y : MethodName} {bytes : ByteArray} {mx : Nat} {rt : Option FieldType} {a : Array Value} {s : State} {m : MethodId} {meth : Method} {c : Code} (h1 : s.methodNamed? y = some m) (h2 : s.vm.method? m = some meth) (h3 : meth.code = some c) (h4 : c.code = bytes)
    (h5 : (c.maxLocals == mx && c.exceptionTable.isEmpty && decide (c.maxStack ≤ mostOperands) && decide (meth.sig.returnType = rt) && !meth.locks && decide (parseMethodDescriptor y.desc = some meth.sig)) = true) : (Jvm.Cond.code y bytes mx rt).before a s = true := by
  simp only [Bool.and_eq_true, beq_iff_eq, Bool.not_eq_true', decide_eq_true_eq] at h5
  obtain ⟨⟨⟨⟨⟨g1, g2⟩, g3⟩, g4⟩, g5⟩, g6⟩ := h5
  simp [Cond.before, Cond.holds, Cond.value, h1, h2, h3, h4, g1, g2, g3, g4, g5, g6]
def isCode : Jvm.Cond → Bool
  | .code _ _ _ _ => true
  | _ => false
theorem all_split {L : List Jvm.Cond} {P : Jvm.Cond → Bool} (h1 : L.all (fun c => isCode c || P c) = true) (h2 : ∀ c ∈ L.filter isCode, P c = true) : L.all P = true := by
  refine List.all_eq_true.mpr fun c hc => ?_
  have h := List.all_eq_true.mp h1 c hc
  rcases Bool.eq_false_or_eq_true (isCode c) with hi | hi
  · exact h2 c (List.mem_filter.mpr ⟨hc, hi⟩)
  · simpa [hi] using h
set_option maxRecDepth 65536 in
theorem w_c0 : (Jvm.Cond.code x code maxLocals ret).before args0 about1 = true := code_word (m := ⟨1, 1⟩) (meth := k1m1) (c := k1c1) (by decide +kernel) rfl rfl rfl (by decide +kernel)
set_option maxRecDepth 65536 in
theorem w_c1 : (Jvm.Cond.code ({ cls := "com/example/birchwire/birchwire/protocol/BerReader", name := "<init>", desc := "([B)V" } : Jvm.MethodName) prog_57_method_1_code (2 : Nat) (Option.none : Option Jvm.ClassFile.FieldType)).before args0 about1 = true := code_word (m := ⟨2, 0⟩) (meth := k2m0) (c := k2c0) (by decide +kernel) rfl rfl rfl (by decide +kernel)
set_option maxRecDepth 65536 in
theorem w_c2 : (Jvm.Cond.code ({ cls := "com/example/birchwire/birchwire/protocol/BerReader", name := "<init>", desc := "([BII)V" } : Jvm.MethodName) prog_57_method_2_code (4 : Nat) (Option.none : Option Jvm.ClassFile.FieldType)).before args0 about1 = true := code_word (m := ⟨2, 1⟩) (meth := k2m1) (c := k2c1) (by decide +kernel) rfl rfl rfl (by decide +kernel)
set_option maxRecDepth 65536 in
theorem w_c3 : (Jvm.Cond.code ({ cls := "java/lang/Object", name := "<init>", desc := "()V" } : Jvm.MethodName) object_method_1_code (1 : Nat) (Option.none : Option Jvm.ClassFile.FieldType)).before args0 about1 = true := code_word (m := ⟨0, 0⟩) (meth := k0m0) (c := k0c0) (by decide +kernel) rfl rfl rfl (by decide +kernel)
set_option maxRecDepth 65536 in
theorem w_c4 : (Jvm.Cond.code ({ cls := "com/example/birchwire/birchwire/protocol/BerReader", name := "hasRemaining", desc := "()Z" } : Jvm.MethodName) prog_57_method_4_code (1 : Nat) (Option.some Jvm.ClassFile.FieldType.boolean)).before args0 about1 = true := code_word (m := ⟨2, 2⟩) (meth := k2m2) (c := k2c2) (by decide +kernel) rfl rfl rfl (by decide +kernel)
set_option maxRecDepth 65536 in
theorem w_c5 : (Jvm.Cond.code ({ cls := "com/example/birchwire/birchwire/protocol/BerReader", name := "readElement", desc := "(I)Lcom/example/birchwire/birchwire/protocol/BerReader;" } : Jvm.MethodName) prog_57_method_6_code (3 : Nat) (Option.some (Jvm.ClassFile.FieldType.object "com/example/birchwire/birchwire/protocol/BerReader"))).before args0 about1 = true := code_word (m := ⟨2, 4⟩) (meth := k2m4) (c := k2c4) (by decide +kernel) rfl rfl rfl (by decide +kernel)
set_option maxRecDepth 65536 in
theorem w_c6 : (Jvm.Cond.code ({ cls := "com/example/birchwire/birchwire/protocol/BerReader", name := "peekTag", desc := "()I" } : Jvm.MethodName) prog_57_method_5_code (1 : Nat) (Option.some Jvm.ClassFile.FieldType.int)).before args0 about1 = true := code_word (m := ⟨2, 3⟩) (meth := k2m3) (c := k2c3) (by decide +kernel) rfl rfl rfl (by decide +kernel)
set_option maxRecDepth 65536 in
theorem w_c7 : (Jvm.Cond.code ({ cls := "com/example/birchwire/birchwire/protocol/BerReader", name := "checkTag", desc := "(I)I" } : Jvm.MethodName) prog_57_method_17_code (1 : Nat) (Option.some Jvm.ClassFile.FieldType.int)).before args0 about1 = true := code_word (m := ⟨2, 7⟩) (meth := k2m7) (c := k2c7) (by decide +kernel) rfl rfl rfl (by decide +kernel)
set_option maxRecDepth 65536 in
theorem w_c8 : (Jvm.Cond.code ({ cls := "com/example/birchwire/birchwire/protocol/BerReader", name := "next", desc := "()Lcom/example/birchwire/birchwire/protocol/BerReader;" } : Jvm.MethodName) prog_57_method_16_code (6 : Nat) (Option.some (Jvm.ClassFile.FieldType.object "com/example/birchwire/birchwire/protocol/BerReader"))).before args0 about1 = true := code_word (m := ⟨2, 6⟩) (meth := k2m6) (c := k2c6) (by decide +kernel) rfl rfl rfl (by decide +kernel)
set_option maxRecDepth 65536 in
theorem w_c9 : (Jvm.Cond.code ({ cls := "com/example/birchwire/birchwire/protocol/BerReader", name := "lengthOctets", desc := "([BII)I" } : Jvm.MethodName) prog_57_method_18_code (5 : Nat) (Option.some Jvm.ClassFile.FieldType.int)).before args0 about1 = true := code_word (m := ⟨2, 8⟩) (meth := k2m8) (c := k2c8) (by decide +kernel) rfl rfl rfl (by decide +kernel)
set_option maxRecDepth 65536 in
theorem w_c10 : (Jvm.Cond.code ({ cls := "com/example/birchwire/birchwire/protocol/BerReader", name := "contentLength", desc := "([BII)J" } : Jvm.MethodName) prog_57_method_19_code (6 : Nat) (Option.some Jvm.ClassFile.FieldType.long)).before args0 about1 = true := code_word (m := ⟨2, 9⟩) (meth := k2m9) (c := k2c9) (by decide +kernel) rfl rfl rfl (by decide +kernel)
set_option maxRecDepth 65536 in
theorem w_c11 : (Jvm.Cond.code ({ cls := "com/example/birchwire/birchwire/protocol/BerReader", name := "contentAsBytes", desc := "()[B" } : Jvm.MethodName) prog_57_method_12_code (2 : Nat) (Option.some (Jvm.ClassFile.FieldType.array Jvm.ClassFile.FieldType.byte))).before args0 about1 = true := code_word (m := ⟨2, 5⟩) (meth := k2m5) (c := k2c5) (by decide +kernel) rfl rfl rfl (by decide +kernel)
set_option maxRecDepth 65536 in
theorem w_c12 : (Jvm.Cond.code ({ cls := "java/util/Arrays", name := "copyOfRange", desc := "([BII)[B" } : Jvm.MethodName) jdk_65_method_132_code (3 : Nat) (Option.some (Jvm.ClassFile.FieldType.array Jvm.ClassFile.FieldType.byte))).before args0 about1 = true := code_word (m := ⟨3, 2⟩) (meth := k3m2) (c := k3c2) (by decide +kernel) rfl rfl rfl (by decide +kernel)
set_option maxRecDepth 65536 in
theorem w_c13 : (Jvm.Cond.code ({ cls := "java/util/Arrays", name := "copyOfRangeByte", desc := "([BII)[B" } : Jvm.MethodName) jdk_65_method_133_code (5 : Nat) (Option.some (Jvm.ClassFile.FieldType.array Jvm.ClassFile.FieldType.byte))).before args0 about1 = true := code_word (m := ⟨3, 3⟩) (meth := k3m3) (c := k3c3) (by decide +kernel) rfl rfl rfl (by decide +kernel)
set_option maxRecDepth 65536 in
theorem w_c14 : (Jvm.Cond.code ({ cls := "java/util/Arrays", name := "checkLength", desc := "(II)V" } : Jvm.MethodName) jdk_65_method_131_code (2 : Nat) (Option.none : Option Jvm.ClassFile.FieldType)).before args0 about1 = true := code_word (m := ⟨3, 1⟩) (meth := k3m1) (c := k3c1) (by decide +kernel) rfl rfl rfl (by decide +kernel)
set_option maxRecDepth 65536 in
theorem w_c15 : (Jvm.Cond.code ({ cls := "java/lang/Math", name := "min", desc := "(II)I" } : Jvm.MethodName) jdk_29_method_69_code (2 : Nat) (Option.some Jvm.ClassFile.FieldType.int)).before args0 about1 = true := code_word (m := ⟨4, 1⟩) (meth := k4m1) (c := k4c1) (by decide +kernel) rfl rfl rfl (by decide +kernel)
def codes1 : List Jvm.Cond := [Jvm.Cond.code x code maxLocals ret, Jvm.Cond.code ({ cls := "com/example/birchwire/birchwire/protocol/BerReader", name := "<init>", desc := "([B)V" } : Jvm.MethodName) prog_57_method_1_code (2 : Nat) (Option.none : Option Jvm.ClassFile.FieldType), Jvm.Cond.code ({ cls := "com/example/birchwire/birchwire/protocol/BerReader", name := "<init>", desc := "([BII)V" } : Jvm.MethodName) prog_57_method_2_code (4 : Nat) (Option.none : Option Jvm.ClassFile.FieldType), Jvm.Cond.code ({ cls := "java/lang/Object", name := "<init>", desc := "()V" } : Jvm.MethodName) object_method_1_code (1 : Nat) (Option.none : Option Jvm.ClassFile.FieldType), Jvm.Cond.code ({ cls := "com/example/birchwire/birchwire/protocol/BerReader", name := "hasRemaining", desc := "()Z" } : Jvm.MethodName) prog_57_method_4_code (1 : Nat) (Option.some Jvm.ClassFile.FieldType.boolean), Jvm.Cond.code ({ cls := "com/example/birchwire/birchwire/protocol/BerReader", name := "readElement", desc := "(I)Lcom/example/birchwire/birchwire/protocol/BerReader;" } : Jvm.MethodName) prog_57_method_6_code (3 : Nat) (Option.some (Jvm.ClassFile.FieldType.object "com/example/birchwire/birchwire/protocol/BerReader")), Jvm.Cond.code ({ cls := "com/example/birchwire/birchwire/protocol/BerReader", name := "peekTag", desc := "()I" } : Jvm.MethodName) prog_57_method_5_code (1 : Nat) (Option.some Jvm.ClassFile.FieldType.int), Jvm.Cond.code ({ cls := "com/example/birchwire/birchwire/protocol/BerReader", name := "checkTag", desc := "(I)I" } : Jvm.MethodName) prog_57_method_17_code (1 : Nat) (Option.some Jvm.ClassFile.FieldType.int), Jvm.Cond.code ({ cls := "com/example/birchwire/birchwire/protocol/BerReader", name := "next", desc := "()Lcom/example/birchwire/birchwire/protocol/BerReader;" } : Jvm.MethodName) prog_57_method_16_code (6 : Nat) (Option.some (Jvm.ClassFile.FieldType.object "com/example/birchwire/birchwire/protocol/BerReader")), Jvm.Cond.code ({ cls := "com/example/birchwire/birchwire/protocol/BerReader", name := "lengthOctets", desc := "([BII)I" } : Jvm.MethodName) prog_57_method_18_code (5 : Nat) (Option.some Jvm.ClassFile.FieldType.int), Jvm.Cond.code ({ cls := "com/example/birchwire/birchwire/protocol/BerReader", name := "contentLength", desc := "([BII)J" } : Jvm.MethodName) prog_57_method_19_code (6 : Nat) (Option.some Jvm.ClassFile.FieldType.long), Jvm.Cond.code ({ cls := "com/example/birchwire/birchwire/protocol/BerReader", name := "contentAsBytes", desc := "()[B" } : Jvm.MethodName) prog_57_method_12_code (2 : Nat) (Option.some (Jvm.ClassFile.FieldType.array Jvm.ClassFile.FieldType.byte)), Jvm.Cond.code ({ cls := "java/util/Arrays", name := "copyOfRange", desc := "([BII)[B" } : Jvm.MethodName) jdk_65_method_132_code (3 : Nat) (Option.some (Jvm.ClassFile.FieldType.array Jvm.ClassFile.FieldType.byte)), Jvm.Cond.code ({ cls := "java/util/Arrays", name := "copyOfRangeByte", desc := "([BII)[B" } : Jvm.MethodName) jdk_65_method_133_code (5 : Nat) (Option.some (Jvm.ClassFile.FieldType.array Jvm.ClassFile.FieldType.byte)), Jvm.Cond.code ({ cls := "java/util/Arrays", name := "checkLength", desc := "(II)V" } : Jvm.MethodName) jdk_65_method_131_code (2 : Nat) (Option.none : Option Jvm.ClassFile.FieldType), Jvm.Cond.code ({ cls := "java/lang/Math", name := "min", desc := "(II)I" } : Jvm.MethodName) jdk_29_method_69_code (2 : Nat) (Option.some Jvm.ClassFile.FieldType.int)]
set_option maxRecDepth 65536 in
theorem codes_eq : words1.filter isCode = codes1 := rfl
theorem w_codes : ∀ c ∈ words1.filter isCode, c.before args0 about1 = true := by
  rw [codes_eq]
  intro c hc
  simp only [codes1, List.mem_cons, List.not_mem_nil, or_false] at hc
  rcases hc with rfl | rfl | rfl | rfl | rfl | rfl | rfl | rfl | rfl | rfl | rfl | rfl | rfl | rfl | rfl | rfl
  · exact w_c0
  · exact w_c1
  · exact w_c2
  · exact w_c3
  · exact w_c4
  · exact w_c5
  · exact w_c6
  · exact w_c7
  · exact w_c8
  · exact w_c9
  · exact w_c10
  · exact w_c11
  · exact w_c12
  · exact w_c13
  · exact w_c14
  · exact w_c15
set_option maxRecDepth 65536 in
theorem w_t1 : (words1.take 24).all (fun c => isCode c || c.before args0 about1) = true := by decide +kernel
set_option maxRecDepth 65536 in
theorem w_t2 : ((words1.drop 24).take 24).all (fun c => isCode c || c.before args0 about1) = true := by decide +kernel
set_option maxRecDepth 65536 in
theorem w_t3 : (((words1.drop 24).drop 24).take 24).all (fun c => isCode c || c.before args0 about1) = true := by decide +kernel
set_option maxRecDepth 65536 in
theorem w_t4 : (((words1.drop 24).drop 24).drop 24).all (fun c => isCode c || c.before args0 about1) = true := by decide +kernel
theorem w_tables : (allAtoms (Jvm.Cond.code x code maxLocals ret :: tables_1)).before args0 about1 = true := by
  rw [allAtoms_all]
  show words1.all (fun c => c.before args0 about1) = true
  refine all_split ?_ w_codes
  rw [← List.take_append_drop 24 words1, List.all_append, w_t1, ← List.take_append_drop 24 (words1.drop 24), List.all_append, w_t2, ← List.take_append_drop 24 ((words1.drop 24).drop 24), List.all_append, w_t3, w_t4]
  rfl
set_option maxRecDepth 65536 in
theorem w_case : (Jvm.Cond.and given_1 narrow_1).before args0 about1 = true := by decide +kernel
theorem w_applies : (headSpec (Jvm.Cond.code x code maxLocals ret :: tables_1) room_1).applies x e0.platform about1 = true :=
  (Spec.applies_iff w_frames).mpr ⟨w_running, w_runnable, w_alone, w_named, w_hears, w_ripe, w_room, w_tables⟩
theorem atStart : AtStart classFile x code maxLocals ret World_1 tables_1 room_1 Calls_1 rest_1 Pre_1 launch0 p0 e0 about1 theMethod args0 below0 :=
  ⟨lists_1, trivial, launch0.admits_env _ _ _, launch0.least_env, fairChoices_fair.cas, fairChoices_fair.clock, w_frames, w_args, w_heap, w_applies, trivial, trivial, w_case⟩
end start1
theorem witness_1 : WitnessClaimed_1 := ⟨start1.p0, start1.e0, start1.about1, start1.theMethod, start1.args0, start1.below0, start1.atStart⟩
end Jvm.Pilot.@@N@@
