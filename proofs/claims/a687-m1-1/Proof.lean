import JvmDerived
import JvmDerived.Pilot.@@N@@Statement
import JvmDerived.Pilot.@@N@@Code
set_option linter.unusedVariables false
set_option linter.unusedSimpArgs false
namespace Jvm.Pilot.@@N@@
open Jvm Jvm.ClassFile Sem Op Lib Jvm.Free Jvm.Stand Jvm.LawKit Jvm.RoadKit Bundle Jvm.Pilot.@@N@@.Jvm.D
section Own
variable {p : Program} {l : Launch} {e : Env} {R : Room} {s : State} {m : MethodId} {args : Array Value} {below : List Frame} {meth : Method} {c : Code} {T : State} {locs : List Loc} {cells slots : Nat}
/-- the walk from the state t ends as the contract Q says; End: the narrow frame or the wide one -/
def Go (End : State → Outcome → State → List Loc → Nat → Nat → Prop) (p : Program) (e : Env) (below : List Frame) (s : State) (rc rs : Nat) (Q : Option Value → Heap → List Loc → Prop) (t : State) : Prop :=
  ∃ s₂ o, Steps p.tables e below t s₂ ∧ s₂.status = .running ∧ Ended s₂ below o ∧ ∃ v L, o = .returned v ∧ Q v s₂.heap L ∧ End s o s₂ L rc rs
variable {End : State → Outcome → State → List Loc → Nat → Nat → Prop}
theorem go {rc rs : Nat} {Q : Option Value → Heap → List Loc → Prop} {t t' : State} (k : ∀ target, Steps p.tables e below t' target → Steps p.tables e below t target) (h : Go End p e below s rc rs Q t') : Go End p e below s rc rs Q t := by
  obtain ⟨s₂, o, h1, h2⟩ := h
  exact ⟨s₂, o, k _ h1, h2⟩
theorem goT {rc rs : Nat} {Q : Option Value → Heap → List Loc → Prop} {t t' : State} (k : Steps p.tables e below t t') (h : Go End p e below s rc rs Q t') : Go End p e below s rc rs Q t := by
  obtain ⟨s₂, o, h1, h2⟩ := h
  exact ⟨s₂, o, k.trans h1, h2⟩
theorem goRet {rc rs : Nat} {Q : Option Value → Heap → List Loc → Prop} (X : Stand p l e R s m args below meth c T locs cells slots) (hx : p.tables.exec = Jvm.exec) (hlk : meth.locks = false) {pc : Nat} {Ls : Array Slot} {w : Value} {t : FieldType} {i : Instr} {rest : List Value} (hret : meth.sig.returnType = some t) (hn : narrow t w = w)
    (hi : (i = .ireturn ∧ (t = .int ∨ t = .boolean ∨ t = .byte ∨ t = .char ∨ t = .short) ∧ ∃ z, w = .int z) ∨ (i = .lreturn ∧ t = .long ∧ ∃ z, w = .long z) ∨ (i = .dreturn ∧ t = .double ∧ ∃ z, w = .double z) ∨ (i = .freturn ∧ t = .float ∧ ∃ z, w = .float z) ∨ (i = .areturn ∧ t.isReference = true ∧ w.isRef = true))
    (hd : decode c.code pc = .ok (i, 1)) (hc : cells ≤ rc) (hs : slots ≤ rs) (hq : Q (some w) T.heap locs) : Go FrameEnd p e below s rc rs Q (T.setTop (mkF m pc Ls (w :: rest))) := by
  obtain ⟨fs, hr, hrun, hended, hW, hsame⟩ := X.leave (v := some w) (fun h => by rw [hret] at h; cases h) hlk
  refine ⟨_, _, retOut X hx hret hn hi hd hr, hrun, hended, _, _, rfl, ?_, ⟨_, rfl⟩, hW, hsame.mono hc hs⟩
  show Q _ T.heap _
  exact hq
theorem goRet0 {rc rs : Nat} {Q : Option Value → Heap → List Loc → Prop} (X : Stand p l e R s m args below meth c T locs cells slots) (hx : p.tables.exec = Jvm.exec) (hlk : meth.locks = false) {pc : Nat} {Ls : Array Slot} (hret : meth.sig.returnType = none)
    (hd : decode c.code pc = .ok (.return_, 1)) (hc : cells ≤ rc) (hs : slots ≤ rs) (hq : Q none T.heap locs) : Go FrameEnd p e below s rc rs Q (T.setTop (mkF m pc Ls [])) := by
  obtain ⟨fs, hr, hrun, hended, hW, hsame⟩ := X.leave (v := none) (fun _ => rfl) hlk
  refine ⟨_, _, X.returnOut hx hret hd hr, hrun, hended, _, _, rfl, ?_, ⟨_, rfl⟩, hW, hsame.mono hc hs⟩
  show Q _ T.heap _
  exact hq
end Own
theorem d2_0 : decode jdk_30_method_1_code 0 = .ok (.aload_n 0, 1) := by decide +kernel
theorem d2_1 : decode jdk_30_method_1_code 1 = .ok (.invokespecial 1, 3) := by decide +kernel
theorem d2_4 : decode jdk_30_method_1_code 4 = .ok (.return_, 1) := by decide +kernel
theorem pn_2 : plainName "java/lang/Record" = true := by first | (simp [plainName, overriddenIn]; done) | decide +kernel
theorem ef_2 (m : MethodId) (a1 : Addr) : entryFrame m #[(.ref a1)] 1 = mkF m 0 #[.val (.ref a1)] [] := by first | (simp [entryFrame, mkF, argsToLocals, Value.category]; done) | rfl
def Q2 (Z : State) (a1 : Addr) (h0 : Heap) (n0 : Nat) (v : Option Value) (h : Heap) (L : List Loc) : Prop := v = none ∧ Fr n0 L ∧ (h = h0)
set_option maxRecDepth 65536 in
set_option maxHeartbeats 40000000 in
theorem rm2 (l : Launch) (Z : State) (a0 : Array Value) (hw : ∀ d ∈ tables_1, d.before a0 Z = true) (ws : List Jvm.Cond) (a1 : Addr) (h0 : Heap) (n0 : Nat) (Z0 : n0 ≤ h0.size)  :
    MetFree l (⟨"java/lang/Record", "<init>", "()V"⟩ : MethodName) (head1 (Jvm.Cond.code (⟨"java/lang/Record", "<init>", "()V"⟩ : MethodName) jdk_30_method_1_code 1 none :: ws) ({ frames := 1, cells := 0, slots := 0, locals := 12 } : Room)) (fun a U => a = #[(.ref a1)] ∧ Z.Warmed39 U.vm ∧ U.heap = h0) (fun _ _ _ _ _ => True) (fun _ U o U' => ∃ v L, o = .returned v ∧ Q2 Z a1 h0 n0 v U'.heap L ∧ FrameEnd U o U' L ({ frames := 1, cells := 0, slots := 0, locals := 12 } : Room).cells ({ frames := 1, cells := 0, slots := 0, locals := 12 } : Room).slots) := by
  refine MetFree.of_bodySF (plainFor_of_name pn_2) hisR ?_
  intro p e s m args below meth c s₁ Bd hml0 hP hK
  obtain ⟨rfl, hZ, hh⟩ := hP
  have hx := Bd.exec
  have hby := Bd.bytes
  have hml : c.maxLocals = 1 := hml0
  have hown : s.vm.findClass "java/lang/Record" = some m.cls := findClass_of_methodNamed Bd.named
  have hnm := (name_of_methodNamed Bd.named Bd.method).1
  have X0 : Stand p l e ({ frames := 1, cells := 0, slots := 0, locals := 12 } : Room) s m #[(.ref a1)] below meth c s₁ [] 0 0 := Stand.of_body Bd
  have e0 : s₁.heap = h0 := by rw [← hh, Bd.state]; rfl
  have N0 := Fr.nil n0
  have hS0 : s.Since s.vm 0 := (State.WarmedH.refl s).since 0
  show Go FrameEnd p e below s ({ frames := 1, cells := 0, slots := 0, locals := 12 } : Room).cells ({ frames := 1, cells := 0, slots := 0, locals := 12 } : Room).slots (Q2 Z a1 h0 n0) (s₁.setTop (entryFrame m #[(.ref a1)] 1))
  refine go (fun _ k => castTop (ef_2 m a1) k) ?_
  show Go _ p e below s _ _ _ (s₁.setTop (mkF m 0 #[.val (.ref a1)] []))
  refine go (fun _ => XS.aloadN X0.here hx rfl (hb hby d2_0) rfl rfl) ?_
  show Go _ p e below s _ _ _ (s₁.setTop (mkF m 1 #[.val (.ref a1)] [(.ref a1)]))
  obtain ⟨T2, X2, e2, st2⟩ := initO X0 hx hZ hown (hw _ (List.mem_of_getElem? (i := 11) rfl)) (hw _ (List.mem_of_getElem? (i := 12) rfl)) (hw _ (List.mem_of_getElem? (i := 13) rfl)) e0 (g := (mkF m 1 #[.val (.ref a1)] [(.ref a1)])) rfl (by rw [hml]; rfl) rfl (hb hby d2_1) (by decide) (W := 0) (by show 2 * 0 + _ ≤ _; exact Nat.le_of_eq rfl) (by decide)
  refine go st2 ?_
  show Go _ p e below s _ _ _ (T2.setTop (mkF m 4 #[.val (.ref a1)] []))
  refine goRet0 X2 hx Bd.notSynchronized Bd.returns (hb hby d2_4) (by decide) (by decide) (by rw [e2]; refine ⟨rfl, N0, rfl⟩)
theorem d1_0 : decode prog_9_method_1_code 0 = .ok (.aload_n 0, 1) := by decide +kernel
theorem d1_1 : decode prog_9_method_1_code 1 = .ok (.invokespecial 1, 3) := by decide +kernel
theorem d1_4 : decode prog_9_method_1_code 4 = .ok (.aload_n 0, 1) := by decide +kernel
theorem d1_5 : decode prog_9_method_1_code 5 = .ok (.iload_n 1, 1) := by decide +kernel
theorem d1_6 : decode prog_9_method_1_code 6 = .ok (.putfield 7, 3) := by decide +kernel
theorem d1_9 : decode prog_9_method_1_code 9 = .ok (.aload_n 0, 1) := by decide +kernel
theorem d1_10 : decode prog_9_method_1_code 10 = .ok (.iload_n 2, 1) := by decide +kernel
theorem d1_11 : decode prog_9_method_1_code 11 = .ok (.putfield 13, 3) := by decide +kernel
theorem d1_14 : decode prog_9_method_1_code 14 = .ok (.aload_n 0, 1) := by decide +kernel
theorem d1_15 : decode prog_9_method_1_code 15 = .ok (.iload_n 3, 1) := by decide +kernel
theorem d1_16 : decode prog_9_method_1_code 16 = .ok (.putfield 16, 3) := by decide +kernel
theorem d1_19 : decode prog_9_method_1_code 19 = .ok (.return_, 1) := by decide +kernel
theorem pn_1 : plainName "com/example/fuller_query/fullerquery/eval/Comparison" = true := by first | (simp [plainName, overriddenIn]; done) | decide +kernel
theorem pd_1_0 : parseMethodDescriptor "()V" = some ⟨[], none⟩ := by decide +kernel
theorem ef_1 (m : MethodId) (a1 : Addr) (p2 : Int32) (p3 : Int32) (p4 : Int32) : entryFrame m #[(.ref a1), (.int p2), (.int p3), (.int p4)] 4 = mkF m 0 #[.val (.ref a1), .val (.int p2), .val (.int p3), .val (.int p4)] [] := by first | (simp [entryFrame, mkF, argsToLocals, Value.category]; done) | rfl
def Q1 (Z : State) (a1 : Addr) (p2 : Int32) (p3 : Int32) (p4 : Int32) (u1 : Value) (u2 : Value) (u3 : Value) (h0 : Heap) (n0 : Nat) (v : Option Value) (h : Heap) (L : List Loc) : Prop := v = none ∧ Fr n0 L ∧ (Keep h0 h [a1]) ∧ (Fld Z h a1 "com/example/fuller_query/fullerquery/eval/Comparison" "improved" "I" (.int p2)) ∧ (Fld Z h a1 "com/example/fuller_query/fullerquery/eval/Comparison" "worsened" "I" (.int p3)) ∧ (Fld Z h a1 "com/example/fuller_query/fullerquery/eval/Comparison" "preserved" "I" (.int p4))
set_option maxRecDepth 65536 in
set_option maxHeartbeats 40000000 in
theorem rm1 (l : Launch) (Z : State) (a0 : Array Value) (hw : ∀ d ∈ tables_1, d.before a0 Z = true) (ws : List Jvm.Cond) (a1 : Addr) (p2 : Int32) (p3 : Int32) (p4 : Int32) (u1 : Value) (u2 : Value) (u3 : Value) (h0 : Heap) (n0 : Nat) (Z0 : n0 ≤ h0.size) (P0 : Exa Z h0 a1 "com/example/fuller_query/fullerquery/eval/Comparison") (P1 : Fld Z h0 a1 "com/example/fuller_query/fullerquery/eval/Comparison" "improved" "I" u1) (P2 : Fld Z h0 a1 "com/example/fuller_query/fullerquery/eval/Comparison" "worsened" "I" u2) (P3 : Fld Z h0 a1 "com/example/fuller_query/fullerquery/eval/Comparison" "preserved" "I" u3) (P4 : n0 ≤ a1) :
    MetFree l (⟨"com/example/fuller_query/fullerquery/eval/Comparison", "<init>", "(III)V"⟩ : MethodName) (head1 (Jvm.Cond.code (⟨"com/example/fuller_query/fullerquery/eval/Comparison", "<init>", "(III)V"⟩ : MethodName) prog_9_method_1_code 4 none :: ws) ({ frames := 2, cells := 0, slots := 0, locals := 24 } : Room)) (fun a U => a = #[(.ref a1), (.int p2), (.int p3), (.int p4)] ∧ Z.Warmed39 U.vm ∧ U.heap = h0) (fun _ _ _ _ _ => True) (fun _ U o U' => ∃ v L, o = .returned v ∧ Q1 Z a1 p2 p3 p4 u1 u2 u3 h0 n0 v U'.heap L ∧ FrameEnd U o U' L ({ frames := 2, cells := 0, slots := 0, locals := 24 } : Room).cells ({ frames := 2, cells := 0, slots := 0, locals := 24 } : Room).slots) := by
  refine MetFree.of_bodySF (plainFor_of_name pn_1) hisR ?_
  intro p e s m args below meth c s₁ Bd hml0 hP hK
  obtain ⟨rfl, hZ, hh⟩ := hP
  have hx := Bd.exec
  have hby := Bd.bytes
  have hml : c.maxLocals = 4 := hml0
  have hown : s.vm.findClass "com/example/fuller_query/fullerquery/eval/Comparison" = some m.cls := findClass_of_methodNamed Bd.named
  have hnm := (name_of_methodNamed Bd.named Bd.method).1
  have X0 : Stand p l e ({ frames := 2, cells := 0, slots := 0, locals := 24 } : Room) s m #[(.ref a1), (.int p2), (.int p3), (.int p4)] below meth c s₁ [] 0 0 := Stand.of_body Bd
  have e0 : s₁.heap = h0 := by rw [← hh, Bd.state]; rfl
  have N0 := Fr.nil n0
  have hS0 : s.Since s.vm 0 := (State.WarmedH.refl s).since 0
  show Go FrameEnd p e below s ({ frames := 2, cells := 0, slots := 0, locals := 24 } : Room).cells ({ frames := 2, cells := 0, slots := 0, locals := 24 } : Room).slots (Q1 Z a1 p2 p3 p4 u1 u2 u3 h0 n0) (s₁.setTop (entryFrame m #[(.ref a1), (.int p2), (.int p3), (.int p4)] 4))
  refine go (fun _ k => castTop (ef_1 m a1 p2 p3 p4) k) ?_
  show Go _ p e below s _ _ _ (s₁.setTop (mkF m 0 #[.val (.ref a1), .val (.int p2), .val (.int p3), .val (.int p4)] []))
  refine go (fun _ => XS.aloadN X0.here hx rfl (hb hby d1_0) rfl rfl) ?_
  show Go _ p e below s _ _ _ (s₁.setTop (mkF m 1 #[.val (.ref a1), .val (.int p2), .val (.int p3), .val (.int p4)] [(.ref a1)]))
  obtain ⟨_, _, ⟨T7, L7, k7, n7⟩, -, X7, ⟨Lc7, hQ7, l7, y7, z7⟩, st7⟩ := X0.specialBack hx (y := (⟨"java/lang/Record", "<init>", "()V"⟩ : MethodName)) rfl hown (mvT hZ (hw _ (List.mem_of_getElem? (i := 6) rfl))) (mvT hZ (hw _ (List.mem_of_getElem? (i := 7) rfl))) (mvT hZ (hw _ (List.mem_of_getElem? (i := 10) rfl))) (by decide) (backOf (W := 0) (rm2 l Z a0 hw [] a1 h0 n0 Z0 ) hZ (hw _ (List.mem_of_getElem? (i := 10) rfl)) (hw _ (List.mem_of_getElem? (i := 9) rfl)) (by decide) (by decide)) (g := (mkF m 1 #[.val (.ref a1), .val (.int p2), .val (.int p3), .val (.int p4)] [(.ref a1)])) rfl (by rw [hml]; rfl) (Steps.refl _) (a := a1) (argsL := []) (rest := []) (lenOf pd_1_0 rfl) rfl (by show 2 * 0 + _ ≤ _; exact Nat.le_of_eq rfl) (hb hby d1_1) (fun _ _ => ⟨rfl, e0, (by decide : 0 + 0 ≤ _), (by decide : 0 + 0 ≤ _)⟩)
  dsimp only [Pt.U, Pt.locs, Pt.cells, Pt.slots] at X7 l7 y7 z7 st7 hQ7
  subst l7 y7 z7
  obtain ⟨rfl, N7q, e7⟩ := hQ7
  have N7 := Fr.app N0 N7q
  refine goT st7 ?_
  show Go _ p e below s _ _ _ (T7.setTop (mkF m 4 #[.val (.ref a1), .val (.int p2), .val (.int p3), .val (.int p4)] []))
  refine go (fun _ => XS.aloadN X7.here hx rfl (hb hby d1_4) rfl rfl) ?_
  show Go _ p e below s _ _ _ (T7.setTop (mkF m 5 #[.val (.ref a1), .val (.int p2), .val (.int p3), .val (.int p4)] [(.ref a1)]))
  refine go (fun _ => XS.iloadN X7.here hx rfl (hb hby d1_5) rfl) ?_
  show Go _ p e below s _ _ _ (T7.setTop (mkF m 6 #[.val (.ref a1), .val (.int p2), .val (.int p3), .val (.int p4)] [(.int p2), (.ref a1)]))
  obtain ⟨T8, h8, X8, e8, W8, st8⟩ := putF X7 hx hZ hown (host := "") (Or.inl (hw _ (List.mem_of_getElem? (i := 14) rfl))) Via.refl e7 P1 P0 (Or.inr ⟨(hw _ (List.mem_of_getElem? (i := 15) rfl)), rfl, hnm⟩) (hw _ (List.mem_of_getElem? (i := 1) rfl)) (ty := .int) (by decide) rfl rfl (g := (mkF m 6 #[.val (.ref a1), .val (.int p2), .val (.int p3), .val (.int p4)] [(.int p2), (.ref a1)])) rfl rfl (hb hby d1_6)
  have Fw8 := P1.same W8
  have c8_0 := P0.wr W8
  have c8_2 := P2.other W8 (Or.inr (slot_ne (Or.inr (hw _ (List.mem_of_getElem? (i := 17) rfl))) (Or.inr (hw _ (List.mem_of_getElem? (i := 15) rfl))) (by decide) (t := .int) (t' := .int) (by decide) (by decide)))
  have c8_3 := P3.other W8 (Or.inr (slot_ne (Or.inr (hw _ (List.mem_of_getElem? (i := 19) rfl))) (Or.inr (hw _ (List.mem_of_getElem? (i := 15) rfl))) (by decide) (t := .int) (t' := .int) (by decide) (by decide)))
  have KK8 : Keep h0 h8 [a1] := (Keep.refl h0 [a1]).wr W8 (Or.inl (List.mem_of_getElem? (i := 0) rfl))
  have ZN8 : n0 ≤ h8.size := Nat.le_trans Z0 (Keep.of_wr W8).1
  have NN8 := Fr.snoc X8 N7 P4
  refine go st8 ?_
  show Go _ p e below s _ _ _ (T8.setTop (mkF m 9 #[.val (.ref a1), .val (.int p2), .val (.int p3), .val (.int p4)] []))
  refine go (fun _ => XS.aloadN X8.here hx rfl (hb hby d1_9) rfl rfl) ?_
  show Go _ p e below s _ _ _ (T8.setTop (mkF m 10 #[.val (.ref a1), .val (.int p2), .val (.int p3), .val (.int p4)] [(.ref a1)]))
  refine go (fun _ => XS.iloadN X8.here hx rfl (hb hby d1_10) rfl) ?_
  show Go _ p e below s _ _ _ (T8.setTop (mkF m 11 #[.val (.ref a1), .val (.int p2), .val (.int p3), .val (.int p4)] [(.int p3), (.ref a1)]))
  obtain ⟨T9, h9, X9, e9, W9, st9⟩ := putF X8 hx hZ hown (host := "") (Or.inl (hw _ (List.mem_of_getElem? (i := 16) rfl))) Via.refl e8 c8_2 c8_0 (Or.inr ⟨(hw _ (List.mem_of_getElem? (i := 17) rfl)), rfl, hnm⟩) (hw _ (List.mem_of_getElem? (i := 1) rfl)) (ty := .int) (by decide) rfl rfl (g := (mkF m 11 #[.val (.ref a1), .val (.int p2), .val (.int p3), .val (.int p4)] [(.int p3), (.ref a1)])) rfl rfl (hb hby d1_11)
  have Fw9 := c8_2.same W9
  have c9_0 := c8_0.wr W9
  have c9_1 := Fw8.other W9 (Or.inr (slot_ne (Or.inr (hw _ (List.mem_of_getElem? (i := 15) rfl))) (Or.inr (hw _ (List.mem_of_getElem? (i := 17) rfl))) (by decide) (t := .int) (t' := .int) (by decide) (by decide)))
  have c9_3 := c8_3.other W9 (Or.inr (slot_ne (Or.inr (hw _ (List.mem_of_getElem? (i := 19) rfl))) (Or.inr (hw _ (List.mem_of_getElem? (i := 17) rfl))) (by decide) (t := .int) (t' := .int) (by decide) (by decide)))
  have KK9 : Keep h0 h9 [a1] := KK8.wr W9 (Or.inl (List.mem_of_getElem? (i := 0) rfl))
  have ZN9 : n0 ≤ h9.size := Nat.le_trans ZN8 (Keep.of_wr W9).1
  have NN9 := Fr.snoc X9 NN8 P4
  refine go st9 ?_
  show Go _ p e below s _ _ _ (T9.setTop (mkF m 14 #[.val (.ref a1), .val (.int p2), .val (.int p3), .val (.int p4)] []))
  refine go (fun _ => XS.aloadN X9.here hx rfl (hb hby d1_14) rfl rfl) ?_
  show Go _ p e below s _ _ _ (T9.setTop (mkF m 15 #[.val (.ref a1), .val (.int p2), .val (.int p3), .val (.int p4)] [(.ref a1)]))
  refine go (fun _ => XS.iloadN X9.here hx rfl (hb hby d1_15) rfl) ?_
  show Go _ p e below s _ _ _ (T9.setTop (mkF m 16 #[.val (.ref a1), .val (.int p2), .val (.int p3), .val (.int p4)] [(.int p4), (.ref a1)]))
  obtain ⟨T10, h10, X10, e10, W10, st10⟩ := putF X9 hx hZ hown (host := "") (Or.inl (hw _ (List.mem_of_getElem? (i := 18) rfl))) Via.refl e9 c9_3 c9_0 (Or.inr ⟨(hw _ (List.mem_of_getElem? (i := 19) rfl)), rfl, hnm⟩) (hw _ (List.mem_of_getElem? (i := 1) rfl)) (ty := .int) (by decide) rfl rfl (g := (mkF m 16 #[.val (.ref a1), .val (.int p2), .val (.int p3), .val (.int p4)] [(.int p4), (.ref a1)])) rfl rfl (hb hby d1_16)
  have Fw10 := c9_3.same W10
  have c10_0 := c9_0.wr W10
  have c10_1 := c9_1.other W10 (Or.inr (slot_ne (Or.inr (hw _ (List.mem_of_getElem? (i := 15) rfl))) (Or.inr (hw _ (List.mem_of_getElem? (i := 19) rfl))) (by decide) (t := .int) (t' := .int) (by decide) (by decide)))
  have c10_2 := Fw9.other W10 (Or.inr (slot_ne (Or.inr (hw _ (List.mem_of_getElem? (i := 17) rfl))) (Or.inr (hw _ (List.mem_of_getElem? (i := 19) rfl))) (by decide) (t := .int) (t' := .int) (by decide) (by decide)))
  have KK10 : Keep h0 h10 [a1] := KK9.wr W10 (Or.inl (List.mem_of_getElem? (i := 0) rfl))
  have ZN10 : n0 ≤ h10.size := Nat.le_trans ZN9 (Keep.of_wr W10).1
  have NN10 := Fr.snoc X10 NN9 P4
  refine go st10 ?_
  show Go _ p e below s _ _ _ (T10.setTop (mkF m 19 #[.val (.ref a1), .val (.int p2), .val (.int p3), .val (.int p4)] []))
  refine goRet0 X10 hx Bd.notSynchronized Bd.returns (hb hby d1_19) (by decide) (by decide) (by rw [e10]; refine ⟨rfl, NN10, KK10, c10_1, c10_2, Fw10⟩)
theorem d4_0 : decode prog_9_method_3_code 0 = .ok (.aload_n 0, 1) := by decide +kernel
theorem d4_1 : decode prog_9_method_3_code 1 = .ok (.getfield 7, 3) := by decide +kernel
theorem d4_4 : decode prog_9_method_3_code 4 = .ok (.aload_n 0, 1) := by decide +kernel
theorem d4_5 : decode prog_9_method_3_code 5 = .ok (.getfield 13, 3) := by decide +kernel
theorem d4_8 : decode prog_9_method_3_code 8 = .ok (.iadd, 1) := by decide +kernel
theorem d4_9 : decode prog_9_method_3_code 9 = .ok (.aload_n 0, 1) := by decide +kernel
theorem d4_10 : decode prog_9_method_3_code 10 = .ok (.getfield 16, 3) := by decide +kernel
theorem d4_13 : decode prog_9_method_3_code 13 = .ok (.iadd, 1) := by decide +kernel
theorem d4_14 : decode prog_9_method_3_code 14 = .ok (.ireturn, 1) := by decide +kernel
theorem pn_4 : plainName "com/example/fuller_query/fullerquery/eval/Comparison" = true := by first | (simp [plainName, overriddenIn]; done) | decide +kernel
theorem ef_4 (m : MethodId) (a1 : Addr) : entryFrame m #[(.ref a1)] 1 = mkF m 0 #[.val (.ref a1)] [] := by first | (simp [entryFrame, mkF, argsToLocals, Value.category]; done) | rfl
def Q4 (Z : State) (a1 : Addr) (w1 : Int32) (w2 : Int32) (w3 : Int32) (h0 : Heap) (n0 : Nat) (v : Option Value) (h : Heap) (L : List Loc) : Prop := v = some (.int ((w1 + w2) + w3)) ∧ Fr n0 L ∧ (h = h0)
set_option maxRecDepth 65536 in
set_option maxHeartbeats 40000000 in
theorem rm4 (l : Launch) (Z : State) (a0 : Array Value) (hw : ∀ d ∈ tables_1, d.before a0 Z = true) (ws : List Jvm.Cond) (a1 : Addr) (w1 : Int32) (w2 : Int32) (w3 : Int32) (h0 : Heap) (n0 : Nat) (Z0 : n0 ≤ h0.size) (P0 : Fld Z h0 a1 "com/example/fuller_query/fullerquery/eval/Comparison" "improved" "I" (.int w1)) (P1 : Fld Z h0 a1 "com/example/fuller_query/fullerquery/eval/Comparison" "worsened" "I" (.int w2)) (P2 : Fld Z h0 a1 "com/example/fuller_query/fullerquery/eval/Comparison" "preserved" "I" (.int w3)) :
    MetFree l (⟨"com/example/fuller_query/fullerquery/eval/Comparison", "queries", "()I"⟩ : MethodName) (head1 (Jvm.Cond.code (⟨"com/example/fuller_query/fullerquery/eval/Comparison", "queries", "()I"⟩ : MethodName) prog_9_method_3_code 1 (some .int) :: ws) ({ frames := 0, cells := 0, slots := 0, locals := 0 } : Room)) (fun a U => a = #[(.ref a1)] ∧ Z.Warmed39 U.vm ∧ U.heap = h0) (fun _ _ _ _ _ => True) (fun _ U o U' => ∃ v L, o = .returned v ∧ Q4 Z a1 w1 w2 w3 h0 n0 v U'.heap L ∧ FrameEnd U o U' L ({ frames := 0, cells := 0, slots := 0, locals := 0 } : Room).cells ({ frames := 0, cells := 0, slots := 0, locals := 0 } : Room).slots) := by
  refine MetFree.of_bodySF (plainFor_of_name pn_4) hisR ?_
  intro p e s m args below meth c s₁ Bd hml0 hP hK
  obtain ⟨rfl, hZ, hh⟩ := hP
  have hx := Bd.exec
  have hby := Bd.bytes
  have hml : c.maxLocals = 1 := hml0
  have hown : s.vm.findClass "com/example/fuller_query/fullerquery/eval/Comparison" = some m.cls := findClass_of_methodNamed Bd.named
  have hnm := (name_of_methodNamed Bd.named Bd.method).1
  have X0 : Stand p l e ({ frames := 0, cells := 0, slots := 0, locals := 0 } : Room) s m #[(.ref a1)] below meth c s₁ [] 0 0 := Stand.of_body Bd
  have e0 : s₁.heap = h0 := by rw [← hh, Bd.state]; rfl
  have N0 := Fr.nil n0
  have hS0 : s.Since s.vm 0 := (State.WarmedH.refl s).since 0
  show Go FrameEnd p e below s ({ frames := 0, cells := 0, slots := 0, locals := 0 } : Room).cells ({ frames := 0, cells := 0, slots := 0, locals := 0 } : Room).slots (Q4 Z a1 w1 w2 w3 h0 n0) (s₁.setTop (entryFrame m #[(.ref a1)] 1))
  refine go (fun _ k => castTop (ef_4 m a1) k) ?_
  show Go _ p e below s _ _ _ (s₁.setTop (mkF m 0 #[.val (.ref a1)] []))
  refine go (fun _ => XS.aloadN X0.here hx rfl (hb hby d4_0) rfl rfl) ?_
  show Go _ p e below s _ _ _ (s₁.setTop (mkF m 1 #[.val (.ref a1)] [(.ref a1)]))
  obtain ⟨T14, X14, e14, st14⟩ := getF X0 hx hZ hown (host := "") (Or.inl (hw _ (List.mem_of_getElem? (i := 14) rfl))) Via.refl e0 P0 (g := (mkF m 1 #[.val (.ref a1)] [(.ref a1)])) rfl rfl (hb hby d4_1)
  refine go st14 ?_
  show Go _ p e below s _ _ _ (T14.setTop (mkF m 4 #[.val (.ref a1)] [(.int w1)]))
  refine go (fun _ => XS.aloadN X14.here hx rfl (hb hby d4_4) rfl rfl) ?_
  show Go _ p e below s _ _ _ (T14.setTop (mkF m 5 #[.val (.ref a1)] [(.ref a1), (.int w1)]))
  obtain ⟨T15, X15, e15, st15⟩ := getF X14 hx hZ hown (host := "") (Or.inl (hw _ (List.mem_of_getElem? (i := 16) rfl))) Via.refl e14 P1 (g := (mkF m 5 #[.val (.ref a1)] [(.ref a1), (.int w1)])) rfl rfl (hb hby d4_5)
  refine go st15 ?_
  show Go _ p e below s _ _ _ (T15.setTop (mkF m 8 #[.val (.ref a1)] [(.int w2), (.int w1)]))
  refine go (fun _ => XS.iadd X15.here hx rfl (hb hby d4_8) rfl) ?_
  show Go _ p e below s _ _ _ (T15.setTop (mkF m 9 #[.val (.ref a1)] [(.int (w1 + w2))]))
  refine go (fun _ => XS.aloadN X15.here hx rfl (hb hby d4_9) rfl rfl) ?_
  show Go _ p e below s _ _ _ (T15.setTop (mkF m 10 #[.val (.ref a1)] [(.ref a1), (.int (w1 + w2))]))
  obtain ⟨T16, X16, e16, st16⟩ := getF X15 hx hZ hown (host := "") (Or.inl (hw _ (List.mem_of_getElem? (i := 18) rfl))) Via.refl e15 P2 (g := (mkF m 10 #[.val (.ref a1)] [(.ref a1), (.int (w1 + w2))])) rfl rfl (hb hby d4_10)
  refine go st16 ?_
  show Go _ p e below s _ _ _ (T16.setTop (mkF m 13 #[.val (.ref a1)] [(.int w3), (.int (w1 + w2))]))
  refine go (fun _ => XS.iadd X16.here hx rfl (hb hby d4_13) rfl) ?_
  show Go _ p e below s _ _ _ (T16.setTop (mkF m 14 #[.val (.ref a1)] [(.int ((w1 + w2) + w3))]))
  refine goRet X16 hx Bd.notSynchronized Bd.returns rfl (Or.inl ⟨rfl, Or.inl rfl, _, rfl⟩) (hb hby d4_14) (by decide) (by decide) (by rw [e16]; refine ⟨rfl, N0, rfl⟩)
theorem own_l (a : Int32) : a + 0 + 0 = a := by simp
theorem own_m (a : Int32) : 0 + a + 0 = a := by simp
theorem own_r (a : Int32) : 0 + 0 + a = a := by simp
theorem pn_0 : plainName "com/example/fuller_query/fullerquery/eval/ComparisonQueriesPinLaw" = true := by first | (simp [plainName, overriddenIn]; done) | decide +kernel
theorem pd_0_0 : parseMethodDescriptor "(III)V" = some ⟨[.int, .int, .int], none⟩ := by decide +kernel
theorem pd_0_1 : parseMethodDescriptor "()I" = some ⟨[], some .int⟩ := by decide +kernel
theorem ef_0 (m : MethodId) (p1 : Int32) (p2 : Int32) (p3 : Int32) : entryFrame m #[(.int p1), (.int p2), (.int p3)] maxLocals = mkF m 0 #[.val (.int p1), .val (.int p2), .val (.int p3), .unset, .unset, .unset, .unset, .unset, .unset, .unset, .unset] [] := by first | (simp [entryFrame, mkF, argsToLocals, Value.category, maxLocals]; done) | rfl
def Q0 (Z : State) (p1 : Int32) (p2 : Int32) (p3 : Int32) (h0 : Heap) (n0 : Nat) (v : Option Value) (h : Heap) (L : List Loc) : Prop := v = some (.int (1 : Int32)) ∧ Fr n0 L
set_option maxRecDepth 65536 in
set_option maxHeartbeats 40000000 in
theorem rm0 (l : Launch) (Z : State) (a0 : Array Value) (hw : ∀ d ∈ tables_1, d.before a0 Z = true) (ws : List Jvm.Cond) (p1 : Int32) (p2 : Int32) (p3 : Int32) (h0 : Heap) (n0 : Nat) (Z0 : n0 ≤ h0.size)  :
    MetFree l x (head1 (Jvm.Cond.code x code maxLocals ret :: ws) room_1) (fun a U => a = #[(.int p1), (.int p2), (.int p3)] ∧ Z.Warmed39 U.vm ∧ U.heap = h0) (fun _ _ _ _ _ => True) (fun _ U o U' => ∃ v L, o = .returned v ∧ Q0 Z p1 p2 p3 h0 n0 v U'.heap L ∧ FrameEnd U o U' L room_1.cells room_1.slots) := by
  refine MetFree.of_bodySF (plainFor_of_name pn_0) hisR ?_
  intro p e s m args below meth c s₁ Bd hml0 hP hK
  obtain ⟨rfl, hZ, hh⟩ := hP
  have hx := Bd.exec
  have hby := Bd.bytes
  have hml : c.maxLocals = 11 := hml0
  have hown : s.vm.findClass "com/example/fuller_query/fullerquery/eval/ComparisonQueriesPinLaw" = some m.cls := findClass_of_methodNamed Bd.named
  have hnm := (name_of_methodNamed Bd.named Bd.method).1
  have X0 : Stand p l e room_1 s m #[(.int p1), (.int p2), (.int p3)] below meth c s₁ [] 0 0 := Stand.of_body Bd
  have e0 : s₁.heap = h0 := by rw [← hh, Bd.state]; rfl
  have N0 := Fr.nil n0
  have hS0 : s.Since s.vm 0 := (State.WarmedH.refl s).since 0
  show Go FrameEnd p e below s room_1.cells room_1.slots (Q0 Z p1 p2 p3 h0 n0) (s₁.setTop (entryFrame m #[(.int p1), (.int p2), (.int p3)] maxLocals))
  refine go (fun _ k => castTop (ef_0 m p1 p2 p3) k) ?_
  show Go _ p e below s _ _ _ (s₁.setTop (mkF m 0 #[.val (.int p1), .val (.int p2), .val (.int p3), .unset, .unset, .unset, .unset, .unset, .unset, .unset, .unset] []))
  obtain ⟨T17, h17, X17, e17, E17, A17, D17, -, st17⟩ := newO X0 hx hZ hown (hw _ (List.mem_of_getElem? (i := 0) rfl)) (hw _ (List.mem_of_getElem? (i := 1) rfl)) (hw _ (List.mem_of_getElem? (i := 2) rfl)) e0 (g := (mkF m 0 #[.val (.int p1), .val (.int p2), .val (.int p3), .unset, .unset, .unset, .unset, .unset, .unset, .unset, .unset] [])) rfl (hb hby at_0) (by decide) (by decide)
  obtain ⟨b17, g17⟩ : ∃ z, z = h0.size := ⟨_, rfl⟩
  rw [← g17] at A17 D17 st17
  have G_b17 : n0 ≤ b17 := Nat.le_trans Z0 (Nat.le_of_eq g17.symm)
  have SZ_b17 : h0.size ≤ b17 := Nat.le_trans (Keep.refl h0 []).1 (Nat.le_of_eq g17.symm)
  have KK17 : Keep h0 h17 [] := (Keep.refl h0 []).ext E17
  have ZN17 : n0 ≤ h17.size := Nat.le_trans Z0 E17.1
  have F17_15 : Fld Z h17 b17 "com/example/fuller_query/fullerquery/eval/Comparison" "improved" "I" (.int (0 : Int32)) := D17 (Or.inr (hw _ (List.mem_of_getElem? (i := 15) rfl))) (ty := .int) (by decide)
  have F17_17 : Fld Z h17 b17 "com/example/fuller_query/fullerquery/eval/Comparison" "worsened" "I" (.int (0 : Int32)) := D17 (Or.inr (hw _ (List.mem_of_getElem? (i := 17) rfl))) (ty := .int) (by decide)
  have F17_19 : Fld Z h17 b17 "com/example/fuller_query/fullerquery/eval/Comparison" "preserved" "I" (.int (0 : Int32)) := D17 (Or.inr (hw _ (List.mem_of_getElem? (i := 19) rfl))) (ty := .int) (by decide)
  refine go st17 ?_
  show Go _ p e below s _ _ _ (T17.setTop (mkF m 3 #[.val (.int p1), .val (.int p2), .val (.int p3), .unset, .unset, .unset, .unset, .unset, .unset, .unset, .unset] [(.ref b17)]))
  refine go (fun _ => XS.dup X17.here hx rfl (hb hby at_3) rfl rfl) ?_
  show Go _ p e below s _ _ _ (T17.setTop (mkF m 4 #[.val (.int p1), .val (.int p2), .val (.int p3), .unset, .unset, .unset, .unset, .unset, .unset, .unset, .unset] [(.ref b17), (.ref b17)]))
  refine go (fun _ => XS.iloadN X17.here hx rfl (hb hby at_4) rfl) ?_
  show Go _ p e below s _ _ _ (T17.setTop (mkF m 5 #[.val (.int p1), .val (.int p2), .val (.int p3), .unset, .unset, .unset, .unset, .unset, .unset, .unset, .unset] [(.int p1), (.ref b17), (.ref b17)]))
  refine go (fun _ => XS.iloadN X17.here hx rfl (hb hby at_5) rfl) ?_
  show Go _ p e below s _ _ _ (T17.setTop (mkF m 6 #[.val (.int p1), .val (.int p2), .val (.int p3), .unset, .unset, .unset, .unset, .unset, .unset, .unset, .unset] [(.int p2), (.int p1), (.ref b17), (.ref b17)]))
  refine go (fun _ => XS.iloadN X17.here hx rfl (hb hby at_6) rfl) ?_
  show Go _ p e below s _ _ _ (T17.setTop (mkF m 7 #[.val (.int p1), .val (.int p2), .val (.int p3), .unset, .unset, .unset, .unset, .unset, .unset, .unset, .unset] [(.int p3), (.int p2), (.int p1), (.ref b17), (.ref b17)]))
  obtain ⟨_, _, ⟨T18, L18, k18, n18⟩, -, X18, ⟨Lc18, hQ18, l18, y18, z18⟩, st18⟩ := X17.specialBack hx (y := (⟨"com/example/fuller_query/fullerquery/eval/Comparison", "<init>", "(III)V"⟩ : MethodName)) rfl hown (mvT hZ (hw _ (List.mem_of_getElem? (i := 3) rfl))) (mvT hZ (hw _ (List.mem_of_getElem? (i := 4) rfl))) (mvT hZ (hw _ (List.mem_of_getElem? (i := 5) rfl))) (by decide) (backOf (W := 1) (rm1 l Z a0 hw [] b17 p1 p2 p3 (.int (0 : Int32)) (.int (0 : Int32)) (.int (0 : Int32)) h17 n0 ZN17 A17 F17_15 F17_17 F17_19 G_b17) hZ (hw _ (List.mem_of_getElem? (i := 5) rfl)) (hw _ (List.mem_of_getElem? (i := 2) rfl)) (by decide) (by decide)) (g := (mkF m 7 #[.val (.int p1), .val (.int p2), .val (.int p3), .unset, .unset, .unset, .unset, .unset, .unset, .unset, .unset] [(.int p3), (.int p2), (.int p1), (.ref b17), (.ref b17)])) rfl (by rw [hml]; rfl) (Steps.refl _) (a := b17) (argsL := [(.int p1), (.int p2), (.int p3)]) (rest := [(.ref b17)]) (lenOf pd_0_0 rfl) rfl (by show 2 * 0 + _ ≤ _; exact Nat.le_of_eq rfl) (hb hby at_7) (fun _ _ => ⟨rfl, e17, (by decide : 1 + 0 ≤ _), (by decide : 3 + 0 ≤ _)⟩)
  dsimp only [Pt.U, Pt.locs, Pt.cells, Pt.slots] at X18 l18 y18 z18 st18 hQ18
  subst l18 y18 z18
  obtain ⟨rfl, N18q, K18, u18_1, u18_2, u18_3⟩ := hQ18
  have N18 := Fr.app N0 N18q
  have c18_0 := A17.keep K18
  have KK18 : Keep h0 T18.heap [] := KK17.trans K18 (allS (P := fun x => x ∈ [] ∨ h0.size ≤ x) (Or.inr SZ_b17) all0)
  have ZN18 : n0 ≤ T18.heap.size := Nat.le_trans ZN17 K18.1
  refine goT st18 ?_
  show Go _ p e below s _ _ _ (T18.setTop (mkF m 10 #[.val (.int p1), .val (.int p2), .val (.int p3), .unset, .unset, .unset, .unset, .unset, .unset, .unset, .unset] [(.ref b17)]))
  refine go (fun _ => XS.astoreN X18.here hx rfl (hb hby at_10) rfl rfl (l' := #[.val (.int p1), .val (.int p2), .val (.int p3), .val (.ref b17), .unset, .unset, .unset, .unset, .unset, .unset, .unset]) rfl) ?_
  show Go _ p e below s _ _ _ (T18.setTop (mkF m 11 #[.val (.int p1), .val (.int p2), .val (.int p3), .val (.ref b17), .unset, .unset, .unset, .unset, .unset, .unset, .unset] []))
  obtain ⟨T19, h19, X19, e19, E19, A19, D19, -, st19⟩ := newO X18 hx hZ hown (hw _ (List.mem_of_getElem? (i := 0) rfl)) (hw _ (List.mem_of_getElem? (i := 1) rfl)) (hw _ (List.mem_of_getElem? (i := 2) rfl)) rfl (g := (mkF m 11 #[.val (.int p1), .val (.int p2), .val (.int p3), .val (.ref b17), .unset, .unset, .unset, .unset, .unset, .unset, .unset] [])) rfl (hb hby at_11) (by decide) (by decide)
  obtain ⟨b19, g19⟩ : ∃ z, z = T18.heap.size := ⟨_, rfl⟩
  rw [← g19] at A19 D19 st19
  have lt19_b17_b19 : b17 < b19 := Nat.lt_of_lt_of_le c18_0.lt (Nat.le_of_eq g19.symm)
  have G_b19 : n0 ≤ b19 := Nat.le_trans ZN18 (Nat.le_of_eq g19.symm)
  have SZ_b19 : h0.size ≤ b19 := Nat.le_trans KK18.1 (Nat.le_of_eq g19.symm)
  have c19_0 := c18_0.ext E19
  have c19_1 := u18_1.ext E19
  have c19_2 := u18_2.ext E19
  have c19_3 := u18_3.ext E19
  have KK19 : Keep h0 h19 [] := KK18.ext E19
  have ZN19 : n0 ≤ h19.size := Nat.le_trans ZN18 E19.1
  have F19_15 : Fld Z h19 b19 "com/example/fuller_query/fullerquery/eval/Comparison" "improved" "I" (.int (0 : Int32)) := D19 (Or.inr (hw _ (List.mem_of_getElem? (i := 15) rfl))) (ty := .int) (by decide)
  have F19_17 : Fld Z h19 b19 "com/example/fuller_query/fullerquery/eval/Comparison" "worsened" "I" (.int (0 : Int32)) := D19 (Or.inr (hw _ (List.mem_of_getElem? (i := 17) rfl))) (ty := .int) (by decide)
  have F19_19 : Fld Z h19 b19 "com/example/fuller_query/fullerquery/eval/Comparison" "preserved" "I" (.int (0 : Int32)) := D19 (Or.inr (hw _ (List.mem_of_getElem? (i := 19) rfl))) (ty := .int) (by decide)
  refine go st19 ?_
  show Go _ p e below s _ _ _ (T19.setTop (mkF m 14 #[.val (.int p1), .val (.int p2), .val (.int p3), .val (.ref b17), .unset, .unset, .unset, .unset, .unset, .unset, .unset] [(.ref b19)]))
  refine go (fun _ => XS.dup X19.here hx rfl (hb hby at_14) rfl rfl) ?_
  show Go _ p e below s _ _ _ (T19.setTop (mkF m 15 #[.val (.int p1), .val (.int p2), .val (.int p3), .val (.ref b17), .unset, .unset, .unset, .unset, .unset, .unset, .unset] [(.ref b19), (.ref b19)]))
  refine go (fun _ => XS.iloadN X19.here hx rfl (hb hby at_15) rfl) ?_
  show Go _ p e below s _ _ _ (T19.setTop (mkF m 16 #[.val (.int p1), .val (.int p2), .val (.int p3), .val (.ref b17), .unset, .unset, .unset, .unset, .unset, .unset, .unset] [(.int p1), (.ref b19), (.ref b19)]))
  refine go (fun _ => XS.iconst X19.here hx rfl (hb hby at_16)) ?_
  show Go _ p e below s _ _ _ (T19.setTop (mkF m 17 #[.val (.int p1), .val (.int p2), .val (.int p3), .val (.ref b17), .unset, .unset, .unset, .unset, .unset, .unset, .unset] [(.int (0 : Int32)), (.int p1), (.ref b19), (.ref b19)]))
  refine go (fun _ => XS.iconst X19.here hx rfl (hb hby at_17)) ?_
  show Go _ p e below s _ _ _ (T19.setTop (mkF m 18 #[.val (.int p1), .val (.int p2), .val (.int p3), .val (.ref b17), .unset, .unset, .unset, .unset, .unset, .unset, .unset] [(.int (0 : Int32)), (.int (0 : Int32)), (.int p1), (.ref b19), (.ref b19)]))
  obtain ⟨_, _, ⟨T20, L20, k20, n20⟩, -, X20, ⟨Lc20, hQ20, l20, y20, z20⟩, st20⟩ := X19.specialBack hx (y := (⟨"com/example/fuller_query/fullerquery/eval/Comparison", "<init>", "(III)V"⟩ : MethodName)) rfl hown (mvT hZ (hw _ (List.mem_of_getElem? (i := 3) rfl))) (mvT hZ (hw _ (List.mem_of_getElem? (i := 4) rfl))) (mvT hZ (hw _ (List.mem_of_getElem? (i := 5) rfl))) (by decide) (backOf (W := 1) (rm1 l Z a0 hw [] b19 p1 (0 : Int32) (0 : Int32) (.int (0 : Int32)) (.int (0 : Int32)) (.int (0 : Int32)) h19 n0 ZN19 A19 F19_15 F19_17 F19_19 G_b19) hZ (hw _ (List.mem_of_getElem? (i := 5) rfl)) (hw _ (List.mem_of_getElem? (i := 2) rfl)) (by decide) (by decide)) (g := (mkF m 18 #[.val (.int p1), .val (.int p2), .val (.int p3), .val (.ref b17), .unset, .unset, .unset, .unset, .unset, .unset, .unset] [(.int (0 : Int32)), (.int (0 : Int32)), (.int p1), (.ref b19), (.ref b19)])) rfl (by rw [hml]; rfl) (Steps.refl _) (a := b19) (argsL := [(.int p1), (.int (0 : Int32)), (.int (0 : Int32))]) (rest := [(.ref b19)]) (lenOf pd_0_0 rfl) rfl (by show 2 * 0 + _ ≤ _; exact Nat.le_of_eq rfl) (hb hby at_18) (fun _ _ => ⟨rfl, e19, (by decide : 2 + 0 ≤ _), (by decide : 6 + 0 ≤ _)⟩)
  dsimp only [Pt.U, Pt.locs, Pt.cells, Pt.slots] at X20 l20 y20 z20 st20 hQ20
  subst l20 y20 z20
  obtain ⟨rfl, N20q, K20, u20_1, u20_2, u20_3⟩ := hQ20
  have N20 := Fr.app N18 N20q
  have c20_0 := c19_0.keep K20
  have c20_1 := c19_1.keep K20 (ninS (Nat.ne_of_lt lt19_b17_b19) nin0)
  have c20_2 := c19_2.keep K20 (ninS (Nat.ne_of_lt lt19_b17_b19) nin0)
  have c20_3 := c19_3.keep K20 (ninS (Nat.ne_of_lt lt19_b17_b19) nin0)
  have c20_4 := A19.keep K20
  have KK20 : Keep h0 T20.heap [] := KK19.trans K20 (allS (P := fun x => x ∈ [] ∨ h0.size ≤ x) (Or.inr SZ_b19) all0)
  have ZN20 : n0 ≤ T20.heap.size := Nat.le_trans ZN19 K20.1
  refine goT st20 ?_
  show Go _ p e below s _ _ _ (T20.setTop (mkF m 21 #[.val (.int p1), .val (.int p2), .val (.int p3), .val (.ref b17), .unset, .unset, .unset, .unset, .unset, .unset, .unset] [(.ref b19)]))
  refine go (fun _ => XS.astore X20.here hx rfl (hb hby at_21) rfl rfl (l' := #[.val (.int p1), .val (.int p2), .val (.int p3), .val (.ref b17), .val (.ref b19), .unset, .unset, .unset, .unset, .unset, .unset]) rfl) ?_
  show Go _ p e below s _ _ _ (T20.setTop (mkF m 23 #[.val (.int p1), .val (.int p2), .val (.int p3), .val (.ref b17), .val (.ref b19), .unset, .unset, .unset, .unset, .unset, .unset] []))
  obtain ⟨T21, h21, X21, e21, E21, A21, D21, -, st21⟩ := newO X20 hx hZ hown (hw _ (List.mem_of_getElem? (i := 0) rfl)) (hw _ (List.mem_of_getElem? (i := 1) rfl)) (hw _ (List.mem_of_getElem? (i := 2) rfl)) rfl (g := (mkF m 23 #[.val (.int p1), .val (.int p2), .val (.int p3), .val (.ref b17), .val (.ref b19), .unset, .unset, .unset, .unset, .unset, .unset] [])) rfl (hb hby at_23) (by decide) (by decide)
  obtain ⟨b21, g21⟩ : ∃ z, z = T20.heap.size := ⟨_, rfl⟩
  rw [← g21] at A21 D21 st21
  have lt21_b17_b21 : b17 < b21 := Nat.lt_of_lt_of_le c20_0.lt (Nat.le_of_eq g21.symm)
  have lt21_b19_b21 : b19 < b21 := Nat.lt_of_lt_of_le c20_4.lt (Nat.le_of_eq g21.symm)
  have G_b21 : n0 ≤ b21 := Nat.le_trans ZN20 (Nat.le_of_eq g21.symm)
  have SZ_b21 : h0.size ≤ b21 := Nat.le_trans KK20.1 (Nat.le_of_eq g21.symm)
  have c21_0 := c20_0.ext E21
  have c21_1 := c20_1.ext E21
  have c21_2 := c20_2.ext E21
  have c21_3 := c20_3.ext E21
  have c21_4 := c20_4.ext E21
  have c21_5 := u20_1.ext E21
  have c21_6 := u20_2.ext E21
  have c21_7 := u20_3.ext E21
  have KK21 : Keep h0 h21 [] := KK20.ext E21
  have ZN21 : n0 ≤ h21.size := Nat.le_trans ZN20 E21.1
  have F21_15 : Fld Z h21 b21 "com/example/fuller_query/fullerquery/eval/Comparison" "improved" "I" (.int (0 : Int32)) := D21 (Or.inr (hw _ (List.mem_of_getElem? (i := 15) rfl))) (ty := .int) (by decide)
  have F21_17 : Fld Z h21 b21 "com/example/fuller_query/fullerquery/eval/Comparison" "worsened" "I" (.int (0 : Int32)) := D21 (Or.inr (hw _ (List.mem_of_getElem? (i := 17) rfl))) (ty := .int) (by decide)
  have F21_19 : Fld Z h21 b21 "com/example/fuller_query/fullerquery/eval/Comparison" "preserved" "I" (.int (0 : Int32)) := D21 (Or.inr (hw _ (List.mem_of_getElem? (i := 19) rfl))) (ty := .int) (by decide)
  refine go st21 ?_
  show Go _ p e below s _ _ _ (T21.setTop (mkF m 26 #[.val (.int p1), .val (.int p2), .val (.int p3), .val (.ref b17), .val (.ref b19), .unset, .unset, .unset, .unset, .unset, .unset] [(.ref b21)]))
  refine go (fun _ => XS.dup X21.here hx rfl (hb hby at_26) rfl rfl) ?_
  show Go _ p e below s _ _ _ (T21.setTop (mkF m 27 #[.val (.int p1), .val (.int p2), .val (.int p3), .val (.ref b17), .val (.ref b19), .unset, .unset, .unset, .unset, .unset, .unset] [(.ref b21), (.ref b21)]))
  refine go (fun _ => XS.iconst X21.here hx rfl (hb hby at_27)) ?_
  show Go _ p e below s _ _ _ (T21.setTop (mkF m 28 #[.val (.int p1), .val (.int p2), .val (.int p3), .val (.ref b17), .val (.ref b19), .unset, .unset, .unset, .unset, .unset, .unset] [(.int (0 : Int32)), (.ref b21), (.ref b21)]))
  refine go (fun _ => XS.iloadN X21.here hx rfl (hb hby at_28) rfl) ?_
  show Go _ p e below s _ _ _ (T21.setTop (mkF m 29 #[.val (.int p1), .val (.int p2), .val (.int p3), .val (.ref b17), .val (.ref b19), .unset, .unset, .unset, .unset, .unset, .unset] [(.int p2), (.int (0 : Int32)), (.ref b21), (.ref b21)]))
  refine go (fun _ => XS.iconst X21.here hx rfl (hb hby at_29)) ?_
  show Go _ p e below s _ _ _ (T21.setTop (mkF m 30 #[.val (.int p1), .val (.int p2), .val (.int p3), .val (.ref b17), .val (.ref b19), .unset, .unset, .unset, .unset, .unset, .unset] [(.int (0 : Int32)), (.int p2), (.int (0 : Int32)), (.ref b21), (.ref b21)]))
  obtain ⟨_, _, ⟨T22, L22, k22, n22⟩, -, X22, ⟨Lc22, hQ22, l22, y22, z22⟩, st22⟩ := X21.specialBack hx (y := (⟨"com/example/fuller_query/fullerquery/eval/Comparison", "<init>", "(III)V"⟩ : MethodName)) rfl hown (mvT hZ (hw _ (List.mem_of_getElem? (i := 3) rfl))) (mvT hZ (hw _ (List.mem_of_getElem? (i := 4) rfl))) (mvT hZ (hw _ (List.mem_of_getElem? (i := 5) rfl))) (by decide) (backOf (W := 1) (rm1 l Z a0 hw [] b21 (0 : Int32) p2 (0 : Int32) (.int (0 : Int32)) (.int (0 : Int32)) (.int (0 : Int32)) h21 n0 ZN21 A21 F21_15 F21_17 F21_19 G_b21) hZ (hw _ (List.mem_of_getElem? (i := 5) rfl)) (hw _ (List.mem_of_getElem? (i := 2) rfl)) (by decide) (by decide)) (g := (mkF m 30 #[.val (.int p1), .val (.int p2), .val (.int p3), .val (.ref b17), .val (.ref b19), .unset, .unset, .unset, .unset, .unset, .unset] [(.int (0 : Int32)), (.int p2), (.int (0 : Int32)), (.ref b21), (.ref b21)])) rfl (by rw [hml]; rfl) (Steps.refl _) (a := b21) (argsL := [(.int (0 : Int32)), (.int p2), (.int (0 : Int32))]) (rest := [(.ref b21)]) (lenOf pd_0_0 rfl) rfl (by show 2 * 0 + _ ≤ _; exact Nat.le_of_eq rfl) (hb hby at_30) (fun _ _ => ⟨rfl, e21, (by decide : 3 + 0 ≤ _), (by decide : 9 + 0 ≤ _)⟩)
  dsimp only [Pt.U, Pt.locs, Pt.cells, Pt.slots] at X22 l22 y22 z22 st22 hQ22
  subst l22 y22 z22
  obtain ⟨rfl, N22q, K22, u22_1, u22_2, u22_3⟩ := hQ22
  have N22 := Fr.app N20 N22q
  have c22_0 := c21_0.keep K22
  have c22_1 := c21_1.keep K22 (ninS (Nat.ne_of_lt lt21_b17_b21) nin0)
  have c22_2 := c21_2.keep K22 (ninS (Nat.ne_of_lt lt21_b17_b21) nin0)
  have c22_3 := c21_3.keep K22 (ninS (Nat.ne_of_lt lt21_b17_b21) nin0)
  have c22_4 := c21_4.keep K22
  have c22_5 := c21_5.keep K22 (ninS (Nat.ne_of_lt lt21_b19_b21) nin0)
  have c22_6 := c21_6.keep K22 (ninS (Nat.ne_of_lt lt21_b19_b21) nin0)
  have c22_7 := c21_7.keep K22 (ninS (Nat.ne_of_lt lt21_b19_b21) nin0)
  have c22_8 := A21.keep K22
  have KK22 : Keep h0 T22.heap [] := KK21.trans K22 (allS (P := fun x => x ∈ [] ∨ h0.size ≤ x) (Or.inr SZ_b21) all0)
  have ZN22 : n0 ≤ T22.heap.size := Nat.le_trans ZN21 K22.1
  refine goT st22 ?_
  show Go _ p e below s _ _ _ (T22.setTop (mkF m 33 #[.val (.int p1), .val (.int p2), .val (.int p3), .val (.ref b17), .val (.ref b19), .unset, .unset, .unset, .unset, .unset, .unset] [(.ref b21)]))
  refine go (fun _ => XS.astore X22.here hx rfl (hb hby at_33) rfl rfl (l' := #[.val (.int p1), .val (.int p2), .val (.int p3), .val (.ref b17), .val (.ref b19), .val (.ref b21), .unset, .unset, .unset, .unset, .unset]) rfl) ?_
  show Go _ p e below s _ _ _ (T22.setTop (mkF m 35 #[.val (.int p1), .val (.int p2), .val (.int p3), .val (.ref b17), .val (.ref b19), .val (.ref b21), .unset, .unset, .unset, .unset, .unset] []))
  obtain ⟨T23, h23, X23, e23, E23, A23, D23, -, st23⟩ := newO X22 hx hZ hown (hw _ (List.mem_of_getElem? (i := 0) rfl)) (hw _ (List.mem_of_getElem? (i := 1) rfl)) (hw _ (List.mem_of_getElem? (i := 2) rfl)) rfl (g := (mkF m 35 #[.val (.int p1), .val (.int p2), .val (.int p3), .val (.ref b17), .val (.ref b19), .val (.ref b21), .unset, .unset, .unset, .unset, .unset] [])) rfl (hb hby at_35) (by decide) (by decide)
  obtain ⟨b23, g23⟩ : ∃ z, z = T22.heap.size := ⟨_, rfl⟩
  rw [← g23] at A23 D23 st23
  have lt23_b17_b23 : b17 < b23 := Nat.lt_of_lt_of_le c22_0.lt (Nat.le_of_eq g23.symm)
  have lt23_b19_b23 : b19 < b23 := Nat.lt_of_lt_of_le c22_4.lt (Nat.le_of_eq g23.symm)
  have lt23_b21_b23 : b21 < b23 := Nat.lt_of_lt_of_le c22_8.lt (Nat.le_of_eq g23.symm)
  have G_b23 : n0 ≤ b23 := Nat.le_trans ZN22 (Nat.le_of_eq g23.symm)
  have SZ_b23 : h0.size ≤ b23 := Nat.le_trans KK22.1 (Nat.le_of_eq g23.symm)
  have c23_0 := c22_0.ext E23
  have c23_1 := c22_1.ext E23
  have c23_2 := c22_2.ext E23
  have c23_3 := c22_3.ext E23
  have c23_4 := c22_4.ext E23
  have c23_5 := c22_5.ext E23
  have c23_6 := c22_6.ext E23
  have c23_7 := c22_7.ext E23
  have c23_8 := c22_8.ext E23
  have c23_9 := u22_1.ext E23
  have c23_10 := u22_2.ext E23
  have c23_11 := u22_3.ext E23
  have KK23 : Keep h0 h23 [] := KK22.ext E23
  have ZN23 : n0 ≤ h23.size := Nat.le_trans ZN22 E23.1
  have F23_15 : Fld Z h23 b23 "com/example/fuller_query/fullerquery/eval/Comparison" "improved" "I" (.int (0 : Int32)) := D23 (Or.inr (hw _ (List.mem_of_getElem? (i := 15) rfl))) (ty := .int) (by decide)
  have F23_17 : Fld Z h23 b23 "com/example/fuller_query/fullerquery/eval/Comparison" "worsened" "I" (.int (0 : Int32)) := D23 (Or.inr (hw _ (List.mem_of_getElem? (i := 17) rfl))) (ty := .int) (by decide)
  have F23_19 : Fld Z h23 b23 "com/example/fuller_query/fullerquery/eval/Comparison" "preserved" "I" (.int (0 : Int32)) := D23 (Or.inr (hw _ (List.mem_of_getElem? (i := 19) rfl))) (ty := .int) (by decide)
  refine go st23 ?_
  show Go _ p e below s _ _ _ (T23.setTop (mkF m 38 #[.val (.int p1), .val (.int p2), .val (.int p3), .val (.ref b17), .val (.ref b19), .val (.ref b21), .unset, .unset, .unset, .unset, .unset] [(.ref b23)]))
  refine go (fun _ => XS.dup X23.here hx rfl (hb hby at_38) rfl rfl) ?_
  show Go _ p e below s _ _ _ (T23.setTop (mkF m 39 #[.val (.int p1), .val (.int p2), .val (.int p3), .val (.ref b17), .val (.ref b19), .val (.ref b21), .unset, .unset, .unset, .unset, .unset] [(.ref b23), (.ref b23)]))
  refine go (fun _ => XS.iconst X23.here hx rfl (hb hby at_39)) ?_
  show Go _ p e below s _ _ _ (T23.setTop (mkF m 40 #[.val (.int p1), .val (.int p2), .val (.int p3), .val (.ref b17), .val (.ref b19), .val (.ref b21), .unset, .unset, .unset, .unset, .unset] [(.int (0 : Int32)), (.ref b23), (.ref b23)]))
  refine go (fun _ => XS.iconst X23.here hx rfl (hb hby at_40)) ?_
  show Go _ p e below s _ _ _ (T23.setTop (mkF m 41 #[.val (.int p1), .val (.int p2), .val (.int p3), .val (.ref b17), .val (.ref b19), .val (.ref b21), .unset, .unset, .unset, .unset, .unset] [(.int (0 : Int32)), (.int (0 : Int32)), (.ref b23), (.ref b23)]))
  refine go (fun _ => XS.iloadN X23.here hx rfl (hb hby at_41) rfl) ?_
  show Go _ p e below s _ _ _ (T23.setTop (mkF m 42 #[.val (.int p1), .val (.int p2), .val (.int p3), .val (.ref b17), .val (.ref b19), .val (.ref b21), .unset, .unset, .unset, .unset, .unset] [(.int p3), (.int (0 : Int32)), (.int (0 : Int32)), (.ref b23), (.ref b23)]))
  obtain ⟨_, _, ⟨T24, L24, k24, n24⟩, -, X24, ⟨Lc24, hQ24, l24, y24, z24⟩, st24⟩ := X23.specialBack hx (y := (⟨"com/example/fuller_query/fullerquery/eval/Comparison", "<init>", "(III)V"⟩ : MethodName)) rfl hown (mvT hZ (hw _ (List.mem_of_getElem? (i := 3) rfl))) (mvT hZ (hw _ (List.mem_of_getElem? (i := 4) rfl))) (mvT hZ (hw _ (List.mem_of_getElem? (i := 5) rfl))) (by decide) (backOf (W := 1) (rm1 l Z a0 hw [] b23 (0 : Int32) (0 : Int32) p3 (.int (0 : Int32)) (.int (0 : Int32)) (.int (0 : Int32)) h23 n0 ZN23 A23 F23_15 F23_17 F23_19 G_b23) hZ (hw _ (List.mem_of_getElem? (i := 5) rfl)) (hw _ (List.mem_of_getElem? (i := 2) rfl)) (by decide) (by decide)) (g := (mkF m 42 #[.val (.int p1), .val (.int p2), .val (.int p3), .val (.ref b17), .val (.ref b19), .val (.ref b21), .unset, .unset, .unset, .unset, .unset] [(.int p3), (.int (0 : Int32)), (.int (0 : Int32)), (.ref b23), (.ref b23)])) rfl (by rw [hml]; rfl) (Steps.refl _) (a := b23) (argsL := [(.int (0 : Int32)), (.int (0 : Int32)), (.int p3)]) (rest := [(.ref b23)]) (lenOf pd_0_0 rfl) rfl (by show 2 * 0 + _ ≤ _; exact Nat.le_of_eq rfl) (hb hby at_42) (fun _ _ => ⟨rfl, e23, (by decide : 4 + 0 ≤ _), (by decide : 12 + 0 ≤ _)⟩)
  dsimp only [Pt.U, Pt.locs, Pt.cells, Pt.slots] at X24 l24 y24 z24 st24 hQ24
  subst l24 y24 z24
  obtain ⟨rfl, N24q, K24, u24_1, u24_2, u24_3⟩ := hQ24
  have N24 := Fr.app N22 N24q
  have c24_0 := c23_0.keep K24
  have c24_1 := c23_1.keep K24 (ninS (Nat.ne_of_lt lt23_b17_b23) nin0)
  have c24_2 := c23_2.keep K24 (ninS (Nat.ne_of_lt lt23_b17_b23) nin0)
  have c24_3 := c23_3.keep K24 (ninS (Nat.ne_of_lt lt23_b17_b23) nin0)
  have c24_4 := c23_4.keep K24
  have c24_5 := c23_5.keep K24 (ninS (Nat.ne_of_lt lt23_b19_b23) nin0)
  have c24_6 := c23_6.keep K24 (ninS (Nat.ne_of_lt lt23_b19_b23) nin0)
  have c24_7 := c23_7.keep K24 (ninS (Nat.ne_of_lt lt23_b19_b23) nin0)
  have c24_8 := c23_8.keep K24
  have c24_9 := c23_9.keep K24 (ninS (Nat.ne_of_lt lt23_b21_b23) nin0)
  have c24_10 := c23_10.keep K24 (ninS (Nat.ne_of_lt lt23_b21_b23) nin0)
  have c24_11 := c23_11.keep K24 (ninS (Nat.ne_of_lt lt23_b21_b23) nin0)
  have c24_12 := A23.keep K24
  have KK24 : Keep h0 T24.heap [] := KK23.trans K24 (allS (P := fun x => x ∈ [] ∨ h0.size ≤ x) (Or.inr SZ_b23) all0)
  have ZN24 : n0 ≤ T24.heap.size := Nat.le_trans ZN23 K24.1
  refine goT st24 ?_
  show Go _ p e below s _ _ _ (T24.setTop (mkF m 45 #[.val (.int p1), .val (.int p2), .val (.int p3), .val (.ref b17), .val (.ref b19), .val (.ref b21), .unset, .unset, .unset, .unset, .unset] [(.ref b23)]))
  refine go (fun _ => XS.astore X24.here hx rfl (hb hby at_45) rfl rfl (l' := #[.val (.int p1), .val (.int p2), .val (.int p3), .val (.ref b17), .val (.ref b19), .val (.ref b21), .val (.ref b23), .unset, .unset, .unset, .unset]) rfl) ?_
  show Go _ p e below s _ _ _ (T24.setTop (mkF m 47 #[.val (.int p1), .val (.int p2), .val (.int p3), .val (.ref b17), .val (.ref b19), .val (.ref b21), .val (.ref b23), .unset, .unset, .unset, .unset] []))
  refine go (fun _ => XS.aload X24.here hx rfl (hb hby at_47) rfl rfl) ?_
  show Go _ p e below s _ _ _ (T24.setTop (mkF m 49 #[.val (.int p1), .val (.int p2), .val (.int p3), .val (.ref b17), .val (.ref b19), .val (.ref b21), .val (.ref b23), .unset, .unset, .unset, .unset] [(.ref b19)]))
  obtain ⟨cq25, kq25, q25a, q25b, q25c⟩ := isOf hZ rfl c24_4
  obtain ⟨_, _, ⟨T25, L25, k25, n25⟩, -, X25, ⟨Lc25, hQ25, l25, y25, z25⟩, st25⟩ := X24.virtualBack hx (y := (⟨"com/example/fuller_query/fullerquery/eval/Comparison", "queries", "()I"⟩ : MethodName)) (z := (⟨"com/example/fuller_query/fullerquery/eval/Comparison", "queries", "()I"⟩ : MethodName)) hown (mvT hZ (hw _ (List.mem_of_getElem? (i := 20) rfl))) (mvT hZ (hw _ (List.mem_of_getElem? (i := 21) rfl))) (notFace_of_selects (args := #[]) (mvT hZ (hw _ (List.mem_of_getElem? (i := 23) rfl)))) (mvT hZ (hw _ (List.mem_of_getElem? (i := 23) rfl))) (mvT hZ (hw _ (List.mem_of_getElem? (i := 22) rfl))) (by decide) (backOf (W := 0) (rm4 l Z a0 hw [] b19 p1 (0 : Int32) (0 : Int32) (T24.heap) n0 ZN24 c24_5 c24_6 c24_7) hZ (hw _ (List.mem_of_getElem? (i := 24) rfl)) (hw _ (List.mem_of_getElem? (i := 2) rfl)) (by decide) (by decide)) q25a q25c (g := (mkF m 49 #[.val (.int p1), .val (.int p2), .val (.int p3), .val (.ref b17), .val (.ref b19), .val (.ref b21), .val (.ref b23), .unset, .unset, .unset, .unset] [(.ref b19)])) rfl (by rw [hml]; rfl) (Steps.refl _) (argsL := []) (rest := []) (lenOf pd_0_1 rfl) rfl (by show 2 * 0 + _ ≤ _; exact Nat.le_of_eq rfl) (hb hby at_49) (fun _ _ => ⟨rfl, rfl, (by decide : 4 + 0 ≤ _), (by decide : 12 + 0 ≤ _)⟩)
  dsimp only [Pt.U, Pt.locs, Pt.cells, Pt.slots] at X25 l25 y25 z25 st25 hQ25
  subst l25 y25 z25
  obtain ⟨rfl, N25q, e25⟩ := hQ25
  have N25 := Fr.app N24 N25q
  refine goT st25 ?_
  show Go _ p e below s _ _ _ (T25.setTop (mkF m 52 #[.val (.int p1), .val (.int p2), .val (.int p3), .val (.ref b17), .val (.ref b19), .val (.ref b21), .val (.ref b23), .unset, .unset, .unset, .unset] [(.int ((p1 + (0 : Int32)) + (0 : Int32)))]))
  refine go (fun _ => XS.istore X25.here hx rfl (hb hby at_52) rfl (l' := #[.val (.int p1), .val (.int p2), .val (.int p3), .val (.ref b17), .val (.ref b19), .val (.ref b21), .val (.ref b23), .val (.int ((p1 + (0 : Int32)) + (0 : Int32))), .unset, .unset, .unset]) rfl) ?_
  show Go _ p e below s _ _ _ (T25.setTop (mkF m 54 #[.val (.int p1), .val (.int p2), .val (.int p3), .val (.ref b17), .val (.ref b19), .val (.ref b21), .val (.ref b23), .val (.int ((p1 + (0 : Int32)) + (0 : Int32))), .unset, .unset, .unset] []))
  refine go (fun _ => XS.aload X25.here hx rfl (hb hby at_54) rfl rfl) ?_
  show Go _ p e below s _ _ _ (T25.setTop (mkF m 56 #[.val (.int p1), .val (.int p2), .val (.int p3), .val (.ref b17), .val (.ref b19), .val (.ref b21), .val (.ref b23), .val (.int ((p1 + (0 : Int32)) + (0 : Int32))), .unset, .unset, .unset] [(.ref b21)]))
  obtain ⟨cq26, kq26, q26a, q26b, q26c⟩ := isOf hZ e25 c24_8
  obtain ⟨_, _, ⟨T26, L26, k26, n26⟩, -, X26, ⟨Lc26, hQ26, l26, y26, z26⟩, st26⟩ := X25.virtualBack hx (y := (⟨"com/example/fuller_query/fullerquery/eval/Comparison", "queries", "()I"⟩ : MethodName)) (z := (⟨"com/example/fuller_query/fullerquery/eval/Comparison", "queries", "()I"⟩ : MethodName)) hown (mvT hZ (hw _ (List.mem_of_getElem? (i := 20) rfl))) (mvT hZ (hw _ (List.mem_of_getElem? (i := 21) rfl))) (notFace_of_selects (args := #[]) (mvT hZ (hw _ (List.mem_of_getElem? (i := 23) rfl)))) (mvT hZ (hw _ (List.mem_of_getElem? (i := 23) rfl))) (mvT hZ (hw _ (List.mem_of_getElem? (i := 22) rfl))) (by decide) (backOf (W := 0) (rm4 l Z a0 hw [] b21 (0 : Int32) p2 (0 : Int32) (T24.heap) n0 ZN24 c24_9 c24_10 c24_11) hZ (hw _ (List.mem_of_getElem? (i := 24) rfl)) (hw _ (List.mem_of_getElem? (i := 2) rfl)) (by decide) (by decide)) q26a q26c (g := (mkF m 56 #[.val (.int p1), .val (.int p2), .val (.int p3), .val (.ref b17), .val (.ref b19), .val (.ref b21), .val (.ref b23), .val (.int ((p1 + (0 : Int32)) + (0 : Int32))), .unset, .unset, .unset] [(.ref b21)])) rfl (by rw [hml]; rfl) (Steps.refl _) (argsL := []) (rest := []) (lenOf pd_0_1 rfl) rfl (by show 2 * 0 + _ ≤ _; exact Nat.le_of_eq rfl) (hb hby at_56) (fun _ _ => ⟨rfl, e25, (by decide : 4 + 0 ≤ _), (by decide : 12 + 0 ≤ _)⟩)
  dsimp only [Pt.U, Pt.locs, Pt.cells, Pt.slots] at X26 l26 y26 z26 st26 hQ26
  subst l26 y26 z26
  obtain ⟨rfl, N26q, e26⟩ := hQ26
  have N26 := Fr.app N25 N26q
  refine goT st26 ?_
  show Go _ p e below s _ _ _ (T26.setTop (mkF m 59 #[.val (.int p1), .val (.int p2), .val (.int p3), .val (.ref b17), .val (.ref b19), .val (.ref b21), .val (.ref b23), .val (.int ((p1 + (0 : Int32)) + (0 : Int32))), .unset, .unset, .unset] [(.int (((0 : Int32) + p2) + (0 : Int32)))]))
  refine go (fun _ => XS.istore X26.here hx rfl (hb hby at_59) rfl (l' := #[.val (.int p1), .val (.int p2), .val (.int p3), .val (.ref b17), .val (.ref b19), .val (.ref b21), .val (.ref b23), .val (.int ((p1 + (0 : Int32)) + (0 : Int32))), .val (.int (((0 : Int32) + p2) + (0 : Int32))), .unset, .unset]) rfl) ?_
  show Go _ p e below s _ _ _ (T26.setTop (mkF m 61 #[.val (.int p1), .val (.int p2), .val (.int p3), .val (.ref b17), .val (.ref b19), .val (.ref b21), .val (.ref b23), .val (.int ((p1 + (0 : Int32)) + (0 : Int32))), .val (.int (((0 : Int32) + p2) + (0 : Int32))), .unset, .unset] []))
  refine go (fun _ => XS.aload X26.here hx rfl (hb hby at_61) rfl rfl) ?_
  show Go _ p e below s _ _ _ (T26.setTop (mkF m 63 #[.val (.int p1), .val (.int p2), .val (.int p3), .val (.ref b17), .val (.ref b19), .val (.ref b21), .val (.ref b23), .val (.int ((p1 + (0 : Int32)) + (0 : Int32))), .val (.int (((0 : Int32) + p2) + (0 : Int32))), .unset, .unset] [(.ref b23)]))
  obtain ⟨cq27, kq27, q27a, q27b, q27c⟩ := isOf hZ e26 c24_12
  obtain ⟨_, _, ⟨T27, L27, k27, n27⟩, -, X27, ⟨Lc27, hQ27, l27, y27, z27⟩, st27⟩ := X26.virtualBack hx (y := (⟨"com/example/fuller_query/fullerquery/eval/Comparison", "queries", "()I"⟩ : MethodName)) (z := (⟨"com/example/fuller_query/fullerquery/eval/Comparison", "queries", "()I"⟩ : MethodName)) hown (mvT hZ (hw _ (List.mem_of_getElem? (i := 20) rfl))) (mvT hZ (hw _ (List.mem_of_getElem? (i := 21) rfl))) (notFace_of_selects (args := #[]) (mvT hZ (hw _ (List.mem_of_getElem? (i := 23) rfl)))) (mvT hZ (hw _ (List.mem_of_getElem? (i := 23) rfl))) (mvT hZ (hw _ (List.mem_of_getElem? (i := 22) rfl))) (by decide) (backOf (W := 0) (rm4 l Z a0 hw [] b23 (0 : Int32) (0 : Int32) p3 (T24.heap) n0 ZN24 u24_1 u24_2 u24_3) hZ (hw _ (List.mem_of_getElem? (i := 24) rfl)) (hw _ (List.mem_of_getElem? (i := 2) rfl)) (by decide) (by decide)) q27a q27c (g := (mkF m 63 #[.val (.int p1), .val (.int p2), .val (.int p3), .val (.ref b17), .val (.ref b19), .val (.ref b21), .val (.ref b23), .val (.int ((p1 + (0 : Int32)) + (0 : Int32))), .val (.int (((0 : Int32) + p2) + (0 : Int32))), .unset, .unset] [(.ref b23)])) rfl (by rw [hml]; rfl) (Steps.refl _) (argsL := []) (rest := []) (lenOf pd_0_1 rfl) rfl (by show 2 * 0 + _ ≤ _; exact Nat.le_of_eq rfl) (hb hby at_63) (fun _ _ => ⟨rfl, e26, (by decide : 4 + 0 ≤ _), (by decide : 12 + 0 ≤ _)⟩)
  dsimp only [Pt.U, Pt.locs, Pt.cells, Pt.slots] at X27 l27 y27 z27 st27 hQ27
  subst l27 y27 z27
  obtain ⟨rfl, N27q, e27⟩ := hQ27
  have N27 := Fr.app N26 N27q
  refine goT st27 ?_
  show Go _ p e below s _ _ _ (T27.setTop (mkF m 66 #[.val (.int p1), .val (.int p2), .val (.int p3), .val (.ref b17), .val (.ref b19), .val (.ref b21), .val (.ref b23), .val (.int ((p1 + (0 : Int32)) + (0 : Int32))), .val (.int (((0 : Int32) + p2) + (0 : Int32))), .unset, .unset] [(.int (((0 : Int32) + (0 : Int32)) + p3))]))
  refine go (fun _ => XS.istore X27.here hx rfl (hb hby at_66) rfl (l' := #[.val (.int p1), .val (.int p2), .val (.int p3), .val (.ref b17), .val (.ref b19), .val (.ref b21), .val (.ref b23), .val (.int ((p1 + (0 : Int32)) + (0 : Int32))), .val (.int (((0 : Int32) + p2) + (0 : Int32))), .val (.int (((0 : Int32) + (0 : Int32)) + p3)), .unset]) rfl) ?_
  show Go _ p e below s _ _ _ (T27.setTop (mkF m 68 #[.val (.int p1), .val (.int p2), .val (.int p3), .val (.ref b17), .val (.ref b19), .val (.ref b21), .val (.ref b23), .val (.int ((p1 + (0 : Int32)) + (0 : Int32))), .val (.int (((0 : Int32) + p2) + (0 : Int32))), .val (.int (((0 : Int32) + (0 : Int32)) + p3)), .unset] []))
  refine go (fun _ => XS.aloadN X27.here hx rfl (hb hby at_68) rfl rfl) ?_
  show Go _ p e below s _ _ _ (T27.setTop (mkF m 69 #[.val (.int p1), .val (.int p2), .val (.int p3), .val (.ref b17), .val (.ref b19), .val (.ref b21), .val (.ref b23), .val (.int ((p1 + (0 : Int32)) + (0 : Int32))), .val (.int (((0 : Int32) + p2) + (0 : Int32))), .val (.int (((0 : Int32) + (0 : Int32)) + p3)), .unset] [(.ref b17)]))
  obtain ⟨cq28, kq28, q28a, q28b, q28c⟩ := isOf hZ e27 c24_0
  obtain ⟨_, _, ⟨T28, L28, k28, n28⟩, -, X28, ⟨Lc28, hQ28, l28, y28, z28⟩, st28⟩ := X27.virtualBack hx (y := (⟨"com/example/fuller_query/fullerquery/eval/Comparison", "queries", "()I"⟩ : MethodName)) (z := (⟨"com/example/fuller_query/fullerquery/eval/Comparison", "queries", "()I"⟩ : MethodName)) hown (mvT hZ (hw _ (List.mem_of_getElem? (i := 20) rfl))) (mvT hZ (hw _ (List.mem_of_getElem? (i := 21) rfl))) (notFace_of_selects (args := #[]) (mvT hZ (hw _ (List.mem_of_getElem? (i := 23) rfl)))) (mvT hZ (hw _ (List.mem_of_getElem? (i := 23) rfl))) (mvT hZ (hw _ (List.mem_of_getElem? (i := 22) rfl))) (by decide) (backOf (W := 0) (rm4 l Z a0 hw [] b17 p1 p2 p3 (T24.heap) n0 ZN24 c24_1 c24_2 c24_3) hZ (hw _ (List.mem_of_getElem? (i := 24) rfl)) (hw _ (List.mem_of_getElem? (i := 2) rfl)) (by decide) (by decide)) q28a q28c (g := (mkF m 69 #[.val (.int p1), .val (.int p2), .val (.int p3), .val (.ref b17), .val (.ref b19), .val (.ref b21), .val (.ref b23), .val (.int ((p1 + (0 : Int32)) + (0 : Int32))), .val (.int (((0 : Int32) + p2) + (0 : Int32))), .val (.int (((0 : Int32) + (0 : Int32)) + p3)), .unset] [(.ref b17)])) rfl (by rw [hml]; rfl) (Steps.refl _) (argsL := []) (rest := []) (lenOf pd_0_1 rfl) rfl (by show 2 * 0 + _ ≤ _; exact Nat.le_of_eq rfl) (hb hby at_69) (fun _ _ => ⟨rfl, e27, (by decide : 4 + 0 ≤ _), (by decide : 12 + 0 ≤ _)⟩)
  dsimp only [Pt.U, Pt.locs, Pt.cells, Pt.slots] at X28 l28 y28 z28 st28 hQ28
  subst l28 y28 z28
  obtain ⟨rfl, N28q, e28⟩ := hQ28
  have N28 := Fr.app N27 N28q
  refine goT st28 ?_
  show Go _ p e below s _ _ _ (T28.setTop (mkF m 72 #[.val (.int p1), .val (.int p2), .val (.int p3), .val (.ref b17), .val (.ref b19), .val (.ref b21), .val (.ref b23), .val (.int ((p1 + (0 : Int32)) + (0 : Int32))), .val (.int (((0 : Int32) + p2) + (0 : Int32))), .val (.int (((0 : Int32) + (0 : Int32)) + p3)), .unset] [(.int ((p1 + p2) + p3))]))
  refine go (fun _ => XS.istore X28.here hx rfl (hb hby at_72) rfl (l' := #[.val (.int p1), .val (.int p2), .val (.int p3), .val (.ref b17), .val (.ref b19), .val (.ref b21), .val (.ref b23), .val (.int ((p1 + (0 : Int32)) + (0 : Int32))), .val (.int (((0 : Int32) + p2) + (0 : Int32))), .val (.int (((0 : Int32) + (0 : Int32)) + p3)), .val (.int ((p1 + p2) + p3))]) rfl) ?_
  show Go _ p e below s _ _ _ (T28.setTop (mkF m 74 #[.val (.int p1), .val (.int p2), .val (.int p3), .val (.ref b17), .val (.ref b19), .val (.ref b21), .val (.ref b23), .val (.int ((p1 + (0 : Int32)) + (0 : Int32))), .val (.int (((0 : Int32) + p2) + (0 : Int32))), .val (.int (((0 : Int32) + (0 : Int32)) + p3)), .val (.int ((p1 + p2) + p3))] []))
  refine go (fun _ => XS.iload X28.here hx rfl (hb hby at_74) rfl) ?_
  show Go _ p e below s _ _ _ (T28.setTop (mkF m 76 #[.val (.int p1), .val (.int p2), .val (.int p3), .val (.ref b17), .val (.ref b19), .val (.ref b21), .val (.ref b23), .val (.int ((p1 + (0 : Int32)) + (0 : Int32))), .val (.int (((0 : Int32) + p2) + (0 : Int32))), .val (.int (((0 : Int32) + (0 : Int32)) + p3)), .val (.int ((p1 + p2) + p3))] [(.int ((p1 + (0 : Int32)) + (0 : Int32)))]))
  refine go (fun _ => XS.iloadN X28.here hx rfl (hb hby at_76) rfl) ?_
  show Go _ p e below s _ _ _ (T28.setTop (mkF m 77 #[.val (.int p1), .val (.int p2), .val (.int p3), .val (.ref b17), .val (.ref b19), .val (.ref b21), .val (.ref b23), .val (.int ((p1 + (0 : Int32)) + (0 : Int32))), .val (.int (((0 : Int32) + p2) + (0 : Int32))), .val (.int (((0 : Int32) + (0 : Int32)) + p3)), .val (.int ((p1 + p2) + p3))] [(.int p1), (.int ((p1 + (0 : Int32)) + (0 : Int32)))]))
  refine go (fun _ => XS.icmpNo X28.here hx rfl (hb hby at_77) rfl (teq (own_l p1)).2) ?_
  show Go _ p e below s _ _ _ (T28.setTop (mkF m 80 #[.val (.int p1), .val (.int p2), .val (.int p3), .val (.ref b17), .val (.ref b19), .val (.ref b21), .val (.ref b23), .val (.int ((p1 + (0 : Int32)) + (0 : Int32))), .val (.int (((0 : Int32) + p2) + (0 : Int32))), .val (.int (((0 : Int32) + (0 : Int32)) + p3)), .val (.int ((p1 + p2) + p3))] []))
  refine go (fun _ => XS.iload X28.here hx rfl (hb hby at_80) rfl) ?_
  show Go _ p e below s _ _ _ (T28.setTop (mkF m 82 #[.val (.int p1), .val (.int p2), .val (.int p3), .val (.ref b17), .val (.ref b19), .val (.ref b21), .val (.ref b23), .val (.int ((p1 + (0 : Int32)) + (0 : Int32))), .val (.int (((0 : Int32) + p2) + (0 : Int32))), .val (.int (((0 : Int32) + (0 : Int32)) + p3)), .val (.int ((p1 + p2) + p3))] [(.int (((0 : Int32) + p2) + (0 : Int32)))]))
  refine go (fun _ => XS.iloadN X28.here hx rfl (hb hby at_82) rfl) ?_
  show Go _ p e below s _ _ _ (T28.setTop (mkF m 83 #[.val (.int p1), .val (.int p2), .val (.int p3), .val (.ref b17), .val (.ref b19), .val (.ref b21), .val (.ref b23), .val (.int ((p1 + (0 : Int32)) + (0 : Int32))), .val (.int (((0 : Int32) + p2) + (0 : Int32))), .val (.int (((0 : Int32) + (0 : Int32)) + p3)), .val (.int ((p1 + p2) + p3))] [(.int p2), (.int (((0 : Int32) + p2) + (0 : Int32)))]))
  refine go (fun _ => XS.icmpNo X28.here hx rfl (hb hby at_83) rfl (teq (own_m p2)).2) ?_
  show Go _ p e below s _ _ _ (T28.setTop (mkF m 86 #[.val (.int p1), .val (.int p2), .val (.int p3), .val (.ref b17), .val (.ref b19), .val (.ref b21), .val (.ref b23), .val (.int ((p1 + (0 : Int32)) + (0 : Int32))), .val (.int (((0 : Int32) + p2) + (0 : Int32))), .val (.int (((0 : Int32) + (0 : Int32)) + p3)), .val (.int ((p1 + p2) + p3))] []))
  refine go (fun _ => XS.iload X28.here hx rfl (hb hby at_86) rfl) ?_
  show Go _ p e below s _ _ _ (T28.setTop (mkF m 88 #[.val (.int p1), .val (.int p2), .val (.int p3), .val (.ref b17), .val (.ref b19), .val (.ref b21), .val (.ref b23), .val (.int ((p1 + (0 : Int32)) + (0 : Int32))), .val (.int (((0 : Int32) + p2) + (0 : Int32))), .val (.int (((0 : Int32) + (0 : Int32)) + p3)), .val (.int ((p1 + p2) + p3))] [(.int (((0 : Int32) + (0 : Int32)) + p3))]))
  refine go (fun _ => XS.iloadN X28.here hx rfl (hb hby at_88) rfl) ?_
  show Go _ p e below s _ _ _ (T28.setTop (mkF m 89 #[.val (.int p1), .val (.int p2), .val (.int p3), .val (.ref b17), .val (.ref b19), .val (.ref b21), .val (.ref b23), .val (.int ((p1 + (0 : Int32)) + (0 : Int32))), .val (.int (((0 : Int32) + p2) + (0 : Int32))), .val (.int (((0 : Int32) + (0 : Int32)) + p3)), .val (.int ((p1 + p2) + p3))] [(.int p3), (.int (((0 : Int32) + (0 : Int32)) + p3))]))
  refine go (fun _ => XS.icmpNo X28.here hx rfl (hb hby at_89) rfl (teq (own_r p3)).2) ?_
  show Go _ p e below s _ _ _ (T28.setTop (mkF m 92 #[.val (.int p1), .val (.int p2), .val (.int p3), .val (.ref b17), .val (.ref b19), .val (.ref b21), .val (.ref b23), .val (.int ((p1 + (0 : Int32)) + (0 : Int32))), .val (.int (((0 : Int32) + p2) + (0 : Int32))), .val (.int (((0 : Int32) + (0 : Int32)) + p3)), .val (.int ((p1 + p2) + p3))] []))
  refine go (fun _ => XS.iload X28.here hx rfl (hb hby at_92) rfl) ?_
  show Go _ p e below s _ _ _ (T28.setTop (mkF m 94 #[.val (.int p1), .val (.int p2), .val (.int p3), .val (.ref b17), .val (.ref b19), .val (.ref b21), .val (.ref b23), .val (.int ((p1 + (0 : Int32)) + (0 : Int32))), .val (.int (((0 : Int32) + p2) + (0 : Int32))), .val (.int (((0 : Int32) + (0 : Int32)) + p3)), .val (.int ((p1 + p2) + p3))] [(.int ((p1 + p2) + p3))]))
  refine go (fun _ => XS.iload X28.here hx rfl (hb hby at_94) rfl) ?_
  show Go _ p e below s _ _ _ (T28.setTop (mkF m 96 #[.val (.int p1), .val (.int p2), .val (.int p3), .val (.ref b17), .val (.ref b19), .val (.ref b21), .val (.ref b23), .val (.int ((p1 + (0 : Int32)) + (0 : Int32))), .val (.int (((0 : Int32) + p2) + (0 : Int32))), .val (.int (((0 : Int32) + (0 : Int32)) + p3)), .val (.int ((p1 + p2) + p3))] [(.int ((p1 + (0 : Int32)) + (0 : Int32))), (.int ((p1 + p2) + p3))]))
  refine go (fun _ => XS.iload X28.here hx rfl (hb hby at_96) rfl) ?_
  show Go _ p e below s _ _ _ (T28.setTop (mkF m 98 #[.val (.int p1), .val (.int p2), .val (.int p3), .val (.ref b17), .val (.ref b19), .val (.ref b21), .val (.ref b23), .val (.int ((p1 + (0 : Int32)) + (0 : Int32))), .val (.int (((0 : Int32) + p2) + (0 : Int32))), .val (.int (((0 : Int32) + (0 : Int32)) + p3)), .val (.int ((p1 + p2) + p3))] [(.int (((0 : Int32) + p2) + (0 : Int32))), (.int ((p1 + (0 : Int32)) + (0 : Int32))), (.int ((p1 + p2) + p3))]))
  refine go (fun _ => XS.iadd X28.here hx rfl (hb hby at_98) rfl) ?_
  show Go _ p e below s _ _ _ (T28.setTop (mkF m 99 #[.val (.int p1), .val (.int p2), .val (.int p3), .val (.ref b17), .val (.ref b19), .val (.ref b21), .val (.ref b23), .val (.int ((p1 + (0 : Int32)) + (0 : Int32))), .val (.int (((0 : Int32) + p2) + (0 : Int32))), .val (.int (((0 : Int32) + (0 : Int32)) + p3)), .val (.int ((p1 + p2) + p3))] [(.int (((p1 + (0 : Int32)) + (0 : Int32)) + (((0 : Int32) + p2) + (0 : Int32)))), (.int ((p1 + p2) + p3))]))
  refine go (fun _ => XS.iload X28.here hx rfl (hb hby at_99) rfl) ?_
  show Go _ p e below s _ _ _ (T28.setTop (mkF m 101 #[.val (.int p1), .val (.int p2), .val (.int p3), .val (.ref b17), .val (.ref b19), .val (.ref b21), .val (.ref b23), .val (.int ((p1 + (0 : Int32)) + (0 : Int32))), .val (.int (((0 : Int32) + p2) + (0 : Int32))), .val (.int (((0 : Int32) + (0 : Int32)) + p3)), .val (.int ((p1 + p2) + p3))] [(.int (((0 : Int32) + (0 : Int32)) + p3)), (.int (((p1 + (0 : Int32)) + (0 : Int32)) + (((0 : Int32) + p2) + (0 : Int32)))), (.int ((p1 + p2) + p3))]))
  refine go (fun _ => XS.iadd X28.here hx rfl (hb hby at_101) rfl) ?_
  show Go _ p e below s _ _ _ (T28.setTop (mkF m 102 #[.val (.int p1), .val (.int p2), .val (.int p3), .val (.ref b17), .val (.ref b19), .val (.ref b21), .val (.ref b23), .val (.int ((p1 + (0 : Int32)) + (0 : Int32))), .val (.int (((0 : Int32) + p2) + (0 : Int32))), .val (.int (((0 : Int32) + (0 : Int32)) + p3)), .val (.int ((p1 + p2) + p3))] [(.int ((((p1 + (0 : Int32)) + (0 : Int32)) + (((0 : Int32) + p2) + (0 : Int32))) + (((0 : Int32) + (0 : Int32)) + p3))), (.int ((p1 + p2) + p3))]))
  refine go (fun _ => XS.icmpNo X28.here hx rfl (hb hby at_102) rfl (teq (by rw [own_l, own_m, own_r] : ((p1 + p2) + p3) = ((((p1 + (0 : Int32)) + (0 : Int32)) + (((0 : Int32) + p2) + (0 : Int32))) + (((0 : Int32) + (0 : Int32)) + p3)))).2) ?_
  show Go _ p e below s _ _ _ (T28.setTop (mkF m 105 #[.val (.int p1), .val (.int p2), .val (.int p3), .val (.ref b17), .val (.ref b19), .val (.ref b21), .val (.ref b23), .val (.int ((p1 + (0 : Int32)) + (0 : Int32))), .val (.int (((0 : Int32) + p2) + (0 : Int32))), .val (.int (((0 : Int32) + (0 : Int32)) + p3)), .val (.int ((p1 + p2) + p3))] []))
  refine go (fun _ => XS.iconst X28.here hx rfl (hb hby at_105)) ?_
  show Go _ p e below s _ _ _ (T28.setTop (mkF m 106 #[.val (.int p1), .val (.int p2), .val (.int p3), .val (.ref b17), .val (.ref b19), .val (.ref b21), .val (.ref b23), .val (.int ((p1 + (0 : Int32)) + (0 : Int32))), .val (.int (((0 : Int32) + p2) + (0 : Int32))), .val (.int (((0 : Int32) + (0 : Int32)) + p3)), .val (.int ((p1 + p2) + p3))] [(.int (1 : Int32))]))
  refine go (fun _ => XS.goto X28.here hx rfl (pc0 := 106) (pc' := 110) rfl (hb hby at_106) (by decide) (by decide)) ?_
  show Go _ p e below s _ _ _ (T28.setTop (mkF m 110 #[.val (.int p1), .val (.int p2), .val (.int p3), .val (.ref b17), .val (.ref b19), .val (.ref b21), .val (.ref b23), .val (.int ((p1 + (0 : Int32)) + (0 : Int32))), .val (.int (((0 : Int32) + p2) + (0 : Int32))), .val (.int (((0 : Int32) + (0 : Int32)) + p3)), .val (.int ((p1 + p2) + p3))] [(.int (1 : Int32))]))
  refine goRet X28 hx Bd.notSynchronized Bd.returns rfl (Or.inl ⟨rfl, Or.inr (Or.inl rfl), _, rfl⟩) (hb hby at_110) (by decide) (by decide) (by rw [e28]; refine ⟨rfl, N28⟩)
set_option maxRecDepth 65536 in
set_option maxHeartbeats 40000000 in
theorem comes_1 {Post : Tables → Env → Array Value → State → Outcome → State → Prop} (hpost : ∀ tb e args s v u, (limb_1_1.after args s (.returned v) u = true ∧ limb_1_2.after args s (.returned v) u = true ∧ True) → FrameEnd s (.returned v) u (Jvm.fieldLocs frame_1_writes args s ++ Jvm.arrayLocs frame_1_arrays args s ++ Jvm.staticLocs frame_1_statics s) 16 128 → Post tb e args s (.returned v) u) :
    ArmFor flags0 classFile x code maxLocals ret World_1 tables_1 room_1 Calls_1 rest_1 Pre_1 Post := by
  intro l hfl _ _ p e ha hc hk s m args below hf hA hF happ hP
  obtain ⟨hcalls, hrest, hpre⟩ := hP
  obtain ⟨-, -, -, hnamed, -, -, -, hat⟩ := (Spec.applies_iff hf).mp happ
  obtain ⟨hg, hn⟩ := and_e (Cond.before_iff.mp (show (Jvm.Cond.and given_1 narrow_1).before args s = true from hpre))
  obtain ⟨q0, r0⟩ := and_e hg
  obtain ⟨q1, r1⟩ := and_e r0
  obtain ⟨q2, r2⟩ := and_e r1
  obtain ⟨w0, w1, w2, rfl⟩ : ∃ w0 w1 w2 : Value, args = #[w0, w1, w2] := by
    have hs : args.size = 3 := by simpa [Cond.value, given_1] using q0
    obtain ⟨L⟩ := args
    match L, hs with
    | [w0, w1, w2], _ => exact ⟨w0, w1, w2, rfl⟩
  have hw := fun d (hd : d ∈ tables_1) => atoms_spec (ws := Jvm.Cond.code x code maxLocals ret :: tables_1) hat d (List.mem_cons_of_mem _ hd)
  have hfit : Fit s := fun {y c} hc i hi => by
    obtain ⟨ha, rfl⟩ := Array.getElem?_eq_some_iff.mp hc
    have q := List.all_eq_true.mp ((Array.all_eq_true_iff_forall_mem.mp hF) _ (Array.getElem_mem ha)) i (List.mem_range.mpr hi)
    simpa [Array.getElem?_eq_getElem hi] using q
  obtain ⟨i0, ei0⟩ := is_v q1
  obtain rfl : w0 = (.int i0) := Option.some.inj ei0
  obtain ⟨i1, ei1⟩ := is_v q2
  obtain rfl : w1 = (.int i1) := Option.some.inj ei1
  obtain ⟨i2, ei2⟩ := is_v r2
  obtain rfl : w2 = (.int i2) := Option.some.inj ei2
  obtain ⟨n, o, h1, h2, h3, _, L, rfl, ⟨rfl, N⟩, hq⟩ := rm0 l s _ hw tables_1 i0 i1 i2  s.heap s.heap.size (Nat.le_refl _)  p e ha hc hk s m _ below hf ((Spec.applies_iff_loose hf).mp happ).1 ⟨rfl, State.Warmed39.refl s, rfl⟩ trivial
  refine ⟨n, _, h1, h2, h3, hpost _ _ _ _ _ _ ⟨Cond.after_iff.mpr rfl, Cond.after_iff.mpr (eq_i res_at (Term.int_eval (1)) rfl), trivial⟩ ⟨hq.1, hq.2.1, (hq.2.2.sift fun y hy => Or.inr (N y hy)).mono (by decide) (by decide)⟩⟩
theorem main_1_1 : Claimed_1_1 := comes_1 fun _ _ _ _ _ _ h hF => ⟨h.1, hF⟩
theorem main_1_2 : Claimed_1_2 := comes_1 fun _ _ _ _ _ _ h hF => ⟨h.2.1, hF⟩
end Jvm.Pilot.@@N@@
namespace Jvm.Pilot.@@N@@
open Jvm Jvm.ClassFile Sem Op Lib Jvm.Free Jvm.Stand Jvm.Pilot.@@N@@.Jvm.D
/-! MADE BY PROGRAM (witnessworld.py) out of the Statement's table words and the real class files: 10 classes; the members and pool entries that the words name. The judged class is class 1, her method 1. -/
namespace start1
open Jvm.ClassFile
def u (s : String) : CpInfo := .utf8 (stringToUtf16 s)
/-- a pool by its gaps: so many unusable entries, then the entry; so many at the end -/
def gap : Nat → List CpInfo → List CpInfo
  | 0, r => r
  | n + 1, r => .unusable :: gap n r
def poolList (es : List (Nat × CpInfo)) (last : Nat) : List CpInfo := es.foldr (fun e r => gap e.1 (e.2 :: r)) (gap last [])
def pool (es : List (Nat × CpInfo)) (last : Nat) : Array CpInfo := ⟨poolList es last⟩
def fileOf (pool : Array CpInfo) (this : Nat) (attrs : Array Attribute := #[]) (ms : Array MethodInfo := #[]) (fl : Nat := 33) (sup : Nat := 0) (ifs : Array Nat := #[]) (fds : Array FieldInfo := #[]) : ClassFile where
  minorVersion := 0
  majorVersion := 65
  constantPool := pool
  accessFlags := fl
  thisClass := this
  superClass := sup
  interfaces := ifs
  fields := fds
  methods := ms
  attributes := attrs
def plain (name : String) (sup : Option ClassId) : Class where
  name := name
  kind := .ordinary
  loader := none
  accessFlags := 33
  super := sup
  interfaces := #[]
  cf := none
  fields := #[]
  methods := #[]
  instanceTypes := #[]
  staticTypes := #[]
  resolved := #[]
  callSites := []
  init := .initialized
  statics := none
  mirror := none

def pool0 : Array CpInfo := pool [(5, u "<init>"), (0, u "()V"), (1, .class_ 10), (1, u "java/lang/Object")] 113

def k0c0 : Code := { maxStack := 0, maxLocals := 1, code := object_method_1_code, exceptionTable := #[], attributes := #[] }
def k0m0 : Method := { name := "<init>", desc := "()V", sig := { parameters := [], returnType := none }, accessFlags := 1, code := some k0c0 }
/-- java/lang/Object -/
def k0 : Class := { plain "java/lang/Object" none with
  accessFlags := 33
  interfaces := #[]
  cf := some (fileOf pool0 8 #[] #[{ accessFlags := 1, nameIndex := 5, descriptorIndex := 6, attributes := #[] }] 33 0 #[] #[])
  fields := #[]
  methods := #[k0m0]
  instanceTypes := #[]
  staticTypes := #[]
  resolved := Array.replicate 124 none
  statics := none }

def pool1 : Array CpInfo := pool [(2, .class_ 4), (1, u "java/lang/Object"), (0, u "<init>"), (0, u "()V"), (0, .class_ 8), (0, u "com/example/fuller_query/fullerquery/eval/Comparison"), (0, .methodref 7 10), (0, .nameAndType 5 11), (0, u "(III)V"), (0, .methodref 7 13), (0, .nameAndType 14 15), (0, u "queries"), (0, u "()I"), (0, .class_ 17), (0, u "com/example/fuller_query/fullerquery/eval/ComparisonQueriesPinLaw"), (2, u "law"), (0, u "(III)Z")] 3

def k1m0 : Method := { name := "<init>", desc := "()V", sig := { parameters := [], returnType := none }, accessFlags := 2, code := none }
def k1c1 : Code := { maxStack := 5, maxLocals := 11, code := code, exceptionTable := #[], attributes := #[] }
def k1m1 : Method := { name := "law", desc := "(III)Z", sig := { parameters := [.int, .int, .int], returnType := some .boolean }, accessFlags := 9, code := some k1c1 }
/-- com/example/fuller_query/fullerquery/eval/ComparisonQueriesPinLaw -/
def k1 : Class := { plain "com/example/fuller_query/fullerquery/eval/ComparisonQueriesPinLaw" (some 0) with
  accessFlags := 49
  interfaces := #[]
  cf := some (fileOf pool1 16 #[] #[{ accessFlags := 2, nameIndex := 5, descriptorIndex := 6, attributes := #[] }, { accessFlags := 9, nameIndex := 20, descriptorIndex := 21, attributes := #[] }] 49 2 #[] #[])
  fields := #[]
  methods := #[k1m0, k1m1]
  instanceTypes := #[]
  staticTypes := #[]
  resolved := Array.replicate 25 none
  statics := none }

def pool2 : Array CpInfo := pool [(1, .methodref 2 3), (0, .class_ 4), (0, .nameAndType 5 6), (0, u "java/lang/Object"), (0, u "<init>"), (0, u "()V"), (0, .class_ 8), (0, u "java/lang/Record")] 13

def k2c0 : Code := { maxStack := 1, maxLocals := 1, code := jdk_30_method_1_code, exceptionTable := #[], attributes := #[] }
def k2m0 : Method := { name := "<init>", desc := "()V", sig := { parameters := [], returnType := none }, accessFlags := 4, code := some k2c0 }
/-- java/lang/Record -/
def k2 : Class := { plain "java/lang/Record" (some 0) with
  accessFlags := 1057
  interfaces := #[]
  cf := some (fileOf pool2 7 #[] #[{ accessFlags := 4, nameIndex := 5, descriptorIndex := 6, attributes := #[] }] 1057 2 #[] #[])
  fields := #[]
  methods := #[k2m0]
  instanceTypes := #[]
  staticTypes := #[]
  resolved := Array.replicate 22 none
  statics := none }

def pool3 : Array CpInfo := pool [(1, .methodref 2 3), (0, .class_ 4), (0, .nameAndType 5 6), (0, u "java/lang/Record"), (0, u "<init>"), (0, u "()V"), (0, .fieldref 8 9), (0, .class_ 10), (0, .nameAndType 11 12), (0, u "com/example/fuller_query/fullerquery/eval/Comparison"), (0, u "improved"), (0, u "I"), (0, .fieldref 8 14), (0, .nameAndType 15 12), (0, u "worsened"), (0, .fieldref 8 17), (0, .nameAndType 18 12), (0, u "preserved"), (4, u "queries"), (37, u "(III)V"), (19, u "()I")] 24

def k3c0 : Code := { maxStack := 2, maxLocals := 4, code := prog_9_method_1_code, exceptionTable := #[], attributes := #[] }
def k3m0 : Method := { name := "<init>", desc := "(III)V", sig := { parameters := [.int, .int, .int], returnType := none }, accessFlags := 1, code := some k3c0 }
def k3c1 : Code := { maxStack := 2, maxLocals := 1, code := prog_9_method_3_code, exceptionTable := #[], attributes := #[] }
def k3m1 : Method := { name := "queries", desc := "()I", sig := { parameters := [], returnType := some .int }, accessFlags := 1, code := some k3c1 }
/-- com/example/fuller_query/fullerquery/eval/Comparison -/
def k3 : Class := { plain "com/example/fuller_query/fullerquery/eval/Comparison" (some 2) with
  accessFlags := 49
  interfaces := #[]
  cf := some (fileOf pool3 8 #[] #[{ accessFlags := 1, nameIndex := 5, descriptorIndex := 61, attributes := #[] }, { accessFlags := 1, nameIndex := 23, descriptorIndex := 81, attributes := #[] }] 49 2 #[] #[{ accessFlags := 18, nameIndex := 11, descriptorIndex := 12, attributes := #[] }, { accessFlags := 18, nameIndex := 15, descriptorIndex := 12, attributes := #[] }, { accessFlags := 18, nameIndex := 18, descriptorIndex := 12, attributes := #[] }])
  fields := #[{ name := "improved", type := .int, accessFlags := 18, slot := 0, constantValue := 0 }, { name := "worsened", type := .int, accessFlags := 18, slot := 1, constantValue := 0 }, { name := "preserved", type := .int, accessFlags := 18, slot := 2, constantValue := 0 }]
  methods := #[k3m0, k3m1]
  instanceTypes := #[.int, .int, .int]
  staticTypes := #[]
  resolved := Array.replicate 106 none
  statics := none }

def pool4 : Array CpInfo := pool [(1, u "java/lang/Cloneable"), (0, .class_ 1), (0, u "java/lang/Object"), (0, .class_ 3)] 3

/-- java/lang/Cloneable -/
def k4 : Class := { plain "java/lang/Cloneable" (some 0) with
  accessFlags := 1537
  interfaces := #[]
  cf := some (fileOf pool4 2 #[] #[] 1537 4 #[] #[])
  fields := #[]
  methods := #[]
  instanceTypes := #[]
  staticTypes := #[]
  resolved := Array.replicate 8 none
  statics := none }

def pool5 : Array CpInfo := pool [(1, u "java/io/Serializable"), (0, .class_ 1), (0, u "java/lang/Object"), (0, .class_ 3)] 3

/-- java/io/Serializable -/
def k5 : Class := { plain "java/io/Serializable" (some 0) with
  accessFlags := 1537
  interfaces := #[]
  cf := some (fileOf pool5 2 #[] #[] 1537 4 #[] #[])
  fields := #[]
  methods := #[]
  instanceTypes := #[]
  staticTypes := #[]
  resolved := Array.replicate 8 none
  statics := none }

/-- the primitive byte -/
def k6 : Class := { plain "byte" none with kind := .primitive 'B', accessFlags := 0x411 }
/-- [B -/
def k7 : Class := { plain "[B" (some 0) with kind := .array 6 .byte, interfaces := #[4, 5], accessFlags := 1041 }

/-- the primitive int -/
def k8 : Class := { plain "int" none with kind := .primitive 'I', accessFlags := 0x411 }
/-- [I -/
def k9 : Class := { plain "[I" (some 0) with kind := .array 8 .int, interfaces := #[4, 5], accessFlags := 1041 }

def heap : Heap := #[]
def classes : Array Class := #[k0, k1, k2, k3, k4, k5, k6, k7, k8, k9]
def interned : List (Array UInt16 × Addr) := []
def slotsUsed : Nat := 0
def theMethod : MethodId := ⟨1, 1⟩
def args0 : Array Value := #[.int 5, .int 7, .int (-3)]
def aboutOver (below : List Frame) : State where
  vm := { classes := classes, interned := interned.toArray }
  heap := heap
  slotsUsed := slotsUsed
  threads := #[{ frames := .invoking theMethod args0 :: below }]
def below0 : List Frame := [.native { method := ⟨0, 0⟩, args := #[] }]
def about1 : State := aboutOver below0
def p0 : Program := .bare "" "" ""
def e0 : Env := launch0.env 0 0 0
theorem w_frames : about1.frames = Frame.invoking theMethod args0 :: below0 := rfl
set_option maxRecDepth 65536 in
theorem w_args : argsFit about1.vm theMethod args0 = true := by decide +kernel
set_option maxRecDepth 65536 in
theorem w_heap : heapFits about1 = true := by decide +kernel
set_option maxRecDepth 65536 in
theorem w_runnable : about1.curStatus? = some .runnable := by decide +kernel
set_option maxRecDepth 65536 in
theorem w_alone : about1.alone = true := by decide +kernel
set_option maxRecDepth 65536 in
theorem w_named : about1.methodNamed? x = some theMethod := by decide +kernel
set_option maxRecDepth 65536 in
theorem w_hears : about1.hears theMethod below0 = true := by decide +kernel
set_option maxRecDepth 65536 in
theorem w_ripe : about1.ripe theMethod args0 below0 = true := by decide +kernel
theorem w_running : about1.status = .running := rfl
set_option maxRecDepth 65536 in
theorem w_room : about1.hasRoom e0.platform room_1 = true :=
  launch0.hasRoom_least _ room_1 (by decide +kernel) (by decide +kernel) (by decide +kernel) (by decide +kernel) (by decide +kernel) (by decide +kernel)
theorem allAtoms_all (ts : List Jvm.Cond) (a : Array Jvm.Value) (st : Jvm.State) : (allAtoms ts).before a st = ts.all (fun c => c.before a st) := by
  induction ts with
  | nil => rfl
  | cons c t ih =>
    show (Jvm.Cond.and c (allAtoms t)).before a st = _
    rw [Jvm.Cond.before_and, ih, List.all_cons]
def words1 : List Jvm.Cond := Jvm.Cond.code x code maxLocals ret :: tables_1
/-- a 'code' word, met by the world's own term for the bytes: nothing is compared byte by byte -/
theorem code_word {y : MethodName} {bytes : ByteArray} {mx : Nat} {rt : Option FieldType} {a : Array Value} {s : State} {m : MethodId} {meth : Method} {c : Code} (h1 : s.methodNamed? y = some m) (h2 : s.vm.method? m = some meth) (h3 : meth.code = some c) (h4 : c.code = bytes)
    (h5 : (c.maxLocals == mx && c.exceptionTable.isEmpty && decide (c.maxStack ≤ mostOperands) && decide (meth.sig.returnType = rt) && !meth.locks && decide (parseMethodDescriptor y.desc = some meth.sig)) = true) : (Jvm.Cond.code y bytes mx rt).before a s = true := by
  simp only [Bool.and_eq_true, beq_iff_eq, Bool.not_eq_true', decide_eq_true_eq] at h5
  obtain ⟨⟨⟨⟨⟨g1, g2⟩, g3⟩, g4⟩, g5⟩, g6⟩ := h5
  simp [Cond.before, Cond.holds, Cond.value, h1, h2, h3, h4, g1, g2, g3, g4, g5, g6]
def isCode : Jvm.Cond → Bool
  | .code _ _ _ _ => true
  | _ => false
theorem all_split {L : List Jvm.Cond} {P : Jvm.Cond → Bool} (h1 : L.all (fun c => isCode c || P c) = true) (h2 : ∀ c ∈ L.filter isCode, P c = true) : L.all P = true := by
  refine List.all_eq_true.mpr fun c hc => ?_
  have h := List.all_eq_true.mp h1 c hc
  rcases Bool.eq_false_or_eq_true (isCode c) with hi | hi
  · exact h2 c (List.mem_filter.mpr ⟨hc, hi⟩)
  · simpa [hi] using h
set_option maxRecDepth 65536 in
theorem w_c0 : (Jvm.Cond.code x code maxLocals ret).before args0 about1 = true := code_word (m := ⟨1, 1⟩) (meth := k1m1) (c := k1c1) (by decide +kernel) rfl rfl rfl (by decide +kernel)
set_option maxRecDepth 65536 in
theorem w_c1 : (Jvm.Cond.code ({ cls := "com/example/fuller_query/fullerquery/eval/Comparison", name := "<init>", desc := "(III)V" } : Jvm.MethodName) prog_9_method_1_code (4 : Nat) (Option.none : Option Jvm.ClassFile.FieldType)).before args0 about1 = true := code_word (m := ⟨3, 0⟩) (meth := k3m0) (c := k3c0) (by decide +kernel) rfl rfl rfl (by decide +kernel)
set_option maxRecDepth 65536 in
theorem w_c2 : (Jvm.Cond.code ({ cls := "java/lang/Record", name := "<init>", desc := "()V" } : Jvm.MethodName) jdk_30_method_1_code (1 : Nat) (Option.none : Option Jvm.ClassFile.FieldType)).before args0 about1 = true := code_word (m := ⟨2, 0⟩) (meth := k2m0) (c := k2c0) (by decide +kernel) rfl rfl rfl (by decide +kernel)
set_option maxRecDepth 65536 in
theorem w_c3 : (Jvm.Cond.code ({ cls := "java/lang/Object", name := "<init>", desc := "()V" } : Jvm.MethodName) object_method_1_code (1 : Nat) (Option.none : Option Jvm.ClassFile.FieldType)).before args0 about1 = true := code_word (m := ⟨0, 0⟩) (meth := k0m0) (c := k0c0) (by decide +kernel) rfl rfl rfl (by decide +kernel)
set_option maxRecDepth 65536 in
theorem w_c4 : (Jvm.Cond.code ({ cls := "com/example/fuller_query/fullerquery/eval/Comparison", name := "queries", desc := "()I" } : Jvm.MethodName) prog_9_method_3_code (1 : Nat) (Option.some Jvm.ClassFile.FieldType.int)).before args0 about1 = true := code_word (m := ⟨3, 1⟩) (meth := k3m1) (c := k3c1) (by decide +kernel) rfl rfl rfl (by decide +kernel)
def codes1 : List Jvm.Cond := [Jvm.Cond.code x code maxLocals ret, Jvm.Cond.code ({ cls := "com/example/fuller_query/fullerquery/eval/Comparison", name := "<init>", desc := "(III)V" } : Jvm.MethodName) prog_9_method_1_code (4 : Nat) (Option.none : Option Jvm.ClassFile.FieldType), Jvm.Cond.code ({ cls := "java/lang/Record", name := "<init>", desc := "()V" } : Jvm.MethodName) jdk_30_method_1_code (1 : Nat) (Option.none : Option Jvm.ClassFile.FieldType), Jvm.Cond.code ({ cls := "java/lang/Object", name := "<init>", desc := "()V" } : Jvm.MethodName) object_method_1_code (1 : Nat) (Option.none : Option Jvm.ClassFile.FieldType), Jvm.Cond.code ({ cls := "com/example/fuller_query/fullerquery/eval/Comparison", name := "queries", desc := "()I" } : Jvm.MethodName) prog_9_method_3_code (1 : Nat) (Option.some Jvm.ClassFile.FieldType.int)]
set_option maxRecDepth 65536 in
theorem codes_eq : words1.filter isCode = codes1 := rfl
theorem w_codes : ∀ c ∈ words1.filter isCode, c.before args0 about1 = true := by
  rw [codes_eq]
  intro c hc
  simp only [codes1, List.mem_cons, List.not_mem_nil, or_false] at hc
  rcases hc with rfl | rfl | rfl | rfl | rfl
  · exact w_c0
  · exact w_c1
  · exact w_c2
  · exact w_c3
  · exact w_c4
set_option maxRecDepth 65536 in
theorem w_t1 : (words1.take 24).all (fun c => isCode c || c.before args0 about1) = true := by decide +kernel
set_option maxRecDepth 65536 in
theorem w_t2 : (words1.drop 24).all (fun c => isCode c || c.before args0 about1) = true := by decide +kernel
theorem w_tables : (allAtoms (Jvm.Cond.code x code maxLocals ret :: tables_1)).before args0 about1 = true := by
  rw [allAtoms_all]
  show words1.all (fun c => c.before args0 about1) = true
  refine all_split ?_ w_codes
  rw [← List.take_append_drop 24 words1, List.all_append, w_t1, w_t2]
  rfl
set_option maxRecDepth 65536 in
theorem w_case : (Jvm.Cond.and given_1 narrow_1).before args0 about1 = true := by decide +kernel
theorem w_applies : (headSpec (Jvm.Cond.code x code maxLocals ret :: tables_1) room_1).applies x e0.platform about1 = true :=
  (Spec.applies_iff w_frames).mpr ⟨w_running, w_runnable, w_alone, w_named, w_hears, w_ripe, w_room, w_tables⟩
theorem atStart : AtStart classFile x code maxLocals ret World_1 tables_1 room_1 Calls_1 rest_1 Pre_1 launch0 p0 e0 about1 theMethod args0 below0 :=
  ⟨lists_1, trivial, launch0.admits_env _ _ _, launch0.least_env, fairChoices_fair.cas, fairChoices_fair.clock, w_frames, w_args, w_heap, w_applies, trivial, trivial, w_case⟩
end start1
theorem witness_1 : WitnessClaimed_1 := ⟨start1.p0, start1.e0, start1.about1, start1.theMethod, start1.args0, start1.below0, start1.atStart⟩
end Jvm.Pilot.@@N@@
