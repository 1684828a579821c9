import JvmDerived
import JvmDerived.Pilot.@@N@@Statement
import JvmDerived.Pilot.@@N@@Code
set_option linter.unusedVariables false
set_option linter.unusedSimpArgs false
namespace Jvm.Pilot.@@N@@
open Jvm Jvm.ClassFile Sem Op Lib Jvm.Free Jvm.Stand Jvm.LawKit Jvm.RoadKit Bundle Jvm.Pilot.@@N@@.Jvm.D
section Own
variable {p : Program} {l : Launch} {e : Env} {R : Room} {s : State} {m : MethodId} {args : Array Value} {below : List Frame} {meth : Method} {c : Code} {T : State} {locs : List Loc} {cells slots : Nat}
/-- the walk from the state t ends as the contract Q says; End: the narrow frame or the wide one -/
def Go (End : State → Outcome → State → List Loc → Nat → Nat → Prop) (p : Program) (e : Env) (below : List Frame) (s : State) (rc rs : Nat) (Q : Option Value → Heap → List Loc → Prop) (t : State) : Prop :=
  ∃ s₂ o, Steps p.tables e below t s₂ ∧ s₂.status = .running ∧ Ended s₂ below o ∧ ∃ v L, o = .returned v ∧ Q v s₂.heap L ∧ End s o s₂ L rc rs
variable {End : State → Outcome → State → List Loc → Nat → Nat → Prop}
theorem go {rc rs : Nat} {Q : Option Value → Heap → List Loc → Prop} {t t' : State} (k : ∀ target, Steps p.tables e below t' target → Steps p.tables e below t target) (h : Go End p e below s rc rs Q t') : Go End p e below s rc rs Q t := by
  obtain ⟨s₂, o, h1, h2⟩ := h
  exact ⟨s₂, o, k _ h1, h2⟩
theorem goT {rc rs : Nat} {Q : Option Value → Heap → List Loc → Prop} {t t' : State} (k : Steps p.tables e below t t') (h : Go End p e below s rc rs Q t') : Go End p e below s rc rs Q t := by
  obtain ⟨s₂, o, h1, h2⟩ := h
  exact ⟨s₂, o, k.trans h1, h2⟩
theorem goRet {rc rs : Nat} {Q : Option Value → Heap → List Loc → Prop} (X : Stand p l e R s m args below meth c T locs cells slots) (hx : p.tables.exec = Jvm.exec) (hlk : meth.locks = false) {pc : Nat} {Ls : Array Slot} {w : Value} {t : FieldType} {i : Instr} {rest : List Value} (hret : meth.sig.returnType = some t) (hn : narrow t w = w)
    (hi : (i = .ireturn ∧ (t = .int ∨ t = .boolean ∨ t = .byte ∨ t = .char ∨ t = .short) ∧ ∃ z, w = .int z) ∨ (i = .lreturn ∧ t = .long ∧ ∃ z, w = .long z) ∨ (i = .dreturn ∧ t = .double ∧ ∃ z, w = .double z) ∨ (i = .freturn ∧ t = .float ∧ ∃ z, w = .float z) ∨ (i = .areturn ∧ t.isReference = true ∧ w.isRef = true))
    (hd : decode c.code pc = .ok (i, 1)) (hc : cells ≤ rc) (hs : slots ≤ rs) (hq : Q (some w) T.heap locs) : Go FrameEnd p e below s rc rs Q (T.setTop (mkF m pc Ls (w :: rest))) := by
  obtain ⟨fs, hr, hrun, hended, hW, hsame⟩ := X.leave (v := some w) (fun h => by rw [hret] at h; cases h) hlk
  refine ⟨_, _, retOut X hx hret hn hi hd hr, hrun, hended, _, _, rfl, ?_, ⟨_, rfl⟩, hW, hsame.mono hc hs⟩
  show Q _ T.heap _
  exact hq
theorem goRet0 {rc rs : Nat} {Q : Option Value → Heap → List Loc → Prop} (X : Stand p l e R s m args below meth c T locs cells slots) (hx : p.tables.exec = Jvm.exec) (hlk : meth.locks = false) {pc : Nat} {Ls : Array Slot} (hret : meth.sig.returnType = none)
    (hd : decode c.code pc = .ok (.return_, 1)) (hc : cells ≤ rc) (hs : slots ≤ rs) (hq : Q none T.heap locs) : Go FrameEnd p e below s rc rs Q (T.setTop (mkF m pc Ls [])) := by
  obtain ⟨fs, hr, hrun, hended, hW, hsame⟩ := X.leave (v := none) (fun _ => rfl) hlk
  refine ⟨_, _, X.returnOut hx hret hd hr, hrun, hended, _, _, rfl, ?_, ⟨_, rfl⟩, hW, hsame.mono hc hs⟩
  show Q _ T.heap _
  exact hq
end Own
theorem d1_0 : decode prog_13_method_1_code 0 = .ok (.aload_n 0, 1) := by decide +kernel
theorem d1_1 : decode prog_13_method_1_code 1 = .ok (.invokespecial 1, 3) := by decide +kernel
theorem d1_4 : decode prog_13_method_1_code 4 = .ok (.aload_n 0, 1) := by decide +kernel
theorem d1_5 : decode prog_13_method_1_code 5 = .ok (.iload_n 1, 1) := by decide +kernel
theorem d1_6 : decode prog_13_method_1_code 6 = .ok (.putfield 7, 3) := by decide +kernel
theorem d1_9 : decode prog_13_method_1_code 9 = .ok (.aload_n 0, 1) := by decide +kernel
theorem d1_10 : decode prog_13_method_1_code 10 = .ok (.iload_n 2, 1) := by decide +kernel
theorem d1_11 : decode prog_13_method_1_code 11 = .ok (.putfield 13, 3) := by decide +kernel
theorem d1_14 : decode prog_13_method_1_code 14 = .ok (.aload_n 0, 1) := by decide +kernel
theorem d1_15 : decode prog_13_method_1_code 15 = .ok (.aload_n 3, 1) := by decide +kernel
theorem d1_16 : decode prog_13_method_1_code 16 = .ok (.invokevirtual 16, 3) := by decide +kernel
theorem d1_19 : decode prog_13_method_1_code 19 = .ok (.checkcast 17, 3) := by decide +kernel
theorem d1_22 : decode prog_13_method_1_code 22 = .ok (.putfield 22, 3) := by decide +kernel
theorem d1_25 : decode prog_13_method_1_code 25 = .ok (.return_, 1) := by decide +kernel
theorem pn_1 : plainName "com/example/raccordo/raccordo/flow/Competence" = true := by first | (simp [plainName, overriddenIn]; done) | decide +kernel
theorem ef_1 (m : MethodId) (a1 : Addr) (p2 : Int32) (p3 : Int32) (a4 : Addr) : entryFrame m #[(.ref a1), (.int p2), (.int p3), (.ref a4)] 4 = mkF m 0 #[.val (.ref a1), .val (.int p2), .val (.int p3), .val (.ref a4)] [] := by first | (simp [entryFrame, mkF, argsToLocals, Value.category]; done) | rfl
def Q1 (Z : State) (a1 : Addr) (p2 : Int32) (p3 : Int32) (a4 : Addr) (u1 : Value) (u2 : Value) (u3 : Value) (k4 : ClassId) (v4 : Value) (d4 : Value) (h0 : Heap) (n0 : Nat) (v : Option Value) (h : Heap) (L : List Loc) : Prop := v = none ∧ Fr n0 L ∧ (Keep h0 h [a1]) ∧ (Fld Z h a1 "com/example/raccordo/raccordo/flow/Competence" "yearIndex" "I" (.int p2)) ∧ (Fld Z h a1 "com/example/raccordo/raccordo/flow/Competence" "monthIndex" "I" (.int p3))
set_option maxRecDepth 65536 in
set_option maxHeartbeats 40000000 in
theorem rm1 (l : Launch) (Z : State) (a0 : Array Value) (hw : ∀ d ∈ tables_1, d.before a0 Z = true) (ws : List Jvm.Cond) (a1 : Addr) (p2 : Int32) (p3 : Int32) (a4 : Addr) (u1 : Value) (u2 : Value) (u3 : Value) (k4 : ClassId) (v4 : Value) (d4 : Value) (h0 : Heap) (n0 : Nat) (Z0 : n0 ≤ h0.size) (P0 : Exa Z h0 a1 "com/example/raccordo/raccordo/flow/Competence") (P1 : Fld Z h0 a1 "com/example/raccordo/raccordo/flow/Competence" "yearIndex" "I" u1) (P2 : Fld Z h0 a1 "com/example/raccordo/raccordo/flow/Competence" "monthIndex" "I" u2) (P3 : Fld Z h0 a1 "com/example/raccordo/raccordo/flow/Competence" "requires" "[I" u3) (P4 : n0 ≤ a1) (P5 : Exa Z h0 a4 "[I") (P6 : Arv Z h0 a4 k4 .int (1 : Int32) [v4] d4) (P7 : a1 ≠ a4) :
    MetFree l (⟨"com/example/raccordo/raccordo/flow/Competence", "<init>", "(II[I)V"⟩ : MethodName) (head1 (Jvm.Cond.code (⟨"com/example/raccordo/raccordo/flow/Competence", "<init>", "(II[I)V"⟩ : MethodName) prog_13_method_1_code 4 none :: ws) ({ frames := 1, cells := 1, slots := 1, locals := 15 } : Room)) (fun a U => a = #[(.ref a1), (.int p2), (.int p3), (.ref a4)] ∧ Z.Warmed39 U.vm ∧ U.heap = h0) (fun _ _ _ _ _ => True) (fun _ U o U' => ∃ v L, o = .returned v ∧ Q1 Z a1 p2 p3 a4 u1 u2 u3 k4 v4 d4 h0 n0 v U'.heap L ∧ FrameEnd U o U' L ({ frames := 1, cells := 1, slots := 1, locals := 15 } : Room).cells ({ frames := 1, cells := 1, slots := 1, locals := 15 } : Room).slots) := by
  refine MetFree.of_bodySF (plainFor_of_name pn_1) hisR ?_
  intro p e s m args below meth c s₁ Bd hml0 hP hK
  obtain ⟨rfl, hZ, hh⟩ := hP
  have hx := Bd.exec
  have hby := Bd.bytes
  have hml : c.maxLocals = 4 := hml0
  have hown : s.vm.findClass "com/example/raccordo/raccordo/flow/Competence" = some m.cls := findClass_of_methodNamed Bd.named
  have hnm := (name_of_methodNamed Bd.named Bd.method).1
  have X0 : Stand p l e ({ frames := 1, cells := 1, slots := 1, locals := 15 } : Room) s m #[(.ref a1), (.int p2), (.int p3), (.ref a4)] below meth c s₁ [] 0 0 := Stand.of_body Bd
  have e0 : s₁.heap = h0 := by rw [← hh, Bd.state]; rfl
  have N0 := Fr.nil n0
  have hS0 : s.Since s.vm 0 := (State.WarmedH.refl s).since 0
  show Go FrameEnd p e below s ({ frames := 1, cells := 1, slots := 1, locals := 15 } : Room).cells ({ frames := 1, cells := 1, slots := 1, locals := 15 } : Room).slots (Q1 Z a1 p2 p3 a4 u1 u2 u3 k4 v4 d4 h0 n0) (s₁.setTop (entryFrame m #[(.ref a1), (.int p2), (.int p3), (.ref a4)] 4))
  refine go (fun _ k => castTop (ef_1 m a1 p2 p3 a4) k) ?_
  show Go _ p e below s _ _ _ (s₁.setTop (mkF m 0 #[.val (.ref a1), .val (.int p2), .val (.int p3), .val (.ref a4)] []))
  refine go (fun _ => XS.aloadN X0.here hx rfl (hb hby d1_0) rfl rfl) ?_
  show Go _ p e below s _ _ _ (s₁.setTop (mkF m 1 #[.val (.ref a1), .val (.int p2), .val (.int p3), .val (.ref a4)] [(.ref a1)]))
  obtain ⟨T7, X7, e7, st7⟩ := initO X0 hx hZ hown (hw _ (List.mem_of_getElem? (i := 7) rfl)) (hw _ (List.mem_of_getElem? (i := 8) rfl)) (hw _ (List.mem_of_getElem? (i := 9) rfl)) e0 (g := (mkF m 1 #[.val (.ref a1), .val (.int p2), .val (.int p3), .val (.ref a4)] [(.ref a1)])) rfl (by rw [hml]; rfl) rfl (hb hby d1_1) (by decide) (W := 0) (by show 2 * 0 + _ ≤ _; exact Nat.le_of_eq rfl) (by decide)
  refine go st7 ?_
  show Go _ p e below s _ _ _ (T7.setTop (mkF m 4 #[.val (.ref a1), .val (.int p2), .val (.int p3), .val (.ref a4)] []))
  refine go (fun _ => XS.aloadN X7.here hx rfl (hb hby d1_4) rfl rfl) ?_
  show Go _ p e below s _ _ _ (T7.setTop (mkF m 5 #[.val (.ref a1), .val (.int p2), .val (.int p3), .val (.ref a4)] [(.ref a1)]))
  refine go (fun _ => XS.iloadN X7.here hx rfl (hb hby d1_5) rfl) ?_
  show Go _ p e below s _ _ _ (T7.setTop (mkF m 6 #[.val (.ref a1), .val (.int p2), .val (.int p3), .val (.ref a4)] [(.int p2), (.ref a1)]))
  obtain ⟨T8, h8, X8, e8, W8, st8⟩ := putF X7 hx hZ hown (host := "") (Or.inl (hw _ (List.mem_of_getElem? (i := 10) rfl))) Via.refl e7 P1 P0 (Or.inr ⟨(hw _ (List.mem_of_getElem? (i := 11) rfl)), rfl, hnm⟩) (hw _ (List.mem_of_getElem? (i := 1) rfl)) (ty := .int) (by decide) rfl rfl (g := (mkF m 6 #[.val (.ref a1), .val (.int p2), .val (.int p3), .val (.ref a4)] [(.int p2), (.ref a1)])) rfl rfl (hb hby d1_6)
  have Fw8 := P1.same W8
  have c8_0 := P0.wr W8
  have c8_2 := P2.other W8 (Or.inr (slot_ne (Or.inr (hw _ (List.mem_of_getElem? (i := 13) rfl))) (Or.inr (hw _ (List.mem_of_getElem? (i := 11) rfl))) (by decide) (t := .int) (t' := .int) (by decide) (by decide)))
  have c8_3 := P3.other W8 (Or.inr (slot_ne (Or.inr (hw _ (List.mem_of_getElem? (i := 24) rfl))) (Or.inr (hw _ (List.mem_of_getElem? (i := 11) rfl))) (by decide) (t := (.array .int)) (t' := .int) (by decide) (by decide)))
  have c8_4 := P5.wr W8
  have c8_5 := P6.other W8 (Ne.symm P7)
  have KK8 : Keep h0 h8 [a1] := (Keep.refl h0 [a1]).wr W8 (Or.inl (List.mem_of_getElem? (i := 0) rfl))
  have ZN8 : n0 ≤ h8.size := Nat.le_trans Z0 (Keep.of_wr W8).1
  have NN8 := Fr.snoc X8 N0 P4
  refine go st8 ?_
  show Go _ p e below s _ _ _ (T8.setTop (mkF m 9 #[.val (.ref a1), .val (.int p2), .val (.int p3), .val (.ref a4)] []))
  refine go (fun _ => XS.aloadN X8.here hx rfl (hb hby d1_9) rfl rfl) ?_
  show Go _ p e below s _ _ _ (T8.setTop (mkF m 10 #[.val (.ref a1), .val (.int p2), .val (.int p3), .val (.ref a4)] [(.ref a1)]))
  refine go (fun _ => XS.iloadN X8.here hx rfl (hb hby d1_10) rfl) ?_
  show Go _ p e below s _ _ _ (T8.setTop (mkF m 11 #[.val (.ref a1), .val (.int p2), .val (.int p3), .val (.ref a4)] [(.int p3), (.ref a1)]))
  obtain ⟨T9, h9, X9, e9, W9, st9⟩ := putF X8 hx hZ hown (host := "") (Or.inl (hw _ (List.mem_of_getElem? (i := 12) rfl))) Via.refl e8 c8_2 c8_0 (Or.inr ⟨(hw _ (List.mem_of_getElem? (i := 13) rfl)), rfl, hnm⟩) (hw _ (List.mem_of_getElem? (i := 1) rfl)) (ty := .int) (by decide) rfl rfl (g := (mkF m 11 #[.val (.ref a1), .val (.int p2), .val (.int p3), .val (.ref a4)] [(.int p3), (.ref a1)])) rfl rfl (hb hby d1_11)
  have Fw9 := c8_2.same W9
  have c9_0 := c8_0.wr W9
  have c9_1 := Fw8.other W9 (Or.inr (slot_ne (Or.inr (hw _ (List.mem_of_getElem? (i := 11) rfl))) (Or.inr (hw _ (List.mem_of_getElem? (i := 13) rfl))) (by decide) (t := .int) (t' := .int) (by decide) (by decide)))
  have c9_3 := c8_3.other W9 (Or.inr (slot_ne (Or.inr (hw _ (List.mem_of_getElem? (i := 24) rfl))) (Or.inr (hw _ (List.mem_of_getElem? (i := 13) rfl))) (by decide) (t := (.array .int)) (t' := .int) (by decide) (by decide)))
  have c9_4 := c8_4.wr W9
  have c9_5 := c8_5.other W9 (Ne.symm P7)
  have KK9 : Keep h0 h9 [a1] := KK8.wr W9 (Or.inl (List.mem_of_getElem? (i := 0) rfl))
  have ZN9 : n0 ≤ h9.size := Nat.le_trans ZN8 (Keep.of_wr W9).1
  have NN9 := Fr.snoc X9 NN8 P4
  refine go st9 ?_
  show Go _ p e below s _ _ _ (T9.setTop (mkF m 14 #[.val (.ref a1), .val (.int p2), .val (.int p3), .val (.ref a4)] []))
  refine go (fun _ => XS.aloadN X9.here hx rfl (hb hby d1_14) rfl rfl) ?_
  show Go _ p e below s _ _ _ (T9.setTop (mkF m 15 #[.val (.ref a1), .val (.int p2), .val (.int p3), .val (.ref a4)] [(.ref a1)]))
  refine go (fun _ => XS.aloadN X9.here hx rfl (hb hby d1_15) rfl rfl) ?_
  show Go _ p e below s _ _ _ (T9.setTop (mkF m 16 #[.val (.ref a1), .val (.int p2), .val (.int p3), .val (.ref a4)] [(.ref a4), (.ref a1)]))
  obtain ⟨T10, h10, X10, e10, E10, A10, AE10, st10⟩ := cloneH X9 hx hZ (ad := "[I") hown (hw _ (List.mem_of_getElem? (i := 14) rfl)) (hw _ (List.mem_of_getElem? (i := 15) rfl)) (hw _ (List.mem_of_getElem? (i := 19) rfl)) (hw _ (List.mem_of_getElem? (i := 17) rfl)) (hw _ (List.mem_of_getElem? (i := 18) rfl)) (hw _ (List.mem_of_getElem? (i := 20) rfl)) e9 c9_5.arh c9_4 (g := (mkF m 16 #[.val (.ref a1), .val (.int p2), .val (.int p3), .val (.ref a4)] [(.ref a4), (.ref a1)])) rfl (by rw [hml]; rfl) rfl (hb hby d1_16) (by decide) (W := 1) (cap := 1) (by show 2 * 0 + _ ≤ _; exact Nat.le_of_eq rfl) (by decide) (by decide) (by decide) (by decide)
  obtain ⟨b10, g10⟩ : ∃ z, z = h9.size := ⟨_, rfl⟩
  rw [← g10] at A10 AE10 st10
  have lt10_a1_b10 : a1 < b10 := Nat.lt_of_lt_of_le c9_0.lt (Nat.le_of_eq g10.symm)
  have lt10_a4_b10 : a4 < b10 := Nat.lt_of_lt_of_le c9_4.lt (Nat.le_of_eq g10.symm)
  have G_b10 : n0 ≤ b10 := Nat.le_trans ZN9 (Nat.le_of_eq g10.symm)
  have SZ_b10 : h0.size ≤ b10 := Nat.le_trans KK9.1 (Nat.le_of_eq g10.symm)
  have c10_0 := c9_0.ext E10
  have c10_1 := c9_1.ext E10
  have c10_2 := Fw9.ext E10
  have c10_3 := c9_3.ext E10
  have c10_4 := c9_4.ext E10
  have c10_5 := c9_5.ext E10
  have KK10 : Keep h0 h10 [a1] := KK9.ext E10
  have ZN10 : n0 ≤ h10.size := Nat.le_trans ZN9 E10.1
  refine go st10 ?_
  show Go _ p e below s _ _ _ (T10.setTop (mkF m 19 #[.val (.ref a1), .val (.int p2), .val (.int p3), .val (.ref a4)] [(.ref b10), (.ref a1)]))
  obtain ⟨T11, X11, e11, st11⟩ := castY X10 hx hZ hown (hw _ (List.mem_of_getElem? (i := 21) rfl)) e10 (Ins.self AE10) (g := (mkF m 19 #[.val (.ref a1), .val (.int p2), .val (.int p3), .val (.ref a4)] [(.ref b10), (.ref a1)])) rfl rfl (hb hby d1_19)
  refine go st11 ?_
  show Go _ p e below s _ _ _ (T11.setTop (mkF m 22 #[.val (.ref a1), .val (.int p2), .val (.int p3), .val (.ref a4)] [(.ref b10), (.ref a1)]))
  obtain ⟨T12, h12, X12, e12, W12, st12⟩ := putF X11 hx hZ hown (host := "") (Or.inl (hw _ (List.mem_of_getElem? (i := 23) rfl))) Via.refl e11 c10_3 c10_0 (Or.inr ⟨(hw _ (List.mem_of_getElem? (i := 24) rfl)), rfl, hnm⟩) (hw _ (List.mem_of_getElem? (i := 1) rfl)) (ty := (.array .int)) (by decide) rfl rfl (g := (mkF m 22 #[.val (.ref a1), .val (.int p2), .val (.int p3), .val (.ref a4)] [(.ref b10), (.ref a1)])) rfl rfl (hb hby d1_22)
  have Fw12 := c10_3.same W12
  have c12_0 := c10_0.wr W12
  have c12_1 := c10_1.other W12 (Or.inr (slot_ne (Or.inr (hw _ (List.mem_of_getElem? (i := 11) rfl))) (Or.inr (hw _ (List.mem_of_getElem? (i := 24) rfl))) (by decide) (t := .int) (t' := (.array .int)) (by decide) (by decide)))
  have c12_2 := c10_2.other W12 (Or.inr (slot_ne (Or.inr (hw _ (List.mem_of_getElem? (i := 13) rfl))) (Or.inr (hw _ (List.mem_of_getElem? (i := 24) rfl))) (by decide) (t := .int) (t' := (.array .int)) (by decide) (by decide)))
  have c12_4 := c10_4.wr W12
  have c12_5 := c10_5.other W12 (Ne.symm P7)
  have c12_6 := AE10.wr W12
  have KK12 : Keep h0 h12 [a1] := KK10.wr W12 (Or.inl (List.mem_of_getElem? (i := 0) rfl))
  have ZN12 : n0 ≤ h12.size := Nat.le_trans ZN10 (Keep.of_wr W12).1
  have NN12 := Fr.snoc X12 NN9 P4
  refine go st12 ?_
  show Go _ p e below s _ _ _ (T12.setTop (mkF m 25 #[.val (.ref a1), .val (.int p2), .val (.int p3), .val (.ref a4)] []))
  refine goRet0 X12 hx Bd.notSynchronized Bd.returns (hb hby d1_25) (by decide) (by decide) (by rw [e12]; refine ⟨rfl, NN12, KK12, c12_1, c12_2⟩)
theorem d3_0 : decode prog_13_method_3_code 0 = .ok (.iconst 2, 1) := by decide +kernel
theorem d3_1 : decode prog_13_method_3_code 1 = .ok (.newarray .int, 2) := by decide +kernel
theorem d3_3 : decode prog_13_method_3_code 3 = .ok (.dup, 1) := by decide +kernel
theorem d3_4 : decode prog_13_method_3_code 4 = .ok (.iconst 0, 1) := by decide +kernel
theorem d3_5 : decode prog_13_method_3_code 5 = .ok (.aload_n 0, 1) := by decide +kernel
theorem d3_6 : decode prog_13_method_3_code 6 = .ok (.getfield 7, 3) := by decide +kernel
theorem d3_9 : decode prog_13_method_3_code 9 = .ok (.iastore, 1) := by decide +kernel
theorem d3_10 : decode prog_13_method_3_code 10 = .ok (.dup, 1) := by decide +kernel
theorem d3_11 : decode prog_13_method_3_code 11 = .ok (.iconst 1, 1) := by decide +kernel
theorem d3_12 : decode prog_13_method_3_code 12 = .ok (.aload_n 0, 1) := by decide +kernel
theorem d3_13 : decode prog_13_method_3_code 13 = .ok (.getfield 13, 3) := by decide +kernel
theorem d3_16 : decode prog_13_method_3_code 16 = .ok (.iastore, 1) := by decide +kernel
theorem d3_17 : decode prog_13_method_3_code 17 = .ok (.areturn, 1) := by decide +kernel
theorem pn_3 : plainName "com/example/raccordo/raccordo/flow/Competence" = true := by first | (simp [plainName, overriddenIn]; done) | decide +kernel
theorem ef_3 (m : MethodId) (a1 : Addr) : entryFrame m #[(.ref a1)] 1 = mkF m 0 #[.val (.ref a1)] [] := by first | (simp [entryFrame, mkF, argsToLocals, Value.category]; done) | rfl
def Q3 (Z : State) (a1 : Addr) (w1 : Int32) (w2 : Int32) (h0 : Heap) (n0 : Nat) (v : Option Value) (h : Heap) (L : List Loc) : Prop := ∃ (b : Addr), ∃ (k : ClassId), v = some (.ref b) ∧ Fr n0 L ∧ (h0.size ≤ b) ∧ (n0 ≤ b) ∧ (Keep h0 h []) ∧ (Arv Z h b k .int (2 : Int32) [(.int w1), (.int w2)] (.int (0 : Int32)))
set_option maxRecDepth 65536 in
set_option maxHeartbeats 40000000 in
theorem rm3 (l : Launch) (Z : State) (a0 : Array Value) (hw : ∀ d ∈ tables_1, d.before a0 Z = true) (ws : List Jvm.Cond) (a1 : Addr) (w1 : Int32) (w2 : Int32) (h0 : Heap) (n0 : Nat) (Z0 : n0 ≤ h0.size) (P0 : Fld Z h0 a1 "com/example/raccordo/raccordo/flow/Competence" "yearIndex" "I" (.int w1)) (P1 : Fld Z h0 a1 "com/example/raccordo/raccordo/flow/Competence" "monthIndex" "I" (.int w2)) :
    MetFree l (⟨"com/example/raccordo/raccordo/flow/Competence", "fields", "()[I"⟩ : MethodName) (head1 (Jvm.Cond.code (⟨"com/example/raccordo/raccordo/flow/Competence", "fields", "()[I"⟩ : MethodName) prog_13_method_3_code 1 (some (.array .int)) :: ws) ({ frames := 0, cells := 1, slots := 2, locals := 0 } : Room)) (fun a U => a = #[(.ref a1)] ∧ Z.Warmed39 U.vm ∧ U.heap = h0) (fun _ _ _ _ _ => True) (fun _ U o U' => ∃ v L, o = .returned v ∧ Q3 Z a1 w1 w2 h0 n0 v U'.heap L ∧ FrameEnd U o U' L ({ frames := 0, cells := 1, slots := 2, locals := 0 } : Room).cells ({ frames := 0, cells := 1, slots := 2, locals := 0 } : Room).slots) := by
  refine MetFree.of_bodySF (plainFor_of_name pn_3) hisR ?_
  intro p e s m args below meth c s₁ Bd hml0 hP hK
  obtain ⟨rfl, hZ, hh⟩ := hP
  have hx := Bd.exec
  have hby := Bd.bytes
  have hml : c.maxLocals = 1 := hml0
  have hown : s.vm.findClass "com/example/raccordo/raccordo/flow/Competence" = some m.cls := findClass_of_methodNamed Bd.named
  have hnm := (name_of_methodNamed Bd.named Bd.method).1
  have X0 : Stand p l e ({ frames := 0, cells := 1, slots := 2, locals := 0 } : Room) s m #[(.ref a1)] below meth c s₁ [] 0 0 := Stand.of_body Bd
  have e0 : s₁.heap = h0 := by rw [← hh, Bd.state]; rfl
  have N0 := Fr.nil n0
  have hS0 : s.Since s.vm 0 := (State.WarmedH.refl s).since 0
  show Go FrameEnd p e below s ({ frames := 0, cells := 1, slots := 2, locals := 0 } : Room).cells ({ frames := 0, cells := 1, slots := 2, locals := 0 } : Room).slots (Q3 Z a1 w1 w2 h0 n0) (s₁.setTop (entryFrame m #[(.ref a1)] 1))
  refine go (fun _ k => castTop (ef_3 m a1) k) ?_
  show Go _ p e below s _ _ _ (s₁.setTop (mkF m 0 #[.val (.ref a1)] []))
  refine go (fun _ => XS.iconst X0.here hx rfl (hb hby d3_0)) ?_
  show Go _ p e below s _ _ _ (s₁.setTop (mkF m 1 #[.val (.ref a1)] [(.int (2 : Int32))]))
  obtain ⟨T18, h18, k18, X18, e18, E18, A18, AE18, st18⟩ := newPE X0 hx hZ (hw _ (List.mem_of_getElem? (i := 3) rfl)) e0 (g := (mkF m 1 #[.val (.ref a1)] [(.int (2 : Int32))])) rfl (hb hby d3_1) rfl (by decide) (cap := 2) (by decide) (by decide) (by decide) (by decide) (ad := "[I") (by first | rfl | decide)
  obtain ⟨b18, g18⟩ : ∃ z, z = h0.size := ⟨_, rfl⟩
  rw [← g18] at A18 AE18 st18
  have lt18_a1_b18 : a1 < b18 := Nat.lt_of_lt_of_le P0.lt (Nat.le_of_eq g18.symm)
  have G_b18 : n0 ≤ b18 := Nat.le_trans Z0 (Nat.le_of_eq g18.symm)
  have SZ_b18 : h0.size ≤ b18 := Nat.le_trans (Keep.refl h0 []).1 (Nat.le_of_eq g18.symm)
  have c18_0 := P0.ext E18
  have c18_1 := P1.ext E18
  have KK18 : Keep h0 h18 [] := (Keep.refl h0 []).ext E18
  have ZN18 : n0 ≤ h18.size := Nat.le_trans Z0 E18.1
  have V18 : Arv Z h18 b18 k18 .int (2 : Int32) [(.int (0 : Int32)), (.int (0 : Int32))] (.int (0 : Int32)) := (Arv.new A18 (by decide)).pad (pad_rep [] (.int (0 : Int32)) 2)
  refine go st18 ?_
  show Go _ p e below s _ _ _ (T18.setTop (mkF m 3 #[.val (.ref a1)] [(.ref b18)]))
  refine go (fun _ => XS.dup X18.here hx rfl (hb hby d3_3) rfl rfl) ?_
  show Go _ p e below s _ _ _ (T18.setTop (mkF m 4 #[.val (.ref a1)] [(.ref b18), (.ref b18)]))
  refine go (fun _ => XS.iconst X18.here hx rfl (hb hby d3_4)) ?_
  show Go _ p e below s _ _ _ (T18.setTop (mkF m 5 #[.val (.ref a1)] [(.int (0 : Int32)), (.ref b18), (.ref b18)]))
  refine go (fun _ => XS.aloadN X18.here hx rfl (hb hby d3_5) rfl rfl) ?_
  show Go _ p e below s _ _ _ (T18.setTop (mkF m 6 #[.val (.ref a1)] [(.ref a1), (.int (0 : Int32)), (.ref b18), (.ref b18)]))
  obtain ⟨T19, X19, e19, st19⟩ := getF X18 hx hZ hown (host := "") (Or.inl (hw _ (List.mem_of_getElem? (i := 10) rfl))) Via.refl e18 c18_0 (g := (mkF m 6 #[.val (.ref a1)] [(.ref a1), (.int (0 : Int32)), (.ref b18), (.ref b18)])) rfl rfl (hb hby d3_6)
  refine go st19 ?_
  show Go _ p e below s _ _ _ (T19.setTop (mkF m 9 #[.val (.ref a1)] [(.int w1), (.int (0 : Int32)), (.ref b18), (.ref b18)]))
  obtain ⟨cl20, Ar20, q20, Sz20, Nz20, Hs20, Gs20⟩ := id V18
  have hin20 : ¬ ((0 : Int32) < 0 ∨ cl20.slots.size ≤ ((0 : Int32)).toNatClampNeg) := inb_of Sz20 ⟨by decide, by decide⟩
  obtain ⟨T20, h20, X20, e20, W20, st20⟩ := stI X19 hx hZ e19 Ar20 (j := (0 : Int32)) hin20 (g := (mkF m 9 #[.val (.ref a1)] [(.int w1), (.int (0 : Int32)), (.ref b18), (.ref b18)])) rfl rfl (hb hby d3_9)
  have V20 := Arv.set Ar20 q20 Sz20 Nz20 Hs20 Gs20 rfl W20 0 rfl (Nat.le_of_ble_eq_true rfl)
  have VV20 : Arv Z h20 b18 k18 .int (2 : Int32) [(.int w1), (.int (0 : Int32))] (.int (0 : Int32)) := V20
  have c20_0 := c18_0.other W20 (Or.inl (Nat.ne_of_lt lt18_a1_b18))
  have c20_1 := c18_1.other W20 (Or.inl (Nat.ne_of_lt lt18_a1_b18))
  have c20_2 := AE18.wr W20
  have KK20 : Keep h0 h20 [] := KK18.wr W20 (Or.inr SZ_b18)
  have ZN20 : n0 ≤ h20.size := Nat.le_trans ZN18 (Keep.of_wr W20).1
  have NN20 := Fr.snoc X20 N0 G_b18
  refine go st20 ?_
  show Go _ p e below s _ _ _ (T20.setTop (mkF m 10 #[.val (.ref a1)] [(.ref b18)]))
  refine go (fun _ => XS.dup X20.here hx rfl (hb hby d3_10) rfl rfl) ?_
  show Go _ p e below s _ _ _ (T20.setTop (mkF m 11 #[.val (.ref a1)] [(.ref b18), (.ref b18)]))
  refine go (fun _ => XS.iconst X20.here hx rfl (hb hby d3_11)) ?_
  show Go _ p e below s _ _ _ (T20.setTop (mkF m 12 #[.val (.ref a1)] [(.int (1 : Int32)), (.ref b18), (.ref b18)]))
  refine go (fun _ => XS.aloadN X20.here hx rfl (hb hby d3_12) rfl rfl) ?_
  show Go _ p e below s _ _ _ (T20.setTop (mkF m 13 #[.val (.ref a1)] [(.ref a1), (.int (1 : Int32)), (.ref b18), (.ref b18)]))
  obtain ⟨T21, X21, e21, st21⟩ := getF X20 hx hZ hown (host := "") (Or.inl (hw _ (List.mem_of_getElem? (i := 12) rfl))) Via.refl e20 c20_1 (g := (mkF m 13 #[.val (.ref a1)] [(.ref a1), (.int (1 : Int32)), (.ref b18), (.ref b18)])) rfl rfl (hb hby d3_13)
  refine go st21 ?_
  show Go _ p e below s _ _ _ (T21.setTop (mkF m 16 #[.val (.ref a1)] [(.int w2), (.int (1 : Int32)), (.ref b18), (.ref b18)]))
  obtain ⟨cl22, Ar22, q22, Sz22, Nz22, Hs22, Gs22⟩ := id VV20
  have hin22 : ¬ ((1 : Int32) < 0 ∨ cl22.slots.size ≤ ((1 : Int32)).toNatClampNeg) := inb_of Sz22 ⟨by decide, by decide⟩
  obtain ⟨T22, h22, X22, e22, W22, st22⟩ := stI X21 hx hZ e21 Ar22 (j := (1 : Int32)) hin22 (g := (mkF m 16 #[.val (.ref a1)] [(.int w2), (.int (1 : Int32)), (.ref b18), (.ref b18)])) rfl rfl (hb hby d3_16)
  have V22 := Arv.set Ar22 q22 Sz22 Nz22 Hs22 Gs22 rfl W22 1 rfl (Nat.le_of_ble_eq_true rfl)
  have VV22 : Arv Z h22 b18 k18 .int (2 : Int32) [(.int w1), (.int w2)] (.int (0 : Int32)) := V22
  have c22_0 := c20_0.other W22 (Or.inl (Nat.ne_of_lt lt18_a1_b18))
  have c22_1 := c20_1.other W22 (Or.inl (Nat.ne_of_lt lt18_a1_b18))
  have c22_2 := c20_2.wr W22
  have KK22 : Keep h0 h22 [] := KK20.wr W22 (Or.inr SZ_b18)
  have ZN22 : n0 ≤ h22.size := Nat.le_trans ZN20 (Keep.of_wr W22).1
  have NN22 := Fr.snoc X22 NN20 G_b18
  refine go st22 ?_
  show Go _ p e below s _ _ _ (T22.setTop (mkF m 17 #[.val (.ref a1)] [(.ref b18)]))
  refine goRet X22 hx Bd.notSynchronized Bd.returns rfl (Or.inr (Or.inr (Or.inr (Or.inr ⟨rfl, rfl, rfl⟩)))) (hb hby d3_17) (by decide) (by decide) (by rw [e22]; refine ⟨b18, k18, rfl, NN22, SZ_b18, G_b18, KK22, VV22⟩)
theorem pn_0 : plainName "com/example/raccordo/raccordo/flow/CompetenceFieldsPinLaw" = true := by first | (simp [plainName, overriddenIn]; done) | decide +kernel
theorem pd_0_0 : parseMethodDescriptor "(II[I)V" = some ⟨[.int, .int, (.array .int)], none⟩ := by decide +kernel
theorem pd_0_1 : parseMethodDescriptor "()[I" = some ⟨[], some (.array .int)⟩ := by decide +kernel
theorem ef_0 (m : MethodId) (p1 : Int32) (p2 : Int32) (p3 : Int32) : entryFrame m #[(.int p1), (.int p2), (.int p3)] maxLocals = mkF m 0 #[.val (.int p1), .val (.int p2), .val (.int p3), .unset, .unset, .unset, .unset] [] := by first | (simp [entryFrame, mkF, argsToLocals, Value.category, maxLocals]; done) | rfl
def Q0 (Z : State) (p1 : Int32) (p2 : Int32) (p3 : Int32) (h0 : Heap) (n0 : Nat) (v : Option Value) (h : Heap) (L : List Loc) : Prop := v = some (.int (1 : Int32)) ∧ Fr n0 L
set_option maxRecDepth 65536 in
set_option maxHeartbeats 40000000 in
theorem rm0 (l : Launch) (Z : State) (a0 : Array Value) (hw : ∀ d ∈ tables_1, d.before a0 Z = true) (ws : List Jvm.Cond) (p1 : Int32) (p2 : Int32) (p3 : Int32) (h0 : Heap) (n0 : Nat) (Z0 : n0 ≤ h0.size)  :
    MetFree l x (head1 (Jvm.Cond.code x code maxLocals ret :: ws) room_1) (fun a U => a = #[(.int p1), (.int p2), (.int p3)] ∧ Z.Warmed39 U.vm ∧ U.heap = h0) (fun _ _ _ _ _ => True) (fun _ U o U' => ∃ v L, o = .returned v ∧ Q0 Z p1 p2 p3 h0 n0 v U'.heap L ∧ FrameEnd U o U' L room_1.cells room_1.slots) := by
  refine MetFree.of_bodySF (plainFor_of_name pn_0) hisR ?_
  intro p e s m args below meth c s₁ Bd hml0 hP hK
  obtain ⟨rfl, hZ, hh⟩ := hP
  have hx := Bd.exec
  have hby := Bd.bytes
  have hml : c.maxLocals = 7 := hml0
  have hown : s.vm.findClass "com/example/raccordo/raccordo/flow/CompetenceFieldsPinLaw" = some m.cls := findClass_of_methodNamed Bd.named
  have hnm := (name_of_methodNamed Bd.named Bd.method).1
  have X0 : Stand p l e room_1 s m #[(.int p1), (.int p2), (.int p3)] below meth c s₁ [] 0 0 := Stand.of_body Bd
  have e0 : s₁.heap = h0 := by rw [← hh, Bd.state]; rfl
  have N0 := Fr.nil n0
  have hS0 : s.Since s.vm 0 := (State.WarmedH.refl s).since 0
  show Go FrameEnd p e below s room_1.cells room_1.slots (Q0 Z p1 p2 p3 h0 n0) (s₁.setTop (entryFrame m #[(.int p1), (.int p2), (.int p3)] maxLocals))
  refine go (fun _ k => castTop (ef_0 m p1 p2 p3) k) ?_
  show Go _ p e below s _ _ _ (s₁.setTop (mkF m 0 #[.val (.int p1), .val (.int p2), .val (.int p3), .unset, .unset, .unset, .unset] []))
  obtain ⟨T23, h23, X23, e23, E23, A23, D23, -, st23⟩ := newO X0 hx hZ hown (hw _ (List.mem_of_getElem? (i := 0) rfl)) (hw _ (List.mem_of_getElem? (i := 1) rfl)) (hw _ (List.mem_of_getElem? (i := 2) rfl)) e0 (g := (mkF m 0 #[.val (.int p1), .val (.int p2), .val (.int p3), .unset, .unset, .unset, .unset] [])) rfl (hb hby at_0) (by decide) (by decide)
  obtain ⟨b23, g23⟩ : ∃ z, z = h0.size := ⟨_, rfl⟩
  rw [← g23] at A23 D23 st23
  have G_b23 : n0 ≤ b23 := Nat.le_trans Z0 (Nat.le_of_eq g23.symm)
  have SZ_b23 : h0.size ≤ b23 := Nat.le_trans (Keep.refl h0 []).1 (Nat.le_of_eq g23.symm)
  have KK23 : Keep h0 h23 [] := (Keep.refl h0 []).ext E23
  have ZN23 : n0 ≤ h23.size := Nat.le_trans Z0 E23.1
  have F23_11 : Fld Z h23 b23 "com/example/raccordo/raccordo/flow/Competence" "yearIndex" "I" (.int (0 : Int32)) := D23 (Or.inr (hw _ (List.mem_of_getElem? (i := 11) rfl))) (ty := .int) (by decide)
  have F23_13 : Fld Z h23 b23 "com/example/raccordo/raccordo/flow/Competence" "monthIndex" "I" (.int (0 : Int32)) := D23 (Or.inr (hw _ (List.mem_of_getElem? (i := 13) rfl))) (ty := .int) (by decide)
  have F23_24 : Fld Z h23 b23 "com/example/raccordo/raccordo/flow/Competence" "requires" "[I" .null := D23 (Or.inr (hw _ (List.mem_of_getElem? (i := 24) rfl))) (ty := (.array .int)) (by decide)
  refine go st23 ?_
  show Go _ p e below s _ _ _ (T23.setTop (mkF m 3 #[.val (.int p1), .val (.int p2), .val (.int p3), .unset, .unset, .unset, .unset] [(.ref b23)]))
  refine go (fun _ => XS.dup X23.here hx rfl (hb hby at_3) rfl rfl) ?_
  show Go _ p e below s _ _ _ (T23.setTop (mkF m 4 #[.val (.int p1), .val (.int p2), .val (.int p3), .unset, .unset, .unset, .unset] [(.ref b23), (.ref b23)]))
  refine go (fun _ => XS.iloadN X23.here hx rfl (hb hby at_4) rfl) ?_
  show Go _ p e below s _ _ _ (T23.setTop (mkF m 5 #[.val (.int p1), .val (.int p2), .val (.int p3), .unset, .unset, .unset, .unset] [(.int p1), (.ref b23), (.ref b23)]))
  refine go (fun _ => XS.iloadN X23.here hx rfl (hb hby at_5) rfl) ?_
  show Go _ p e below s _ _ _ (T23.setTop (mkF m 6 #[.val (.int p1), .val (.int p2), .val (.int p3), .unset, .unset, .unset, .unset] [(.int p2), (.int p1), (.ref b23), (.ref b23)]))
  refine go (fun _ => XS.iconst X23.here hx rfl (hb hby at_6)) ?_
  show Go _ p e below s _ _ _ (T23.setTop (mkF m 7 #[.val (.int p1), .val (.int p2), .val (.int p3), .unset, .unset, .unset, .unset] [(.int (1 : Int32)), (.int p2), (.int p1), (.ref b23), (.ref b23)]))
  obtain ⟨T24, h24, k24, X24, e24, E24, A24, AE24, st24⟩ := newPE X23 hx hZ (hw _ (List.mem_of_getElem? (i := 3) rfl)) e23 (g := (mkF m 7 #[.val (.int p1), .val (.int p2), .val (.int p3), .unset, .unset, .unset, .unset] [(.int (1 : Int32)), (.int p2), (.int p1), (.ref b23), (.ref b23)])) rfl (hb hby at_7) rfl (by decide) (cap := 1) (by decide) (by decide) (by decide) (by decide) (ad := "[I") (by first | rfl | decide)
  obtain ⟨b24, g24⟩ : ∃ z, z = h23.size := ⟨_, rfl⟩
  rw [← g24] at A24 AE24 st24
  have lt24_b23_b24 : b23 < b24 := Nat.lt_of_lt_of_le A23.lt (Nat.le_of_eq g24.symm)
  have G_b24 : n0 ≤ b24 := Nat.le_trans ZN23 (Nat.le_of_eq g24.symm)
  have SZ_b24 : h0.size ≤ b24 := Nat.le_trans KK23.1 (Nat.le_of_eq g24.symm)
  have c24_0 := A23.ext E24
  have c24_1 := F23_11.ext E24
  have c24_2 := F23_13.ext E24
  have c24_3 := F23_24.ext E24
  have KK24 : Keep h0 h24 [] := KK23.ext E24
  have ZN24 : n0 ≤ h24.size := Nat.le_trans ZN23 E24.1
  have V24 : Arv Z h24 b24 k24 .int (1 : Int32) [(.int (0 : Int32))] (.int (0 : Int32)) := (Arv.new A24 (by decide)).pad (pad_rep [] (.int (0 : Int32)) 1)
  refine go st24 ?_
  show Go _ p e below s _ _ _ (T24.setTop (mkF m 9 #[.val (.int p1), .val (.int p2), .val (.int p3), .unset, .unset, .unset, .unset] [(.ref b24), (.int p2), (.int p1), (.ref b23), (.ref b23)]))
  refine go (fun _ => XS.dup X24.here hx rfl (hb hby at_9) rfl rfl) ?_
  show Go _ p e below s _ _ _ (T24.setTop (mkF m 10 #[.val (.int p1), .val (.int p2), .val (.int p3), .unset, .unset, .unset, .unset] [(.ref b24), (.ref b24), (.int p2), (.int p1), (.ref b23), (.ref b23)]))
  refine go (fun _ => XS.iconst X24.here hx rfl (hb hby at_10)) ?_
  show Go _ p e below s _ _ _ (T24.setTop (mkF m 11 #[.val (.int p1), .val (.int p2), .val (.int p3), .unset, .unset, .unset, .unset] [(.int (0 : Int32)), (.ref b24), (.ref b24), (.int p2), (.int p1), (.ref b23), (.ref b23)]))
  refine go (fun _ => XS.iloadN X24.here hx rfl (hb hby at_11) rfl) ?_
  show Go _ p e below s _ _ _ (T24.setTop (mkF m 12 #[.val (.int p1), .val (.int p2), .val (.int p3), .unset, .unset, .unset, .unset] [(.int p3), (.int (0 : Int32)), (.ref b24), (.ref b24), (.int p2), (.int p1), (.ref b23), (.ref b23)]))
  obtain ⟨cl25, Ar25, q25, Sz25, Nz25, Hs25, Gs25⟩ := id V24
  have hin25 : ¬ ((0 : Int32) < 0 ∨ cl25.slots.size ≤ ((0 : Int32)).toNatClampNeg) := inb_of Sz25 ⟨by decide, by decide⟩
  obtain ⟨T25, h25, X25, e25, W25, st25⟩ := stI X24 hx hZ e24 Ar25 (j := (0 : Int32)) hin25 (g := (mkF m 12 #[.val (.int p1), .val (.int p2), .val (.int p3), .unset, .unset, .unset, .unset] [(.int p3), (.int (0 : Int32)), (.ref b24), (.ref b24), (.int p2), (.int p1), (.ref b23), (.ref b23)])) rfl rfl (hb hby at_12)
  have V25 := Arv.set Ar25 q25 Sz25 Nz25 Hs25 Gs25 rfl W25 0 rfl (Nat.le_of_ble_eq_true rfl)
  have VV25 : Arv Z h25 b24 k24 .int (1 : Int32) [(.int p3)] (.int (0 : Int32)) := V25
  have c25_0 := c24_0.wr W25
  have c25_1 := c24_1.other W25 (Or.inl (Nat.ne_of_lt lt24_b23_b24))
  have c25_2 := c24_2.other W25 (Or.inl (Nat.ne_of_lt lt24_b23_b24))
  have c25_3 := c24_3.other W25 (Or.inl (Nat.ne_of_lt lt24_b23_b24))
  have c25_4 := AE24.wr W25
  have KK25 : Keep h0 h25 [] := KK24.wr W25 (Or.inr SZ_b24)
  have ZN25 : n0 ≤ h25.size := Nat.le_trans ZN24 (Keep.of_wr W25).1
  have NN25 := Fr.snoc X25 N0 G_b24
  refine go st25 ?_
  show Go _ p e below s _ _ _ (T25.setTop (mkF m 13 #[.val (.int p1), .val (.int p2), .val (.int p3), .unset, .unset, .unset, .unset] [(.ref b24), (.int p2), (.int p1), (.ref b23), (.ref b23)]))
  obtain ⟨_, _, ⟨T26, L26, k26, n26⟩, -, X26, ⟨Lc26, hQ26, l26, y26, z26⟩, st26⟩ := X25.specialBack hx (y := (⟨"com/example/raccordo/raccordo/flow/Competence", "<init>", "(II[I)V"⟩ : MethodName)) rfl hown (mvT hZ (hw _ (List.mem_of_getElem? (i := 4) rfl))) (mvT hZ (hw _ (List.mem_of_getElem? (i := 5) rfl))) (mvT hZ (hw _ (List.mem_of_getElem? (i := 6) rfl))) (by decide) (backOf (W := 1) (rm1 l Z a0 hw [] b23 p1 p2 b24 (.int (0 : Int32)) (.int (0 : Int32)) .null k24 (.int p3) (.int (0 : Int32)) h25 n0 ZN25 c25_0 c25_1 c25_2 c25_3 G_b23 c25_4 VV25 (Nat.ne_of_lt lt24_b23_b24)) hZ (hw _ (List.mem_of_getElem? (i := 6) rfl)) (hw _ (List.mem_of_getElem? (i := 2) rfl)) (by decide) (by decide)) (g := (mkF m 13 #[.val (.int p1), .val (.int p2), .val (.int p3), .unset, .unset, .unset, .unset] [(.ref b24), (.int p2), (.int p1), (.ref b23), (.ref b23)])) rfl (by rw [hml]; rfl) (Steps.refl _) (a := b23) (argsL := [(.int p1), (.int p2), (.ref b24)]) (rest := [(.ref b23)]) (lenOf pd_0_0 rfl) rfl (by show 2 * 0 + _ ≤ _; exact Nat.le_of_eq rfl) (hb hby at_13) (fun _ _ => ⟨rfl, e25, (by decide : 2 + 1 ≤ _), (by decide : 4 + 1 ≤ _)⟩)
  dsimp only [Pt.U, Pt.locs, Pt.cells, Pt.slots] at X26 l26 y26 z26 st26 hQ26
  subst l26 y26 z26
  obtain ⟨rfl, N26q, K26, u26_1, u26_2⟩ := hQ26
  have N26 := Fr.app NN25 N26q
  have c26_0 := c25_0.keep K26
  have c26_1 := c25_4.keep K26
  have c26_2 := VV25.keep K26 (ninS (Ne.symm (Nat.ne_of_lt lt24_b23_b24)) nin0)
  have KK26 : Keep h0 T26.heap [] := KK25.trans K26 (allS (P := fun x => x ∈ [] ∨ h0.size ≤ x) (Or.inr SZ_b23) all0)
  have ZN26 : n0 ≤ T26.heap.size := Nat.le_trans ZN25 K26.1
  refine goT st26 ?_
  show Go _ p e below s _ _ _ (T26.setTop (mkF m 16 #[.val (.int p1), .val (.int p2), .val (.int p3), .unset, .unset, .unset, .unset] [(.ref b23)]))
  refine go (fun _ => XS.astoreN X26.here hx rfl (hb hby at_16) rfl rfl (l' := #[.val (.int p1), .val (.int p2), .val (.int p3), .val (.ref b23), .unset, .unset, .unset]) rfl) ?_
  show Go _ p e below s _ _ _ (T26.setTop (mkF m 17 #[.val (.int p1), .val (.int p2), .val (.int p3), .val (.ref b23), .unset, .unset, .unset] []))
  refine go (fun _ => XS.aloadN X26.here hx rfl (hb hby at_17) rfl rfl) ?_
  show Go _ p e below s _ _ _ (T26.setTop (mkF m 18 #[.val (.int p1), .val (.int p2), .val (.int p3), .val (.ref b23), .unset, .unset, .unset] [(.ref b23)]))
  obtain ⟨cq27, kq27, q27a, q27b, q27c⟩ := isOf hZ rfl c26_0
  obtain ⟨_, _, ⟨T27, L27, k27, n27⟩, -, X27, ⟨Lc27, hQ27, l27, y27, z27⟩, st27⟩ := X26.virtualBack hx (y := (⟨"com/example/raccordo/raccordo/flow/Competence", "fields", "()[I"⟩ : MethodName)) (z := (⟨"com/example/raccordo/raccordo/flow/Competence", "fields", "()[I"⟩ : MethodName)) hown (mvT hZ (hw _ (List.mem_of_getElem? (i := 25) rfl))) (mvT hZ (hw _ (List.mem_of_getElem? (i := 26) rfl))) (notFace_of_selects (args := #[]) (mvT hZ (hw _ (List.mem_of_getElem? (i := 28) rfl)))) (mvT hZ (hw _ (List.mem_of_getElem? (i := 28) rfl))) (mvT hZ (hw _ (List.mem_of_getElem? (i := 27) rfl))) (by decide) (backOf (W := 0) (rm3 l Z a0 hw [] b23 p1 p2 (T26.heap) n0 ZN26 u26_1 u26_2) hZ (hw _ (List.mem_of_getElem? (i := 29) rfl)) (hw _ (List.mem_of_getElem? (i := 2) rfl)) (by decide) (by decide)) q27a q27c (g := (mkF m 18 #[.val (.int p1), .val (.int p2), .val (.int p3), .val (.ref b23), .unset, .unset, .unset] [(.ref b23)])) rfl (by rw [hml]; rfl) (Steps.refl _) (argsL := []) (rest := []) (lenOf pd_0_1 rfl) rfl (by show 2 * 0 + _ ≤ _; exact Nat.le_of_eq rfl) (hb hby at_18) (fun _ _ => ⟨rfl, rfl, (by decide : 3 + 1 ≤ _), (by decide : 5 + 2 ≤ _)⟩)
  dsimp only [Pt.U, Pt.locs, Pt.cells, Pt.slots] at X27 l27 y27 z27 st27 hQ27
  subst l27 y27 z27
  obtain ⟨b27, k27, rfl, N27q, u27_0, u27_1, K27, u27_3⟩ := hQ27
  have N27 := Fr.app N26 N27q
  have lt27_b23_b27 : b23 < b27 := Nat.lt_of_lt_of_le c26_0.lt u27_0
  have lt27_b24_b27 : b24 < b27 := Nat.lt_of_lt_of_le c26_1.lt u27_0
  have G_b27 : n0 ≤ b27 := Nat.le_trans ZN26 u27_0
  have SZ_b27 : h0.size ≤ b27 := Nat.le_trans KK26.1 u27_0
  have c27_0 := c26_0.keep K27
  have c27_1 := c26_1.keep K27
  have c27_2 := c26_2.keep K27 nin0
  have c27_3 := u26_1.keep K27 nin0
  have c27_4 := u26_2.keep K27 nin0
  have KK27 : Keep h0 T27.heap [] := KK26.trans K27 all0
  have ZN27 : n0 ≤ T27.heap.size := Nat.le_trans ZN26 K27.1
  refine goT st27 ?_
  show Go _ p e below s _ _ _ (T27.setTop (mkF m 21 #[.val (.int p1), .val (.int p2), .val (.int p3), .val (.ref b23), .unset, .unset, .unset] [(.ref b27)]))
  refine go (fun _ => XS.astore X27.here hx rfl (hb hby at_21) rfl rfl (l' := #[.val (.int p1), .val (.int p2), .val (.int p3), .val (.ref b23), .val (.ref b27), .unset, .unset]) rfl) ?_
  show Go _ p e below s _ _ _ (T27.setTop (mkF m 23 #[.val (.int p1), .val (.int p2), .val (.int p3), .val (.ref b23), .val (.ref b27), .unset, .unset] []))
  refine go (fun _ => XS.aload X27.here hx rfl (hb hby at_23) rfl rfl) ?_
  show Go _ p e below s _ _ _ (T27.setTop (mkF m 25 #[.val (.int p1), .val (.int p2), .val (.int p3), .val (.ref b23), .val (.ref b27), .unset, .unset] [(.ref b27)]))
  refine go (fun _ => XS.ifnullNo X27.here hx rfl (hb hby at_25) rfl) ?_
  show Go _ p e below s _ _ _ (T27.setTop (mkF m 28 #[.val (.int p1), .val (.int p2), .val (.int p3), .val (.ref b23), .val (.ref b27), .unset, .unset] []))
  refine go (fun _ => XS.aload X27.here hx rfl (hb hby at_28) rfl rfl) ?_
  show Go _ p e below s _ _ _ (T27.setTop (mkF m 30 #[.val (.int p1), .val (.int p2), .val (.int p3), .val (.ref b23), .val (.ref b27), .unset, .unset] [(.ref b27)]))
  obtain ⟨cl28, Ar28, -, Sz28, Nz28, -, -⟩ := id u27_3
  refine go (X27.arraylength hx Ar28.1 (State.isArrayOf_alike hZ.alike Ar28.2.1) (g := (mkF m 30 #[.val (.int p1), .val (.int p2), .val (.int p3), .val (.ref b23), .val (.ref b27), .unset, .unset] [(.ref b27)])) rfl rfl (hb hby at_30)) ?_
  rw [len_of Sz28 Nz28]
  show Go _ p e below s _ _ _ (T27.setTop (mkF m 31 #[.val (.int p1), .val (.int p2), .val (.int p3), .val (.ref b23), .val (.ref b27), .unset, .unset] [(.int (2 : Int32))]))
  refine go (fun _ => XS.iconst X27.here hx rfl (hb hby at_31)) ?_
  show Go _ p e below s _ _ _ (T27.setTop (mkF m 32 #[.val (.int p1), .val (.int p2), .val (.int p3), .val (.ref b23), .val (.ref b27), .unset, .unset] [(.int (2 : Int32)), (.int (2 : Int32))]))
  refine go (fun _ => XS.icmpYes X27.here hx rfl (pc0 := 32) (pc' := 37) rfl (hb hby at_32) rfl (teq (rfl : (2 : Int32) = (2 : Int32))).1 (by decide) (by decide)) ?_
  show Go _ p e below s _ _ _ (T27.setTop (mkF m 37 #[.val (.int p1), .val (.int p2), .val (.int p3), .val (.ref b23), .val (.ref b27), .unset, .unset] []))
  refine go (fun _ => XS.aload X27.here hx rfl (hb hby at_37) rfl rfl) ?_
  show Go _ p e below s _ _ _ (T27.setTop (mkF m 39 #[.val (.int p1), .val (.int p2), .val (.int p3), .val (.ref b23), .val (.ref b27), .unset, .unset] [(.ref b27)]))
  refine go (fun _ => XS.iconst X27.here hx rfl (hb hby at_39)) ?_
  show Go _ p e below s _ _ _ (T27.setTop (mkF m 40 #[.val (.int p1), .val (.int p2), .val (.int p3), .val (.ref b23), .val (.ref b27), .unset, .unset] [(.int (0 : Int32)), (.ref b27)]))
  obtain ⟨cl29, Ar29, q29, Sz29, Nz29, Hs29, Gs29⟩ := id u27_3
  have hin29 : ¬ ((0 : Int32) < 0 ∨ cl29.slots.size ≤ ((0 : Int32)).toNatClampNeg) := inb_of Sz29 ⟨by decide, by decide⟩
  refine go (X27.iaload hx (j := (0 : Int32)) (v := (.int p1)) Ar29.1 (State.isArrayOf_alike hZ.alike Ar29.2.1) Ar29.2.2 hin29 (Hs29.at hin29 rfl) (g := (mkF m 40 #[.val (.int p1), .val (.int p2), .val (.int p3), .val (.ref b23), .val (.ref b27), .unset, .unset] [(.int (0 : Int32)), (.ref b27)])) rfl rfl (hb hby at_40)) ?_
  show Go _ p e below s _ _ _ (T27.setTop (mkF m 41 #[.val (.int p1), .val (.int p2), .val (.int p3), .val (.ref b23), .val (.ref b27), .unset, .unset] [(.int p1)]))
  refine go (fun _ => XS.iloadN X27.here hx rfl (hb hby at_41) rfl) ?_
  show Go _ p e below s _ _ _ (T27.setTop (mkF m 42 #[.val (.int p1), .val (.int p2), .val (.int p3), .val (.ref b23), .val (.ref b27), .unset, .unset] [(.int p1), (.int p1)]))
  refine go (fun _ => XS.icmpNo X27.here hx rfl (hb hby at_42) rfl (teq (rfl : p1 = p1)).2) ?_
  show Go _ p e below s _ _ _ (T27.setTop (mkF m 45 #[.val (.int p1), .val (.int p2), .val (.int p3), .val (.ref b23), .val (.ref b27), .unset, .unset] []))
  refine go (fun _ => XS.aload X27.here hx rfl (hb hby at_45) rfl rfl) ?_
  show Go _ p e below s _ _ _ (T27.setTop (mkF m 47 #[.val (.int p1), .val (.int p2), .val (.int p3), .val (.ref b23), .val (.ref b27), .unset, .unset] [(.ref b27)]))
  refine go (fun _ => XS.iconst X27.here hx rfl (hb hby at_47)) ?_
  show Go _ p e below s _ _ _ (T27.setTop (mkF m 48 #[.val (.int p1), .val (.int p2), .val (.int p3), .val (.ref b23), .val (.ref b27), .unset, .unset] [(.int (1 : Int32)), (.ref b27)]))
  obtain ⟨cl30, Ar30, q30, Sz30, Nz30, Hs30, Gs30⟩ := id u27_3
  have hin30 : ¬ ((1 : Int32) < 0 ∨ cl30.slots.size ≤ ((1 : Int32)).toNatClampNeg) := inb_of Sz30 ⟨by decide, by decide⟩
  refine go (X27.iaload hx (j := (1 : Int32)) (v := (.int p2)) Ar30.1 (State.isArrayOf_alike hZ.alike Ar30.2.1) Ar30.2.2 hin30 (Hs30.at hin30 rfl) (g := (mkF m 48 #[.val (.int p1), .val (.int p2), .val (.int p3), .val (.ref b23), .val (.ref b27), .unset, .unset] [(.int (1 : Int32)), (.ref b27)])) rfl rfl (hb hby at_48)) ?_
  show Go _ p e below s _ _ _ (T27.setTop (mkF m 49 #[.val (.int p1), .val (.int p2), .val (.int p3), .val (.ref b23), .val (.ref b27), .unset, .unset] [(.int p2)]))
  refine go (fun _ => XS.iloadN X27.here hx rfl (hb hby at_49) rfl) ?_
  show Go _ p e below s _ _ _ (T27.setTop (mkF m 50 #[.val (.int p1), .val (.int p2), .val (.int p3), .val (.ref b23), .val (.ref b27), .unset, .unset] [(.int p2), (.int p2)]))
  refine go (fun _ => XS.icmpNo X27.here hx rfl (hb hby at_50) rfl (teq (rfl : p2 = p2)).2) ?_
  show Go _ p e below s _ _ _ (T27.setTop (mkF m 53 #[.val (.int p1), .val (.int p2), .val (.int p3), .val (.ref b23), .val (.ref b27), .unset, .unset] []))
  refine go (fun _ => XS.iconst X27.here hx rfl (hb hby at_53)) ?_
  show Go _ p e below s _ _ _ (T27.setTop (mkF m 54 #[.val (.int p1), .val (.int p2), .val (.int p3), .val (.ref b23), .val (.ref b27), .unset, .unset] [(.int (1 : Int32))]))
  refine go (fun _ => XS.goto X27.here hx rfl (pc0 := 54) (pc' := 58) rfl (hb hby at_54) (by decide) (by decide)) ?_
  show Go _ p e below s _ _ _ (T27.setTop (mkF m 58 #[.val (.int p1), .val (.int p2), .val (.int p3), .val (.ref b23), .val (.ref b27), .unset, .unset] [(.int (1 : Int32))]))
  refine go (fun _ => XS.istore X27.here hx rfl (hb hby at_58) rfl (l' := #[.val (.int p1), .val (.int p2), .val (.int p3), .val (.ref b23), .val (.ref b27), .val (.int (1 : Int32)), .unset]) rfl) ?_
  show Go _ p e below s _ _ _ (T27.setTop (mkF m 60 #[.val (.int p1), .val (.int p2), .val (.int p3), .val (.ref b23), .val (.ref b27), .val (.int (1 : Int32)), .unset] []))
  refine go (fun _ => XS.aload X27.here hx rfl (hb hby at_60) rfl rfl) ?_
  show Go _ p e below s _ _ _ (T27.setTop (mkF m 62 #[.val (.int p1), .val (.int p2), .val (.int p3), .val (.ref b23), .val (.ref b27), .val (.int (1 : Int32)), .unset] [(.ref b27)]))
  refine go (fun _ => XS.iconst X27.here hx rfl (hb hby at_62)) ?_
  show Go _ p e below s _ _ _ (T27.setTop (mkF m 63 #[.val (.int p1), .val (.int p2), .val (.int p3), .val (.ref b23), .val (.ref b27), .val (.int (1 : Int32)), .unset] [(.int (0 : Int32)), (.ref b27)]))
  refine go (fun _ => XS.aload X27.here hx rfl (hb hby at_63) rfl rfl) ?_
  show Go _ p e below s _ _ _ (T27.setTop (mkF m 65 #[.val (.int p1), .val (.int p2), .val (.int p3), .val (.ref b23), .val (.ref b27), .val (.int (1 : Int32)), .unset] [(.ref b27), (.int (0 : Int32)), (.ref b27)]))
  refine go (fun _ => XS.iconst X27.here hx rfl (hb hby at_65)) ?_
  show Go _ p e below s _ _ _ (T27.setTop (mkF m 66 #[.val (.int p1), .val (.int p2), .val (.int p3), .val (.ref b23), .val (.ref b27), .val (.int (1 : Int32)), .unset] [(.int (0 : Int32)), (.ref b27), (.int (0 : Int32)), (.ref b27)]))
  obtain ⟨cl31, Ar31, q31, Sz31, Nz31, Hs31, Gs31⟩ := id u27_3
  have hin31 : ¬ ((0 : Int32) < 0 ∨ cl31.slots.size ≤ ((0 : Int32)).toNatClampNeg) := inb_of Sz31 ⟨by decide, by decide⟩
  refine go (X27.iaload hx (j := (0 : Int32)) (v := (.int p1)) Ar31.1 (State.isArrayOf_alike hZ.alike Ar31.2.1) Ar31.2.2 hin31 (Hs31.at hin31 rfl) (g := (mkF m 66 #[.val (.int p1), .val (.int p2), .val (.int p3), .val (.ref b23), .val (.ref b27), .val (.int (1 : Int32)), .unset] [(.int (0 : Int32)), (.ref b27), (.int (0 : Int32)), (.ref b27)])) rfl rfl (hb hby at_66)) ?_
  show Go _ p e below s _ _ _ (T27.setTop (mkF m 67 #[.val (.int p1), .val (.int p2), .val (.int p3), .val (.ref b23), .val (.ref b27), .val (.int (1 : Int32)), .unset] [(.int p1), (.int (0 : Int32)), (.ref b27)]))
  refine go (fun _ => XS.iconst X27.here hx rfl (hb hby at_67)) ?_
  show Go _ p e below s _ _ _ (T27.setTop (mkF m 68 #[.val (.int p1), .val (.int p2), .val (.int p3), .val (.ref b23), .val (.ref b27), .val (.int (1 : Int32)), .unset] [(.int (1 : Int32)), (.int p1), (.int (0 : Int32)), (.ref b27)]))
  refine go (fun _ => XS.ixor X27.here hx rfl (hb hby at_68) rfl) ?_
  show Go _ p e below s _ _ _ (T27.setTop (mkF m 69 #[.val (.int p1), .val (.int p2), .val (.int p3), .val (.ref b23), .val (.ref b27), .val (.int (1 : Int32)), .unset] [(.int (p1 ^^^ (1 : Int32))), (.int (0 : Int32)), (.ref b27)]))
  obtain ⟨cl32, Ar32, q32, Sz32, Nz32, Hs32, Gs32⟩ := id u27_3
  have hin32 : ¬ ((0 : Int32) < 0 ∨ cl32.slots.size ≤ ((0 : Int32)).toNatClampNeg) := inb_of Sz32 ⟨by decide, by decide⟩
  obtain ⟨T32, h32, X32, e32, W32, st32⟩ := stI X27 hx hZ rfl Ar32 (j := (0 : Int32)) hin32 (g := (mkF m 69 #[.val (.int p1), .val (.int p2), .val (.int p3), .val (.ref b23), .val (.ref b27), .val (.int (1 : Int32)), .unset] [(.int (p1 ^^^ (1 : Int32))), (.int (0 : Int32)), (.ref b27)])) rfl rfl (hb hby at_69)
  have V32 := Arv.set Ar32 q32 Sz32 Nz32 Hs32 Gs32 rfl W32 0 rfl (Nat.le_of_ble_eq_true rfl)
  have VV32 : Arv Z h32 b27 k27 .int (2 : Int32) [(.int (p1 ^^^ (1 : Int32))), (.int p2)] (.int (0 : Int32)) := V32
  have c32_0 := c27_0.wr W32
  have c32_1 := c27_1.wr W32
  have c32_2 := c27_2.other W32 (Nat.ne_of_lt lt27_b24_b27)
  have c32_3 := c27_3.other W32 (Or.inl (Nat.ne_of_lt lt27_b23_b27))
  have c32_4 := c27_4.other W32 (Or.inl (Nat.ne_of_lt lt27_b23_b27))
  have KK32 : Keep h0 h32 [] := KK27.wr W32 (Or.inr SZ_b27)
  have ZN32 : n0 ≤ h32.size := Nat.le_trans ZN27 (Keep.of_wr W32).1
  have NN32 := Fr.snoc X32 N27 u27_1
  refine go st32 ?_
  show Go _ p e below s _ _ _ (T32.setTop (mkF m 70 #[.val (.int p1), .val (.int p2), .val (.int p3), .val (.ref b23), .val (.ref b27), .val (.int (1 : Int32)), .unset] []))
  refine go (fun _ => XS.aload X32.here hx rfl (hb hby at_70) rfl rfl) ?_
  show Go _ p e below s _ _ _ (T32.setTop (mkF m 72 #[.val (.int p1), .val (.int p2), .val (.int p3), .val (.ref b23), .val (.ref b27), .val (.int (1 : Int32)), .unset] [(.ref b27)]))
  refine go (fun _ => XS.iconst X32.here hx rfl (hb hby at_72)) ?_
  show Go _ p e below s _ _ _ (T32.setTop (mkF m 73 #[.val (.int p1), .val (.int p2), .val (.int p3), .val (.ref b23), .val (.ref b27), .val (.int (1 : Int32)), .unset] [(.int (1 : Int32)), (.ref b27)]))
  refine go (fun _ => XS.aload X32.here hx rfl (hb hby at_73) rfl rfl) ?_
  show Go _ p e below s _ _ _ (T32.setTop (mkF m 75 #[.val (.int p1), .val (.int p2), .val (.int p3), .val (.ref b23), .val (.ref b27), .val (.int (1 : Int32)), .unset] [(.ref b27), (.int (1 : Int32)), (.ref b27)]))
  refine go (fun _ => XS.iconst X32.here hx rfl (hb hby at_75)) ?_
  show Go _ p e below s _ _ _ (T32.setTop (mkF m 76 #[.val (.int p1), .val (.int p2), .val (.int p3), .val (.ref b23), .val (.ref b27), .val (.int (1 : Int32)), .unset] [(.int (1 : Int32)), (.ref b27), (.int (1 : Int32)), (.ref b27)]))
  obtain ⟨cl33, Ar33, q33, Sz33, Nz33, Hs33, Gs33⟩ := id VV32
  have hin33 : ¬ ((1 : Int32) < 0 ∨ cl33.slots.size ≤ ((1 : Int32)).toNatClampNeg) := inb_of Sz33 ⟨by decide, by decide⟩
  refine go (X32.iaload hx (j := (1 : Int32)) (v := (.int p2)) (by rw [e32]; exact Ar33.1) (State.isArrayOf_alike hZ.alike Ar33.2.1) Ar33.2.2 hin33 (Hs33.at hin33 rfl) (g := (mkF m 76 #[.val (.int p1), .val (.int p2), .val (.int p3), .val (.ref b23), .val (.ref b27), .val (.int (1 : Int32)), .unset] [(.int (1 : Int32)), (.ref b27), (.int (1 : Int32)), (.ref b27)])) rfl rfl (hb hby at_76)) ?_
  show Go _ p e below s _ _ _ (T32.setTop (mkF m 77 #[.val (.int p1), .val (.int p2), .val (.int p3), .val (.ref b23), .val (.ref b27), .val (.int (1 : Int32)), .unset] [(.int p2), (.int (1 : Int32)), (.ref b27)]))
  refine go (fun _ => XS.iconst X32.here hx rfl (hb hby at_77)) ?_
  show Go _ p e below s _ _ _ (T32.setTop (mkF m 78 #[.val (.int p1), .val (.int p2), .val (.int p3), .val (.ref b23), .val (.ref b27), .val (.int (1 : Int32)), .unset] [(.int (1 : Int32)), (.int p2), (.int (1 : Int32)), (.ref b27)]))
  refine go (fun _ => XS.ixor X32.here hx rfl (hb hby at_78) rfl) ?_
  show Go _ p e below s _ _ _ (T32.setTop (mkF m 79 #[.val (.int p1), .val (.int p2), .val (.int p3), .val (.ref b23), .val (.ref b27), .val (.int (1 : Int32)), .unset] [(.int (p2 ^^^ (1 : Int32))), (.int (1 : Int32)), (.ref b27)]))
  obtain ⟨cl34, Ar34, q34, Sz34, Nz34, Hs34, Gs34⟩ := id VV32
  have hin34 : ¬ ((1 : Int32) < 0 ∨ cl34.slots.size ≤ ((1 : Int32)).toNatClampNeg) := inb_of Sz34 ⟨by decide, by decide⟩
  obtain ⟨T34, h34, X34, e34, W34, st34⟩ := stI X32 hx hZ e32 Ar34 (j := (1 : Int32)) hin34 (g := (mkF m 79 #[.val (.int p1), .val (.int p2), .val (.int p3), .val (.ref b23), .val (.ref b27), .val (.int (1 : Int32)), .unset] [(.int (p2 ^^^ (1 : Int32))), (.int (1 : Int32)), (.ref b27)])) rfl rfl (hb hby at_79)
  have V34 := Arv.set Ar34 q34 Sz34 Nz34 Hs34 Gs34 rfl W34 1 rfl (Nat.le_of_ble_eq_true rfl)
  have VV34 : Arv Z h34 b27 k27 .int (2 : Int32) [(.int (p1 ^^^ (1 : Int32))), (.int (p2 ^^^ (1 : Int32)))] (.int (0 : Int32)) := V34
  have c34_0 := c32_0.wr W34
  have c34_1 := c32_1.wr W34
  have c34_2 := c32_2.other W34 (Nat.ne_of_lt lt27_b24_b27)
  have c34_3 := c32_3.other W34 (Or.inl (Nat.ne_of_lt lt27_b23_b27))
  have c34_4 := c32_4.other W34 (Or.inl (Nat.ne_of_lt lt27_b23_b27))
  have KK34 : Keep h0 h34 [] := KK32.wr W34 (Or.inr SZ_b27)
  have ZN34 : n0 ≤ h34.size := Nat.le_trans ZN32 (Keep.of_wr W34).1
  have NN34 := Fr.snoc X34 NN32 u27_1
  refine go st34 ?_
  show Go _ p e below s _ _ _ (T34.setTop (mkF m 80 #[.val (.int p1), .val (.int p2), .val (.int p3), .val (.ref b23), .val (.ref b27), .val (.int (1 : Int32)), .unset] []))
  refine go (fun _ => XS.aloadN X34.here hx rfl (hb hby at_80) rfl rfl) ?_
  show Go _ p e below s _ _ _ (T34.setTop (mkF m 81 #[.val (.int p1), .val (.int p2), .val (.int p3), .val (.ref b23), .val (.ref b27), .val (.int (1 : Int32)), .unset] [(.ref b23)]))
  obtain ⟨cq35, kq35, q35a, q35b, q35c⟩ := isOf hZ e34 c34_0
  obtain ⟨_, _, ⟨T35, L35, k35, n35⟩, -, X35, ⟨Lc35, hQ35, l35, y35, z35⟩, st35⟩ := X34.virtualBack hx (y := (⟨"com/example/raccordo/raccordo/flow/Competence", "fields", "()[I"⟩ : MethodName)) (z := (⟨"com/example/raccordo/raccordo/flow/Competence", "fields", "()[I"⟩ : MethodName)) hown (mvT hZ (hw _ (List.mem_of_getElem? (i := 25) rfl))) (mvT hZ (hw _ (List.mem_of_getElem? (i := 26) rfl))) (notFace_of_selects (args := #[]) (mvT hZ (hw _ (List.mem_of_getElem? (i := 28) rfl)))) (mvT hZ (hw _ (List.mem_of_getElem? (i := 28) rfl))) (mvT hZ (hw _ (List.mem_of_getElem? (i := 27) rfl))) (by decide) (backOf (W := 0) (rm3 l Z a0 hw [] b23 p1 p2 h34 n0 ZN34 c34_3 c34_4) hZ (hw _ (List.mem_of_getElem? (i := 29) rfl)) (hw _ (List.mem_of_getElem? (i := 2) rfl)) (by decide) (by decide)) q35a q35c (g := (mkF m 81 #[.val (.int p1), .val (.int p2), .val (.int p3), .val (.ref b23), .val (.ref b27), .val (.int (1 : Int32)), .unset] [(.ref b23)])) rfl (by rw [hml]; rfl) (Steps.refl _) (argsL := []) (rest := []) (lenOf pd_0_1 rfl) rfl (by show 2 * 0 + _ ≤ _; exact Nat.le_of_eq rfl) (hb hby at_81) (fun _ _ => ⟨rfl, e34, (by decide : 4 + 1 ≤ _), (by decide : 7 + 2 ≤ _)⟩)
  dsimp only [Pt.U, Pt.locs, Pt.cells, Pt.slots] at X35 l35 y35 z35 st35 hQ35
  subst l35 y35 z35
  obtain ⟨b35, k35, rfl, N35q, u35_0, u35_1, K35, u35_3⟩ := hQ35
  have N35 := Fr.app NN34 N35q
  have lt35_b23_b35 : b23 < b35 := Nat.lt_of_lt_of_le c34_0.lt u35_0
  have lt35_b24_b35 : b24 < b35 := Nat.lt_of_lt_of_le c34_1.lt u35_0
  have lt35_b27_b35 : b27 < b35 := Nat.lt_of_lt_of_le VV34.lt u35_0
  have G_b35 : n0 ≤ b35 := Nat.le_trans ZN34 u35_0
  have SZ_b35 : h0.size ≤ b35 := Nat.le_trans KK34.1 u35_0
  have c35_0 := c34_0.keep K35
  have c35_1 := c34_1.keep K35
  have c35_2 := c34_2.keep K35 nin0
  have c35_3 := c34_3.keep K35 nin0
  have c35_4 := c34_4.keep K35 nin0
  have c35_5 := VV34.keep K35 nin0
  have KK35 : Keep h0 T35.heap [] := KK34.trans K35 all0
  have ZN35 : n0 ≤ T35.heap.size := Nat.le_trans ZN34 K35.1
  refine goT st35 ?_
  show Go _ p e below s _ _ _ (T35.setTop (mkF m 84 #[.val (.int p1), .val (.int p2), .val (.int p3), .val (.ref b23), .val (.ref b27), .val (.int (1 : Int32)), .unset] [(.ref b35)]))
  refine go (fun _ => XS.astore X35.here hx rfl (hb hby at_84) rfl rfl (l' := #[.val (.int p1), .val (.int p2), .val (.int p3), .val (.ref b23), .val (.ref b27), .val (.int (1 : Int32)), .val (.ref b35)]) rfl) ?_
  show Go _ p e below s _ _ _ (T35.setTop (mkF m 86 #[.val (.int p1), .val (.int p2), .val (.int p3), .val (.ref b23), .val (.ref b27), .val (.int (1 : Int32)), .val (.ref b35)] []))
  refine go (fun _ => XS.aload X35.here hx rfl (hb hby at_86) rfl rfl) ?_
  show Go _ p e below s _ _ _ (T35.setTop (mkF m 88 #[.val (.int p1), .val (.int p2), .val (.int p3), .val (.ref b23), .val (.ref b27), .val (.int (1 : Int32)), .val (.ref b35)] [(.ref b35)]))
  refine go (fun _ => XS.ifnullNo X35.here hx rfl (hb hby at_88) rfl) ?_
  show Go _ p e below s _ _ _ (T35.setTop (mkF m 91 #[.val (.int p1), .val (.int p2), .val (.int p3), .val (.ref b23), .val (.ref b27), .val (.int (1 : Int32)), .val (.ref b35)] []))
  refine go (fun _ => XS.aload X35.here hx rfl (hb hby at_91) rfl rfl) ?_
  show Go _ p e below s _ _ _ (T35.setTop (mkF m 93 #[.val (.int p1), .val (.int p2), .val (.int p3), .val (.ref b23), .val (.ref b27), .val (.int (1 : Int32)), .val (.ref b35)] [(.ref b35)]))
  obtain ⟨cl36, Ar36, -, Sz36, Nz36, -, -⟩ := id u35_3
  refine go (X35.arraylength hx Ar36.1 (State.isArrayOf_alike hZ.alike Ar36.2.1) (g := (mkF m 93 #[.val (.int p1), .val (.int p2), .val (.int p3), .val (.ref b23), .val (.ref b27), .val (.int (1 : Int32)), .val (.ref b35)] [(.ref b35)])) rfl rfl (hb hby at_93)) ?_
  rw [len_of Sz36 Nz36]
  show Go _ p e below s _ _ _ (T35.setTop (mkF m 94 #[.val (.int p1), .val (.int p2), .val (.int p3), .val (.ref b23), .val (.ref b27), .val (.int (1 : Int32)), .val (.ref b35)] [(.int (2 : Int32))]))
  refine go (fun _ => XS.iconst X35.here hx rfl (hb hby at_94)) ?_
  show Go _ p e below s _ _ _ (T35.setTop (mkF m 95 #[.val (.int p1), .val (.int p2), .val (.int p3), .val (.ref b23), .val (.ref b27), .val (.int (1 : Int32)), .val (.ref b35)] [(.int (2 : Int32)), (.int (2 : Int32))]))
  refine go (fun _ => XS.icmpYes X35.here hx rfl (pc0 := 95) (pc' := 100) rfl (hb hby at_95) rfl (teq (rfl : (2 : Int32) = (2 : Int32))).1 (by decide) (by decide)) ?_
  show Go _ p e below s _ _ _ (T35.setTop (mkF m 100 #[.val (.int p1), .val (.int p2), .val (.int p3), .val (.ref b23), .val (.ref b27), .val (.int (1 : Int32)), .val (.ref b35)] []))
  refine go (fun _ => XS.iload X35.here hx rfl (hb hby at_100) rfl) ?_
  show Go _ p e below s _ _ _ (T35.setTop (mkF m 102 #[.val (.int p1), .val (.int p2), .val (.int p3), .val (.ref b23), .val (.ref b27), .val (.int (1 : Int32)), .val (.ref b35)] [(.int (1 : Int32))]))
  refine go (fun _ => XS.ifNo X35.here hx rfl (hb hby at_102) rfl ((if0 _ _).trans (feq (by decide : ¬ ((1 : Int32) = (0 : Int32)))).1)) ?_
  show Go _ p e below s _ _ _ (T35.setTop (mkF m 105 #[.val (.int p1), .val (.int p2), .val (.int p3), .val (.ref b23), .val (.ref b27), .val (.int (1 : Int32)), .val (.ref b35)] []))
  refine go (fun _ => XS.aload X35.here hx rfl (hb hby at_105) rfl rfl) ?_
  show Go _ p e below s _ _ _ (T35.setTop (mkF m 107 #[.val (.int p1), .val (.int p2), .val (.int p3), .val (.ref b23), .val (.ref b27), .val (.int (1 : Int32)), .val (.ref b35)] [(.ref b35)]))
  refine go (fun _ => XS.aload X35.here hx rfl (hb hby at_107) rfl rfl) ?_
  show Go _ p e below s _ _ _ (T35.setTop (mkF m 109 #[.val (.int p1), .val (.int p2), .val (.int p3), .val (.ref b23), .val (.ref b27), .val (.int (1 : Int32)), .val (.ref b35)] [(.ref b27), (.ref b35)]))
  refine go (fun _ => Jvm.RoadKit.acmp (g := (mkF m 109 #[.val (.int p1), .val (.int p2), .val (.int p3), .val (.ref b23), .val (.ref b27), .val (.int (1 : Int32)), .val (.ref b35)] [(.ref b27), (.ref b35)])) X35 hx rfl rfl rfl (pc0 := 109) (pc' := 112) (same := false) rfl (hb hby at_109) rfl (decide_eq_false fun q => (Ne.symm (Nat.ne_of_lt lt35_b27_b35)) (Value.ref.inj q)) (by decide) (by decide)) ?_
  show Go _ p e below s _ _ _ (T35.setTop (mkF m 112 #[.val (.int p1), .val (.int p2), .val (.int p3), .val (.ref b23), .val (.ref b27), .val (.int (1 : Int32)), .val (.ref b35)] []))
  refine go (fun _ => XS.aload X35.here hx rfl (hb hby at_112) rfl rfl) ?_
  show Go _ p e below s _ _ _ (T35.setTop (mkF m 114 #[.val (.int p1), .val (.int p2), .val (.int p3), .val (.ref b23), .val (.ref b27), .val (.int (1 : Int32)), .val (.ref b35)] [(.ref b35)]))
  refine go (fun _ => XS.iconst X35.here hx rfl (hb hby at_114)) ?_
  show Go _ p e below s _ _ _ (T35.setTop (mkF m 115 #[.val (.int p1), .val (.int p2), .val (.int p3), .val (.ref b23), .val (.ref b27), .val (.int (1 : Int32)), .val (.ref b35)] [(.int (0 : Int32)), (.ref b35)]))
  obtain ⟨cl37, Ar37, q37, Sz37, Nz37, Hs37, Gs37⟩ := id u35_3
  have hin37 : ¬ ((0 : Int32) < 0 ∨ cl37.slots.size ≤ ((0 : Int32)).toNatClampNeg) := inb_of Sz37 ⟨by decide, by decide⟩
  refine go (X35.iaload hx (j := (0 : Int32)) (v := (.int p1)) Ar37.1 (State.isArrayOf_alike hZ.alike Ar37.2.1) Ar37.2.2 hin37 (Hs37.at hin37 rfl) (g := (mkF m 115 #[.val (.int p1), .val (.int p2), .val (.int p3), .val (.ref b23), .val (.ref b27), .val (.int (1 : Int32)), .val (.ref b35)] [(.int (0 : Int32)), (.ref b35)])) rfl rfl (hb hby at_115)) ?_
  show Go _ p e below s _ _ _ (T35.setTop (mkF m 116 #[.val (.int p1), .val (.int p2), .val (.int p3), .val (.ref b23), .val (.ref b27), .val (.int (1 : Int32)), .val (.ref b35)] [(.int p1)]))
  refine go (fun _ => XS.iloadN X35.here hx rfl (hb hby at_116) rfl) ?_
  show Go _ p e below s _ _ _ (T35.setTop (mkF m 117 #[.val (.int p1), .val (.int p2), .val (.int p3), .val (.ref b23), .val (.ref b27), .val (.int (1 : Int32)), .val (.ref b35)] [(.int p1), (.int p1)]))
  refine go (fun _ => XS.icmpNo X35.here hx rfl (hb hby at_117) rfl (teq (rfl : p1 = p1)).2) ?_
  show Go _ p e below s _ _ _ (T35.setTop (mkF m 120 #[.val (.int p1), .val (.int p2), .val (.int p3), .val (.ref b23), .val (.ref b27), .val (.int (1 : Int32)), .val (.ref b35)] []))
  refine go (fun _ => XS.aload X35.here hx rfl (hb hby at_120) rfl rfl) ?_
  show Go _ p e below s _ _ _ (T35.setTop (mkF m 122 #[.val (.int p1), .val (.int p2), .val (.int p3), .val (.ref b23), .val (.ref b27), .val (.int (1 : Int32)), .val (.ref b35)] [(.ref b35)]))
  refine go (fun _ => XS.iconst X35.here hx rfl (hb hby at_122)) ?_
  show Go _ p e below s _ _ _ (T35.setTop (mkF m 123 #[.val (.int p1), .val (.int p2), .val (.int p3), .val (.ref b23), .val (.ref b27), .val (.int (1 : Int32)), .val (.ref b35)] [(.int (1 : Int32)), (.ref b35)]))
  obtain ⟨cl38, Ar38, q38, Sz38, Nz38, Hs38, Gs38⟩ := id u35_3
  have hin38 : ¬ ((1 : Int32) < 0 ∨ cl38.slots.size ≤ ((1 : Int32)).toNatClampNeg) := inb_of Sz38 ⟨by decide, by decide⟩
  refine go (X35.iaload hx (j := (1 : Int32)) (v := (.int p2)) Ar38.1 (State.isArrayOf_alike hZ.alike Ar38.2.1) Ar38.2.2 hin38 (Hs38.at hin38 rfl) (g := (mkF m 123 #[.val (.int p1), .val (.int p2), .val (.int p3), .val (.ref b23), .val (.ref b27), .val (.int (1 : Int32)), .val (.ref b35)] [(.int (1 : Int32)), (.ref b35)])) rfl rfl (hb hby at_123)) ?_
  show Go _ p e below s _ _ _ (T35.setTop (mkF m 124 #[.val (.int p1), .val (.int p2), .val (.int p3), .val (.ref b23), .val (.ref b27), .val (.int (1 : Int32)), .val (.ref b35)] [(.int p2)]))
  refine go (fun _ => XS.iloadN X35.here hx rfl (hb hby at_124) rfl) ?_
  show Go _ p e below s _ _ _ (T35.setTop (mkF m 125 #[.val (.int p1), .val (.int p2), .val (.int p3), .val (.ref b23), .val (.ref b27), .val (.int (1 : Int32)), .val (.ref b35)] [(.int p2), (.int p2)]))
  refine go (fun _ => XS.icmpNo X35.here hx rfl (hb hby at_125) rfl (teq (rfl : p2 = p2)).2) ?_
  show Go _ p e below s _ _ _ (T35.setTop (mkF m 128 #[.val (.int p1), .val (.int p2), .val (.int p3), .val (.ref b23), .val (.ref b27), .val (.int (1 : Int32)), .val (.ref b35)] []))
  refine go (fun _ => XS.iconst X35.here hx rfl (hb hby at_128)) ?_
  show Go _ p e below s _ _ _ (T35.setTop (mkF m 129 #[.val (.int p1), .val (.int p2), .val (.int p3), .val (.ref b23), .val (.ref b27), .val (.int (1 : Int32)), .val (.ref b35)] [(.int (1 : Int32))]))
  refine go (fun _ => XS.goto X35.here hx rfl (pc0 := 129) (pc' := 133) rfl (hb hby at_129) (by decide) (by decide)) ?_
  show Go _ p e below s _ _ _ (T35.setTop (mkF m 133 #[.val (.int p1), .val (.int p2), .val (.int p3), .val (.ref b23), .val (.ref b27), .val (.int (1 : Int32)), .val (.ref b35)] [(.int (1 : Int32))]))
  refine goRet X35 hx Bd.notSynchronized Bd.returns rfl (Or.inl ⟨rfl, Or.inr (Or.inl rfl), _, rfl⟩) (hb hby at_133) (by decide) (by decide) (by refine ⟨rfl, N35⟩)
set_option maxRecDepth 65536 in
set_option maxHeartbeats 40000000 in
theorem comes_1 {Post : Tables → Env → Array Value → State → Outcome → State → Prop} (hpost : ∀ tb e args s v u, (limb_1_1.after args s (.returned v) u = true ∧ limb_1_2.after args s (.returned v) u = true ∧ True) → FrameEnd s (.returned v) u (Jvm.fieldLocs frame_1_writes args s ++ Jvm.arrayLocs frame_1_arrays args s ++ Jvm.staticLocs frame_1_statics s) 24 128 → Post tb e args s (.returned v) u) :
    ArmFor flags0 classFile x code maxLocals ret World_1 tables_1 room_1 Calls_1 rest_1 Pre_1 Post := by
  intro l hfl _ _ p e ha hc hk s m args below hf hA hF happ hP
  obtain ⟨hcalls, hrest, hpre⟩ := hP
  obtain ⟨-, -, -, hnamed, -, -, -, hat⟩ := (Spec.applies_iff hf).mp happ
  obtain ⟨hg, hn⟩ := and_e (Cond.before_iff.mp (show (Jvm.Cond.and given_1 narrow_1).before args s = true from hpre))
  obtain ⟨q0, r0⟩ := and_e hg
  obtain ⟨q1, r1⟩ := and_e r0
  obtain ⟨q2, r2⟩ := and_e r1
  obtain ⟨w0, w1, w2, rfl⟩ : ∃ w0 w1 w2 : Value, args = #[w0, w1, w2] := by
    have hs : args.size = 3 := by simpa [Cond.value, given_1] using q0
    obtain ⟨L⟩ := args
    match L, hs with
    | [w0, w1, w2], _ => exact ⟨w0, w1, w2, rfl⟩
  have hw := fun d (hd : d ∈ tables_1) => atoms_spec (ws := Jvm.Cond.code x code maxLocals ret :: tables_1) hat d (List.mem_cons_of_mem _ hd)
  have hfit : Fit s := fun {y c} hc i hi => by
    obtain ⟨ha, rfl⟩ := Array.getElem?_eq_some_iff.mp hc
    have q := List.all_eq_true.mp ((Array.all_eq_true_iff_forall_mem.mp hF) _ (Array.getElem_mem ha)) i (List.mem_range.mpr hi)
    simpa [Array.getElem?_eq_getElem hi] using q
  obtain ⟨i0, ei0⟩ := is_v q1
  obtain rfl : w0 = (.int i0) := Option.some.inj ei0
  obtain ⟨i1, ei1⟩ := is_v q2
  obtain rfl : w1 = (.int i1) := Option.some.inj ei1
  obtain ⟨i2, ei2⟩ := is_v r2
  obtain rfl : w2 = (.int i2) := Option.some.inj ei2
  obtain ⟨n, o, h1, h2, h3, _, L, rfl, ⟨rfl, N⟩, hq⟩ := rm0 l s _ hw tables_1 i0 i1 i2  s.heap s.heap.size (Nat.le_refl _)  p e ha hc hk s m _ below hf ((Spec.applies_iff_loose hf).mp happ).1 ⟨rfl, State.Warmed39.refl s, rfl⟩ trivial
  refine ⟨n, _, h1, h2, h3, hpost _ _ _ _ _ _ ⟨Cond.after_iff.mpr rfl, Cond.after_iff.mpr (eq_i res_at (Term.int_eval (1)) rfl), trivial⟩ ⟨hq.1, hq.2.1, (hq.2.2.sift fun y hy => Or.inr (N y hy)).mono (by decide) (by decide)⟩⟩
theorem main_1_1 : Claimed_1_1 := comes_1 fun _ _ _ _ _ _ h hF => ⟨h.1, hF⟩
theorem main_1_2 : Claimed_1_2 := comes_1 fun _ _ _ _ _ _ h hF => ⟨h.2.1, hF⟩
end Jvm.Pilot.@@N@@
namespace Jvm.Pilot.@@N@@
open Jvm Jvm.ClassFile Sem Op Lib Jvm.Free Jvm.Stand Jvm.Pilot.@@N@@.Jvm.D
/-! MADE BY PROGRAM (witnessworld.py) out of the Statement's table words and the real class files: 9 classes; the members and pool entries that the words name. The judged class is class 1, her method 1. -/
namespace start1
open Jvm.ClassFile
def u (s : String) : CpInfo := .utf8 (stringToUtf16 s)
/-- a pool by its gaps: so many unusable entries, then the entry; so many at the end -/
def gap : Nat → List CpInfo → List CpInfo
  | 0, r => r
  | n + 1, r => .unusable :: gap n r
def poolList (es : List (Nat × CpInfo)) (last : Nat) : List CpInfo := es.foldr (fun e r => gap e.1 (e.2 :: r)) (gap last [])
def pool (es : List (Nat × CpInfo)) (last : Nat) : Array CpInfo := ⟨poolList es last⟩
def fileOf (pool : Array CpInfo) (this : Nat) (attrs : Array Attribute := #[]) (ms : Array MethodInfo := #[]) (fl : Nat := 33) (sup : Nat := 0) (ifs : Array Nat := #[]) (fds : Array FieldInfo := #[]) : ClassFile where
  minorVersion := 0
  majorVersion := 65
  constantPool := pool
  accessFlags := fl
  thisClass := this
  superClass := sup
  interfaces := ifs
  fields := fds
  methods := ms
  attributes := attrs
def plain (name : String) (sup : Option ClassId) : Class where
  name := name
  kind := .ordinary
  loader := none
  accessFlags := 33
  super := sup
  interfaces := #[]
  cf := none
  fields := #[]
  methods := #[]
  instanceTypes := #[]
  staticTypes := #[]
  resolved := #[]
  callSites := []
  init := .initialized
  statics := none
  mirror := none

def pool0 : Array CpInfo := pool [(5, u "<init>"), (0, u "()V"), (1, .class_ 10), (1, u "java/lang/Object"), (85, u "clone"), (0, u "()Ljava/lang/Object;")] 26

def k0c0 : Code := { maxStack := 0, maxLocals := 1, code := object_method_1_code, exceptionTable := #[], attributes := #[] }
def k0m0 : Method := { name := "<init>", desc := "()V", sig := { parameters := [], returnType := none }, accessFlags := 1, code := some k0c0 }
def k0m1 : Method := { name := "clone", desc := "()Ljava/lang/Object;", sig := { parameters := [], returnType := some (.object "java/lang/Object") }, accessFlags := 260, code := none }
/-- java/lang/Object -/
def k0 : Class := { plain "java/lang/Object" none with
  accessFlags := 33
  interfaces := #[]
  cf := some (fileOf pool0 8 #[] #[{ accessFlags := 1, nameIndex := 5, descriptorIndex := 6, attributes := #[] }, { accessFlags := 260, nameIndex := 96, descriptorIndex := 97, attributes := #[] }] 33 0 #[] #[])
  fields := #[]
  methods := #[k0m0, k0m1]
  instanceTypes := #[]
  staticTypes := #[]
  resolved := Array.replicate 124 none
  statics := none }

def pool1 : Array CpInfo := pool [(2, .class_ 4), (1, u "java/lang/Object"), (0, u "<init>"), (0, u "()V"), (0, .class_ 8), (0, u "com/example/raccordo/raccordo/flow/Competence"), (0, .methodref 7 10), (0, .nameAndType 5 11), (0, u "(II[I)V"), (0, .methodref 7 13), (0, .nameAndType 14 15), (0, u "fields"), (0, u "()[I"), (0, .class_ 17), (0, u "com/example/raccordo/raccordo/flow/CompetenceFieldsPinLaw"), (2, u "law"), (0, u "(III)Z")] 5

def k1m0 : Method := { name := "<init>", desc := "()V", sig := { parameters := [], returnType := none }, accessFlags := 1, code := none }
def k1c1 : Code := { maxStack := 8, maxLocals := 7, code := code, exceptionTable := #[], attributes := #[] }
def k1m1 : Method := { name := "law", desc := "(III)Z", sig := { parameters := [.int, .int, .int], returnType := some .boolean }, accessFlags := 9, code := some k1c1 }
/-- com/example/raccordo/raccordo/flow/CompetenceFieldsPinLaw -/
def k1 : Class := { plain "com/example/raccordo/raccordo/flow/CompetenceFieldsPinLaw" (some 0) with
  accessFlags := 49
  interfaces := #[]
  cf := some (fileOf pool1 16 #[] #[{ accessFlags := 1, nameIndex := 5, descriptorIndex := 6, attributes := #[] }, { accessFlags := 9, nameIndex := 20, descriptorIndex := 21, attributes := #[] }] 49 2 #[] #[])
  fields := #[]
  methods := #[k1m0, k1m1]
  instanceTypes := #[]
  staticTypes := #[]
  resolved := Array.replicate 27 none
  statics := none }

def pool2 : Array CpInfo := pool [(1, .methodref 2 3), (0, .class_ 4), (0, .nameAndType 5 6), (0, u "java/lang/Object"), (0, u "<init>"), (0, u "()V"), (0, .fieldref 8 9), (0, .class_ 10), (0, .nameAndType 11 12), (0, u "com/example/raccordo/raccordo/flow/Competence"), (0, u "yearIndex"), (0, u "I"), (0, .fieldref 8 14), (0, .nameAndType 15 12), (0, u "monthIndex"), (0, .methodref 17 18), (0, .class_ 19), (0, .nameAndType 20 21), (0, u "[I"), (0, u "clone"), (0, u "()Ljava/lang/Object;"), (0, .fieldref 8 23), (0, .nameAndType 24 19), (0, u "requires"), (19, u "(II[I)V"), (2, u "()[I"), (0, u "fields")] 5

def k2c0 : Code := { maxStack := 2, maxLocals := 4, code := prog_13_method_1_code, exceptionTable := #[], attributes := #[] }
def k2m0 : Method := { name := "<init>", desc := "(II[I)V", sig := { parameters := [.int, .int, (.array .int)], returnType := none }, accessFlags := 0, code := some k2c0 }
def k2c1 : Code := { maxStack := 4, maxLocals := 1, code := prog_13_method_3_code, exceptionTable := #[], attributes := #[] }
def k2m1 : Method := { name := "fields", desc := "()[I", sig := { parameters := [], returnType := some (.array .int) }, accessFlags := 0, code := some k2c1 }
/-- com/example/raccordo/raccordo/flow/Competence -/
def k2 : Class := { plain "com/example/raccordo/raccordo/flow/Competence" (some 0) with
  accessFlags := 48
  interfaces := #[]
  cf := some (fileOf pool2 8 #[] #[{ accessFlags := 0, nameIndex := 5, descriptorIndex := 44, attributes := #[] }, { accessFlags := 0, nameIndex := 48, descriptorIndex := 47, attributes := #[] }] 48 2 #[] #[{ accessFlags := 18, nameIndex := 11, descriptorIndex := 12, attributes := #[] }, { accessFlags := 18, nameIndex := 15, descriptorIndex := 12, attributes := #[] }, { accessFlags := 18, nameIndex := 24, descriptorIndex := 19, attributes := #[] }])
  fields := #[{ name := "yearIndex", type := .int, accessFlags := 18, slot := 0, constantValue := 0 }, { name := "monthIndex", type := .int, accessFlags := 18, slot := 1, constantValue := 0 }, { name := "requires", type := (.array .int), accessFlags := 18, slot := 2, constantValue := 0 }]
  methods := #[k2m0, k2m1]
  instanceTypes := #[.int, .int, (.array .int)]
  staticTypes := #[]
  resolved := Array.replicate 54 none
  statics := none }

def pool3 : Array CpInfo := pool [(1, .class_ 2), (0, u "java/lang/Cloneable"), (0, .class_ 4), (0, u "java/lang/Object")] 2

/-- java/lang/Cloneable -/
def k3 : Class := { plain "java/lang/Cloneable" (some 0) with
  accessFlags := 1537
  interfaces := #[]
  cf := some (fileOf pool3 1 #[] #[] 1537 3 #[] #[])
  fields := #[]
  methods := #[]
  instanceTypes := #[]
  staticTypes := #[]
  resolved := Array.replicate 7 none
  statics := none }

def pool4 : Array CpInfo := pool [(1, u "java/io/Serializable"), (0, .class_ 1), (0, u "java/lang/Object"), (0, .class_ 3)] 3

/-- java/io/Serializable -/
def k4 : Class := { plain "java/io/Serializable" (some 0) with
  accessFlags := 1537
  interfaces := #[]
  cf := some (fileOf pool4 2 #[] #[] 1537 4 #[] #[])
  fields := #[]
  methods := #[]
  instanceTypes := #[]
  staticTypes := #[]
  resolved := Array.replicate 8 none
  statics := none }

/-- the primitive byte -/
def k5 : Class := { plain "byte" none with kind := .primitive 'B', accessFlags := 0x411 }
/-- [B -/
def k6 : Class := { plain "[B" (some 0) with kind := .array 5 .byte, interfaces := #[3, 4], accessFlags := 1041 }

/-- the primitive int -/
def k7 : Class := { plain "int" none with kind := .primitive 'I', accessFlags := 0x411 }
/-- [I -/
def k8 : Class := { plain "[I" (some 0) with kind := .array 7 .int, interfaces := #[3, 4], accessFlags := 1041 }

def heap : Heap := #[]
def classes : Array Class := #[k0, k1, k2, k3, k4, k5, k6, k7, k8]
def interned : List (Array UInt16 × Addr) := []
def slotsUsed : Nat := 0
def theMethod : MethodId := ⟨1, 1⟩
def args0 : Array Value := #[.int 5, .int 7, .int (-3)]
def aboutOver (below : List Frame) : State where
  vm := { classes := classes, interned := interned.toArray }
  heap := heap
  slotsUsed := slotsUsed
  threads := #[{ frames := .invoking theMethod args0 :: below }]
def below0 : List Frame := [.native { method := ⟨0, 0⟩, args := #[] }]
def about1 : State := aboutOver below0
def p0 : Program := .bare "" "" ""
def e0 : Env := launch0.env 0 0 0
theorem w_frames : about1.frames = Frame.invoking theMethod args0 :: below0 := rfl
set_option maxRecDepth 65536 in
theorem w_args : argsFit about1.vm theMethod args0 = true := by decide +kernel
set_option maxRecDepth 65536 in
theorem w_heap : heapFits about1 = true := by decide +kernel
set_option maxRecDepth 65536 in
theorem w_runnable : about1.curStatus? = some .runnable := by decide +kernel
set_option maxRecDepth 65536 in
theorem w_alone : about1.alone = true := by decide +kernel
set_option maxRecDepth 65536 in
theorem w_named : about1.methodNamed? x = some theMethod := by decide +kernel
set_option maxRecDepth 65536 in
theorem w_hears : about1.hears theMethod below0 = true := by decide +kernel
set_option maxRecDepth 65536 in
theorem w_ripe : about1.ripe theMethod args0 below0 = true := by decide +kernel
theorem w_running : about1.status = .running := rfl
set_option maxRecDepth 65536 in
theorem w_room : about1.hasRoom e0.platform room_1 = true :=
  launch0.hasRoom_least _ room_1 (by decide +kernel) (by decide +kernel) (by decide +kernel) (by decide +kernel) (by decide +kernel) (by decide +kernel)
theorem allAtoms_all (ts : List Jvm.Cond) (a : Array Jvm.Value) (st : Jvm.State) : (allAtoms ts).before a st = ts.all (fun c => c.before a st) := by
  induction ts with
  | nil => rfl
  | cons c t ih =>
    show (Jvm.Cond.and c (allAtoms t)).before a st = _
    rw [Jvm.Cond.before_and, ih, List.all_cons]
def words1 : List Jvm.Cond := Jvm.Cond.code x code maxLocals ret :: tables_1
/-- a 'code' word, met by the world's own term for the bytes: nothing is compared byte by byte -/
theorem code_word {y : MethodName} {bytes : ByteArray} {mx : Nat} {rt : Option FieldType} {a : Array Value} {s : State} {m : MethodId} {meth : Method} {c : Code} (h1 : s.methodNamed? y = some m) (h2 : s.vm.method? m = some meth) (h3 : meth.code = some c) (h4 : c.code = bytes)
    (h5 : (c.maxLocals == mx && c.exceptionTable.isEmpty && decide (c.maxStack ≤ mostOperands) && decide (meth.sig.returnType = rt) && !meth.locks && decide (parseMethodDescriptor y.desc = some meth.sig)) = true) : (Jvm.Cond.code y bytes mx rt).before a s = true := by
  simp only [Bool.and_eq_true, beq_iff_eq, Bool.not_eq_true', decide_eq_true_eq] at h5
  obtain ⟨⟨⟨⟨⟨g1, g2⟩, g3⟩, g4⟩, g5⟩, g6⟩ := h5
  simp [Cond.before, Cond.holds, Cond.value, h1, h2, h3, h4, g1, g2, g3, g4, g5, g6]
def isCode : Jvm.Cond → Bool
  | .code _ _ _ _ => true
  | _ => false
theorem all_split {L : List Jvm.Cond} {P : Jvm.Cond → Bool} (h1 : L.all (fun c => isCode c || P c) = true) (h2 : ∀ c ∈ L.filter isCode, P c = true) : L.all P = true := by
  refine List.all_eq_true.mpr fun c hc => ?_
  have h := List.all_eq_true.mp h1 c hc
  rcases Bool.eq_false_or_eq_true (isCode c) with hi | hi
  · exact h2 c (List.mem_filter.mpr ⟨hc, hi⟩)
  · simpa [hi] using h
set_option maxRecDepth 65536 in
theorem w_c0 : (Jvm.Cond.code x code maxLocals ret).before args0 about1 = true := code_word (m := ⟨1, 1⟩) (meth := k1m1) (c := k1c1) (by decide +kernel) rfl rfl rfl (by decide +kernel)
set_option maxRecDepth 65536 in
theorem w_c1 : (Jvm.Cond.code ({ cls := "com/example/raccordo/raccordo/flow/Competence", name := "<init>", desc := "(II[I)V" } : Jvm.MethodName) prog_13_method_1_code (4 : Nat) (Option.none : Option Jvm.ClassFile.FieldType)).before args0 about1 = true := code_word (m := ⟨2, 0⟩) (meth := k2m0) (c := k2c0) (by decide +kernel) rfl rfl rfl (by decide +kernel)
set_option maxRecDepth 65536 in
theorem w_c2 : (Jvm.Cond.code ({ cls := "java/lang/Object", name := "<init>", desc := "()V" } : Jvm.MethodName) object_method_1_code (1 : Nat) (Option.none : Option Jvm.ClassFile.FieldType)).before args0 about1 = true := code_word (m := ⟨0, 0⟩) (meth := k0m0) (c := k0c0) (by decide +kernel) rfl rfl rfl (by decide +kernel)
set_option maxRecDepth 65536 in
theorem w_c3 : (Jvm.Cond.code ({ cls := "com/example/raccordo/raccordo/flow/Competence", name := "fields", desc := "()[I" } : Jvm.MethodName) prog_13_method_3_code (1 : Nat) (Option.some (Jvm.ClassFile.FieldType.array Jvm.ClassFile.FieldType.int))).before args0 about1 = true := code_word (m := ⟨2, 1⟩) (meth := k2m1) (c := k2c1) (by decide +kernel) rfl rfl rfl (by decide +kernel)
def codes1 : List Jvm.Cond := [Jvm.Cond.code x code maxLocals ret, Jvm.Cond.code ({ cls := "com/example/raccordo/raccordo/flow/Competence", name := "<init>", desc := "(II[I)V" } : Jvm.MethodName) prog_13_method_1_code (4 : Nat) (Option.none : Option Jvm.ClassFile.FieldType), Jvm.Cond.code ({ cls := "java/lang/Object", name := "<init>", desc := "()V" } : Jvm.MethodName) object_method_1_code (1 : Nat) (Option.none : Option Jvm.ClassFile.FieldType), Jvm.Cond.code ({ cls := "com/example/raccordo/raccordo/flow/Competence", name := "fields", desc := "()[I" } : Jvm.MethodName) prog_13_method_3_code (1 : Nat) (Option.some (Jvm.ClassFile.FieldType.array Jvm.ClassFile.FieldType.int))]
set_option maxRecDepth 65536 in
theorem codes_eq : words1.filter isCode = codes1 := rfl
theorem w_codes : ∀ c ∈ words1.filter isCode, c.before args0 about1 = true := by
  rw [codes_eq]
  intro c hc
  simp only [codes1, List.mem_cons, List.not_mem_nil, or_false] at hc
  rcases hc with rfl | rfl | rfl | rfl
  · exact w_c0
  · exact w_c1
  · exact w_c2
  · exact w_c3
set_option maxRecDepth 65536 in
theorem w_t1 : (words1.take 24).all (fun c => isCode c || c.before args0 about1) = true := by decide +kernel
set_option maxRecDepth 65536 in
theorem w_t2 : (words1.drop 24).all (fun c => isCode c || c.before args0 about1) = true := by decide +kernel
theorem w_tables : (allAtoms (Jvm.Cond.code x code maxLocals ret :: tables_1)).before args0 about1 = true := by
  rw [allAtoms_all]
  show words1.all (fun c => c.before args0 about1) = true
  refine all_split ?_ w_codes
  rw [← List.take_append_drop 24 words1, List.all_append, w_t1, w_t2]
  rfl
set_option maxRecDepth 65536 in
theorem w_case : (Jvm.Cond.and given_1 narrow_1).before args0 about1 = true := by decide +kernel
theorem w_applies : (headSpec (Jvm.Cond.code x code maxLocals ret :: tables_1) room_1).applies x e0.platform about1 = true :=
  (Spec.applies_iff w_frames).mpr ⟨w_running, w_runnable, w_alone, w_named, w_hears, w_ripe, w_room, w_tables⟩
theorem atStart : AtStart classFile x code maxLocals ret World_1 tables_1 room_1 Calls_1 rest_1 Pre_1 launch0 p0 e0 about1 theMethod args0 below0 :=
  ⟨lists_1, trivial, launch0.admits_env _ _ _, launch0.least_env, fairChoices_fair.cas, fairChoices_fair.clock, w_frames, w_args, w_heap, w_applies, trivial, trivial, w_case⟩
end start1
theorem witness_1 : WitnessClaimed_1 := ⟨start1.p0, start1.e0, start1.about1, start1.theMethod, start1.args0, start1.below0, start1.atStart⟩
end Jvm.Pilot.@@N@@
