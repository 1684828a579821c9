import JvmDerived
import JvmDerived.Pilot.@@N@@Statement
import JvmDerived.Pilot.@@N@@Code
set_option linter.unusedVariables false
set_option linter.unusedSimpArgs false
@@BLOCK:NumsL.lean.txt@@
namespace Jvm.Pilot.@@N@@
open Jvm Jvm.ClassFile Sem Op Lib Jvm.Free Jvm.Stand Jvm.LawKit Jvm.RoadKit Bundle Jvm.Pilot.@@N@@.Jvm.D
section Own
variable {p : Program} {l : Launch} {e : Env} {R : Room} {s : State} {m : MethodId} {args : Array Value} {below : List Frame} {meth : Method} {c : Code} {T : State} {locs : List Loc} {cells slots : Nat}
/-- the walk from the state t ends as the contract Q says; End: the narrow frame or the wide one -/
def Go (End : State → Outcome → State → List Loc → Nat → Nat → Prop) (p : Program) (e : Env) (below : List Frame) (s : State) (rc rs : Nat) (Q : Option Value → Heap → List Loc → Prop) (t : State) : Prop :=
  ∃ s₂ o, Steps p.tables e below t s₂ ∧ s₂.status = .running ∧ Ended s₂ below o ∧ ∃ v L, o = .returned v ∧ Q v s₂.heap L ∧ End s o s₂ L rc rs
variable {End : State → Outcome → State → List Loc → Nat → Nat → Prop}
theorem go {rc rs : Nat} {Q : Option Value → Heap → List Loc → Prop} {t t' : State} (k : ∀ target, Steps p.tables e below t' target → Steps p.tables e below t target) (h : Go End p e below s rc rs Q t') : Go End p e below s rc rs Q t := by
  obtain ⟨s₂, o, h1, h2⟩ := h
  exact ⟨s₂, o, k _ h1, h2⟩
theorem goT {rc rs : Nat} {Q : Option Value → Heap → List Loc → Prop} {t t' : State} (k : Steps p.tables e below t t') (h : Go End p e below s rc rs Q t') : Go End p e below s rc rs Q t := by
  obtain ⟨s₂, o, h1, h2⟩ := h
  exact ⟨s₂, o, k.trans h1, h2⟩
theorem goRet {rc rs : Nat} {Q : Option Value → Heap → List Loc → Prop} (X : Stand p l e R s m args below meth c T locs cells slots) (hx : p.tables.exec = Jvm.exec) (hlk : meth.locks = false) {pc : Nat} {Ls : Array Slot} {w : Value} {t : FieldType} {i : Instr} {rest : List Value} (hret : meth.sig.returnType = some t) (hn : narrow t w = w)
    (hi : (i = .ireturn ∧ (t = .int ∨ t = .boolean ∨ t = .byte ∨ t = .char ∨ t = .short) ∧ ∃ z, w = .int z) ∨ (i = .lreturn ∧ t = .long ∧ ∃ z, w = .long z) ∨ (i = .dreturn ∧ t = .double ∧ ∃ z, w = .double z) ∨ (i = .freturn ∧ t = .float ∧ ∃ z, w = .float z) ∨ (i = .areturn ∧ t.isReference = true ∧ w.isRef = true))
    (hd : decode c.code pc = .ok (i, 1)) (hc : cells ≤ rc) (hs : slots ≤ rs) (hq : Q (some w) T.heap locs) : Go FrameEnd p e below s rc rs Q (T.setTop (mkF m pc Ls (w :: rest))) := by
  obtain ⟨fs, hr, hrun, hended, hW, hsame⟩ := X.leave (v := some w) (fun h => by rw [hret] at h; cases h) hlk
  refine ⟨_, _, retOut X hx hret hn hi hd hr, hrun, hended, _, _, rfl, ?_, ⟨_, rfl⟩, hW, hsame.mono hc hs⟩
  show Q _ T.heap _
  exact hq
theorem goRetN {rc rs : Nat} {Q : Option Value → Heap → List Loc → Prop} (X : Stand p l e R s m args below meth c T locs cells slots) (hx : p.tables.exec = Jvm.exec) (hlk : meth.locks = false) {pc : Nat} {Ls : Array Slot} {z : Int32} {t : FieldType} {rest : List Value} (hret : meth.sig.returnType = some t) (ht : t = .boolean ∨ t = .byte ∨ t = .char ∨ t = .short)
    (hd : decode c.code pc = .ok (.ireturn, 1)) (hc : cells ≤ rc) (hs : slots ≤ rs) (hq : Q (some (.int (nar t z))) T.heap locs) : Go FrameEnd p e below s rc rs Q (T.setTop (mkF m pc Ls (.int z :: rest))) := by
  obtain ⟨fs, hr, hrun, hended, hW, hsame⟩ := X.leave (v := some (.int (nar t z))) (fun h => by rw [hret] at h; cases h) hlk
  refine ⟨_, _, retN X hx hret ht hd hr, hrun, hended, _, _, rfl, ?_, ⟨_, rfl⟩, hW, hsame.mono hc hs⟩
  show Q _ T.heap _
  exact hq
theorem goRet0 {rc rs : Nat} {Q : Option Value → Heap → List Loc → Prop} (X : Stand p l e R s m args below meth c T locs cells slots) (hx : p.tables.exec = Jvm.exec) (hlk : meth.locks = false) {pc : Nat} {Ls : Array Slot} (hret : meth.sig.returnType = none)
    (hd : decode c.code pc = .ok (.return_, 1)) (hc : cells ≤ rc) (hs : slots ≤ rs) (hq : Q none T.heap locs) : Go FrameEnd p e below s rc rs Q (T.setTop (mkF m pc Ls [])) := by
  obtain ⟨fs, hr, hrun, hended, hW, hsame⟩ := X.leave (v := none) (fun _ => rfl) hlk
  refine ⟨_, _, X.returnOut hx hret hd hr, hrun, hended, _, _, rfl, ?_, ⟨_, rfl⟩, hW, hsame.mono hc hs⟩
  show Q _ T.heap _
  exact hq
end Own
section OwnW
variable {p : Program} {l : Launch} {e : Env} {R : Room} {s : State} {m : MethodId} {args : Array Value} {below : List Frame} {meth : Method} {c : Code} {T : State} {locs : List Loc} {cells slots : Nat} {vm₁ : Vm} {k : Nat}
theorem goRetW {rc rs : Nat} {Q : Option Value → Heap → List Loc → Prop} (X : Stand p l e R (s.setVm vm₁) m args below meth c T locs cells slots) (hS : s.Since vm₁ k) (hk : k ≤ T.heap.size) (hx : p.tables.exec = Jvm.exec) (hlk : meth.locks = false) {pc : Nat} {Ls : Array Slot} {w : Value} {t : FieldType} {i : Instr} {rest : List Value} (hret : meth.sig.returnType = some t) (hn : narrow t w = w)
    (hi : (i = .ireturn ∧ (t = .int ∨ t = .boolean ∨ t = .byte ∨ t = .char ∨ t = .short) ∧ ∃ z, w = .int z) ∨ (i = .lreturn ∧ t = .long ∧ ∃ z, w = .long z) ∨ (i = .dreturn ∧ t = .double ∧ ∃ z, w = .double z) ∨ (i = .freturn ∧ t = .float ∧ ∃ z, w = .float z) ∨ (i = .areturn ∧ t.isReference = true ∧ w.isRef = true))
    (hd : decode c.code pc = .ok (i, 1)) (hc : cells ≤ rc) (hs : slots ≤ rs) (hq : Q (some w) T.heap locs) : Go ReturnedEndW p e below s rc rs Q (T.setTop (mkF m pc Ls (w :: rest))) := by
  obtain ⟨fs, hr, hrun, hended, h1, h2, h3, h4⟩ := X.leaveW hS hk (v := some w) (fun h => by rw [hret] at h; cases h) hlk
  refine ⟨_, _, retOut X hx hret hn hi hd hr, hrun, hended, _, _, rfl, ?_, h1, h2, h3, h4.mono hc hs⟩
  show Q _ T.heap _
  exact hq
theorem goRet0W {rc rs : Nat} {Q : Option Value → Heap → List Loc → Prop} (X : Stand p l e R (s.setVm vm₁) m args below meth c T locs cells slots) (hS : s.Since vm₁ k) (hk : k ≤ T.heap.size) (hx : p.tables.exec = Jvm.exec) (hlk : meth.locks = false) {pc : Nat} {Ls : Array Slot} (hret : meth.sig.returnType = none)
    (hd : decode c.code pc = .ok (.return_, 1)) (hc : cells ≤ rc) (hs : slots ≤ rs) (hq : Q none T.heap locs) : Go ReturnedEndW p e below s rc rs Q (T.setTop (mkF m pc Ls [])) := by
  obtain ⟨fs, hr, hrun, hended, h1, h2, h3, h4⟩ := X.leaveW hS hk (v := none) (fun _ => rfl) hlk
  refine ⟨_, _, X.returnOut hx hret hd hr, hrun, hended, _, _, rfl, ?_, h1, h2, h3, h4.mono hc hs⟩
  show Q _ T.heap _
  exact hq
end OwnW
section OwnStart
variable {args : Array Value} {s : State} {a : Addr} {t : Term} {C n d : String} {k : Int32}
theorem own_eqI (h : (Cond.eq t (.int k)).value args s none s [] = some true) : t.eval args s none [] s = some (.int k) := by
  cases ht : t.eval args s none [] s with
  | none => simp [Cond.value, ht] at h
  | some x => cases x <;> simp [Cond.value, ht, Term.int_eval] at h ⊢; exact h
theorem own_neI (h : (Cond.not (Cond.eq t (.int k))).value args s none s [] = some true) {x : Int32} (e : t.eval args s none [] s = some (.int x)) : ¬ x = k := fun q => by
  subst q; simp [Cond.value, e, Term.int_eval] at h
theorem own_fI (ev : t.eval args s none [] s = some (.ref a)) (h : (Cond.eq (.field t C n d) (.int k)).value args s none s [] = some true) : Fld s s.heap a C n d (.int k) :=
  Fld.start ((fld_at ev).symm.trans (own_eqI h))
theorem own_fR {b : Addr} (ev : t.eval args s none [] s = some (.ref a)) (h : (Term.field t C n d).eval args s none [] s = some (.ref b)) : Fld s s.heap a C n d (.ref b) :=
  Fld.start ((fld_at ev).symm.trans h)
theorem own_len {c : Cell} {ty : FieldType} (ev : t.eval args s none [] s = some (.ref a)) (A : Arr s s.heap a c ty) (h : (Cond.eq (.length t) (.int k)).value args s none s [] = some true) : c.slots.size < 2 ^ 31 ∧ c.slots.size.toInt32 = k := by
  have e := own_eqI h
  have ha : s.arrayAt? a = some c := IntBox.arrayAt_of A.1 A.2.1 A.2.2
  by_cases hl : c.slots.size < 2 ^ 31
  · rw [len_f ev ha hl] at e; exact ⟨hl, by injection e with e; injection e⟩
  · simp [Term.eval, ev, ha, hl] at e
theorem own_el {c : Cell} {ty : FieldType} {j : Int32} {v : Int32} (ev : t.eval args s none [] s = some (.ref a)) (A : Arr s s.heap a c ty) (h : (Cond.eq (.elem t (.int j)) (.int v)).value args s none s [] = some true) : c.slots[j.toNatClampNeg]? = some (.int v) :=
  (elem_in (own_eqI h) ev (Term.int_eval j) A.1).2
end OwnStart
theorem own_wS {Z : State} {a0 : Array Value} (hw : ∀ d ∈ tables_1, d.before a0 Z = true) : ∀ a ∈ Bundle.stringAtoms, a.before a0 Z = true := by
  intro d hd
  simp only [Bundle.stringAtoms, List.mem_cons, List.not_mem_nil, or_false] at hd
  rcases hd with rfl | rfl | rfl | rfl | rfl | rfl | rfl
  · exact hw _ (List.mem_of_getElem? (i := 52) rfl)
  · exact hw _ (List.mem_of_getElem? (i := 53) rfl)
  · exact hw _ (List.mem_of_getElem? (i := 54) rfl)
  · exact hw _ (List.mem_of_getElem? (i := 55) rfl)
  · exact hw _ (List.mem_of_getElem? (i := 56) rfl)
  · exact hw _ (List.mem_of_getElem? (i := 57) rfl)
  · exact hw _ (List.mem_of_getElem? (i := 58) rfl)
theorem d1_0 : decode prog_185_method_1_code 0 = .ok (.aload_n 0, 1) := by decide +kernel
theorem d1_1 : decode prog_185_method_1_code 1 = .ok (.invokespecial 1, 3) := by decide +kernel
theorem d1_4 : decode prog_185_method_1_code 4 = .ok (.aload_n 0, 1) := by decide +kernel
theorem d1_5 : decode prog_185_method_1_code 5 = .ok (.iload_n 1, 1) := by decide +kernel
theorem d1_6 : decode prog_185_method_1_code 6 = .ok (.putfield 7, 3) := by decide +kernel
theorem d1_9 : decode prog_185_method_1_code 9 = .ok (.aload_n 0, 1) := by decide +kernel
theorem d1_10 : decode prog_185_method_1_code 10 = .ok (.iload_n 2, 1) := by decide +kernel
theorem d1_11 : decode prog_185_method_1_code 11 = .ok (.putfield 13, 3) := by decide +kernel
theorem d1_14 : decode prog_185_method_1_code 14 = .ok (.aload_n 0, 1) := by decide +kernel
theorem d1_15 : decode prog_185_method_1_code 15 = .ok (.aload_n 3, 1) := by decide +kernel
theorem d1_16 : decode prog_185_method_1_code 16 = .ok (.putfield 16, 3) := by decide +kernel
theorem d1_19 : decode prog_185_method_1_code 19 = .ok (.aload_n 0, 1) := by decide +kernel
theorem d1_20 : decode prog_185_method_1_code 20 = .ok (.aload 4, 2) := by decide +kernel
theorem d1_22 : decode prog_185_method_1_code 22 = .ok (.putfield 20, 3) := by decide +kernel
theorem d1_25 : decode prog_185_method_1_code 25 = .ok (.return_, 1) := by decide +kernel
theorem pn_1 : plainName "com/example/reticule/reticule/engine/TerminalNode" = true := by first | (simp [plainName, overriddenIn]; done) | decide +kernel
theorem ef_1 (m : MethodId) (a1 : Addr) : entryFrame m #[(.ref a1), (.int (0 : Int32)), (.int (0 : Int32)), .null, .null] 5 = mkF m 0 #[.val (.ref a1), .val (.int (0 : Int32)), .val (.int (0 : Int32)), .val .null, .val .null] [] := by first | (simp [entryFrame, mkF, argsToLocals, Value.category]; done) | rfl
def Q1 (Z : State) (a1 : Addr) (u0 : Value) (u1 : Value) (u2 : Value) (u3 : Value) (h0 : Heap) (n0 : Nat) (v : Option Value) (h : Heap) (L : List Loc) : Prop := v = none ∧ Fr n0 L ∧ (Keep h0 h [a1])
set_option maxRecDepth 65536 in
set_option maxHeartbeats 40000000 in
theorem rm1 (l : Launch) (Z : State) (a0 : Array Value) (hw : ∀ d ∈ tables_1, d.before a0 Z = true) (ws : List Jvm.Cond) (a1 : Addr) (u0 : Value) (u1 : Value) (u2 : Value) (u3 : Value) (h0 : Heap) (n0 : Nat) (Z0 : n0 ≤ h0.size) (P0 : Exa Z h0 a1 "com/example/reticule/reticule/engine/TerminalNode") (P1 : n0 ≤ a1) (P2 : Fld Z h0 a1 "com/example/reticule/reticule/engine/TerminalNode" "ruleIndex" "I" u0) (P3 : Fld Z h0 a1 "com/example/reticule/reticule/engine/TerminalNode" "salience" "I" u1) (P4 : Fld Z h0 a1 "com/example/reticule/reticule/engine/TerminalNode" "actions" "Lcom/example/reticule/reticule/engine/Expression;" u2) (P5 : Fld Z h0 a1 "com/example/reticule/reticule/engine/TerminalNode" "agenda" "Lcom/example/reticule/reticule/engine/Agenda;" u3) :
    MetFree l (⟨"com/example/reticule/reticule/engine/TerminalNode", "<init>", "(IILcom/example/reticule/reticule/engine/Expression;Lcom/example/reticule/reticule/engine/Agenda;)V"⟩ : MethodName) (head1 (Jvm.Cond.code (⟨"com/example/reticule/reticule/engine/TerminalNode", "<init>", "(IILcom/example/reticule/reticule/engine/Expression;Lcom/example/reticule/reticule/engine/Agenda;)V"⟩ : MethodName) prog_185_method_1_code 5 none :: ws) ({ frames := 1, cells := 0, slots := 0, locals := 12 } : Room)) (fun a U => a = #[(.ref a1), (.int (0 : Int32)), (.int (0 : Int32)), .null, .null] ∧ Z.Warmed39 U.vm ∧ U.heap = h0) (fun _ _ _ _ _ => True) (fun _ U o U' => ∃ v L, o = .returned v ∧ Q1 Z a1 u0 u1 u2 u3 h0 n0 v U'.heap L ∧ FrameEnd U o U' L ({ frames := 1, cells := 0, slots := 0, locals := 12 } : Room).cells ({ frames := 1, cells := 0, slots := 0, locals := 12 } : Room).slots) := by
  refine MetFree.of_bodySF (plainFor_of_name pn_1) hisR ?_
  intro p e s m args below meth c s₁ Bd hml0 hP hK
  obtain ⟨rfl, hZ, hh⟩ := hP
  have hx := Bd.exec
  have hby := Bd.bytes
  have hml : c.maxLocals = 5 := hml0
  have hown : s.vm.findClass "com/example/reticule/reticule/engine/TerminalNode" = some m.cls := findClass_of_methodNamed Bd.named
  have hnm := (name_of_methodNamed Bd.named Bd.method).1
  have X0 : Stand p l e ({ frames := 1, cells := 0, slots := 0, locals := 12 } : Room) s m #[(.ref a1), (.int (0 : Int32)), (.int (0 : Int32)), .null, .null] below meth c s₁ [] 0 0 := Stand.of_body Bd
  have e0 : s₁.heap = h0 := by rw [← hh, Bd.state]; rfl
  have N0 := Fr.nil n0
  have hS0 : s.Since s.vm 0 := (State.WarmedH.refl s).since 0
  show Go FrameEnd p e below s ({ frames := 1, cells := 0, slots := 0, locals := 12 } : Room).cells ({ frames := 1, cells := 0, slots := 0, locals := 12 } : Room).slots (Q1 Z a1 u0 u1 u2 u3 h0 n0) (s₁.setTop (entryFrame m #[(.ref a1), (.int (0 : Int32)), (.int (0 : Int32)), .null, .null] 5))
  refine go (fun _ k => castTop (ef_1 m a1) k) ?_
  show Go _ p e below s _ _ _ (s₁.setTop (mkF m 0 #[.val (.ref a1), .val (.int (0 : Int32)), .val (.int (0 : Int32)), .val .null, .val .null] []))
  refine go (fun _ => XS.aloadN X0.here hx rfl (hb hby d1_0) rfl rfl) ?_
  show Go _ p e below s _ _ _ (s₁.setTop (mkF m 1 #[.val (.ref a1), .val (.int (0 : Int32)), .val (.int (0 : Int32)), .val .null, .val .null] [(.ref a1)]))
  obtain ⟨T6, X6, e6, st6⟩ := initO X0 hx hZ hown (hw _ (List.mem_of_getElem? (i := 6) rfl)) (hw _ (List.mem_of_getElem? (i := 7) rfl)) (hw _ (List.mem_of_getElem? (i := 8) rfl)) e0 (g := (mkF m 1 #[.val (.ref a1), .val (.int (0 : Int32)), .val (.int (0 : Int32)), .val .null, .val .null] [(.ref a1)])) rfl (by rw [hml]; rfl) rfl (hb hby d1_1) (by decide) (W := 0) (by show 2 * 0 + _ ≤ _; exact Nat.le_of_eq rfl) (by decide)
  refine go st6 ?_
  show Go _ p e below s _ _ _ (T6.setTop (mkF m 4 #[.val (.ref a1), .val (.int (0 : Int32)), .val (.int (0 : Int32)), .val .null, .val .null] []))
  refine go (fun _ => XS.aloadN X6.here hx rfl (hb hby d1_4) rfl rfl) ?_
  show Go _ p e below s _ _ _ (T6.setTop (mkF m 5 #[.val (.ref a1), .val (.int (0 : Int32)), .val (.int (0 : Int32)), .val .null, .val .null] [(.ref a1)]))
  refine go (fun _ => XS.iloadN X6.here hx rfl (hb hby d1_5) rfl) ?_
  show Go _ p e below s _ _ _ (T6.setTop (mkF m 6 #[.val (.ref a1), .val (.int (0 : Int32)), .val (.int (0 : Int32)), .val .null, .val .null] [(.int (0 : Int32)), (.ref a1)]))
  obtain ⟨T7, h7, X7, e7, W7, st7⟩ := putF X6 hx hZ hown (host := "") (Or.inl (hw _ (List.mem_of_getElem? (i := 9) rfl))) Via.refl e6 P2 P0 (Or.inr ⟨(hw _ (List.mem_of_getElem? (i := 10) rfl)), rfl, hnm⟩) (hw _ (List.mem_of_getElem? (i := 1) rfl)) (ty := .int) (by decide) rfl rfl (g := (mkF m 6 #[.val (.ref a1), .val (.int (0 : Int32)), .val (.int (0 : Int32)), .val .null, .val .null] [(.int (0 : Int32)), (.ref a1)])) rfl rfl (hb hby d1_6)
  have Fw7 := P2.same W7
  have c7_0 := P0.wr W7
  have c7_2 := P3.other W7 (Or.inr (slot_ne (Or.inr (hw _ (List.mem_of_getElem? (i := 12) rfl))) (Or.inr (hw _ (List.mem_of_getElem? (i := 10) rfl))) (by decide) (t := .int) (t' := .int) (by decide) (by decide)))
  have c7_3 := P4.other W7 (Or.inr (slot_ne (Or.inr (hw _ (List.mem_of_getElem? (i := 14) rfl))) (Or.inr (hw _ (List.mem_of_getElem? (i := 10) rfl))) (by decide) (t := (.object "com/example/reticule/reticule/engine/Expression")) (t' := .int) (by decide) (by decide)))
  have c7_4 := P5.other W7 (Or.inr (slot_ne (Or.inr (hw _ (List.mem_of_getElem? (i := 16) rfl))) (Or.inr (hw _ (List.mem_of_getElem? (i := 10) rfl))) (by decide) (t := (.object "com/example/reticule/reticule/engine/Agenda")) (t' := .int) (by decide) (by decide)))
  have KK7 : Keep h0 h7 [a1] := (Keep.refl h0 [a1]).wr W7 (Or.inl (List.mem_of_getElem? (i := 0) rfl))
  have ZN7 : n0 ≤ h7.size := Nat.le_trans Z0 (Keep.of_wr W7).1
  have NN7 := Fr.snoc X7 N0 P1
  refine go st7 ?_
  show Go _ p e below s _ _ _ (T7.setTop (mkF m 9 #[.val (.ref a1), .val (.int (0 : Int32)), .val (.int (0 : Int32)), .val .null, .val .null] []))
  refine go (fun _ => XS.aloadN X7.here hx rfl (hb hby d1_9) rfl rfl) ?_
  show Go _ p e below s _ _ _ (T7.setTop (mkF m 10 #[.val (.ref a1), .val (.int (0 : Int32)), .val (.int (0 : Int32)), .val .null, .val .null] [(.ref a1)]))
  refine go (fun _ => XS.iloadN X7.here hx rfl (hb hby d1_10) rfl) ?_
  show Go _ p e below s _ _ _ (T7.setTop (mkF m 11 #[.val (.ref a1), .val (.int (0 : Int32)), .val (.int (0 : Int32)), .val .null, .val .null] [(.int (0 : Int32)), (.ref a1)]))
  obtain ⟨T8, h8, X8, e8, W8, st8⟩ := putF X7 hx hZ hown (host := "") (Or.inl (hw _ (List.mem_of_getElem? (i := 11) rfl))) Via.refl e7 c7_2 c7_0 (Or.inr ⟨(hw _ (List.mem_of_getElem? (i := 12) rfl)), rfl, hnm⟩) (hw _ (List.mem_of_getElem? (i := 1) rfl)) (ty := .int) (by decide) rfl rfl (g := (mkF m 11 #[.val (.ref a1), .val (.int (0 : Int32)), .val (.int (0 : Int32)), .val .null, .val .null] [(.int (0 : Int32)), (.ref a1)])) rfl rfl (hb hby d1_11)
  have Fw8 := c7_2.same W8
  have c8_0 := c7_0.wr W8
  have c8_1 := Fw7.other W8 (Or.inr (slot_ne (Or.inr (hw _ (List.mem_of_getElem? (i := 10) rfl))) (Or.inr (hw _ (List.mem_of_getElem? (i := 12) rfl))) (by decide) (t := .int) (t' := .int) (by decide) (by decide)))
  have c8_3 := c7_3.other W8 (Or.inr (slot_ne (Or.inr (hw _ (List.mem_of_getElem? (i := 14) rfl))) (Or.inr (hw _ (List.mem_of_getElem? (i := 12) rfl))) (by decide) (t := (.object "com/example/reticule/reticule/engine/Expression")) (t' := .int) (by decide) (by decide)))
  have c8_4 := c7_4.other W8 (Or.inr (slot_ne (Or.inr (hw _ (List.mem_of_getElem? (i := 16) rfl))) (Or.inr (hw _ (List.mem_of_getElem? (i := 12) rfl))) (by decide) (t := (.object "com/example/reticule/reticule/engine/Agenda")) (t' := .int) (by decide) (by decide)))
  have KK8 : Keep h0 h8 [a1] := KK7.wr W8 (Or.inl (List.mem_of_getElem? (i := 0) rfl))
  have ZN8 : n0 ≤ h8.size := Nat.le_trans ZN7 (Keep.of_wr W8).1
  have NN8 := Fr.snoc X8 NN7 P1
  refine go st8 ?_
  show Go _ p e below s _ _ _ (T8.setTop (mkF m 14 #[.val (.ref a1), .val (.int (0 : Int32)), .val (.int (0 : Int32)), .val .null, .val .null] []))
  refine go (fun _ => XS.aloadN X8.here hx rfl (hb hby d1_14) rfl rfl) ?_
  show Go _ p e below s _ _ _ (T8.setTop (mkF m 15 #[.val (.ref a1), .val (.int (0 : Int32)), .val (.int (0 : Int32)), .val .null, .val .null] [(.ref a1)]))
  refine go (fun _ => XS.aloadN X8.here hx rfl (hb hby d1_15) rfl rfl) ?_
  show Go _ p e below s _ _ _ (T8.setTop (mkF m 16 #[.val (.ref a1), .val (.int (0 : Int32)), .val (.int (0 : Int32)), .val .null, .val .null] [.null, (.ref a1)]))
  obtain ⟨T9, h9, X9, e9, W9, st9⟩ := putF X8 hx hZ hown (host := "") (Or.inl (hw _ (List.mem_of_getElem? (i := 13) rfl))) Via.refl e8 c8_3 c8_0 (Or.inr ⟨(hw _ (List.mem_of_getElem? (i := 14) rfl)), rfl, hnm⟩) (hw _ (List.mem_of_getElem? (i := 1) rfl)) (ty := (.object "com/example/reticule/reticule/engine/Expression")) (by decide) rfl rfl (g := (mkF m 16 #[.val (.ref a1), .val (.int (0 : Int32)), .val (.int (0 : Int32)), .val .null, .val .null] [.null, (.ref a1)])) rfl rfl (hb hby d1_16)
  have Fw9 := c8_3.same W9
  have c9_0 := c8_0.wr W9
  have c9_1 := c8_1.other W9 (Or.inr (slot_ne (Or.inr (hw _ (List.mem_of_getElem? (i := 10) rfl))) (Or.inr (hw _ (List.mem_of_getElem? (i := 14) rfl))) (by decide) (t := .int) (t' := (.object "com/example/reticule/reticule/engine/Expression")) (by decide) (by decide)))
  have c9_2 := Fw8.other W9 (Or.inr (slot_ne (Or.inr (hw _ (List.mem_of_getElem? (i := 12) rfl))) (Or.inr (hw _ (List.mem_of_getElem? (i := 14) rfl))) (by decide) (t := .int) (t' := (.object "com/example/reticule/reticule/engine/Expression")) (by decide) (by decide)))
  have c9_4 := c8_4.other W9 (Or.inr (slot_ne (Or.inr (hw _ (List.mem_of_getElem? (i := 16) rfl))) (Or.inr (hw _ (List.mem_of_getElem? (i := 14) rfl))) (by decide) (t := (.object "com/example/reticule/reticule/engine/Agenda")) (t' := (.object "com/example/reticule/reticule/engine/Expression")) (by decide) (by decide)))
  have KK9 : Keep h0 h9 [a1] := KK8.wr W9 (Or.inl (List.mem_of_getElem? (i := 0) rfl))
  have ZN9 : n0 ≤ h9.size := Nat.le_trans ZN8 (Keep.of_wr W9).1
  have NN9 := Fr.snoc X9 NN8 P1
  refine go st9 ?_
  show Go _ p e below s _ _ _ (T9.setTop (mkF m 19 #[.val (.ref a1), .val (.int (0 : Int32)), .val (.int (0 : Int32)), .val .null, .val .null] []))
  refine go (fun _ => XS.aloadN X9.here hx rfl (hb hby d1_19) rfl rfl) ?_
  show Go _ p e below s _ _ _ (T9.setTop (mkF m 20 #[.val (.ref a1), .val (.int (0 : Int32)), .val (.int (0 : Int32)), .val .null, .val .null] [(.ref a1)]))
  refine go (fun _ => XS.aload X9.here hx rfl (hb hby d1_20) rfl rfl) ?_
  show Go _ p e below s _ _ _ (T9.setTop (mkF m 22 #[.val (.ref a1), .val (.int (0 : Int32)), .val (.int (0 : Int32)), .val .null, .val .null] [.null, (.ref a1)]))
  obtain ⟨T10, h10, X10, e10, W10, st10⟩ := putF X9 hx hZ hown (host := "") (Or.inl (hw _ (List.mem_of_getElem? (i := 15) rfl))) Via.refl e9 c9_4 c9_0 (Or.inr ⟨(hw _ (List.mem_of_getElem? (i := 16) rfl)), rfl, hnm⟩) (hw _ (List.mem_of_getElem? (i := 1) rfl)) (ty := (.object "com/example/reticule/reticule/engine/Agenda")) (by decide) rfl rfl (g := (mkF m 22 #[.val (.ref a1), .val (.int (0 : Int32)), .val (.int (0 : Int32)), .val .null, .val .null] [.null, (.ref a1)])) rfl rfl (hb hby d1_22)
  have Fw10 := c9_4.same W10
  have c10_0 := c9_0.wr W10
  have c10_1 := c9_1.other W10 (Or.inr (slot_ne (Or.inr (hw _ (List.mem_of_getElem? (i := 10) rfl))) (Or.inr (hw _ (List.mem_of_getElem? (i := 16) rfl))) (by decide) (t := .int) (t' := (.object "com/example/reticule/reticule/engine/Agenda")) (by decide) (by decide)))
  have c10_2 := c9_2.other W10 (Or.inr (slot_ne (Or.inr (hw _ (List.mem_of_getElem? (i := 12) rfl))) (Or.inr (hw _ (List.mem_of_getElem? (i := 16) rfl))) (by decide) (t := .int) (t' := (.object "com/example/reticule/reticule/engine/Agenda")) (by decide) (by decide)))
  have c10_3 := Fw9.other W10 (Or.inr (slot_ne (Or.inr (hw _ (List.mem_of_getElem? (i := 14) rfl))) (Or.inr (hw _ (List.mem_of_getElem? (i := 16) rfl))) (by decide) (t := (.object "com/example/reticule/reticule/engine/Expression")) (t' := (.object "com/example/reticule/reticule/engine/Agenda")) (by decide) (by decide)))
  have KK10 : Keep h0 h10 [a1] := KK9.wr W10 (Or.inl (List.mem_of_getElem? (i := 0) rfl))
  have ZN10 : n0 ≤ h10.size := Nat.le_trans ZN9 (Keep.of_wr W10).1
  have NN10 := Fr.snoc X10 NN9 P1
  refine go st10 ?_
  show Go _ p e below s _ _ _ (T10.setTop (mkF m 25 #[.val (.ref a1), .val (.int (0 : Int32)), .val (.int (0 : Int32)), .val .null, .val .null] []))
  refine goRet0 X10 hx Bd.notSynchronized Bd.returns (hb hby d1_25) (by decide) (by decide) (by rw [e10]; refine ⟨rfl, NN10, KK10⟩)
theorem d6_0 : decode prog_123_method_1_code 0 = .ok (.aload_n 0, 1) := by decide +kernel
theorem d6_1 : decode prog_123_method_1_code 1 = .ok (.invokespecial 1, 3) := by decide +kernel
theorem d6_4 : decode prog_123_method_1_code 4 = .ok (.aload_n 0, 1) := by decide +kernel
theorem d6_5 : decode prog_123_method_1_code 5 = .ok (.aload_n 1, 1) := by decide +kernel
theorem d6_6 : decode prog_123_method_1_code 6 = .ok (.putfield 7, 3) := by decide +kernel
theorem d6_9 : decode prog_123_method_1_code 9 = .ok (.return_, 1) := by decide +kernel
theorem pn_6T : plainName "com/example/reticule/reticule/engine/Made" = true := by first | (simp [plainName, overriddenIn]; done) | decide +kernel
theorem ef_6T (m : MethodId) (a1 : Addr) : entryFrame m #[(.ref a1), .null] 2 = mkF m 0 #[.val (.ref a1), .val .null] [] := by first | (simp [entryFrame, mkF, argsToLocals, Value.category]; done) | rfl
def Q6T (Z : State) (a1 : Addr) (u1 : Value) (u2 : Value) (u3 : Value) (u4 : Value) (h0 : Heap) (n0 : Nat) (v : Option Value) (h : Heap) (L : List Loc) : Prop := v = none ∧ Fr n0 L ∧ (Keep h0 h [a1]) ∧ (Fld Z h a1 "com/example/reticule/reticule/engine/Token" "parent" "Lcom/example/reticule/reticule/engine/Token;" u2) ∧ (Fld Z h a1 "com/example/reticule/reticule/engine/Token" "last" "Lcom/example/reticule/reticule/engine/FactEntry;" u3) ∧ (Fld Z h a1 "com/example/reticule/reticule/engine/Token" "size" "I" u4)
set_option maxRecDepth 65536 in
set_option maxHeartbeats 40000000 in
theorem rm6T (l : Launch) (Z : State) (a0 : Array Value) (hw : ∀ d ∈ tables_1, d.before a0 Z = true) (ws : List Jvm.Cond) (a1 : Addr) (u1 : Value) (u2 : Value) (u3 : Value) (u4 : Value) (h0 : Heap) (n0 : Nat) (Z0 : n0 ≤ h0.size) (P0 : Exa Z h0 a1 "com/example/reticule/reticule/engine/Token") (P1 : n0 ≤ a1) (P2 : Fld Z h0 a1 "com/example/reticule/reticule/engine/Made" "maker" "Ljava/lang/Object;" u1) (P3 : Fld Z h0 a1 "com/example/reticule/reticule/engine/Token" "parent" "Lcom/example/reticule/reticule/engine/Token;" u2) (P4 : Fld Z h0 a1 "com/example/reticule/reticule/engine/Token" "last" "Lcom/example/reticule/reticule/engine/FactEntry;" u3) (P5 : Fld Z h0 a1 "com/example/reticule/reticule/engine/Token" "size" "I" u4) :
    MetFree l (⟨"com/example/reticule/reticule/engine/Made", "<init>", "(Ljava/lang/Object;)V"⟩ : MethodName) (head1 (Jvm.Cond.code (⟨"com/example/reticule/reticule/engine/Made", "<init>", "(Ljava/lang/Object;)V"⟩ : MethodName) prog_123_method_1_code 2 none :: ws) ({ frames := 1, cells := 0, slots := 0, locals := 12 } : Room)) (fun a U => a = #[(.ref a1), .null] ∧ Z.Warmed39 U.vm ∧ U.heap = h0) (fun _ _ _ _ _ => True) (fun _ U o U' => ∃ v L, o = .returned v ∧ Q6T Z a1 u1 u2 u3 u4 h0 n0 v U'.heap L ∧ FrameEnd U o U' L ({ frames := 1, cells := 0, slots := 0, locals := 12 } : Room).cells ({ frames := 1, cells := 0, slots := 0, locals := 12 } : Room).slots) := by
  refine MetFree.of_bodySF (plainFor_of_name pn_6T) hisR ?_
  intro p e s m args below meth c s₁ Bd hml0 hP hK
  obtain ⟨rfl, hZ, hh⟩ := hP
  have hx := Bd.exec
  have hby := Bd.bytes
  have hml : c.maxLocals = 2 := hml0
  have hown : s.vm.findClass "com/example/reticule/reticule/engine/Made" = some m.cls := findClass_of_methodNamed Bd.named
  have hnm := (name_of_methodNamed Bd.named Bd.method).1
  have X0 : Stand p l e ({ frames := 1, cells := 0, slots := 0, locals := 12 } : Room) s m #[(.ref a1), .null] below meth c s₁ [] 0 0 := Stand.of_body Bd
  have e0 : s₁.heap = h0 := by rw [← hh, Bd.state]; rfl
  have N0 := Fr.nil n0
  have hS0 : s.Since s.vm 0 := (State.WarmedH.refl s).since 0
  show Go FrameEnd p e below s ({ frames := 1, cells := 0, slots := 0, locals := 12 } : Room).cells ({ frames := 1, cells := 0, slots := 0, locals := 12 } : Room).slots (Q6T Z a1 u1 u2 u3 u4 h0 n0) (s₁.setTop (entryFrame m #[(.ref a1), .null] 2))
  refine go (fun _ k => castTop (ef_6T m a1) k) ?_
  show Go _ p e below s _ _ _ (s₁.setTop (mkF m 0 #[.val (.ref a1), .val .null] []))
  refine go (fun _ => XS.aloadN X0.here hx rfl (hb hby d6_0) rfl rfl) ?_
  show Go _ p e below s _ _ _ (s₁.setTop (mkF m 1 #[.val (.ref a1), .val .null] [(.ref a1)]))
  obtain ⟨T13, X13, e13, st13⟩ := initO X0 hx hZ hown (hw _ (List.mem_of_getElem? (i := 36) rfl)) (hw _ (List.mem_of_getElem? (i := 7) rfl)) (hw _ (List.mem_of_getElem? (i := 8) rfl)) e0 (g := (mkF m 1 #[.val (.ref a1), .val .null] [(.ref a1)])) rfl (by rw [hml]; rfl) rfl (hb hby d6_1) (by decide) (W := 0) (by show 2 * 0 + _ ≤ _; exact Nat.le_of_eq rfl) (by decide)
  refine go st13 ?_
  show Go _ p e below s _ _ _ (T13.setTop (mkF m 4 #[.val (.ref a1), .val .null] []))
  refine go (fun _ => XS.aloadN X13.here hx rfl (hb hby d6_4) rfl rfl) ?_
  show Go _ p e below s _ _ _ (T13.setTop (mkF m 5 #[.val (.ref a1), .val .null] [(.ref a1)]))
  refine go (fun _ => XS.aloadN X13.here hx rfl (hb hby d6_5) rfl rfl) ?_
  show Go _ p e below s _ _ _ (T13.setTop (mkF m 6 #[.val (.ref a1), .val .null] [.null, (.ref a1)]))
  obtain ⟨T14, h14, X14, e14, W14, st14⟩ := putF X13 hx hZ hown (host := "") (Or.inl (hw _ (List.mem_of_getElem? (i := 37) rfl))) Via.refl e13 P2 P0 (Or.inr ⟨(hw _ (List.mem_of_getElem? (i := 38) rfl)), rfl, hnm⟩) (hw _ (List.mem_of_getElem? (i := 22) rfl)) (ty := (.object "java/lang/Object")) (by decide) rfl rfl (g := (mkF m 6 #[.val (.ref a1), .val .null] [.null, (.ref a1)])) rfl rfl (hb hby d6_6)
  have Fw14 := P2.same W14
  have c14_0 := P0.wr W14
  have c14_2 := P3.other W14 (Or.inr (slot_ne (Or.inr (hw _ (List.mem_of_getElem? (i := 40) rfl))) (Or.inr (hw _ (List.mem_of_getElem? (i := 38) rfl))) (by decide) (t := (.object "com/example/reticule/reticule/engine/Token")) (t' := (.object "java/lang/Object")) (by decide) (by decide)))
  have c14_3 := P4.other W14 (Or.inr (slot_ne (Or.inr (hw _ (List.mem_of_getElem? (i := 42) rfl))) (Or.inr (hw _ (List.mem_of_getElem? (i := 38) rfl))) (by decide) (t := (.object "com/example/reticule/reticule/engine/FactEntry")) (t' := (.object "java/lang/Object")) (by decide) (by decide)))
  have c14_4 := P5.other W14 (Or.inr (slot_ne (Or.inr (hw _ (List.mem_of_getElem? (i := 44) rfl))) (Or.inr (hw _ (List.mem_of_getElem? (i := 38) rfl))) (by decide) (t := .int) (t' := (.object "java/lang/Object")) (by decide) (by decide)))
  have KK14 : Keep h0 h14 [a1] := (Keep.refl h0 [a1]).wr W14 (Or.inl (List.mem_of_getElem? (i := 0) rfl))
  have ZN14 : n0 ≤ h14.size := Nat.le_trans Z0 (Keep.of_wr W14).1
  have NN14 := Fr.snoc X14 N0 P1
  refine go st14 ?_
  show Go _ p e below s _ _ _ (T14.setTop (mkF m 9 #[.val (.ref a1), .val .null] []))
  refine goRet0 X14 hx Bd.notSynchronized Bd.returns (hb hby d6_9) (by decide) (by decide) (by rw [e14]; refine ⟨rfl, NN14, KK14, c14_2, c14_3, c14_4⟩)
theorem d5_0 : decode prog_167_method_1_code 0 = .ok (.aload_n 0, 1) := by decide +kernel
theorem d5_1 : decode prog_167_method_1_code 1 = .ok (.aload_n 1, 1) := by decide +kernel
theorem d5_2 : decode prog_167_method_1_code 2 = .ok (.invokespecial 1, 3) := by decide +kernel
theorem d5_5 : decode prog_167_method_1_code 5 = .ok (.return_, 1) := by decide +kernel
theorem pn_5 : plainName "com/example/reticule/reticule/engine/Source" = true := by first | (simp [plainName, overriddenIn]; done) | decide +kernel
theorem pd_5_0 : parseMethodDescriptor "(Ljava/lang/Object;)V" = some ⟨[(.object "java/lang/Object")], none⟩ := by decide +kernel
theorem ef_5 (m : MethodId) (a1 : Addr) : entryFrame m #[(.ref a1), .null] 2 = mkF m 0 #[.val (.ref a1), .val .null] [] := by first | (simp [entryFrame, mkF, argsToLocals, Value.category]; done) | rfl
def Q5 (Z : State) (a1 : Addr) (u1 : Value) (u2 : Value) (u3 : Value) (u4 : Value) (h0 : Heap) (n0 : Nat) (v : Option Value) (h : Heap) (L : List Loc) : Prop := v = none ∧ Fr n0 L ∧ (Keep h0 h [a1]) ∧ (Fld Z h a1 "com/example/reticule/reticule/engine/Token" "parent" "Lcom/example/reticule/reticule/engine/Token;" u2) ∧ (Fld Z h a1 "com/example/reticule/reticule/engine/Token" "last" "Lcom/example/reticule/reticule/engine/FactEntry;" u3) ∧ (Fld Z h a1 "com/example/reticule/reticule/engine/Token" "size" "I" u4)
set_option maxRecDepth 65536 in
set_option maxHeartbeats 40000000 in
theorem rm5 (l : Launch) (Z : State) (a0 : Array Value) (hw : ∀ d ∈ tables_1, d.before a0 Z = true) (ws : List Jvm.Cond) (a1 : Addr) (u1 : Value) (u2 : Value) (u3 : Value) (u4 : Value) (h0 : Heap) (n0 : Nat) (Z0 : n0 ≤ h0.size) (P0 : Exa Z h0 a1 "com/example/reticule/reticule/engine/Token") (P1 : n0 ≤ a1) (P2 : Fld Z h0 a1 "com/example/reticule/reticule/engine/Made" "maker" "Ljava/lang/Object;" u1) (P3 : Fld Z h0 a1 "com/example/reticule/reticule/engine/Token" "parent" "Lcom/example/reticule/reticule/engine/Token;" u2) (P4 : Fld Z h0 a1 "com/example/reticule/reticule/engine/Token" "last" "Lcom/example/reticule/reticule/engine/FactEntry;" u3) (P5 : Fld Z h0 a1 "com/example/reticule/reticule/engine/Token" "size" "I" u4) :
    MetFree l (⟨"com/example/reticule/reticule/engine/Source", "<init>", "(Ljava/lang/Object;)V"⟩ : MethodName) (head1 (Jvm.Cond.code (⟨"com/example/reticule/reticule/engine/Source", "<init>", "(Ljava/lang/Object;)V"⟩ : MethodName) prog_167_method_1_code 2 none :: ws) ({ frames := 2, cells := 0, slots := 0, locals := 25 } : Room)) (fun a U => a = #[(.ref a1), .null] ∧ Z.Warmed39 U.vm ∧ U.heap = h0) (fun _ _ _ _ _ => True) (fun _ U o U' => ∃ v L, o = .returned v ∧ Q5 Z a1 u1 u2 u3 u4 h0 n0 v U'.heap L ∧ FrameEnd U o U' L ({ frames := 2, cells := 0, slots := 0, locals := 25 } : Room).cells ({ frames := 2, cells := 0, slots := 0, locals := 25 } : Room).slots) := by
  refine MetFree.of_bodySF (plainFor_of_name pn_5) hisR ?_
  intro p e s m args below meth c s₁ Bd hml0 hP hK
  obtain ⟨rfl, hZ, hh⟩ := hP
  have hx := Bd.exec
  have hby := Bd.bytes
  have hml : c.maxLocals = 2 := hml0
  have hown : s.vm.findClass "com/example/reticule/reticule/engine/Source" = some m.cls := findClass_of_methodNamed Bd.named
  have hnm := (name_of_methodNamed Bd.named Bd.method).1
  have X0 : Stand p l e ({ frames := 2, cells := 0, slots := 0, locals := 25 } : Room) s m #[(.ref a1), .null] below meth c s₁ [] 0 0 := Stand.of_body Bd
  have e0 : s₁.heap = h0 := by rw [← hh, Bd.state]; rfl
  have N0 := Fr.nil n0
  have hS0 : s.Since s.vm 0 := (State.WarmedH.refl s).since 0
  show Go FrameEnd p e below s ({ frames := 2, cells := 0, slots := 0, locals := 25 } : Room).cells ({ frames := 2, cells := 0, slots := 0, locals := 25 } : Room).slots (Q5 Z a1 u1 u2 u3 u4 h0 n0) (s₁.setTop (entryFrame m #[(.ref a1), .null] 2))
  refine go (fun _ k => castTop (ef_5 m a1) k) ?_
  show Go _ p e below s _ _ _ (s₁.setTop (mkF m 0 #[.val (.ref a1), .val .null] []))
  refine go (fun _ => XS.aloadN X0.here hx rfl (hb hby d5_0) rfl rfl) ?_
  show Go _ p e below s _ _ _ (s₁.setTop (mkF m 1 #[.val (.ref a1), .val .null] [(.ref a1)]))
  refine go (fun _ => XS.aloadN X0.here hx rfl (hb hby d5_1) rfl rfl) ?_
  show Go _ p e below s _ _ _ (s₁.setTop (mkF m 2 #[.val (.ref a1), .val .null] [.null, (.ref a1)]))
  obtain ⟨_, _, ⟨T16, L16, k16, n16⟩, -, X16, ⟨Lc16, hQ16, l16, y16, z16⟩, st16⟩ := X0.specialBack hx (y := (⟨"com/example/reticule/reticule/engine/Made", "<init>", "(Ljava/lang/Object;)V"⟩ : MethodName)) rfl hown (mvT hZ (hw _ (List.mem_of_getElem? (i := 31) rfl))) (mvT hZ (hw _ (List.mem_of_getElem? (i := 32) rfl))) (mvT hZ (hw _ (List.mem_of_getElem? (i := 35) rfl))) (by decide) (backOf (W := 0) (rm6T l Z a0 hw [] a1 u1 u2 u3 u4 h0 n0 Z0 P0 P1 P2 P3 P4 P5) hZ (hw _ (List.mem_of_getElem? (i := 35) rfl)) (hw _ (List.mem_of_getElem? (i := 34) rfl)) (by decide) (by decide)) (g := (mkF m 2 #[.val (.ref a1), .val .null] [.null, (.ref a1)])) rfl (by rw [hml]; rfl) (Steps.refl _) (a := a1) (argsL := [.null]) (rest := []) (lenOf pd_5_0 rfl) rfl (by show 2 * 0 + _ ≤ _; exact Nat.le_of_eq rfl) (hb hby d5_2) (fun _ _ => ⟨rfl, e0, (by decide : 0 + 0 ≤ _), (by decide : 0 + 0 ≤ _)⟩)
  dsimp only [Pt.U, Pt.locs, Pt.cells, Pt.slots] at X16 l16 y16 z16 st16 hQ16
  subst l16 y16 z16
  obtain ⟨rfl, N16q, K16, u16_1, u16_2, u16_3⟩ := hQ16
  have N16 := Fr.app N0 N16q
  have c16_0 := P0.keep K16
  have KK16 : Keep h0 T16.heap [a1] := (Keep.refl h0 [a1]).trans K16 (allS (P := fun x => x ∈ [a1] ∨ h0.size ≤ x) (Or.inl (List.mem_of_getElem? (i := 0) rfl)) all0)
  have ZN16 : n0 ≤ T16.heap.size := Nat.le_trans Z0 K16.1
  refine goT st16 ?_
  show Go _ p e below s _ _ _ (T16.setTop (mkF m 5 #[.val (.ref a1), .val .null] []))
  refine goRet0 X16 hx Bd.notSynchronized Bd.returns (hb hby d5_5) (by decide) (by decide) (by refine ⟨rfl, N16, KK16, u16_1, u16_2, u16_3⟩)
theorem d4_0 : decode prog_187_method_1_code 0 = .ok (.aload_n 0, 1) := by decide +kernel
theorem d4_1 : decode prog_187_method_1_code 1 = .ok (.aload_n 3, 1) := by decide +kernel
theorem d4_2 : decode prog_187_method_1_code 2 = .ok (.invokespecial 1, 3) := by decide +kernel
theorem d4_5 : decode prog_187_method_1_code 5 = .ok (.aload_n 0, 1) := by decide +kernel
theorem d4_6 : decode prog_187_method_1_code 6 = .ok (.aload_n 1, 1) := by decide +kernel
theorem d4_7 : decode prog_187_method_1_code 7 = .ok (.putfield 7, 3) := by decide +kernel
theorem d4_10 : decode prog_187_method_1_code 10 = .ok (.aload_n 0, 1) := by decide +kernel
theorem d4_11 : decode prog_187_method_1_code 11 = .ok (.aload_n 2, 1) := by decide +kernel
theorem d4_12 : decode prog_187_method_1_code 12 = .ok (.putfield 13, 3) := by decide +kernel
theorem d4_15 : decode prog_187_method_1_code 15 = .ok (.aload_n 0, 1) := by decide +kernel
theorem d4_16 : decode prog_187_method_1_code 16 = .ok (.aload_n 1, 1) := by decide +kernel
theorem d4_17 : decode prog_187_method_1_code 17 = .ok (.ifnonnull 7, 3) := by decide +kernel
theorem d4_20 : decode prog_187_method_1_code 20 = .ok (.iconst 0, 1) := by decide +kernel
theorem d4_21 : decode prog_187_method_1_code 21 = .ok (.goto 7, 3) := by decide +kernel
theorem d4_28 : decode prog_187_method_1_code 28 = .ok (.aload_n 2, 1) := by decide +kernel
theorem d4_29 : decode prog_187_method_1_code 29 = .ok (.ifnonnull 7, 3) := by decide +kernel
theorem d4_32 : decode prog_187_method_1_code 32 = .ok (.iconst 0, 1) := by decide +kernel
theorem d4_33 : decode prog_187_method_1_code 33 = .ok (.goto 4, 3) := by decide +kernel
theorem d4_37 : decode prog_187_method_1_code 37 = .ok (.iadd, 1) := by decide +kernel
theorem d4_38 : decode prog_187_method_1_code 38 = .ok (.putfield 17, 3) := by decide +kernel
theorem d4_41 : decode prog_187_method_1_code 41 = .ok (.return_, 1) := by decide +kernel
theorem pn_4 : plainName "com/example/reticule/reticule/engine/Token" = true := by first | (simp [plainName, overriddenIn]; done) | decide +kernel
theorem pd_4_0 : parseMethodDescriptor "(Ljava/lang/Object;)V" = some ⟨[(.object "java/lang/Object")], none⟩ := by decide +kernel
theorem ef_4 (m : MethodId) (a1 : Addr) : entryFrame m #[(.ref a1), .null, .null, .null] 4 = mkF m 0 #[.val (.ref a1), .val .null, .val .null, .val .null] [] := by first | (simp [entryFrame, mkF, argsToLocals, Value.category]; done) | rfl
def Q4 (Z : State) (a1 : Addr) (u1 : Value) (u2 : Value) (u3 : Value) (u4 : Value) (h0 : Heap) (n0 : Nat) (v : Option Value) (h : Heap) (L : List Loc) : Prop := v = none ∧ Fr n0 L ∧ (Keep h0 h [a1])
set_option maxRecDepth 65536 in
set_option maxHeartbeats 40000000 in
theorem rm4 (l : Launch) (Z : State) (a0 : Array Value) (hw : ∀ d ∈ tables_1, d.before a0 Z = true) (ws : List Jvm.Cond) (a1 : Addr) (u1 : Value) (u2 : Value) (u3 : Value) (u4 : Value) (h0 : Heap) (n0 : Nat) (Z0 : n0 ≤ h0.size) (P0 : Exa Z h0 a1 "com/example/reticule/reticule/engine/Token") (P1 : n0 ≤ a1) (P2 : Fld Z h0 a1 "com/example/reticule/reticule/engine/Made" "maker" "Ljava/lang/Object;" u1) (P3 : Fld Z h0 a1 "com/example/reticule/reticule/engine/Token" "parent" "Lcom/example/reticule/reticule/engine/Token;" u2) (P4 : Fld Z h0 a1 "com/example/reticule/reticule/engine/Token" "last" "Lcom/example/reticule/reticule/engine/FactEntry;" u3) (P5 : Fld Z h0 a1 "com/example/reticule/reticule/engine/Token" "size" "I" u4) :
    MetFree l (⟨"com/example/reticule/reticule/engine/Token", "<init>", "(Lcom/example/reticule/reticule/engine/Token;Lcom/example/reticule/reticule/engine/FactEntry;Lcom/example/reticule/reticule/engine/ParentNode;)V"⟩ : MethodName) (head1 (Jvm.Cond.code (⟨"com/example/reticule/reticule/engine/Token", "<init>", "(Lcom/example/reticule/reticule/engine/Token;Lcom/example/reticule/reticule/engine/FactEntry;Lcom/example/reticule/reticule/engine/ParentNode;)V"⟩ : MethodName) prog_187_method_1_code 4 none :: ws) ({ frames := 3, cells := 0, slots := 0, locals := 38 } : Room)) (fun a U => a = #[(.ref a1), .null, .null, .null] ∧ Z.Warmed39 U.vm ∧ U.heap = h0) (fun _ _ _ _ _ => True) (fun _ U o U' => ∃ v L, o = .returned v ∧ Q4 Z a1 u1 u2 u3 u4 h0 n0 v U'.heap L ∧ FrameEnd U o U' L ({ frames := 3, cells := 0, slots := 0, locals := 38 } : Room).cells ({ frames := 3, cells := 0, slots := 0, locals := 38 } : Room).slots) := by
  refine MetFree.of_bodySF (plainFor_of_name pn_4) hisR ?_
  intro p e s m args below meth c s₁ Bd hml0 hP hK
  obtain ⟨rfl, hZ, hh⟩ := hP
  have hx := Bd.exec
  have hby := Bd.bytes
  have hml : c.maxLocals = 4 := hml0
  have hown : s.vm.findClass "com/example/reticule/reticule/engine/Token" = some m.cls := findClass_of_methodNamed Bd.named
  have hnm := (name_of_methodNamed Bd.named Bd.method).1
  have X0 : Stand p l e ({ frames := 3, cells := 0, slots := 0, locals := 38 } : Room) s m #[(.ref a1), .null, .null, .null] below meth c s₁ [] 0 0 := Stand.of_body Bd
  have e0 : s₁.heap = h0 := by rw [← hh, Bd.state]; rfl
  have N0 := Fr.nil n0
  have hS0 : s.Since s.vm 0 := (State.WarmedH.refl s).since 0
  show Go FrameEnd p e below s ({ frames := 3, cells := 0, slots := 0, locals := 38 } : Room).cells ({ frames := 3, cells := 0, slots := 0, locals := 38 } : Room).slots (Q4 Z a1 u1 u2 u3 u4 h0 n0) (s₁.setTop (entryFrame m #[(.ref a1), .null, .null, .null] 4))
  refine go (fun _ k => castTop (ef_4 m a1) k) ?_
  show Go _ p e below s _ _ _ (s₁.setTop (mkF m 0 #[.val (.ref a1), .val .null, .val .null, .val .null] []))
  refine go (fun _ => XS.aloadN X0.here hx rfl (hb hby d4_0) rfl rfl) ?_
  show Go _ p e below s _ _ _ (s₁.setTop (mkF m 1 #[.val (.ref a1), .val .null, .val .null, .val .null] [(.ref a1)]))
  refine go (fun _ => XS.aloadN X0.here hx rfl (hb hby d4_1) rfl rfl) ?_
  show Go _ p e below s _ _ _ (s₁.setTop (mkF m 2 #[.val (.ref a1), .val .null, .val .null, .val .null] [.null, (.ref a1)]))
  obtain ⟨_, _, ⟨T21, L21, k21, n21⟩, -, X21, ⟨Lc21, hQ21, l21, y21, z21⟩, st21⟩ := X0.specialBack hx (y := (⟨"com/example/reticule/reticule/engine/Source", "<init>", "(Ljava/lang/Object;)V"⟩ : MethodName)) rfl hown (mvT hZ (hw _ (List.mem_of_getElem? (i := 26) rfl))) (mvT hZ (hw _ (List.mem_of_getElem? (i := 27) rfl))) (mvT hZ (hw _ (List.mem_of_getElem? (i := 30) rfl))) (by decide) (backOf (W := 0) (rm5 l Z a0 hw [] a1 u1 u2 u3 u4 h0 n0 Z0 P0 P1 P2 P3 P4 P5) hZ (hw _ (List.mem_of_getElem? (i := 30) rfl)) (hw _ (List.mem_of_getElem? (i := 29) rfl)) (by decide) (by decide)) (g := (mkF m 2 #[.val (.ref a1), .val .null, .val .null, .val .null] [.null, (.ref a1)])) rfl (by rw [hml]; rfl) (Steps.refl _) (a := a1) (argsL := [.null]) (rest := []) (lenOf pd_4_0 rfl) rfl (by show 2 * 0 + _ ≤ _; exact Nat.le_of_eq rfl) (hb hby d4_2) (fun _ _ => ⟨rfl, e0, (by decide : 0 + 0 ≤ _), (by decide : 0 + 0 ≤ _)⟩)
  dsimp only [Pt.U, Pt.locs, Pt.cells, Pt.slots] at X21 l21 y21 z21 st21 hQ21
  subst l21 y21 z21
  obtain ⟨rfl, N21q, K21, u21_1, u21_2, u21_3⟩ := hQ21
  have N21 := Fr.app N0 N21q
  have c21_0 := P0.keep K21
  have KK21 : Keep h0 T21.heap [a1] := (Keep.refl h0 [a1]).trans K21 (allS (P := fun x => x ∈ [a1] ∨ h0.size ≤ x) (Or.inl (List.mem_of_getElem? (i := 0) rfl)) all0)
  have ZN21 : n0 ≤ T21.heap.size := Nat.le_trans Z0 K21.1
  refine goT st21 ?_
  show Go _ p e below s _ _ _ (T21.setTop (mkF m 5 #[.val (.ref a1), .val .null, .val .null, .val .null] []))
  refine go (fun _ => XS.aloadN X21.here hx rfl (hb hby d4_5) rfl rfl) ?_
  show Go _ p e below s _ _ _ (T21.setTop (mkF m 6 #[.val (.ref a1), .val .null, .val .null, .val .null] [(.ref a1)]))
  refine go (fun _ => XS.aloadN X21.here hx rfl (hb hby d4_6) rfl rfl) ?_
  show Go _ p e below s _ _ _ (T21.setTop (mkF m 7 #[.val (.ref a1), .val .null, .val .null, .val .null] [.null, (.ref a1)]))
  obtain ⟨T22, h22, X22, e22, W22, st22⟩ := putF X21 hx hZ hown (host := "") (Or.inl (hw _ (List.mem_of_getElem? (i := 39) rfl))) Via.refl rfl u21_1 c21_0 (Or.inr ⟨(hw _ (List.mem_of_getElem? (i := 40) rfl)), rfl, hnm⟩) (hw _ (List.mem_of_getElem? (i := 22) rfl)) (ty := (.object "com/example/reticule/reticule/engine/Token")) (by decide) rfl rfl (g := (mkF m 7 #[.val (.ref a1), .val .null, .val .null, .val .null] [.null, (.ref a1)])) rfl rfl (hb hby d4_7)
  have Fw22 := u21_1.same W22
  have c22_0 := c21_0.wr W22
  have c22_2 := u21_2.other W22 (Or.inr (slot_ne (Or.inr (hw _ (List.mem_of_getElem? (i := 42) rfl))) (Or.inr (hw _ (List.mem_of_getElem? (i := 40) rfl))) (by decide) (t := (.object "com/example/reticule/reticule/engine/FactEntry")) (t' := (.object "com/example/reticule/reticule/engine/Token")) (by decide) (by decide)))
  have c22_3 := u21_3.other W22 (Or.inr (slot_ne (Or.inr (hw _ (List.mem_of_getElem? (i := 44) rfl))) (Or.inr (hw _ (List.mem_of_getElem? (i := 40) rfl))) (by decide) (t := .int) (t' := (.object "com/example/reticule/reticule/engine/Token")) (by decide) (by decide)))
  have KK22 : Keep h0 h22 [a1] := KK21.wr W22 (Or.inl (List.mem_of_getElem? (i := 0) rfl))
  have ZN22 : n0 ≤ h22.size := Nat.le_trans ZN21 (Keep.of_wr W22).1
  have NN22 := Fr.snoc X22 N21 P1
  refine go st22 ?_
  show Go _ p e below s _ _ _ (T22.setTop (mkF m 10 #[.val (.ref a1), .val .null, .val .null, .val .null] []))
  refine go (fun _ => XS.aloadN X22.here hx rfl (hb hby d4_10) rfl rfl) ?_
  show Go _ p e below s _ _ _ (T22.setTop (mkF m 11 #[.val (.ref a1), .val .null, .val .null, .val .null] [(.ref a1)]))
  refine go (fun _ => XS.aloadN X22.here hx rfl (hb hby d4_11) rfl rfl) ?_
  show Go _ p e below s _ _ _ (T22.setTop (mkF m 12 #[.val (.ref a1), .val .null, .val .null, .val .null] [.null, (.ref a1)]))
  obtain ⟨T23, h23, X23, e23, W23, st23⟩ := putF X22 hx hZ hown (host := "") (Or.inl (hw _ (List.mem_of_getElem? (i := 41) rfl))) Via.refl e22 c22_2 c22_0 (Or.inr ⟨(hw _ (List.mem_of_getElem? (i := 42) rfl)), rfl, hnm⟩) (hw _ (List.mem_of_getElem? (i := 22) rfl)) (ty := (.object "com/example/reticule/reticule/engine/FactEntry")) (by decide) rfl rfl (g := (mkF m 12 #[.val (.ref a1), .val .null, .val .null, .val .null] [.null, (.ref a1)])) rfl rfl (hb hby d4_12)
  have Fw23 := c22_2.same W23
  have c23_0 := c22_0.wr W23
  have c23_1 := Fw22.other W23 (Or.inr (slot_ne (Or.inr (hw _ (List.mem_of_getElem? (i := 40) rfl))) (Or.inr (hw _ (List.mem_of_getElem? (i := 42) rfl))) (by decide) (t := (.object "com/example/reticule/reticule/engine/Token")) (t' := (.object "com/example/reticule/reticule/engine/FactEntry")) (by decide) (by decide)))
  have c23_3 := c22_3.other W23 (Or.inr (slot_ne (Or.inr (hw _ (List.mem_of_getElem? (i := 44) rfl))) (Or.inr (hw _ (List.mem_of_getElem? (i := 42) rfl))) (by decide) (t := .int) (t' := (.object "com/example/reticule/reticule/engine/FactEntry")) (by decide) (by decide)))
  have KK23 : Keep h0 h23 [a1] := KK22.wr W23 (Or.inl (List.mem_of_getElem? (i := 0) rfl))
  have ZN23 : n0 ≤ h23.size := Nat.le_trans ZN22 (Keep.of_wr W23).1
  have NN23 := Fr.snoc X23 NN22 P1
  refine go st23 ?_
  show Go _ p e below s _ _ _ (T23.setTop (mkF m 15 #[.val (.ref a1), .val .null, .val .null, .val .null] []))
  refine go (fun _ => XS.aloadN X23.here hx rfl (hb hby d4_15) rfl rfl) ?_
  show Go _ p e below s _ _ _ (T23.setTop (mkF m 16 #[.val (.ref a1), .val .null, .val .null, .val .null] [(.ref a1)]))
  refine go (fun _ => XS.aloadN X23.here hx rfl (hb hby d4_16) rfl rfl) ?_
  show Go _ p e below s _ _ _ (T23.setTop (mkF m 17 #[.val (.ref a1), .val .null, .val .null, .val .null] [.null, (.ref a1)]))
  refine go (fun _ => XT.ifnonnullNo X23.here hx rfl (hb hby d4_17) rfl) ?_
  show Go _ p e below s _ _ _ (T23.setTop (mkF m 20 #[.val (.ref a1), .val .null, .val .null, .val .null] [(.ref a1)]))
  refine go (fun _ => XS.iconst X23.here hx rfl (hb hby d4_20)) ?_
  show Go _ p e below s _ _ _ (T23.setTop (mkF m 21 #[.val (.ref a1), .val .null, .val .null, .val .null] [(.int (0 : Int32)), (.ref a1)]))
  refine go (fun _ => XS.goto X23.here hx rfl (pc0 := 21) (pc' := 28) rfl (hb hby d4_21) (by decide) (by decide)) ?_
  show Go _ p e below s _ _ _ (T23.setTop (mkF m 28 #[.val (.ref a1), .val .null, .val .null, .val .null] [(.int (0 : Int32)), (.ref a1)]))
  refine go (fun _ => XS.aloadN X23.here hx rfl (hb hby d4_28) rfl rfl) ?_
  show Go _ p e below s _ _ _ (T23.setTop (mkF m 29 #[.val (.ref a1), .val .null, .val .null, .val .null] [.null, (.int (0 : Int32)), (.ref a1)]))
  refine go (fun _ => XT.ifnonnullNo X23.here hx rfl (hb hby d4_29) rfl) ?_
  show Go _ p e below s _ _ _ (T23.setTop (mkF m 32 #[.val (.ref a1), .val .null, .val .null, .val .null] [(.int (0 : Int32)), (.ref a1)]))
  refine go (fun _ => XS.iconst X23.here hx rfl (hb hby d4_32)) ?_
  show Go _ p e below s _ _ _ (T23.setTop (mkF m 33 #[.val (.ref a1), .val .null, .val .null, .val .null] [(.int (0 : Int32)), (.int (0 : Int32)), (.ref a1)]))
  refine go (fun _ => XS.goto X23.here hx rfl (pc0 := 33) (pc' := 37) rfl (hb hby d4_33) (by decide) (by decide)) ?_
  show Go _ p e below s _ _ _ (T23.setTop (mkF m 37 #[.val (.ref a1), .val .null, .val .null, .val .null] [(.int (0 : Int32)), (.int (0 : Int32)), (.ref a1)]))
  refine go (fun _ => XS.iadd X23.here hx rfl (hb hby d4_37) rfl) ?_
  show Go _ p e below s _ _ _ (T23.setTop (mkF m 38 #[.val (.ref a1), .val .null, .val .null, .val .null] [(.int (0 : Int32)), (.ref a1)]))
  obtain ⟨T24, h24, X24, e24, W24, st24⟩ := putF X23 hx hZ hown (host := "") (Or.inl (hw _ (List.mem_of_getElem? (i := 43) rfl))) Via.refl e23 c23_3 c23_0 (Or.inr ⟨(hw _ (List.mem_of_getElem? (i := 44) rfl)), rfl, hnm⟩) (hw _ (List.mem_of_getElem? (i := 22) rfl)) (ty := .int) (by decide) rfl rfl (g := (mkF m 38 #[.val (.ref a1), .val .null, .val .null, .val .null] [(.int (0 : Int32)), (.ref a1)])) rfl rfl (hb hby d4_38)
  have Fw24 := c23_3.same W24
  have c24_0 := c23_0.wr W24
  have c24_1 := c23_1.other W24 (Or.inr (slot_ne (Or.inr (hw _ (List.mem_of_getElem? (i := 40) rfl))) (Or.inr (hw _ (List.mem_of_getElem? (i := 44) rfl))) (by decide) (t := (.object "com/example/reticule/reticule/engine/Token")) (t' := .int) (by decide) (by decide)))
  have c24_2 := Fw23.other W24 (Or.inr (slot_ne (Or.inr (hw _ (List.mem_of_getElem? (i := 42) rfl))) (Or.inr (hw _ (List.mem_of_getElem? (i := 44) rfl))) (by decide) (t := (.object "com/example/reticule/reticule/engine/FactEntry")) (t' := .int) (by decide) (by decide)))
  have KK24 : Keep h0 h24 [a1] := KK23.wr W24 (Or.inl (List.mem_of_getElem? (i := 0) rfl))
  have ZN24 : n0 ≤ h24.size := Nat.le_trans ZN23 (Keep.of_wr W24).1
  have NN24 := Fr.snoc X24 NN23 P1
  refine go st24 ?_
  show Go _ p e below s _ _ _ (T24.setTop (mkF m 41 #[.val (.ref a1), .val .null, .val .null, .val .null] []))
  refine goRet0 X24 hx Bd.notSynchronized Bd.returns (hb hby d4_41) (by decide) (by decide) (by rw [e24]; refine ⟨rfl, NN24, KK24⟩)
theorem d3_0 : decode prog_187_method_2_code 0 = .ok (.new 8, 3) := by decide +kernel
theorem d3_3 : decode prog_187_method_2_code 3 = .ok (.dup, 1) := by decide +kernel
theorem d3_4 : decode prog_187_method_2_code 4 = .ok (.aconst_null, 1) := by decide +kernel
theorem d3_5 : decode prog_187_method_2_code 5 = .ok (.aconst_null, 1) := by decide +kernel
theorem d3_6 : decode prog_187_method_2_code 6 = .ok (.aload_n 0, 1) := by decide +kernel
theorem d3_7 : decode prog_187_method_2_code 7 = .ok (.invokespecial 21, 3) := by decide +kernel
theorem d3_10 : decode prog_187_method_2_code 10 = .ok (.areturn, 1) := by decide +kernel
theorem pn_3 : plainName "com/example/reticule/reticule/engine/Token" = true := by first | (simp [plainName, overriddenIn]; done) | decide +kernel
theorem pd_3_0 : parseMethodDescriptor "(Lcom/example/reticule/reticule/engine/Token;Lcom/example/reticule/reticule/engine/FactEntry;Lcom/example/reticule/reticule/engine/ParentNode;)V" = some ⟨[(.object "com/example/reticule/reticule/engine/Token"), (.object "com/example/reticule/reticule/engine/FactEntry"), (.object "com/example/reticule/reticule/engine/ParentNode")], none⟩ := by decide +kernel
theorem ef_3 (m : MethodId)  : entryFrame m #[.null] 1 = mkF m 0 #[.val .null] [] := by first | (simp [entryFrame, mkF, argsToLocals, Value.category]; done) | rfl
def Q3 (Z : State)  (h0 : Heap) (n0 : Nat) (v : Option Value) (h : Heap) (L : List Loc) : Prop := ∃ (b : Addr), v = some (.ref b) ∧ Fr n0 L ∧ (h0.size ≤ b) ∧ (n0 ≤ b) ∧ (Keep h0 h []) ∧ (Exa Z h b "com/example/reticule/reticule/engine/Token")
set_option maxRecDepth 65536 in
set_option maxHeartbeats 40000000 in
theorem rm3 (l : Launch) (Z : State) (a0 : Array Value) (hw : ∀ d ∈ tables_1, d.before a0 Z = true) (ws : List Jvm.Cond)  (h0 : Heap) (n0 : Nat) (Z0 : n0 ≤ h0.size)  :
    MetFree l (⟨"com/example/reticule/reticule/engine/Token", "start", "(Lcom/example/reticule/reticule/engine/ParentNode;)Lcom/example/reticule/reticule/engine/Token;"⟩ : MethodName) (head1 (Jvm.Cond.code (⟨"com/example/reticule/reticule/engine/Token", "start", "(Lcom/example/reticule/reticule/engine/ParentNode;)Lcom/example/reticule/reticule/engine/Token;"⟩ : MethodName) prog_187_method_2_code 1 (some (.object "com/example/reticule/reticule/engine/Token")) :: ws) ({ frames := 4, cells := 1, slots := 11, locals := 54 } : Room)) (fun a U => a = #[.null] ∧ Z.Warmed39 U.vm ∧ U.heap = h0) (fun _ _ _ _ _ => True) (fun _ U o U' => ∃ v L, o = .returned v ∧ Q3 Z  h0 n0 v U'.heap L ∧ FrameEnd U o U' L ({ frames := 4, cells := 1, slots := 11, locals := 54 } : Room).cells ({ frames := 4, cells := 1, slots := 11, locals := 54 } : Room).slots) := by
  refine MetFree.of_bodySF (plainFor_of_name pn_3) hisR ?_
  intro p e s m args below meth c s₁ Bd hml0 hP hK
  obtain ⟨rfl, hZ, hh⟩ := hP
  have hx := Bd.exec
  have hby := Bd.bytes
  have hml : c.maxLocals = 1 := hml0
  have hown : s.vm.findClass "com/example/reticule/reticule/engine/Token" = some m.cls := findClass_of_methodNamed Bd.named
  have hnm := (name_of_methodNamed Bd.named Bd.method).1
  have X0 : Stand p l e ({ frames := 4, cells := 1, slots := 11, locals := 54 } : Room) s m #[.null] below meth c s₁ [] 0 0 := Stand.of_body Bd
  have e0 : s₁.heap = h0 := by rw [← hh, Bd.state]; rfl
  have N0 := Fr.nil n0
  have hS0 : s.Since s.vm 0 := (State.WarmedH.refl s).since 0
  show Go FrameEnd p e below s ({ frames := 4, cells := 1, slots := 11, locals := 54 } : Room).cells ({ frames := 4, cells := 1, slots := 11, locals := 54 } : Room).slots (Q3 Z  h0 n0) (s₁.setTop (entryFrame m #[.null] 1))
  refine go (fun _ k => castTop (ef_3 m ) k) ?_
  show Go _ p e below s _ _ _ (s₁.setTop (mkF m 0 #[.val .null] []))
  obtain ⟨T27, h27, X27, e27, E27, A27, D27, -, st27⟩ := newO X0 hx hZ hown (hw _ (List.mem_of_getElem? (i := 21) rfl)) (hw _ (List.mem_of_getElem? (i := 22) rfl)) (hw _ (List.mem_of_getElem? (i := 19) rfl)) e0 (g := (mkF m 0 #[.val .null] [])) rfl (hb hby d3_0) (by decide) (by decide)
  obtain ⟨b27, g27⟩ : ∃ z, z = h0.size := ⟨_, rfl⟩
  rw [← g27] at A27 D27 st27
  have G_b27 : n0 ≤ b27 := Nat.le_trans Z0 (Nat.le_of_eq g27.symm)
  have SZ_b27 : h0.size ≤ b27 := Nat.le_trans (Keep.refl h0 []).1 (Nat.le_of_eq g27.symm)
  have KK27 : Keep h0 h27 [] := (Keep.refl h0 []).ext E27
  have ZN27 : n0 ≤ h27.size := Nat.le_trans Z0 E27.1
  have F27_38 : Fld Z h27 b27 "com/example/reticule/reticule/engine/Made" "maker" "Ljava/lang/Object;" .null := D27 (Or.inr (hw _ (List.mem_of_getElem? (i := 38) rfl))) (ty := (.object "java/lang/Object")) (by decide)
  have F27_40 : Fld Z h27 b27 "com/example/reticule/reticule/engine/Token" "parent" "Lcom/example/reticule/reticule/engine/Token;" .null := D27 (Or.inr (hw _ (List.mem_of_getElem? (i := 40) rfl))) (ty := (.object "com/example/reticule/reticule/engine/Token")) (by decide)
  have F27_42 : Fld Z h27 b27 "com/example/reticule/reticule/engine/Token" "last" "Lcom/example/reticule/reticule/engine/FactEntry;" .null := D27 (Or.inr (hw _ (List.mem_of_getElem? (i := 42) rfl))) (ty := (.object "com/example/reticule/reticule/engine/FactEntry")) (by decide)
  have F27_44 : Fld Z h27 b27 "com/example/reticule/reticule/engine/Token" "size" "I" (.int (0 : Int32)) := D27 (Or.inr (hw _ (List.mem_of_getElem? (i := 44) rfl))) (ty := .int) (by decide)
  refine go st27 ?_
  show Go _ p e below s _ _ _ (T27.setTop (mkF m 3 #[.val .null] [(.ref b27)]))
  refine go (fun _ => XS.dup X27.here hx rfl (hb hby d3_3) rfl rfl) ?_
  show Go _ p e below s _ _ _ (T27.setTop (mkF m 4 #[.val .null] [(.ref b27), (.ref b27)]))
  refine go (fun _ => XS.aconstNull X27.here hx rfl (hb hby d3_4)) ?_
  show Go _ p e below s _ _ _ (T27.setTop (mkF m 5 #[.val .null] [.null, (.ref b27), (.ref b27)]))
  refine go (fun _ => XS.aconstNull X27.here hx rfl (hb hby d3_5)) ?_
  show Go _ p e below s _ _ _ (T27.setTop (mkF m 6 #[.val .null] [.null, .null, (.ref b27), (.ref b27)]))
  refine go (fun _ => XS.aloadN X27.here hx rfl (hb hby d3_6) rfl rfl) ?_
  show Go _ p e below s _ _ _ (T27.setTop (mkF m 7 #[.val .null] [.null, .null, .null, (.ref b27), (.ref b27)]))
  obtain ⟨_, _, ⟨T28, L28, k28, n28⟩, -, X28, ⟨Lc28, hQ28, l28, y28, z28⟩, st28⟩ := X27.specialBack hx (y := (⟨"com/example/reticule/reticule/engine/Token", "<init>", "(Lcom/example/reticule/reticule/engine/Token;Lcom/example/reticule/reticule/engine/FactEntry;Lcom/example/reticule/reticule/engine/ParentNode;)V"⟩ : MethodName)) rfl hown (mvT hZ (hw _ (List.mem_of_getElem? (i := 23) rfl))) (mvT hZ (hw _ (List.mem_of_getElem? (i := 24) rfl))) (mvT hZ (hw _ (List.mem_of_getElem? (i := 25) rfl))) (by decide) (backOf (W := 1) (rm4 l Z a0 hw [] b27 .null .null .null (.int (0 : Int32)) h27 n0 ZN27 A27 G_b27 F27_38 F27_40 F27_42 F27_44) hZ (hw _ (List.mem_of_getElem? (i := 25) rfl)) (hw _ (List.mem_of_getElem? (i := 19) rfl)) (by decide) (by decide)) (g := (mkF m 7 #[.val .null] [.null, .null, .null, (.ref b27), (.ref b27)])) rfl (by rw [hml]; rfl) (Steps.refl _) (a := b27) (argsL := [.null, .null, .null]) (rest := [(.ref b27)]) (lenOf pd_3_0 rfl) rfl (by show 2 * 0 + _ ≤ _; exact Nat.le_of_eq rfl) (hb hby d3_7) (fun _ _ => ⟨rfl, e27, (by decide : 1 + 0 ≤ _), (by decide : 11 + 0 ≤ _)⟩)
  dsimp only [Pt.U, Pt.locs, Pt.cells, Pt.slots] at X28 l28 y28 z28 st28 hQ28
  subst l28 y28 z28
  obtain ⟨rfl, N28q, K28⟩ := hQ28
  have N28 := Fr.app N0 N28q
  have c28_0 := A27.keep K28
  have KK28 : Keep h0 T28.heap [] := KK27.trans K28 (allS (P := fun x => x ∈ [] ∨ h0.size ≤ x) (Or.inr SZ_b27) all0)
  have ZN28 : n0 ≤ T28.heap.size := Nat.le_trans ZN27 K28.1
  refine goT st28 ?_
  show Go _ p e below s _ _ _ (T28.setTop (mkF m 10 #[.val .null] [(.ref b27)]))
  refine goRet X28 hx Bd.notSynchronized Bd.returns rfl (Or.inr (Or.inr (Or.inr (Or.inr ⟨rfl, rfl, rfl⟩)))) (hb hby d3_10) (by decide) (by decide) (by refine ⟨b27, rfl, N28, SZ_b27, G_b27, KK28, c28_0⟩)
theorem pn_6A : plainName "com/example/reticule/reticule/engine/Made" = true := by first | (simp [plainName, overriddenIn]; done) | decide +kernel
theorem ef_6A (m : MethodId) (a1 : Addr) (a2 : Addr) : entryFrame m #[(.ref a1), (.ref a2)] 2 = mkF m 0 #[.val (.ref a1), .val (.ref a2)] [] := by first | (simp [entryFrame, mkF, argsToLocals, Value.category]; done) | rfl
def Q6A (Z : State) (a1 : Addr) (a2 : Addr) (u1 : Value) (u2 : Value) (u3 : Value) (h0 : Heap) (n0 : Nat) (v : Option Value) (h : Heap) (L : List Loc) : Prop := v = none ∧ Fr n0 L ∧ (Keep h0 h [a1]) ∧ (Fld Z h a1 "com/example/reticule/reticule/engine/Activation" "token" "Lcom/example/reticule/reticule/engine/Token;" u2) ∧ (Fld Z h a1 "com/example/reticule/reticule/engine/Activation" "place" "I" u3)
set_option maxRecDepth 65536 in
set_option maxHeartbeats 40000000 in
theorem rm6A (l : Launch) (Z : State) (a0 : Array Value) (hw : ∀ d ∈ tables_1, d.before a0 Z = true) (ws : List Jvm.Cond) (a1 : Addr) (a2 : Addr) (u1 : Value) (u2 : Value) (u3 : Value) (h0 : Heap) (n0 : Nat) (Z0 : n0 ≤ h0.size) (P0 : Exa Z h0 a1 "com/example/reticule/reticule/engine/Activation") (P1 : n0 ≤ a1) (P2 : Fld Z h0 a1 "com/example/reticule/reticule/engine/Made" "maker" "Ljava/lang/Object;" u1) (P3 : Fld Z h0 a1 "com/example/reticule/reticule/engine/Activation" "token" "Lcom/example/reticule/reticule/engine/Token;" u2) (P4 : Fld Z h0 a1 "com/example/reticule/reticule/engine/Activation" "place" "I" u3) :
    MetFree l (⟨"com/example/reticule/reticule/engine/Made", "<init>", "(Ljava/lang/Object;)V"⟩ : MethodName) (head1 (Jvm.Cond.code (⟨"com/example/reticule/reticule/engine/Made", "<init>", "(Ljava/lang/Object;)V"⟩ : MethodName) prog_123_method_1_code 2 none :: ws) ({ frames := 1, cells := 0, slots := 0, locals := 12 } : Room)) (fun a U => a = #[(.ref a1), (.ref a2)] ∧ Z.Warmed39 U.vm ∧ U.heap = h0) (fun _ _ _ _ _ => True) (fun _ U o U' => ∃ v L, o = .returned v ∧ Q6A Z a1 a2 u1 u2 u3 h0 n0 v U'.heap L ∧ FrameEnd U o U' L ({ frames := 1, cells := 0, slots := 0, locals := 12 } : Room).cells ({ frames := 1, cells := 0, slots := 0, locals := 12 } : Room).slots) := by
  refine MetFree.of_bodySF (plainFor_of_name pn_6A) hisR ?_
  intro p e s m args below meth c s₁ Bd hml0 hP hK
  obtain ⟨rfl, hZ, hh⟩ := hP
  have hx := Bd.exec
  have hby := Bd.bytes
  have hml : c.maxLocals = 2 := hml0
  have hown : s.vm.findClass "com/example/reticule/reticule/engine/Made" = some m.cls := findClass_of_methodNamed Bd.named
  have hnm := (name_of_methodNamed Bd.named Bd.method).1
  have X0 : Stand p l e ({ frames := 1, cells := 0, slots := 0, locals := 12 } : Room) s m #[(.ref a1), (.ref a2)] below meth c s₁ [] 0 0 := Stand.of_body Bd
  have e0 : s₁.heap = h0 := by rw [← hh, Bd.state]; rfl
  have N0 := Fr.nil n0
  have hS0 : s.Since s.vm 0 := (State.WarmedH.refl s).since 0
  show Go FrameEnd p e below s ({ frames := 1, cells := 0, slots := 0, locals := 12 } : Room).cells ({ frames := 1, cells := 0, slots := 0, locals := 12 } : Room).slots (Q6A Z a1 a2 u1 u2 u3 h0 n0) (s₁.setTop (entryFrame m #[(.ref a1), (.ref a2)] 2))
  refine go (fun _ k => castTop (ef_6A m a1 a2) k) ?_
  show Go _ p e below s _ _ _ (s₁.setTop (mkF m 0 #[.val (.ref a1), .val (.ref a2)] []))
  refine go (fun _ => XS.aloadN X0.here hx rfl (hb hby d6_0) rfl rfl) ?_
  show Go _ p e below s _ _ _ (s₁.setTop (mkF m 1 #[.val (.ref a1), .val (.ref a2)] [(.ref a1)]))
  obtain ⟨T31, X31, e31, st31⟩ := initO X0 hx hZ hown (hw _ (List.mem_of_getElem? (i := 36) rfl)) (hw _ (List.mem_of_getElem? (i := 7) rfl)) (hw _ (List.mem_of_getElem? (i := 8) rfl)) e0 (g := (mkF m 1 #[.val (.ref a1), .val (.ref a2)] [(.ref a1)])) rfl (by rw [hml]; rfl) rfl (hb hby d6_1) (by decide) (W := 0) (by show 2 * 0 + _ ≤ _; exact Nat.le_of_eq rfl) (by decide)
  refine go st31 ?_
  show Go _ p e below s _ _ _ (T31.setTop (mkF m 4 #[.val (.ref a1), .val (.ref a2)] []))
  refine go (fun _ => XS.aloadN X31.here hx rfl (hb hby d6_4) rfl rfl) ?_
  show Go _ p e below s _ _ _ (T31.setTop (mkF m 5 #[.val (.ref a1), .val (.ref a2)] [(.ref a1)]))
  refine go (fun _ => XS.aloadN X31.here hx rfl (hb hby d6_5) rfl rfl) ?_
  show Go _ p e below s _ _ _ (T31.setTop (mkF m 6 #[.val (.ref a1), .val (.ref a2)] [(.ref a2), (.ref a1)]))
  obtain ⟨T32, h32, X32, e32, W32, st32⟩ := putF X31 hx hZ hown (host := "") (Or.inl (hw _ (List.mem_of_getElem? (i := 37) rfl))) Via.refl e31 P2 P0 (Or.inr ⟨(hw _ (List.mem_of_getElem? (i := 64) rfl)), rfl, hnm⟩) (hw _ (List.mem_of_getElem? (i := 46) rfl)) (ty := (.object "java/lang/Object")) (by decide) rfl rfl (g := (mkF m 6 #[.val (.ref a1), .val (.ref a2)] [(.ref a2), (.ref a1)])) rfl rfl (hb hby d6_6)
  have Fw32 := P2.same W32
  have c32_0 := P0.wr W32
  have c32_2 := P3.other W32 (Or.inr (slot_ne (Or.inr (hw _ (List.mem_of_getElem? (i := 69) rfl))) (Or.inr (hw _ (List.mem_of_getElem? (i := 64) rfl))) (by decide) (t := (.object "com/example/reticule/reticule/engine/Token")) (t' := (.object "java/lang/Object")) (by decide) (by decide)))
  have c32_3 := P4.other W32 (Or.inr (slot_ne (Or.inl (hw _ (List.mem_of_getElem? (i := 128) rfl))) (Or.inr (hw _ (List.mem_of_getElem? (i := 64) rfl))) (by decide) (t := .int) (t' := (.object "java/lang/Object")) (by decide) (by decide)))
  have KK32 : Keep h0 h32 [a1] := (Keep.refl h0 [a1]).wr W32 (Or.inl (List.mem_of_getElem? (i := 0) rfl))
  have ZN32 : n0 ≤ h32.size := Nat.le_trans Z0 (Keep.of_wr W32).1
  have NN32 := Fr.snoc X32 N0 P1
  refine go st32 ?_
  show Go _ p e below s _ _ _ (T32.setTop (mkF m 9 #[.val (.ref a1), .val (.ref a2)] []))
  refine goRet0 X32 hx Bd.notSynchronized Bd.returns (hb hby d6_9) (by decide) (by decide) (by rw [e32]; refine ⟨rfl, NN32, KK32, c32_2, c32_3⟩)
theorem d8_0 : decode jdk_31_method_11_code 0 = .ok (.aload_n 0, 1) := by decide +kernel
theorem d8_1 : decode jdk_31_method_11_code 1 = .ok (.ifnonnull 12, 3) := by decide +kernel
theorem d8_13 : decode jdk_31_method_11_code 13 = .ok (.aload_n 0, 1) := by decide +kernel
theorem d8_14 : decode jdk_31_method_11_code 14 = .ok (.areturn, 1) := by decide +kernel
theorem pn_8 : plainName "java/util/Objects" = true := by first | (simp [plainName, overriddenIn]; done) | decide +kernel
theorem ef_8 (m : MethodId) (a1 : Addr) (a2 : Addr) : entryFrame m #[(.ref a1), (.ref a2)] 2 = mkF m 0 #[.val (.ref a1), .val (.ref a2)] [] := by first | (simp [entryFrame, mkF, argsToLocals, Value.category]; done) | rfl
def Q8 (Z : State) (a1 : Addr) (a2 : Addr) (h0 : Heap) (n0 : Nat) (v : Option Value) (h : Heap) (L : List Loc) : Prop := v = some (.ref a1) ∧ Fr n0 L ∧ (h = h0)
set_option maxRecDepth 65536 in
set_option maxHeartbeats 40000000 in
theorem rm8 (l : Launch) (Z : State) (a0 : Array Value) (hw : ∀ d ∈ tables_1, d.before a0 Z = true) (ws : List Jvm.Cond) (a1 : Addr) (a2 : Addr) (h0 : Heap) (n0 : Nat) (Z0 : n0 ≤ h0.size)  :
    MetFree l (⟨"java/util/Objects", "requireNonNull", "(Ljava/lang/Object;Ljava/lang/String;)Ljava/lang/Object;"⟩ : MethodName) (head1 (Jvm.Cond.code (⟨"java/util/Objects", "requireNonNull", "(Ljava/lang/Object;Ljava/lang/String;)Ljava/lang/Object;"⟩ : MethodName) jdk_31_method_11_code 2 (some (.object "java/lang/Object")) :: ws) ({ frames := 0, cells := 0, slots := 0, locals := 0 } : Room)) (fun a U => a = #[(.ref a1), (.ref a2)] ∧ Z.Warmed39 U.vm ∧ U.heap = h0) (fun _ _ _ _ _ => True) (fun _ U o U' => ∃ v L, o = .returned v ∧ Q8 Z a1 a2 h0 n0 v U'.heap L ∧ FrameEnd U o U' L ({ frames := 0, cells := 0, slots := 0, locals := 0 } : Room).cells ({ frames := 0, cells := 0, slots := 0, locals := 0 } : Room).slots) := by
  refine MetFree.of_bodySF (plainFor_of_name pn_8) hisR ?_
  intro p e s m args below meth c s₁ Bd hml0 hP hK
  obtain ⟨rfl, hZ, hh⟩ := hP
  have hx := Bd.exec
  have hby := Bd.bytes
  have hml : c.maxLocals = 2 := hml0
  have hown : s.vm.findClass "java/util/Objects" = some m.cls := findClass_of_methodNamed Bd.named
  have hnm := (name_of_methodNamed Bd.named Bd.method).1
  have X0 : Stand p l e ({ frames := 0, cells := 0, slots := 0, locals := 0 } : Room) s m #[(.ref a1), (.ref a2)] below meth c s₁ [] 0 0 := Stand.of_body Bd
  have e0 : s₁.heap = h0 := by rw [← hh, Bd.state]; rfl
  have N0 := Fr.nil n0
  have hS0 : s.Since s.vm 0 := (State.WarmedH.refl s).since 0
  show Go FrameEnd p e below s ({ frames := 0, cells := 0, slots := 0, locals := 0 } : Room).cells ({ frames := 0, cells := 0, slots := 0, locals := 0 } : Room).slots (Q8 Z a1 a2 h0 n0) (s₁.setTop (entryFrame m #[(.ref a1), (.ref a2)] 2))
  refine go (fun _ k => castTop (ef_8 m a1 a2) k) ?_
  show Go _ p e below s _ _ _ (s₁.setTop (mkF m 0 #[.val (.ref a1), .val (.ref a2)] []))
  refine go (fun _ => XS.aloadN X0.here hx rfl (hb hby d8_0) rfl rfl) ?_
  show Go _ p e below s _ _ _ (s₁.setTop (mkF m 1 #[.val (.ref a1), .val (.ref a2)] [(.ref a1)]))
  refine go (fun _ => XT.ifnonnullYes X0.here hx rfl (pc0 := 1) (pc' := 13) rfl (hb hby d8_1) rfl (by decide) (by decide)) ?_
  show Go _ p e below s _ _ _ (s₁.setTop (mkF m 13 #[.val (.ref a1), .val (.ref a2)] []))
  refine go (fun _ => XS.aloadN X0.here hx rfl (hb hby d8_13) rfl rfl) ?_
  show Go _ p e below s _ _ _ (s₁.setTop (mkF m 14 #[.val (.ref a1), .val (.ref a2)] [(.ref a1)]))
  refine goRet X0 hx Bd.notSynchronized Bd.returns rfl (Or.inr (Or.inr (Or.inr (Or.inr ⟨rfl, rfl, rfl⟩)))) (hb hby d8_14) (by decide) (by decide) (by rw [e0]; refine ⟨rfl, N0, rfl⟩)
theorem d7_0 : decode prog_10_method_1_code 0 = .ok (.aload_n 0, 1) := by decide +kernel
theorem d7_1 : decode prog_10_method_1_code 1 = .ok (.aload_n 1, 1) := by decide +kernel
theorem d7_2 : decode prog_10_method_1_code 2 = .ok (.ldc 1, 2) := by decide +kernel
theorem d7_4 : decode prog_10_method_1_code 4 = .ok (.invokestatic 3, 3) := by decide +kernel
theorem d7_7 : decode prog_10_method_1_code 7 = .ok (.invokespecial 9, 3) := by decide +kernel
theorem d7_10 : decode prog_10_method_1_code 10 = .ok (.aload_n 0, 1) := by decide +kernel
theorem d7_11 : decode prog_10_method_1_code 11 = .ok (.aload_n 2, 1) := by decide +kernel
theorem d7_12 : decode prog_10_method_1_code 12 = .ok (.ldc 15, 2) := by decide +kernel
theorem d7_14 : decode prog_10_method_1_code 14 = .ok (.invokestatic 3, 3) := by decide +kernel
theorem d7_17 : decode prog_10_method_1_code 17 = .ok (.checkcast 17, 3) := by decide +kernel
theorem d7_20 : decode prog_10_method_1_code 20 = .ok (.putfield 19, 3) := by decide +kernel
theorem d7_23 : decode prog_10_method_1_code 23 = .ok (.return_, 1) := by decide +kernel
theorem pn_7 : plainName "com/example/reticule/reticule/engine/Activation" = true := by first | (simp [plainName, overriddenIn]; done) | decide +kernel
theorem pd_7_0 : parseMethodDescriptor "(Ljava/lang/Object;Ljava/lang/String;)Ljava/lang/Object;" = some ⟨[(.object "java/lang/Object"), (.object "java/lang/String")], some (.object "java/lang/Object")⟩ := by decide +kernel
theorem pd_7_1 : parseMethodDescriptor "(Ljava/lang/Object;)V" = some ⟨[(.object "java/lang/Object")], none⟩ := by decide +kernel
theorem ef_7 (m : MethodId) (a1 : Addr) (a2 : Addr) (a3 : Addr) : entryFrame m #[(.ref a1), (.ref a2), (.ref a3)] 3 = mkF m 0 #[.val (.ref a1), .val (.ref a2), .val (.ref a3)] [] := by first | (simp [entryFrame, mkF, argsToLocals, Value.category]; done) | rfl
def Q7 (Z : State) (a1 : Addr) (a2 : Addr) (a3 : Addr) (u1 : Value) (u2 : Value) (u3 : Value) (h0 : Heap) (n0 : Nat) (v : Option Value) (h : Heap) (L : List Loc) : Prop := v = none ∧ Fr n0 L ∧ (Keep h0 h [a1]) ∧ (Fld Z h a1 "com/example/reticule/reticule/engine/Activation" "place" "I" u3)
set_option maxRecDepth 65536 in
set_option maxHeartbeats 40000000 in
theorem rm7 (l : Launch) (Z : State) (a0 : Array Value) (hw : ∀ d ∈ tables_1, d.before a0 Z = true) (ws : List Jvm.Cond) (a1 : Addr) (a2 : Addr) (a3 : Addr) (u1 : Value) (u2 : Value) (u3 : Value) (h0 : Heap) (n0 : Nat) (Z0 : n0 ≤ h0.size) (P0 : Exa Z h0 a1 "com/example/reticule/reticule/engine/Activation") (P1 : n0 ≤ a1) (P2 : Fld Z h0 a1 "com/example/reticule/reticule/engine/Made" "maker" "Ljava/lang/Object;" u1) (P3 : Fld Z h0 a1 "com/example/reticule/reticule/engine/Activation" "token" "Lcom/example/reticule/reticule/engine/Token;" u2) (P4 : Fld Z h0 a1 "com/example/reticule/reticule/engine/Activation" "place" "I" u3) (P5 : Exa Z h0 a3 "com/example/reticule/reticule/engine/Token") :
    MetFree l (⟨"com/example/reticule/reticule/engine/Activation", "<init>", "(Lcom/example/reticule/reticule/engine/TerminalNode;Lcom/example/reticule/reticule/engine/Token;)V"⟩ : MethodName) (head1 (Jvm.Cond.code (⟨"com/example/reticule/reticule/engine/Activation", "<init>", "(Lcom/example/reticule/reticule/engine/TerminalNode;Lcom/example/reticule/reticule/engine/Token;)V"⟩ : MethodName) prog_10_method_1_code 3 none :: ws) ({ frames := 2, cells := 4, slots := 60, locals := 25 } : Room)) (fun a U => a = #[(.ref a1), (.ref a2), (.ref a3)] ∧ Z.Warmed39 U.vm ∧ U.heap = h0) (fun _ _ _ _ _ => True) (fun _ U o U' => ∃ v L, o = .returned v ∧ Q7 Z a1 a2 a3 u1 u2 u3 h0 n0 v U'.heap L ∧ ReturnedEndW U o U' L ({ frames := 2, cells := 4, slots := 60, locals := 25 } : Room).cells ({ frames := 2, cells := 4, slots := 60, locals := 25 } : Room).slots) := by
  refine MetFree.of_bodySF (plainFor_of_name pn_7) hisR ?_
  intro p e s m args below meth c s₁ Bd hml0 hP hK
  obtain ⟨rfl, hZ, hh⟩ := hP
  have hx := Bd.exec
  have hby := Bd.bytes
  have hml : c.maxLocals = 3 := hml0
  have hown : s.vm.findClass "com/example/reticule/reticule/engine/Activation" = some m.cls := findClass_of_methodNamed Bd.named
  have hnm := (name_of_methodNamed Bd.named Bd.method).1
  have X0 : Stand p l e ({ frames := 2, cells := 4, slots := 60, locals := 25 } : Room) (s.setVm s.vm) m #[(.ref a1), (.ref a2), (.ref a3)] below meth c s₁ [] 0 0 := Stand.of_body Bd
  have e0 : s₁.heap = h0 := by rw [← hh, Bd.state]; rfl
  have N0 := Fr.nil n0
  have hS0 : s.Since s.vm 0 := (State.WarmedH.refl s).since 0
  show Go ReturnedEndW p e below s ({ frames := 2, cells := 4, slots := 60, locals := 25 } : Room).cells ({ frames := 2, cells := 4, slots := 60, locals := 25 } : Room).slots (Q7 Z a1 a2 a3 u1 u2 u3 h0 n0) (s₁.setTop (entryFrame m #[(.ref a1), (.ref a2), (.ref a3)] 3))
  refine go (fun _ k => castTop (ef_7 m a1 a2 a3) k) ?_
  show Go _ p e below s _ _ _ (s₁.setTop (mkF m 0 #[.val (.ref a1), .val (.ref a2), .val (.ref a3)] []))
  refine go (fun _ => XS.aloadN X0.here hx rfl (hb hby d7_0) rfl rfl) ?_
  show Go _ p e below s _ _ _ (s₁.setTop (mkF m 1 #[.val (.ref a1), .val (.ref a2), .val (.ref a3)] [(.ref a1)]))
  refine go (fun _ => XS.aloadN X0.here hx rfl (hb hby d7_1) rfl rfl) ?_
  show Go _ p e below s _ _ _ (s₁.setTop (mkF m 2 #[.val (.ref a1), .val (.ref a2), .val (.ref a3)] [(.ref a2), (.ref a1)]))
  obtain ⟨t40, T40, h40, k40, X40, e40, E40, hS40, hk40, hZ, hown, st40⟩ := ldcS X0 hx hZ hown (hw _ (List.mem_of_getElem? (i := 51) rfl)) (own_wS hw) e0 hS0 (Nat.zero_le _) (g := (mkF m 2 #[.val (.ref a1), .val (.ref a2), .val (.ref a3)] [(.ref a2), (.ref a1)])) rfl (hb hby d7_2) (n := 32) (by decide) (by decide) (by decide) (by decide)
  have c40_0 := P0.ext E40
  have c40_1 := P2.ext E40
  have c40_2 := P3.ext E40
  have c40_3 := P4.ext E40
  have c40_4 := P5.ext E40
  have KK40 : Keep h0 h40 [a1] := (Keep.refl h0 [a1]).ext E40
  have ZN40 : n0 ≤ h40.size := Nat.le_trans Z0 E40.1
  refine go st40 ?_
  show Go _ p e below s _ _ _ (T40.setTop (mkF m 4 #[.val (.ref a1), .val (.ref a2), .val (.ref a3)] [(.ref t40), (.ref a2), (.ref a1)]))
  obtain ⟨_, _, ⟨T41, L41, k41, n41⟩, -, X41, ⟨Lc41, hQ41, l41, y41, z41⟩, st41⟩ := Jvm.LawKit.callS X40 hx (y := (⟨"java/util/Objects", "requireNonNull", "(Ljava/lang/Object;Ljava/lang/String;)Ljava/lang/Object;"⟩ : MethodName)) hown (mvT hZ (hw _ (List.mem_of_getElem? (i := 59) rfl))) (mvT hZ (hw _ (List.mem_of_getElem? (i := 60) rfl))) (mvT hZ (hw _ (List.mem_of_getElem? (i := 61) rfl))) (mvT hZ (hw _ (List.mem_of_getElem? (i := 62) rfl))) (by decide) (backOf (W := 1) (rm8 l Z a0 hw [] a2 t40 h40 n0 ZN40 ) hZ (hw _ (List.mem_of_getElem? (i := 62) rfl)) (hw _ (List.mem_of_getElem? (i := 61) rfl)) (by decide) (by decide)) (g := (mkF m 4 #[.val (.ref a1), .val (.ref a2), .val (.ref a3)] [(.ref t40), (.ref a2), (.ref a1)])) rfl (by rw [hml]; rfl) (argsL := [(.ref a2), (.ref t40)]) (rest := [(.ref a1)]) (lenOf pd_7_0 rfl) rfl (by show 2 * 0 + _ ≤ _; exact Nat.le_of_eq rfl) (hb hby d7_4) (fun _ _ => ⟨rfl, e40, (by decide : 2 + 0 ≤ _), (by decide : 36 + 0 ≤ _)⟩)
  dsimp only [Pt.U, Pt.locs, Pt.cells, Pt.slots] at X41 l41 y41 z41 st41 hQ41
  subst l41 y41 z41
  obtain ⟨rfl, N41q, e41⟩ := hQ41
  have N41 := Fr.app N0 N41q
  refine go st41 ?_
  show Go _ p e below s _ _ _ (T41.setTop (mkF m 7 #[.val (.ref a1), .val (.ref a2), .val (.ref a3)] [(.ref a2), (.ref a1)]))
  obtain ⟨_, _, ⟨T42, L42, k42, n42⟩, -, X42, ⟨Lc42, hQ42, l42, y42, z42⟩, st42⟩ := X41.specialBack hx (y := (⟨"com/example/reticule/reticule/engine/Made", "<init>", "(Ljava/lang/Object;)V"⟩ : MethodName)) rfl hown (mvT hZ (hw _ (List.mem_of_getElem? (i := 63) rfl))) (mvT hZ (hw _ (List.mem_of_getElem? (i := 32) rfl))) (mvT hZ (hw _ (List.mem_of_getElem? (i := 35) rfl))) (by decide) (backOf (W := 0) (rm6A l Z a0 hw [] a1 a2 u1 u2 u3 h40 n0 ZN40 c40_0 P1 c40_1 c40_2 c40_3) hZ (hw _ (List.mem_of_getElem? (i := 35) rfl)) (hw _ (List.mem_of_getElem? (i := 34) rfl)) (by decide) (by decide)) (g := (mkF m 7 #[.val (.ref a1), .val (.ref a2), .val (.ref a3)] [(.ref a2), (.ref a1)])) rfl (by rw [hml]; rfl) (Steps.refl _) (a := a1) (argsL := [(.ref a2)]) (rest := []) (lenOf pd_7_1 rfl) rfl (by show 2 * 0 + _ ≤ _; exact Nat.le_of_eq rfl) (hb hby d7_7) (fun _ _ => ⟨rfl, e41, (by decide : 2 + 0 ≤ _), (by decide : 36 + 0 ≤ _)⟩)
  dsimp only [Pt.U, Pt.locs, Pt.cells, Pt.slots] at X42 l42 y42 z42 st42 hQ42
  subst l42 y42 z42
  obtain ⟨rfl, N42q, K42, u42_1, u42_2⟩ := hQ42
  have N42 := Fr.app N41 N42q
  have c42_0 := c40_0.keep K42
  have c42_1 := c40_4.keep K42
  have KK42 : Keep h0 T42.heap [a1] := KK40.trans K42 (allS (P := fun x => x ∈ [a1] ∨ h0.size ≤ x) (Or.inl (List.mem_of_getElem? (i := 0) rfl)) all0)
  have ZN42 : n0 ≤ T42.heap.size := Nat.le_trans ZN40 K42.1
  have HK42 : k40 ≤ T42.heap.size := Nat.le_trans hk40 K42.1
  refine goT st42 ?_
  show Go _ p e below s _ _ _ (T42.setTop (mkF m 10 #[.val (.ref a1), .val (.ref a2), .val (.ref a3)] []))
  refine go (fun _ => XS.aloadN X42.here hx rfl (hb hby d7_10) rfl rfl) ?_
  show Go _ p e below s _ _ _ (T42.setTop (mkF m 11 #[.val (.ref a1), .val (.ref a2), .val (.ref a3)] [(.ref a1)]))
  refine go (fun _ => XS.aloadN X42.here hx rfl (hb hby d7_11) rfl rfl) ?_
  show Go _ p e below s _ _ _ (T42.setTop (mkF m 12 #[.val (.ref a1), .val (.ref a2), .val (.ref a3)] [(.ref a3), (.ref a1)]))
  obtain ⟨t43, T43, h43, k43, X43, e43, E43, hS43, hk43, hZ, hown, st43⟩ := ldcS X42 hx hZ hown (hw _ (List.mem_of_getElem? (i := 65) rfl)) (own_wS hw) rfl hS40 HK42 (g := (mkF m 12 #[.val (.ref a1), .val (.ref a2), .val (.ref a3)] [(.ref a3), (.ref a1)])) rfl (hb hby d7_12) (n := 20) (by decide) (by decide) (by decide) (by decide)
  have c43_0 := c42_0.ext E43
  have c43_1 := c42_1.ext E43
  have c43_2 := u42_1.ext E43
  have c43_3 := u42_2.ext E43
  have KK43 : Keep h0 h43 [a1] := KK42.ext E43
  have ZN43 : n0 ≤ h43.size := Nat.le_trans ZN42 E43.1
  refine go st43 ?_
  show Go _ p e below s _ _ _ (T43.setTop (mkF m 14 #[.val (.ref a1), .val (.ref a2), .val (.ref a3)] [(.ref t43), (.ref a3), (.ref a1)]))
  obtain ⟨_, _, ⟨T44, L44, k44, n44⟩, -, X44, ⟨Lc44, hQ44, l44, y44, z44⟩, st44⟩ := Jvm.LawKit.callS X43 hx (y := (⟨"java/util/Objects", "requireNonNull", "(Ljava/lang/Object;Ljava/lang/String;)Ljava/lang/Object;"⟩ : MethodName)) hown (mvT hZ (hw _ (List.mem_of_getElem? (i := 59) rfl))) (mvT hZ (hw _ (List.mem_of_getElem? (i := 60) rfl))) (mvT hZ (hw _ (List.mem_of_getElem? (i := 61) rfl))) (mvT hZ (hw _ (List.mem_of_getElem? (i := 62) rfl))) (by decide) (backOf (W := 1) (rm8 l Z a0 hw [] a3 t43 h43 n0 ZN43 ) hZ (hw _ (List.mem_of_getElem? (i := 62) rfl)) (hw _ (List.mem_of_getElem? (i := 61) rfl)) (by decide) (by decide)) (g := (mkF m 14 #[.val (.ref a1), .val (.ref a2), .val (.ref a3)] [(.ref t43), (.ref a3), (.ref a1)])) rfl (by rw [hml]; rfl) (argsL := [(.ref a3), (.ref t43)]) (rest := [(.ref a1)]) (lenOf pd_7_0 rfl) rfl (by show 2 * 0 + _ ≤ _; exact Nat.le_of_eq rfl) (hb hby d7_14) (fun _ _ => ⟨rfl, e43, (by decide : 4 + 0 ≤ _), (by decide : 60 + 0 ≤ _)⟩)
  dsimp only [Pt.U, Pt.locs, Pt.cells, Pt.slots] at X44 l44 y44 z44 st44 hQ44
  subst l44 y44 z44
  obtain ⟨rfl, N44q, e44⟩ := hQ44
  have N44 := Fr.app N42 N44q
  refine go st44 ?_
  show Go _ p e below s _ _ _ (T44.setTop (mkF m 17 #[.val (.ref a1), .val (.ref a2), .val (.ref a3)] [(.ref a3), (.ref a1)]))
  obtain ⟨T45, X45, e45, st45⟩ := castY X44 hx hZ hown (hw _ (List.mem_of_getElem? (i := 66) rfl)) e44 (Ins.self c43_1) (g := (mkF m 17 #[.val (.ref a1), .val (.ref a2), .val (.ref a3)] [(.ref a3), (.ref a1)])) rfl rfl (hb hby d7_17)
  refine go st45 ?_
  show Go _ p e below s _ _ _ (T45.setTop (mkF m 20 #[.val (.ref a1), .val (.ref a2), .val (.ref a3)] [(.ref a3), (.ref a1)]))
  obtain ⟨T46, h46, X46, e46, W46, st46⟩ := putF X45 hx hZ hown (host := "") (Or.inl (hw _ (List.mem_of_getElem? (i := 68) rfl))) Via.refl e45 c43_2 c43_0 (Or.inr ⟨(hw _ (List.mem_of_getElem? (i := 69) rfl)), rfl, hnm⟩) (hw _ (List.mem_of_getElem? (i := 46) rfl)) (ty := (.object "com/example/reticule/reticule/engine/Token")) (by decide) rfl rfl (g := (mkF m 20 #[.val (.ref a1), .val (.ref a2), .val (.ref a3)] [(.ref a3), (.ref a1)])) rfl rfl (hb hby d7_20)
  have Fw46 := c43_2.same W46
  have c46_0 := c43_0.wr W46
  have c46_1 := c43_1.wr W46
  have c46_3 := c43_3.other W46 (Or.inr (slot_ne (Or.inl (hw _ (List.mem_of_getElem? (i := 128) rfl))) (Or.inr (hw _ (List.mem_of_getElem? (i := 69) rfl))) (by decide) (t := .int) (t' := (.object "com/example/reticule/reticule/engine/Token")) (by decide) (by decide)))
  have KK46 : Keep h0 h46 [a1] := KK43.wr W46 (Or.inl (List.mem_of_getElem? (i := 0) rfl))
  have ZN46 : n0 ≤ h46.size := Nat.le_trans ZN43 (Keep.of_wr W46).1
  have HK46 : k43 ≤ h46.size := Nat.le_trans hk43 (Keep.of_wr W46).1
  have NN46 := Fr.snoc X46 N44 P1
  refine go st46 ?_
  show Go _ p e below s _ _ _ (T46.setTop (mkF m 23 #[.val (.ref a1), .val (.ref a2), .val (.ref a3)] []))
  refine goRet0W X46 hS43 (by rw [e46]; exact HK46) hx Bd.notSynchronized Bd.returns (hb hby d7_23) (by decide) (by decide) (by rw [e46]; refine ⟨rfl, NN46, KK46, c46_3⟩)
theorem d12_0 : decode jdk_22_method_1_code 0 = .ok (.aload_n 0, 1) := by decide +kernel
theorem d12_1 : decode jdk_22_method_1_code 1 = .ok (.invokespecial 1, 3) := by decide +kernel
theorem d12_4 : decode jdk_22_method_1_code 4 = .ok (.return_, 1) := by decide +kernel
theorem pn_12 : plainName "java/util/AbstractCollection" = true := by first | (simp [plainName, overriddenIn]; done) | decide +kernel
theorem ef_12 (m : MethodId) (a1 : Addr) : entryFrame m #[(.ref a1)] 1 = mkF m 0 #[.val (.ref a1)] [] := by first | (simp [entryFrame, mkF, argsToLocals, Value.category]; done) | rfl
def Q12 (Z : State) (a1 : Addr) (h0 : Heap) (n0 : Nat) (v : Option Value) (h : Heap) (L : List Loc) : Prop := v = none ∧ Fr n0 L ∧ (h = h0)
set_option maxRecDepth 65536 in
set_option maxHeartbeats 40000000 in
theorem rm12 (l : Launch) (Z : State) (a0 : Array Value) (hw : ∀ d ∈ tables_1, d.before a0 Z = true) (ws : List Jvm.Cond) (a1 : Addr) (h0 : Heap) (n0 : Nat) (Z0 : n0 ≤ h0.size)  :
    MetFree l (⟨"java/util/AbstractCollection", "<init>", "()V"⟩ : MethodName) (head1 (Jvm.Cond.code (⟨"java/util/AbstractCollection", "<init>", "()V"⟩ : MethodName) jdk_22_method_1_code 1 none :: ws) ({ frames := 1, cells := 0, slots := 0, locals := 12 } : Room)) (fun a U => a = #[(.ref a1)] ∧ Z.Warmed39 U.vm ∧ U.heap = h0) (fun _ _ _ _ _ => True) (fun _ U o U' => ∃ v L, o = .returned v ∧ Q12 Z a1 h0 n0 v U'.heap L ∧ FrameEnd U o U' L ({ frames := 1, cells := 0, slots := 0, locals := 12 } : Room).cells ({ frames := 1, cells := 0, slots := 0, locals := 12 } : Room).slots) := by
  refine MetFree.of_bodySF (plainFor_of_name pn_12) hisR ?_
  intro p e s m args below meth c s₁ Bd hml0 hP hK
  obtain ⟨rfl, hZ, hh⟩ := hP
  have hx := Bd.exec
  have hby := Bd.bytes
  have hml : c.maxLocals = 1 := hml0
  have hown : s.vm.findClass "java/util/AbstractCollection" = some m.cls := findClass_of_methodNamed Bd.named
  have hnm := (name_of_methodNamed Bd.named Bd.method).1
  have X0 : Stand p l e ({ frames := 1, cells := 0, slots := 0, locals := 12 } : Room) s m #[(.ref a1)] below meth c s₁ [] 0 0 := Stand.of_body Bd
  have e0 : s₁.heap = h0 := by rw [← hh, Bd.state]; rfl
  have N0 := Fr.nil n0
  have hS0 : s.Since s.vm 0 := (State.WarmedH.refl s).since 0
  show Go FrameEnd p e below s ({ frames := 1, cells := 0, slots := 0, locals := 12 } : Room).cells ({ frames := 1, cells := 0, slots := 0, locals := 12 } : Room).slots (Q12 Z a1 h0 n0) (s₁.setTop (entryFrame m #[(.ref a1)] 1))
  refine go (fun _ k => castTop (ef_12 m a1) k) ?_
  show Go _ p e below s _ _ _ (s₁.setTop (mkF m 0 #[.val (.ref a1)] []))
  refine go (fun _ => XS.aloadN X0.here hx rfl (hb hby d12_0) rfl rfl) ?_
  show Go _ p e below s _ _ _ (s₁.setTop (mkF m 1 #[.val (.ref a1)] [(.ref a1)]))
  obtain ⟨T48, X48, e48, st48⟩ := initO X0 hx hZ hown (hw _ (List.mem_of_getElem? (i := 95) rfl)) (hw _ (List.mem_of_getElem? (i := 7) rfl)) (hw _ (List.mem_of_getElem? (i := 8) rfl)) e0 (g := (mkF m 1 #[.val (.ref a1)] [(.ref a1)])) rfl (by rw [hml]; rfl) rfl (hb hby d12_1) (by decide) (W := 0) (by show 2 * 0 + _ ≤ _; exact Nat.le_of_eq rfl) (by decide)
  refine go st48 ?_
  show Go _ p e below s _ _ _ (T48.setTop (mkF m 4 #[.val (.ref a1)] []))
  refine goRet0 X48 hx Bd.notSynchronized Bd.returns (hb hby d12_4) (by decide) (by decide) (by rw [e48]; refine ⟨rfl, N0, rfl⟩)
theorem d11_0 : decode jdk_39_method_1_code 0 = .ok (.aload_n 0, 1) := by decide +kernel
theorem d11_1 : decode jdk_39_method_1_code 1 = .ok (.invokespecial 1, 3) := by decide +kernel
theorem d11_4 : decode jdk_39_method_1_code 4 = .ok (.aload_n 0, 1) := by decide +kernel
theorem d11_5 : decode jdk_39_method_1_code 5 = .ok (.iconst 0, 1) := by decide +kernel
theorem d11_6 : decode jdk_39_method_1_code 6 = .ok (.putfield 7, 3) := by decide +kernel
theorem d11_9 : decode jdk_39_method_1_code 9 = .ok (.return_, 1) := by decide +kernel
theorem pn_11 : plainName "java/util/AbstractList" = true := by first | (simp [plainName, overriddenIn]; done) | decide +kernel
theorem pd_11_0 : parseMethodDescriptor "()V" = some ⟨[], none⟩ := by decide +kernel
theorem ef_11 (m : MethodId) (a1 : Addr) : entryFrame m #[(.ref a1)] 1 = mkF m 0 #[.val (.ref a1)] [] := by first | (simp [entryFrame, mkF, argsToLocals, Value.category]; done) | rfl
def Q11 (Z : State) (a1 : Addr) (u1 : Value) (u2 : Value) (u3 : Value) (h0 : Heap) (n0 : Nat) (v : Option Value) (h : Heap) (L : List Loc) : Prop := v = none ∧ Fr n0 L ∧ (Keep h0 h [a1]) ∧ (Fld Z h a1 "java/util/AbstractList" "modCount" "I" (.int (0 : Int32))) ∧ (Fld Z h a1 "java/util/ArrayList" "size" "I" u2) ∧ (Fld Z h a1 "java/util/ArrayList" "elementData" "[Ljava/lang/Object;" u3)
set_option maxRecDepth 65536 in
set_option maxHeartbeats 40000000 in
theorem rm11 (l : Launch) (Z : State) (a0 : Array Value) (hw : ∀ d ∈ tables_1, d.before a0 Z = true) (ws : List Jvm.Cond) (a1 : Addr) (u1 : Value) (u2 : Value) (u3 : Value) (h0 : Heap) (n0 : Nat) (Z0 : n0 ≤ h0.size) (P0 : Exa Z h0 a1 "java/util/ArrayList") (P1 : n0 ≤ a1) (P2 : Fld Z h0 a1 "java/util/AbstractList" "modCount" "I" u1) (P3 : Fld Z h0 a1 "java/util/ArrayList" "size" "I" u2) (P4 : Fld Z h0 a1 "java/util/ArrayList" "elementData" "[Ljava/lang/Object;" u3) :
    MetFree l (⟨"java/util/AbstractList", "<init>", "()V"⟩ : MethodName) (head1 (Jvm.Cond.code (⟨"java/util/AbstractList", "<init>", "()V"⟩ : MethodName) jdk_39_method_1_code 1 none :: ws) ({ frames := 2, cells := 0, slots := 0, locals := 24 } : Room)) (fun a U => a = #[(.ref a1)] ∧ Z.Warmed39 U.vm ∧ U.heap = h0) (fun _ _ _ _ _ => True) (fun _ U o U' => ∃ v L, o = .returned v ∧ Q11 Z a1 u1 u2 u3 h0 n0 v U'.heap L ∧ FrameEnd U o U' L ({ frames := 2, cells := 0, slots := 0, locals := 24 } : Room).cells ({ frames := 2, cells := 0, slots := 0, locals := 24 } : Room).slots) := by
  refine MetFree.of_bodySF (plainFor_of_name pn_11) hisR ?_
  intro p e s m args below meth c s₁ Bd hml0 hP hK
  obtain ⟨rfl, hZ, hh⟩ := hP
  have hx := Bd.exec
  have hby := Bd.bytes
  have hml : c.maxLocals = 1 := hml0
  have hown : s.vm.findClass "java/util/AbstractList" = some m.cls := findClass_of_methodNamed Bd.named
  have hnm := (name_of_methodNamed Bd.named Bd.method).1
  have X0 : Stand p l e ({ frames := 2, cells := 0, slots := 0, locals := 24 } : Room) s m #[(.ref a1)] below meth c s₁ [] 0 0 := Stand.of_body Bd
  have e0 : s₁.heap = h0 := by rw [← hh, Bd.state]; rfl
  have N0 := Fr.nil n0
  have hS0 : s.Since s.vm 0 := (State.WarmedH.refl s).since 0
  show Go FrameEnd p e below s ({ frames := 2, cells := 0, slots := 0, locals := 24 } : Room).cells ({ frames := 2, cells := 0, slots := 0, locals := 24 } : Room).slots (Q11 Z a1 u1 u2 u3 h0 n0) (s₁.setTop (entryFrame m #[(.ref a1)] 1))
  refine go (fun _ k => castTop (ef_11 m a1) k) ?_
  show Go _ p e below s _ _ _ (s₁.setTop (mkF m 0 #[.val (.ref a1)] []))
  refine go (fun _ => XS.aloadN X0.here hx rfl (hb hby d11_0) rfl rfl) ?_
  show Go _ p e below s _ _ _ (s₁.setTop (mkF m 1 #[.val (.ref a1)] [(.ref a1)]))
  obtain ⟨_, _, ⟨T51, L51, k51, n51⟩, -, X51, ⟨Lc51, hQ51, l51, y51, z51⟩, st51⟩ := X0.specialBack hx (y := (⟨"java/util/AbstractCollection", "<init>", "()V"⟩ : MethodName)) rfl hown (mvT hZ (hw _ (List.mem_of_getElem? (i := 89) rfl))) (mvT hZ (hw _ (List.mem_of_getElem? (i := 90) rfl))) (mvT hZ (hw _ (List.mem_of_getElem? (i := 94) rfl))) (by decide) (backOf (W := 0) (rm12 l Z a0 hw [] a1 h0 n0 Z0 ) hZ (hw _ (List.mem_of_getElem? (i := 94) rfl)) (hw _ (List.mem_of_getElem? (i := 93) rfl)) (by decide) (by decide)) (g := (mkF m 1 #[.val (.ref a1)] [(.ref a1)])) rfl (by rw [hml]; rfl) (Steps.refl _) (a := a1) (argsL := []) (rest := []) (lenOf pd_11_0 rfl) rfl (by show 2 * 0 + _ ≤ _; exact Nat.le_of_eq rfl) (hb hby d11_1) (fun _ _ => ⟨rfl, e0, (by decide : 0 + 0 ≤ _), (by decide : 0 + 0 ≤ _)⟩)
  dsimp only [Pt.U, Pt.locs, Pt.cells, Pt.slots] at X51 l51 y51 z51 st51 hQ51
  subst l51 y51 z51
  obtain ⟨rfl, N51q, e51⟩ := hQ51
  have N51 := Fr.app N0 N51q
  refine goT st51 ?_
  show Go _ p e below s _ _ _ (T51.setTop (mkF m 4 #[.val (.ref a1)] []))
  refine go (fun _ => XS.aloadN X51.here hx rfl (hb hby d11_4) rfl rfl) ?_
  show Go _ p e below s _ _ _ (T51.setTop (mkF m 5 #[.val (.ref a1)] [(.ref a1)]))
  refine go (fun _ => XS.iconst X51.here hx rfl (hb hby d11_5)) ?_
  show Go _ p e below s _ _ _ (T51.setTop (mkF m 6 #[.val (.ref a1)] [(.int (0 : Int32)), (.ref a1)]))
  obtain ⟨T52, h52, X52, e52, W52, st52⟩ := putF X51 hx hZ hown (host := "") (Or.inl (hw _ (List.mem_of_getElem? (i := 96) rfl))) Via.refl e51 P2 P0 (Or.inl (hw _ (List.mem_of_getElem? (i := 97) rfl))) (hw _ (List.mem_of_getElem? (i := 78) rfl)) (ty := .int) (by decide) rfl rfl (g := (mkF m 6 #[.val (.ref a1)] [(.int (0 : Int32)), (.ref a1)])) rfl rfl (hb hby d11_6)
  have Fw52 := P2.same W52
  have c52_0 := P0.wr W52
  have c52_2 := P3.other W52 (Or.inr (slot_ne (Or.inl (hw _ (List.mem_of_getElem? (i := 126) rfl))) (Or.inl (hw _ (List.mem_of_getElem? (i := 97) rfl))) (by decide) (t := .int) (t' := .int) (by decide) (by decide)))
  have c52_3 := P4.other W52 (Or.inr (slot_ne (Or.inl (hw _ (List.mem_of_getElem? (i := 100) rfl))) (Or.inl (hw _ (List.mem_of_getElem? (i := 97) rfl))) (by decide) (t := (.array (.object "java/lang/Object"))) (t' := .int) (by decide) (by decide)))
  have KK52 : Keep h0 h52 [a1] := (Keep.refl h0 [a1]).wr W52 (Or.inl (List.mem_of_getElem? (i := 0) rfl))
  have ZN52 : n0 ≤ h52.size := Nat.le_trans Z0 (Keep.of_wr W52).1
  have NN52 := Fr.snoc X52 N51 P1
  refine go st52 ?_
  show Go _ p e below s _ _ _ (T52.setTop (mkF m 9 #[.val (.ref a1)] []))
  refine goRet0 X52 hx Bd.notSynchronized Bd.returns (hb hby d11_9) (by decide) (by decide) (by rw [e52]; refine ⟨rfl, NN52, KK52, Fw52, c52_2, c52_3⟩)
theorem d10_0 : decode jdk_38_method_2_code 0 = .ok (.aload_n 0, 1) := by decide +kernel
theorem d10_1 : decode jdk_38_method_2_code 1 = .ok (.invokespecial 1, 3) := by decide +kernel
theorem d10_4 : decode jdk_38_method_2_code 4 = .ok (.aload_n 0, 1) := by decide +kernel
theorem d10_5 : decode jdk_38_method_2_code 5 = .ok (.getstatic 39, 3) := by decide +kernel
theorem d10_8 : decode jdk_38_method_2_code 8 = .ok (.putfield 9, 3) := by decide +kernel
theorem d10_11 : decode jdk_38_method_2_code 11 = .ok (.return_, 1) := by decide +kernel
theorem pn_10 : plainName "java/util/ArrayList" = true := by first | (simp [plainName, overriddenIn]; done) | decide +kernel
theorem pd_10_0 : parseMethodDescriptor "()V" = some ⟨[], none⟩ := by decide +kernel
theorem ef_10 (m : MethodId) (a1 : Addr) : entryFrame m #[(.ref a1)] 1 = mkF m 0 #[.val (.ref a1)] [] := by first | (simp [entryFrame, mkF, argsToLocals, Value.category]; done) | rfl
def Q10 (Z : State) (a1 : Addr) (u1 : Value) (u2 : Value) (u3 : Value) (d0 : Addr) (h0 : Heap) (n0 : Nat) (v : Option Value) (h : Heap) (L : List Loc) : Prop := v = none ∧ Fr n0 L ∧ (Keep h0 h [a1]) ∧ (Fld Z h a1 "java/util/AbstractList" "modCount" "I" (.int (0 : Int32))) ∧ (Fld Z h a1 "java/util/ArrayList" "size" "I" u2) ∧ (Fld Z h a1 "java/util/ArrayList" "elementData" "[Ljava/lang/Object;" (.ref d0))
set_option maxRecDepth 65536 in
set_option maxHeartbeats 40000000 in
theorem rm10 (l : Launch) (Z : State) (a0 : Array Value) (hw : ∀ d ∈ tables_1, d.before a0 Z = true) (ws : List Jvm.Cond) (a1 : Addr) (u1 : Value) (u2 : Value) (u3 : Value) (d0 : Addr) (h0 : Heap) (n0 : Nat) (Z0 : n0 ≤ h0.size) (P0 : Sta Z Z.heap "java/util/ArrayList" "DEFAULTCAPACITY_EMPTY_ELEMENTDATA" "[Ljava/lang/Object;" (.ref d0)) (P1 : Old Z n0 h0) (P2 : Exa Z h0 a1 "java/util/ArrayList") (P3 : n0 ≤ a1) (P4 : Fld Z h0 a1 "java/util/AbstractList" "modCount" "I" u1) (P5 : Fld Z h0 a1 "java/util/ArrayList" "size" "I" u2) (P6 : Fld Z h0 a1 "java/util/ArrayList" "elementData" "[Ljava/lang/Object;" u3) :
    MetFree l (⟨"java/util/ArrayList", "<init>", "()V"⟩ : MethodName) (head1 (Jvm.Cond.code (⟨"java/util/ArrayList", "<init>", "()V"⟩ : MethodName) jdk_38_method_2_code 1 none :: ws) ({ frames := 3, cells := 0, slots := 0, locals := 36 } : Room)) (fun a U => a = #[(.ref a1)] ∧ Z.Warmed39 U.vm ∧ U.heap = h0) (fun _ _ _ _ _ => True) (fun _ U o U' => ∃ v L, o = .returned v ∧ Q10 Z a1 u1 u2 u3 d0 h0 n0 v U'.heap L ∧ FrameEnd U o U' L ({ frames := 3, cells := 0, slots := 0, locals := 36 } : Room).cells ({ frames := 3, cells := 0, slots := 0, locals := 36 } : Room).slots) := by
  refine MetFree.of_bodySF (plainFor_of_name pn_10) hisR ?_
  intro p e s m args below meth c s₁ Bd hml0 hP hK
  obtain ⟨rfl, hZ, hh⟩ := hP
  have hx := Bd.exec
  have hby := Bd.bytes
  have hml : c.maxLocals = 1 := hml0
  have hown : s.vm.findClass "java/util/ArrayList" = some m.cls := findClass_of_methodNamed Bd.named
  have hnm := (name_of_methodNamed Bd.named Bd.method).1
  have X0 : Stand p l e ({ frames := 3, cells := 0, slots := 0, locals := 36 } : Room) s m #[(.ref a1)] below meth c s₁ [] 0 0 := Stand.of_body Bd
  have e0 : s₁.heap = h0 := by rw [← hh, Bd.state]; rfl
  have N0 := Fr.nil n0
  have hS0 : s.Since s.vm 0 := (State.WarmedH.refl s).since 0
  show Go FrameEnd p e below s ({ frames := 3, cells := 0, slots := 0, locals := 36 } : Room).cells ({ frames := 3, cells := 0, slots := 0, locals := 36 } : Room).slots (Q10 Z a1 u1 u2 u3 d0 h0 n0) (s₁.setTop (entryFrame m #[(.ref a1)] 1))
  refine go (fun _ k => castTop (ef_10 m a1) k) ?_
  show Go _ p e below s _ _ _ (s₁.setTop (mkF m 0 #[.val (.ref a1)] []))
  refine go (fun _ => XS.aloadN X0.here hx rfl (hb hby d10_0) rfl rfl) ?_
  show Go _ p e below s _ _ _ (s₁.setTop (mkF m 1 #[.val (.ref a1)] [(.ref a1)]))
  obtain ⟨_, _, ⟨T56, L56, k56, n56⟩, -, X56, ⟨Lc56, hQ56, l56, y56, z56⟩, st56⟩ := X0.specialBack hx (y := (⟨"java/util/AbstractList", "<init>", "()V"⟩ : MethodName)) rfl hown (mvT hZ (hw _ (List.mem_of_getElem? (i := 83) rfl))) (mvT hZ (hw _ (List.mem_of_getElem? (i := 84) rfl))) (mvT hZ (hw _ (List.mem_of_getElem? (i := 88) rfl))) (by decide) (backOf (W := 0) (rm11 l Z a0 hw [] a1 u1 u2 u3 h0 n0 Z0 P2 P3 P4 P5 P6) hZ (hw _ (List.mem_of_getElem? (i := 88) rfl)) (hw _ (List.mem_of_getElem? (i := 87) rfl)) (by decide) (by decide)) (g := (mkF m 1 #[.val (.ref a1)] [(.ref a1)])) rfl (by rw [hml]; rfl) (Steps.refl _) (a := a1) (argsL := []) (rest := []) (lenOf pd_10_0 rfl) rfl (by show 2 * 0 + _ ≤ _; exact Nat.le_of_eq rfl) (hb hby d10_1) (fun _ _ => ⟨rfl, e0, (by decide : 0 + 0 ≤ _), (by decide : 0 + 0 ≤ _)⟩)
  dsimp only [Pt.U, Pt.locs, Pt.cells, Pt.slots] at X56 l56 y56 z56 st56 hQ56
  subst l56 y56 z56
  obtain ⟨rfl, N56q, K56, u56_1, u56_2, u56_3⟩ := hQ56
  have N56 := Fr.app N0 N56q
  have c56_1 := P2.keep K56
  have KK56 : Keep h0 T56.heap [a1] := (Keep.refl h0 [a1]).trans K56 (allS (P := fun x => x ∈ [a1] ∨ h0.size ≤ x) (Or.inl (List.mem_of_getElem? (i := 0) rfl)) all0)
  have ZN56 : n0 ≤ T56.heap.size := Nat.le_trans Z0 K56.1
  have OL56 := P1.keep K56 (allS P3 all0)
  refine goT st56 ?_
  show Go _ p e below s _ _ _ (T56.setTop (mkF m 4 #[.val (.ref a1)] []))
  refine go (fun _ => XS.aloadN X56.here hx rfl (hb hby d10_4) rfl rfl) ?_
  show Go _ p e below s _ _ _ (T56.setTop (mkF m 5 #[.val (.ref a1)] [(.ref a1)]))
  obtain ⟨T57, X57, e57, st57⟩ := getS2 X56 hx hZ hown (host := "") (Or.inl (hw _ (List.mem_of_getElem? (i := 98) rfl))) Via.refl rfl (P0.ext OL56.2) (g := (mkF m 5 #[.val (.ref a1)] [(.ref a1)])) rfl (hb hby d10_5)
  refine go st57 ?_
  show Go _ p e below s _ _ _ (T57.setTop (mkF m 8 #[.val (.ref a1)] [(.ref d0), (.ref a1)]))
  obtain ⟨T58, h58, X58, e58, W58, st58⟩ := putF X57 hx hZ hown (host := "") (Or.inl (hw _ (List.mem_of_getElem? (i := 99) rfl))) Via.refl e57 u56_3 c56_1 (Or.inl (hw _ (List.mem_of_getElem? (i := 100) rfl))) (hw _ (List.mem_of_getElem? (i := 78) rfl)) (ty := (.array (.object "java/lang/Object"))) (by decide) rfl rfl (g := (mkF m 8 #[.val (.ref a1)] [(.ref d0), (.ref a1)])) rfl rfl (hb hby d10_8)
  have Fw58 := u56_3.same W58
  have c58_1 := c56_1.wr W58
  have c58_2 := u56_1.other W58 (Or.inr (slot_ne (Or.inl (hw _ (List.mem_of_getElem? (i := 97) rfl))) (Or.inl (hw _ (List.mem_of_getElem? (i := 100) rfl))) (by decide) (t := .int) (t' := (.array (.object "java/lang/Object"))) (by decide) (by decide)))
  have c58_3 := u56_2.other W58 (Or.inr (slot_ne (Or.inl (hw _ (List.mem_of_getElem? (i := 126) rfl))) (Or.inl (hw _ (List.mem_of_getElem? (i := 100) rfl))) (by decide) (t := .int) (t' := (.array (.object "java/lang/Object"))) (by decide) (by decide)))
  have KK58 : Keep h0 h58 [a1] := KK56.wr W58 (Or.inl (List.mem_of_getElem? (i := 0) rfl))
  have ZN58 : n0 ≤ h58.size := Nat.le_trans ZN56 (Keep.of_wr W58).1
  have NN58 := Fr.snoc X58 N56 P3
  have OL58 := OL56.wr W58 P3
  refine go st58 ?_
  show Go _ p e below s _ _ _ (T58.setTop (mkF m 11 #[.val (.ref a1)] []))
  refine goRet0 X58 hx Bd.notSynchronized Bd.returns (hb hby d10_11) (by decide) (by decide) (by rw [e58]; refine ⟨rfl, NN58, KK58, c58_2, c58_3, Fw58⟩)
theorem d9_0 : decode prog_11_method_1_code 0 = .ok (.aload_n 0, 1) := by decide +kernel
theorem d9_1 : decode prog_11_method_1_code 1 = .ok (.invokespecial 1, 3) := by decide +kernel
theorem d9_4 : decode prog_11_method_1_code 4 = .ok (.aload_n 0, 1) := by decide +kernel
theorem d9_5 : decode prog_11_method_1_code 5 = .ok (.new 7, 3) := by decide +kernel
theorem d9_8 : decode prog_11_method_1_code 8 = .ok (.dup, 1) := by decide +kernel
theorem d9_9 : decode prog_11_method_1_code 9 = .ok (.invokespecial 9, 3) := by decide +kernel
theorem d9_12 : decode prog_11_method_1_code 12 = .ok (.putfield 10, 3) := by decide +kernel
theorem d9_15 : decode prog_11_method_1_code 15 = .ok (.return_, 1) := by decide +kernel
theorem pn_9 : plainName "com/example/reticule/reticule/engine/ActivationRuns" = true := by first | (simp [plainName, overriddenIn]; done) | decide +kernel
theorem pd_9_0 : parseMethodDescriptor "()V" = some ⟨[], none⟩ := by decide +kernel
theorem ef_9 (m : MethodId) (a1 : Addr) : entryFrame m #[(.ref a1)] 1 = mkF m 0 #[.val (.ref a1)] [] := by first | (simp [entryFrame, mkF, argsToLocals, Value.category]; done) | rfl
def Q9 (Z : State) (a1 : Addr) (u1 : Value) (d0 : Addr) (h0 : Heap) (n0 : Nat) (v : Option Value) (h : Heap) (L : List Loc) : Prop := ∃ (b : Addr), v = none ∧ Fr n0 L ∧ (h0.size ≤ b) ∧ (n0 ≤ b) ∧ (Keep h0 h [a1]) ∧ (Exa Z h b "java/util/ArrayList") ∧ (Fld Z h b "java/util/AbstractList" "modCount" "I" (.int (0 : Int32))) ∧ (Fld Z h b "java/util/ArrayList" "size" "I" (.int (0 : Int32))) ∧ (Fld Z h b "java/util/ArrayList" "elementData" "[Ljava/lang/Object;" (.ref d0)) ∧ (Fld Z h a1 "com/example/reticule/reticule/engine/ActivationRuns" "entries" "Ljava/util/List;" (.ref b)) ∧ (Fld Z h a1 "com/example/reticule/reticule/engine/ActivationRuns" "count" "I" (.int (0 : Int32)))
set_option maxRecDepth 65536 in
set_option maxHeartbeats 40000000 in
theorem rm9 (l : Launch) (Z : State) (a0 : Array Value) (hw : ∀ d ∈ tables_1, d.before a0 Z = true) (ws : List Jvm.Cond) (a1 : Addr) (u1 : Value) (d0 : Addr) (h0 : Heap) (n0 : Nat) (Z0 : n0 ≤ h0.size) (P0 : Sta Z Z.heap "java/util/ArrayList" "DEFAULTCAPACITY_EMPTY_ELEMENTDATA" "[Ljava/lang/Object;" (.ref d0)) (P1 : Old Z n0 h0) (P2 : Exa Z h0 a1 "com/example/reticule/reticule/engine/ActivationRuns") (P3 : n0 ≤ a1) (P4 : Fld Z h0 a1 "com/example/reticule/reticule/engine/ActivationRuns" "entries" "Ljava/util/List;" u1) (P5 : Fld Z h0 a1 "com/example/reticule/reticule/engine/ActivationRuns" "count" "I" (.int (0 : Int32))) :
    MetFree l (⟨"com/example/reticule/reticule/engine/ActivationRuns", "<init>", "()V"⟩ : MethodName) (head1 (Jvm.Cond.code (⟨"com/example/reticule/reticule/engine/ActivationRuns", "<init>", "()V"⟩ : MethodName) prog_11_method_1_code 1 none :: ws) ({ frames := 4, cells := 1, slots := 3, locals := 50 } : Room)) (fun a U => a = #[(.ref a1)] ∧ Z.Warmed39 U.vm ∧ U.heap = h0) (fun _ _ _ _ _ => True) (fun _ U o U' => ∃ v L, o = .returned v ∧ Q9 Z a1 u1 d0 h0 n0 v U'.heap L ∧ FrameEnd U o U' L ({ frames := 4, cells := 1, slots := 3, locals := 50 } : Room).cells ({ frames := 4, cells := 1, slots := 3, locals := 50 } : Room).slots) := by
  refine MetFree.of_bodySF (plainFor_of_name pn_9) hisR ?_
  intro p e s m args below meth c s₁ Bd hml0 hP hK
  obtain ⟨rfl, hZ, hh⟩ := hP
  have hx := Bd.exec
  have hby := Bd.bytes
  have hml : c.maxLocals = 1 := hml0
  have hown : s.vm.findClass "com/example/reticule/reticule/engine/ActivationRuns" = some m.cls := findClass_of_methodNamed Bd.named
  have hnm := (name_of_methodNamed Bd.named Bd.method).1
  have X0 : Stand p l e ({ frames := 4, cells := 1, slots := 3, locals := 50 } : Room) s m #[(.ref a1)] below meth c s₁ [] 0 0 := Stand.of_body Bd
  have e0 : s₁.heap = h0 := by rw [← hh, Bd.state]; rfl
  have N0 := Fr.nil n0
  have hS0 : s.Since s.vm 0 := (State.WarmedH.refl s).since 0
  show Go FrameEnd p e below s ({ frames := 4, cells := 1, slots := 3, locals := 50 } : Room).cells ({ frames := 4, cells := 1, slots := 3, locals := 50 } : Room).slots (Q9 Z a1 u1 d0 h0 n0) (s₁.setTop (entryFrame m #[(.ref a1)] 1))
  refine go (fun _ k => castTop (ef_9 m a1) k) ?_
  show Go _ p e below s _ _ _ (s₁.setTop (mkF m 0 #[.val (.ref a1)] []))
  refine go (fun _ => XS.aloadN X0.here hx rfl (hb hby d9_0) rfl rfl) ?_
  show Go _ p e below s _ _ _ (s₁.setTop (mkF m 1 #[.val (.ref a1)] [(.ref a1)]))
  obtain ⟨T63, X63, e63, st63⟩ := initO X0 hx hZ hown (hw _ (List.mem_of_getElem? (i := 76) rfl)) (hw _ (List.mem_of_getElem? (i := 7) rfl)) (hw _ (List.mem_of_getElem? (i := 8) rfl)) e0 (g := (mkF m 1 #[.val (.ref a1)] [(.ref a1)])) rfl (by rw [hml]; rfl) rfl (hb hby d9_1) (by decide) (W := 0) (by show 2 * 0 + _ ≤ _; exact Nat.le_of_eq rfl) (by decide)
  refine go st63 ?_
  show Go _ p e below s _ _ _ (T63.setTop (mkF m 4 #[.val (.ref a1)] []))
  refine go (fun _ => XS.aloadN X63.here hx rfl (hb hby d9_4) rfl rfl) ?_
  show Go _ p e below s _ _ _ (T63.setTop (mkF m 5 #[.val (.ref a1)] [(.ref a1)]))
  obtain ⟨T64, h64, X64, e64, E64, A64, D64, -, st64⟩ := newO X63 hx hZ hown (hw _ (List.mem_of_getElem? (i := 77) rfl)) (hw _ (List.mem_of_getElem? (i := 78) rfl)) (hw _ (List.mem_of_getElem? (i := 79) rfl)) e63 (g := (mkF m 5 #[.val (.ref a1)] [(.ref a1)])) rfl (hb hby d9_5) (by decide) (by decide)
  obtain ⟨b64, g64⟩ : ∃ z, z = h0.size := ⟨_, rfl⟩
  rw [← g64] at A64 D64 st64
  have lt64_a1_b64 : a1 < b64 := Nat.lt_of_lt_of_le P2.lt (Nat.le_of_eq g64.symm)
  have G_b64 : n0 ≤ b64 := Nat.le_trans Z0 (Nat.le_of_eq g64.symm)
  have SZ_b64 : h0.size ≤ b64 := Nat.le_trans (Keep.refl h0 [a1]).1 (Nat.le_of_eq g64.symm)
  have c64_1 := P2.ext E64
  have c64_2 := P4.ext E64
  have c64_3 := P5.ext E64
  have KK64 : Keep h0 h64 [a1] := (Keep.refl h0 [a1]).ext E64
  have ZN64 : n0 ≤ h64.size := Nat.le_trans Z0 E64.1
  have OL64 := P1.ext E64
  have F64_97 : Fld Z h64 b64 "java/util/AbstractList" "modCount" "I" (.int (0 : Int32)) := D64 (Or.inl (hw _ (List.mem_of_getElem? (i := 97) rfl))) (ty := .int) (by decide)
  have F64_100 : Fld Z h64 b64 "java/util/ArrayList" "elementData" "[Ljava/lang/Object;" .null := D64 (Or.inl (hw _ (List.mem_of_getElem? (i := 100) rfl))) (ty := (.array (.object "java/lang/Object"))) (by decide)
  have F64_126 : Fld Z h64 b64 "java/util/ArrayList" "size" "I" (.int (0 : Int32)) := D64 (Or.inl (hw _ (List.mem_of_getElem? (i := 126) rfl))) (ty := .int) (by decide)
  refine go st64 ?_
  show Go _ p e below s _ _ _ (T64.setTop (mkF m 8 #[.val (.ref a1)] [(.ref b64), (.ref a1)]))
  refine go (fun _ => XS.dup X64.here hx rfl (hb hby d9_8) rfl rfl) ?_
  show Go _ p e below s _ _ _ (T64.setTop (mkF m 9 #[.val (.ref a1)] [(.ref b64), (.ref b64), (.ref a1)]))
  obtain ⟨_, _, ⟨T65, L65, k65, n65⟩, -, X65, ⟨Lc65, hQ65, l65, y65, z65⟩, st65⟩ := X64.specialBack hx (y := (⟨"java/util/ArrayList", "<init>", "()V"⟩ : MethodName)) rfl hown (mvT hZ (hw _ (List.mem_of_getElem? (i := 80) rfl))) (mvT hZ (hw _ (List.mem_of_getElem? (i := 81) rfl))) (mvT hZ (hw _ (List.mem_of_getElem? (i := 82) rfl))) (by decide) (backOf (W := 2) (rm10 l Z a0 hw [] b64 (.int (0 : Int32)) (.int (0 : Int32)) .null d0 h64 n0 ZN64 P0 OL64 A64 G_b64 F64_97 F64_126 F64_100) hZ (hw _ (List.mem_of_getElem? (i := 82) rfl)) (hw _ (List.mem_of_getElem? (i := 79) rfl)) (by decide) (by decide)) (g := (mkF m 9 #[.val (.ref a1)] [(.ref b64), (.ref b64), (.ref a1)])) rfl (by rw [hml]; rfl) (Steps.refl _) (a := b64) (argsL := []) (rest := [(.ref b64), (.ref a1)]) (lenOf pd_9_0 rfl) rfl (by show 2 * 0 + _ ≤ _; exact Nat.le_of_eq rfl) (hb hby d9_9) (fun _ _ => ⟨rfl, e64, (by decide : 1 + 0 ≤ _), (by decide : 3 + 0 ≤ _)⟩)
  dsimp only [Pt.U, Pt.locs, Pt.cells, Pt.slots] at X65 l65 y65 z65 st65 hQ65
  subst l65 y65 z65
  obtain ⟨rfl, N65q, K65, u65_1, u65_2, u65_3⟩ := hQ65
  have N65 := Fr.app N0 N65q
  have c65_1 := c64_1.keep K65
  have c65_2 := c64_2.keep K65 (ninS (Nat.ne_of_lt lt64_a1_b64) nin0)
  have c65_3 := c64_3.keep K65 (ninS (Nat.ne_of_lt lt64_a1_b64) nin0)
  have c65_4 := A64.keep K65
  have KK65 : Keep h0 T65.heap [a1] := KK64.trans K65 (allS (P := fun x => x ∈ [a1] ∨ h0.size ≤ x) (Or.inr SZ_b64) all0)
  have ZN65 : n0 ≤ T65.heap.size := Nat.le_trans ZN64 K65.1
  have OL65 := OL64.keep K65 (allS G_b64 all0)
  refine goT st65 ?_
  show Go _ p e below s _ _ _ (T65.setTop (mkF m 12 #[.val (.ref a1)] [(.ref b64), (.ref a1)]))
  obtain ⟨T66, h66, X66, e66, W66, st66⟩ := putF X65 hx hZ hown (host := "") (Or.inl (hw _ (List.mem_of_getElem? (i := 101) rfl))) Via.refl rfl c65_2 c65_1 (Or.inr ⟨(hw _ (List.mem_of_getElem? (i := 102) rfl)), rfl, hnm⟩) (hw _ (List.mem_of_getElem? (i := 71) rfl)) (ty := (.object "java/util/List")) (by decide) rfl rfl (g := (mkF m 12 #[.val (.ref a1)] [(.ref b64), (.ref a1)])) rfl rfl (hb hby d9_12)
  have Fw66 := c65_2.same W66
  have c66_1 := c65_1.wr W66
  have c66_3 := c65_3.other W66 (Or.inr (slot_ne (Or.inl (hw _ (List.mem_of_getElem? (i := 109) rfl))) (Or.inr (hw _ (List.mem_of_getElem? (i := 102) rfl))) (by decide) (t := .int) (t' := (.object "java/util/List")) (by decide) (by decide)))
  have c66_4 := c65_4.wr W66
  have c66_5 := u65_1.other W66 (Or.inl (Ne.symm (Nat.ne_of_lt lt64_a1_b64)))
  have c66_6 := u65_2.other W66 (Or.inl (Ne.symm (Nat.ne_of_lt lt64_a1_b64)))
  have c66_7 := u65_3.other W66 (Or.inl (Ne.symm (Nat.ne_of_lt lt64_a1_b64)))
  have KK66 : Keep h0 h66 [a1] := KK65.wr W66 (Or.inl (List.mem_of_getElem? (i := 0) rfl))
  have ZN66 : n0 ≤ h66.size := Nat.le_trans ZN65 (Keep.of_wr W66).1
  have NN66 := Fr.snoc X66 N65 P3
  have OL66 := OL65.wr W66 P3
  refine go st66 ?_
  show Go _ p e below s _ _ _ (T66.setTop (mkF m 15 #[.val (.ref a1)] []))
  refine goRet0 X66 hx Bd.notSynchronized Bd.returns (hb hby d9_15) (by decide) (by decide) (by rw [e66]; refine ⟨b64, rfl, NN66, SZ_b64, G_b64, KK66, c66_4, c66_5, c66_6, c66_7, Fw66, c66_3⟩)
theorem d13_0 : decode prog_11_method_4_code 0 = .ok (.aload_n 0, 1) := by decide +kernel
theorem d13_1 : decode prog_11_method_4_code 1 = .ok (.getfield 32, 3) := by decide +kernel
theorem d13_4 : decode prog_11_method_4_code 4 = .ok (.ifCond .ne 7, 3) := by decide +kernel
theorem d13_7 : decode prog_11_method_4_code 7 = .ok (.iconst 1, 1) := by decide +kernel
theorem d13_8 : decode prog_11_method_4_code 8 = .ok (.goto 4, 3) := by decide +kernel
theorem d13_12 : decode prog_11_method_4_code 12 = .ok (.ireturn, 1) := by decide +kernel
theorem pn_E0 : plainName "com/example/reticule/reticule/engine/ActivationRuns" = true := by first | (simp [plainName, overriddenIn]; done) | decide +kernel
theorem ef_E0 (m : MethodId) (a1 : Addr) : entryFrame m #[(.ref a1)] 1 = mkF m 0 #[.val (.ref a1)] [] := by first | (simp [entryFrame, mkF, argsToLocals, Value.category]; done) | rfl
def QE0 (Z : State) (a1 : Addr) (h0 : Heap) (n0 : Nat) (v : Option Value) (h : Heap) (L : List Loc) : Prop := v = some (.int (1 : Int32)) ∧ Fr n0 L ∧ (h = h0)
set_option maxRecDepth 65536 in
set_option maxHeartbeats 40000000 in
theorem rmE0 (l : Launch) (Z : State) (a0 : Array Value) (hw : ∀ d ∈ tables_1, d.before a0 Z = true) (ws : List Jvm.Cond) (a1 : Addr) (h0 : Heap) (n0 : Nat) (Z0 : n0 ≤ h0.size) (P0 : Fld Z h0 a1 "com/example/reticule/reticule/engine/ActivationRuns" "count" "I" (.int (0 : Int32))) :
    MetFree l (⟨"com/example/reticule/reticule/engine/ActivationRuns", "isEmpty", "()Z"⟩ : MethodName) (head1 (Jvm.Cond.code (⟨"com/example/reticule/reticule/engine/ActivationRuns", "isEmpty", "()Z"⟩ : MethodName) prog_11_method_4_code 1 (some .boolean) :: ws) ({ frames := 0, cells := 0, slots := 0, locals := 0 } : Room)) (fun a U => a = #[(.ref a1)] ∧ Z.Warmed39 U.vm ∧ U.heap = h0) (fun _ _ _ _ _ => True) (fun _ U o U' => ∃ v L, o = .returned v ∧ QE0 Z a1 h0 n0 v U'.heap L ∧ FrameEnd U o U' L ({ frames := 0, cells := 0, slots := 0, locals := 0 } : Room).cells ({ frames := 0, cells := 0, slots := 0, locals := 0 } : Room).slots) := by
  refine MetFree.of_bodySF (plainFor_of_name pn_E0) hisR ?_
  intro p e s m args below meth c s₁ Bd hml0 hP hK
  obtain ⟨rfl, hZ, hh⟩ := hP
  have hx := Bd.exec
  have hby := Bd.bytes
  have hml : c.maxLocals = 1 := hml0
  have hown : s.vm.findClass "com/example/reticule/reticule/engine/ActivationRuns" = some m.cls := findClass_of_methodNamed Bd.named
  have hnm := (name_of_methodNamed Bd.named Bd.method).1
  have X0 : Stand p l e ({ frames := 0, cells := 0, slots := 0, locals := 0 } : Room) s m #[(.ref a1)] below meth c s₁ [] 0 0 := Stand.of_body Bd
  have e0 : s₁.heap = h0 := by rw [← hh, Bd.state]; rfl
  have N0 := Fr.nil n0
  have hS0 : s.Since s.vm 0 := (State.WarmedH.refl s).since 0
  show Go FrameEnd p e below s ({ frames := 0, cells := 0, slots := 0, locals := 0 } : Room).cells ({ frames := 0, cells := 0, slots := 0, locals := 0 } : Room).slots (QE0 Z a1 h0 n0) (s₁.setTop (entryFrame m #[(.ref a1)] 1))
  refine go (fun _ k => castTop (ef_E0 m a1) k) ?_
  show Go _ p e below s _ _ _ (s₁.setTop (mkF m 0 #[.val (.ref a1)] []))
  refine go (fun _ => XS.aloadN X0.here hx rfl (hb hby d13_0) rfl rfl) ?_
  show Go _ p e below s _ _ _ (s₁.setTop (mkF m 1 #[.val (.ref a1)] [(.ref a1)]))
  obtain ⟨T68, X68, e68, st68⟩ := getF X0 hx hZ hown (host := "") (Or.inl (hw _ (List.mem_of_getElem? (i := 108) rfl))) Via.refl e0 P0 (g := (mkF m 1 #[.val (.ref a1)] [(.ref a1)])) rfl rfl (hb hby d13_1)
  refine go st68 ?_
  show Go _ p e below s _ _ _ (T68.setTop (mkF m 4 #[.val (.ref a1)] [(.int (0 : Int32))]))
  refine go (fun _ => XS.ifNo X68.here hx rfl (hb hby d13_4) rfl ((if0 _ _).trans (teq (rfl : (0 : Int32) = (0 : Int32))).2)) ?_
  show Go _ p e below s _ _ _ (T68.setTop (mkF m 7 #[.val (.ref a1)] []))
  refine go (fun _ => XS.iconst X68.here hx rfl (hb hby d13_7)) ?_
  show Go _ p e below s _ _ _ (T68.setTop (mkF m 8 #[.val (.ref a1)] [(.int (1 : Int32))]))
  refine go (fun _ => XS.goto X68.here hx rfl (pc0 := 8) (pc' := 12) rfl (hb hby d13_8) (by decide) (by decide)) ?_
  show Go _ p e below s _ _ _ (T68.setTop (mkF m 12 #[.val (.ref a1)] [(.int (1 : Int32))]))
  refine goRet X68 hx Bd.notSynchronized Bd.returns rfl (Or.inl ⟨rfl, Or.inr (Or.inl rfl), _, rfl⟩) (hb hby d13_12) (by decide) (by decide) (by rw [e68]; refine ⟨rfl, N0, rfl⟩)
theorem d13_11 : decode prog_11_method_4_code 11 = .ok (.iconst 0, 1) := by decide +kernel
theorem pn_E1 : plainName "com/example/reticule/reticule/engine/ActivationRuns" = true := by first | (simp [plainName, overriddenIn]; done) | decide +kernel
theorem ef_E1 (m : MethodId) (a1 : Addr) : entryFrame m #[(.ref a1)] 1 = mkF m 0 #[.val (.ref a1)] [] := by first | (simp [entryFrame, mkF, argsToLocals, Value.category]; done) | rfl
def QE1 (Z : State) (a1 : Addr) (h0 : Heap) (n0 : Nat) (v : Option Value) (h : Heap) (L : List Loc) : Prop := v = some (.int (0 : Int32)) ∧ Fr n0 L ∧ (h = h0)
set_option maxRecDepth 65536 in
set_option maxHeartbeats 40000000 in
theorem rmE1 (l : Launch) (Z : State) (a0 : Array Value) (hw : ∀ d ∈ tables_1, d.before a0 Z = true) (ws : List Jvm.Cond) (a1 : Addr) (h0 : Heap) (n0 : Nat) (Z0 : n0 ≤ h0.size) (P0 : Fld Z h0 a1 "com/example/reticule/reticule/engine/ActivationRuns" "count" "I" (.int (1 : Int32))) :
    MetFree l (⟨"com/example/reticule/reticule/engine/ActivationRuns", "isEmpty", "()Z"⟩ : MethodName) (head1 (Jvm.Cond.code (⟨"com/example/reticule/reticule/engine/ActivationRuns", "isEmpty", "()Z"⟩ : MethodName) prog_11_method_4_code 1 (some .boolean) :: ws) ({ frames := 0, cells := 0, slots := 0, locals := 0 } : Room)) (fun a U => a = #[(.ref a1)] ∧ Z.Warmed39 U.vm ∧ U.heap = h0) (fun _ _ _ _ _ => True) (fun _ U o U' => ∃ v L, o = .returned v ∧ QE1 Z a1 h0 n0 v U'.heap L ∧ FrameEnd U o U' L ({ frames := 0, cells := 0, slots := 0, locals := 0 } : Room).cells ({ frames := 0, cells := 0, slots := 0, locals := 0 } : Room).slots) := by
  refine MetFree.of_bodySF (plainFor_of_name pn_E1) hisR ?_
  intro p e s m args below meth c s₁ Bd hml0 hP hK
  obtain ⟨rfl, hZ, hh⟩ := hP
  have hx := Bd.exec
  have hby := Bd.bytes
  have hml : c.maxLocals = 1 := hml0
  have hown : s.vm.findClass "com/example/reticule/reticule/engine/ActivationRuns" = some m.cls := findClass_of_methodNamed Bd.named
  have hnm := (name_of_methodNamed Bd.named Bd.method).1
  have X0 : Stand p l e ({ frames := 0, cells := 0, slots := 0, locals := 0 } : Room) s m #[(.ref a1)] below meth c s₁ [] 0 0 := Stand.of_body Bd
  have e0 : s₁.heap = h0 := by rw [← hh, Bd.state]; rfl
  have N0 := Fr.nil n0
  have hS0 : s.Since s.vm 0 := (State.WarmedH.refl s).since 0
  show Go FrameEnd p e below s ({ frames := 0, cells := 0, slots := 0, locals := 0 } : Room).cells ({ frames := 0, cells := 0, slots := 0, locals := 0 } : Room).slots (QE1 Z a1 h0 n0) (s₁.setTop (entryFrame m #[(.ref a1)] 1))
  refine go (fun _ k => castTop (ef_E1 m a1) k) ?_
  show Go _ p e below s _ _ _ (s₁.setTop (mkF m 0 #[.val (.ref a1)] []))
  refine go (fun _ => XS.aloadN X0.here hx rfl (hb hby d13_0) rfl rfl) ?_
  show Go _ p e below s _ _ _ (s₁.setTop (mkF m 1 #[.val (.ref a1)] [(.ref a1)]))
  obtain ⟨T70, X70, e70, st70⟩ := getF X0 hx hZ hown (host := "") (Or.inl (hw _ (List.mem_of_getElem? (i := 108) rfl))) Via.refl e0 P0 (g := (mkF m 1 #[.val (.ref a1)] [(.ref a1)])) rfl rfl (hb hby d13_1)
  refine go st70 ?_
  show Go _ p e below s _ _ _ (T70.setTop (mkF m 4 #[.val (.ref a1)] [(.int (1 : Int32))]))
  refine go (fun _ => XS.ifYes X70.here hx rfl (pc0 := 4) (pc' := 11) rfl (hb hby d13_4) rfl ((if0 _ _).trans (feq (by decide : ¬ ((1 : Int32) = (0 : Int32)))).2) (by decide) (by decide)) ?_
  show Go _ p e below s _ _ _ (T70.setTop (mkF m 11 #[.val (.ref a1)] []))
  refine go (fun _ => XS.iconst X70.here hx rfl (hb hby d13_11)) ?_
  show Go _ p e below s _ _ _ (T70.setTop (mkF m 12 #[.val (.ref a1)] [(.int (0 : Int32))]))
  refine goRet X70 hx Bd.notSynchronized Bd.returns rfl (Or.inl ⟨rfl, Or.inr (Or.inl rfl), _, rfl⟩) (hb hby d13_12) (by decide) (by decide) (by rw [e70]; refine ⟨rfl, N0, rfl⟩)
theorem pn_E2 : plainName "com/example/reticule/reticule/engine/ActivationRuns" = true := by first | (simp [plainName, overriddenIn]; done) | decide +kernel
theorem ef_E2 (m : MethodId) (a1 : Addr) : entryFrame m #[(.ref a1)] 1 = mkF m 0 #[.val (.ref a1)] [] := by first | (simp [entryFrame, mkF, argsToLocals, Value.category]; done) | rfl
def QE2 (Z : State) (a1 : Addr) (h0 : Heap) (n0 : Nat) (v : Option Value) (h : Heap) (L : List Loc) : Prop := v = some (.int (0 : Int32)) ∧ Fr n0 L ∧ (h = h0)
set_option maxRecDepth 65536 in
set_option maxHeartbeats 40000000 in
theorem rmE2 (l : Launch) (Z : State) (a0 : Array Value) (hw : ∀ d ∈ tables_1, d.before a0 Z = true) (ws : List Jvm.Cond) (a1 : Addr) (h0 : Heap) (n0 : Nat) (Z0 : n0 ≤ h0.size) (P0 : Fld Z h0 a1 "com/example/reticule/reticule/engine/ActivationRuns" "count" "I" (.int (2 : Int32))) :
    MetFree l (⟨"com/example/reticule/reticule/engine/ActivationRuns", "isEmpty", "()Z"⟩ : MethodName) (head1 (Jvm.Cond.code (⟨"com/example/reticule/reticule/engine/ActivationRuns", "isEmpty", "()Z"⟩ : MethodName) prog_11_method_4_code 1 (some .boolean) :: ws) ({ frames := 0, cells := 0, slots := 0, locals := 0 } : Room)) (fun a U => a = #[(.ref a1)] ∧ Z.Warmed39 U.vm ∧ U.heap = h0) (fun _ _ _ _ _ => True) (fun _ U o U' => ∃ v L, o = .returned v ∧ QE2 Z a1 h0 n0 v U'.heap L ∧ FrameEnd U o U' L ({ frames := 0, cells := 0, slots := 0, locals := 0 } : Room).cells ({ frames := 0, cells := 0, slots := 0, locals := 0 } : Room).slots) := by
  refine MetFree.of_bodySF (plainFor_of_name pn_E2) hisR ?_
  intro p e s m args below meth c s₁ Bd hml0 hP hK
  obtain ⟨rfl, hZ, hh⟩ := hP
  have hx := Bd.exec
  have hby := Bd.bytes
  have hml : c.maxLocals = 1 := hml0
  have hown : s.vm.findClass "com/example/reticule/reticule/engine/ActivationRuns" = some m.cls := findClass_of_methodNamed Bd.named
  have hnm := (name_of_methodNamed Bd.named Bd.method).1
  have X0 : Stand p l e ({ frames := 0, cells := 0, slots := 0, locals := 0 } : Room) s m #[(.ref a1)] below meth c s₁ [] 0 0 := Stand.of_body Bd
  have e0 : s₁.heap = h0 := by rw [← hh, Bd.state]; rfl
  have N0 := Fr.nil n0
  have hS0 : s.Since s.vm 0 := (State.WarmedH.refl s).since 0
  show Go FrameEnd p e below s ({ frames := 0, cells := 0, slots := 0, locals := 0 } : Room).cells ({ frames := 0, cells := 0, slots := 0, locals := 0 } : Room).slots (QE2 Z a1 h0 n0) (s₁.setTop (entryFrame m #[(.ref a1)] 1))
  refine go (fun _ k => castTop (ef_E2 m a1) k) ?_
  show Go _ p e below s _ _ _ (s₁.setTop (mkF m 0 #[.val (.ref a1)] []))
  refine go (fun _ => XS.aloadN X0.here hx rfl (hb hby d13_0) rfl rfl) ?_
  show Go _ p e below s _ _ _ (s₁.setTop (mkF m 1 #[.val (.ref a1)] [(.ref a1)]))
  obtain ⟨T72, X72, e72, st72⟩ := getF X0 hx hZ hown (host := "") (Or.inl (hw _ (List.mem_of_getElem? (i := 108) rfl))) Via.refl e0 P0 (g := (mkF m 1 #[.val (.ref a1)] [(.ref a1)])) rfl rfl (hb hby d13_1)
  refine go st72 ?_
  show Go _ p e below s _ _ _ (T72.setTop (mkF m 4 #[.val (.ref a1)] [(.int (2 : Int32))]))
  refine go (fun _ => XS.ifYes X72.here hx rfl (pc0 := 4) (pc' := 11) rfl (hb hby d13_4) rfl ((if0 _ _).trans (feq (by decide : ¬ ((2 : Int32) = (0 : Int32)))).2) (by decide) (by decide)) ?_
  show Go _ p e below s _ _ _ (T72.setTop (mkF m 11 #[.val (.ref a1)] []))
  refine go (fun _ => XS.iconst X72.here hx rfl (hb hby d13_11)) ?_
  show Go _ p e below s _ _ _ (T72.setTop (mkF m 12 #[.val (.ref a1)] [(.int (0 : Int32))]))
  refine goRet X72 hx Bd.notSynchronized Bd.returns rfl (Or.inl ⟨rfl, Or.inr (Or.inl rfl), _, rfl⟩) (hb hby d13_12) (by decide) (by decide) (by rw [e72]; refine ⟨rfl, N0, rfl⟩)
theorem d15_0 : decode jdk_38_method_8_code 0 = .ok (.aload_n 0, 1) := by decide +kernel
theorem d15_1 : decode jdk_38_method_8_code 1 = .ok (.getfield 48, 3) := by decide +kernel
theorem d15_4 : decode jdk_38_method_8_code 4 = .ok (.ireturn, 1) := by decide +kernel
theorem pn_15 : plainName "java/util/ArrayList" = true := by first | (simp [plainName, overriddenIn]; done) | decide +kernel
theorem ef_15 (m : MethodId) (a1 : Addr) : entryFrame m #[(.ref a1)] 1 = mkF m 0 #[.val (.ref a1)] [] := by first | (simp [entryFrame, mkF, argsToLocals, Value.category]; done) | rfl
def Q15 (Z : State) (a1 : Addr) (w1 : Int32) (h0 : Heap) (n0 : Nat) (v : Option Value) (h : Heap) (L : List Loc) : Prop := v = some (.int w1) ∧ Fr n0 L ∧ (h = h0)
set_option maxRecDepth 65536 in
set_option maxHeartbeats 40000000 in
theorem rm15 (l : Launch) (Z : State) (a0 : Array Value) (hw : ∀ d ∈ tables_1, d.before a0 Z = true) (ws : List Jvm.Cond) (a1 : Addr) (w1 : Int32) (h0 : Heap) (n0 : Nat) (Z0 : n0 ≤ h0.size) (P0 : Fld Z h0 a1 "java/util/ArrayList" "size" "I" (.int w1)) :
    MetFree l (⟨"java/util/ArrayList", "size", "()I"⟩ : MethodName) (head1 (Jvm.Cond.code (⟨"java/util/ArrayList", "size", "()I"⟩ : MethodName) jdk_38_method_8_code 1 (some .int) :: ws) ({ frames := 0, cells := 0, slots := 0, locals := 0 } : Room)) (fun a U => a = #[(.ref a1)] ∧ Z.Warmed39 U.vm ∧ U.heap = h0) (fun _ _ _ _ _ => True) (fun _ U o U' => ∃ v L, o = .returned v ∧ Q15 Z a1 w1 h0 n0 v U'.heap L ∧ FrameEnd U o U' L ({ frames := 0, cells := 0, slots := 0, locals := 0 } : Room).cells ({ frames := 0, cells := 0, slots := 0, locals := 0 } : Room).slots) := by
  refine MetFree.of_bodySF (plainFor_of_name pn_15) hisR ?_
  intro p e s m args below meth c s₁ Bd hml0 hP hK
  obtain ⟨rfl, hZ, hh⟩ := hP
  have hx := Bd.exec
  have hby := Bd.bytes
  have hml : c.maxLocals = 1 := hml0
  have hown : s.vm.findClass "java/util/ArrayList" = some m.cls := findClass_of_methodNamed Bd.named
  have hnm := (name_of_methodNamed Bd.named Bd.method).1
  have X0 : Stand p l e ({ frames := 0, cells := 0, slots := 0, locals := 0 } : Room) s m #[(.ref a1)] below meth c s₁ [] 0 0 := Stand.of_body Bd
  have e0 : s₁.heap = h0 := by rw [← hh, Bd.state]; rfl
  have N0 := Fr.nil n0
  have hS0 : s.Since s.vm 0 := (State.WarmedH.refl s).since 0
  show Go FrameEnd p e below s ({ frames := 0, cells := 0, slots := 0, locals := 0 } : Room).cells ({ frames := 0, cells := 0, slots := 0, locals := 0 } : Room).slots (Q15 Z a1 w1 h0 n0) (s₁.setTop (entryFrame m #[(.ref a1)] 1))
  refine go (fun _ k => castTop (ef_15 m a1) k) ?_
  show Go _ p e below s _ _ _ (s₁.setTop (mkF m 0 #[.val (.ref a1)] []))
  refine go (fun _ => XS.aloadN X0.here hx rfl (hb hby d15_0) rfl rfl) ?_
  show Go _ p e below s _ _ _ (s₁.setTop (mkF m 1 #[.val (.ref a1)] [(.ref a1)]))
  obtain ⟨T74, X74, e74, st74⟩ := getF X0 hx hZ hown (host := "") (Or.inl (hw _ (List.mem_of_getElem? (i := 125) rfl))) Via.refl e0 P0 (g := (mkF m 1 #[.val (.ref a1)] [(.ref a1)])) rfl rfl (hb hby d15_1)
  refine go st74 ?_
  show Go _ p e below s _ _ _ (T74.setTop (mkF m 4 #[.val (.ref a1)] [(.int w1)]))
  refine goRet X74 hx Bd.notSynchronized Bd.returns rfl (Or.inl ⟨rfl, Or.inl rfl, _, rfl⟩) (hb hby d15_4) (by decide) (by decide) (by rw [e74]; refine ⟨rfl, N0, rfl⟩)
theorem d20_0 : decode jdk_29_method_65_code 0 = .ok (.iload_n 0, 1) := by decide +kernel
theorem d20_1 : decode jdk_29_method_65_code 1 = .ok (.iload_n 1, 1) := by decide +kernel
theorem d20_2 : decode jdk_29_method_65_code 2 = .ok (.if_icmp .lt 7, 3) := by decide +kernel
theorem d20_5 : decode jdk_29_method_65_code 5 = .ok (.iload_n 0, 1) := by decide +kernel
theorem d20_6 : decode jdk_29_method_65_code 6 = .ok (.goto 4, 3) := by decide +kernel
theorem d20_10 : decode jdk_29_method_65_code 10 = .ok (.ireturn, 1) := by decide +kernel
theorem ef_20 (m : MethodId)  : entryFrame m #[(.int (10 : Int32)), (.int (1 : Int32))] 2 = mkF m 0 #[.val (.int (10 : Int32)), .val (.int (1 : Int32))] [] := by first | (simp [entryFrame, mkF, argsToLocals, Value.category]; done) | rfl
def Q20 (Z : State)  (h0 : Heap) (n0 : Nat) (v : Option Value) (h : Heap) (L : List Loc) : Prop := v = some (.int (10 : Int32)) ∧ Fr n0 L ∧ (h = h0)
set_option maxRecDepth 65536 in
set_option maxHeartbeats 40000000 in
theorem rm20 (l : Launch) (Z : State) (a0 : Array Value) (hw : ∀ d ∈ tables_1, d.before a0 Z = true) (ws : List Jvm.Cond)  (h0 : Heap) (n0 : Nat) (Z0 : n0 ≤ h0.size)  :
    MetFree l (⟨"java/lang/Math", "max", "(II)I"⟩ : MethodName) (head1 (Jvm.Cond.code (⟨"java/lang/Math", "max", "(II)I"⟩ : MethodName) jdk_29_method_65_code 2 (some .int) :: ws) ({ frames := 0, cells := 0, slots := 0, locals := 0 } : Room)) (fun a U => a = #[(.int (10 : Int32)), (.int (1 : Int32))] ∧ Z.Warmed39 U.vm ∧ U.heap = h0) (fun _ _ _ _ _ => True) (fun _ U o U' => ∃ v L, o = .returned v ∧ Q20 Z  h0 n0 v U'.heap L ∧ FrameEnd U o U' L ({ frames := 0, cells := 0, slots := 0, locals := 0 } : Room).cells ({ frames := 0, cells := 0, slots := 0, locals := 0 } : Room).slots) := by
  refine MetFree.of_bodySF (Jvm.Free.JP.mathPlain rfl (by decide +kernel)) hisR ?_
  intro p e s m args below meth c s₁ Bd hml0 hP hK
  obtain ⟨rfl, hZ, hh⟩ := hP
  have hx := Bd.exec
  have hby := Bd.bytes
  have hml : c.maxLocals = 2 := hml0
  have hown : s.vm.findClass "java/lang/Math" = some m.cls := findClass_of_methodNamed Bd.named
  have hnm := (name_of_methodNamed Bd.named Bd.method).1
  have X0 : Stand p l e ({ frames := 0, cells := 0, slots := 0, locals := 0 } : Room) s m #[(.int (10 : Int32)), (.int (1 : Int32))] below meth c s₁ [] 0 0 := Stand.of_body Bd
  have e0 : s₁.heap = h0 := by rw [← hh, Bd.state]; rfl
  have N0 := Fr.nil n0
  have hS0 : s.Since s.vm 0 := (State.WarmedH.refl s).since 0
  show Go FrameEnd p e below s ({ frames := 0, cells := 0, slots := 0, locals := 0 } : Room).cells ({ frames := 0, cells := 0, slots := 0, locals := 0 } : Room).slots (Q20 Z  h0 n0) (s₁.setTop (entryFrame m #[(.int (10 : Int32)), (.int (1 : Int32))] 2))
  refine go (fun _ k => castTop (ef_20 m ) k) ?_
  show Go _ p e below s _ _ _ (s₁.setTop (mkF m 0 #[.val (.int (10 : Int32)), .val (.int (1 : Int32))] []))
  refine go (fun _ => XS.iloadN X0.here hx rfl (hb hby d20_0) rfl) ?_
  show Go _ p e below s _ _ _ (s₁.setTop (mkF m 1 #[.val (.int (10 : Int32)), .val (.int (1 : Int32))] [(.int (10 : Int32))]))
  refine go (fun _ => XS.iloadN X0.here hx rfl (hb hby d20_1) rfl) ?_
  show Go _ p e below s _ _ _ (s₁.setTop (mkF m 2 #[.val (.int (10 : Int32)), .val (.int (1 : Int32))] [(.int (1 : Int32)), (.int (10 : Int32))]))
  refine go (fun _ => XS.icmpNo X0.here hx rfl (hb hby d20_2) rfl (flt (by decide : ¬ ((10 : Int32) < (1 : Int32)))).1) ?_
  show Go _ p e below s _ _ _ (s₁.setTop (mkF m 5 #[.val (.int (10 : Int32)), .val (.int (1 : Int32))] []))
  refine go (fun _ => XS.iloadN X0.here hx rfl (hb hby d20_5) rfl) ?_
  show Go _ p e below s _ _ _ (s₁.setTop (mkF m 6 #[.val (.int (10 : Int32)), .val (.int (1 : Int32))] [(.int (10 : Int32))]))
  refine go (fun _ => XS.goto X0.here hx rfl (pc0 := 6) (pc' := 10) rfl (hb hby d20_6) (by decide) (by decide)) ?_
  show Go _ p e below s _ _ _ (s₁.setTop (mkF m 10 #[.val (.int (10 : Int32)), .val (.int (1 : Int32))] [(.int (10 : Int32))]))
  refine goRet X0 hx Bd.notSynchronized Bd.returns rfl (Or.inl ⟨rfl, Or.inl rfl, _, rfl⟩) (hb hby d20_10) (by decide) (by decide) (by rw [e0]; refine ⟨rfl, N0, rfl⟩)
theorem d19_0 : decode jdk_38_method_6_code 0 = .ok (.aload_n 0, 1) := by decide +kernel
theorem d19_1 : decode jdk_38_method_6_code 1 = .ok (.getfield 9, 3) := by decide +kernel
theorem d19_4 : decode jdk_38_method_6_code 4 = .ok (.arraylength, 1) := by decide +kernel
theorem d19_5 : decode jdk_38_method_6_code 5 = .ok (.istore_n 2, 1) := by decide +kernel
theorem d19_6 : decode jdk_38_method_6_code 6 = .ok (.iload_n 2, 1) := by decide +kernel
theorem d19_7 : decode jdk_38_method_6_code 7 = .ok (.ifCond .gt 13, 3) := by decide +kernel
theorem d19_10 : decode jdk_38_method_6_code 10 = .ok (.aload_n 0, 1) := by decide +kernel
theorem d19_11 : decode jdk_38_method_6_code 11 = .ok (.getfield 9, 3) := by decide +kernel
theorem d19_14 : decode jdk_38_method_6_code 14 = .ok (.getstatic 39, 3) := by decide +kernel
theorem d19_17 : decode jdk_38_method_6_code 17 = .ok (.if_acmp .eq 28, 3) := by decide +kernel
theorem d19_45 : decode jdk_38_method_6_code 45 = .ok (.aload_n 0, 1) := by decide +kernel
theorem d19_46 : decode jdk_38_method_6_code 46 = .ok (.bipush 10, 2) := by decide +kernel
theorem d19_48 : decode jdk_38_method_6_code 48 = .ok (.iload_n 1, 1) := by decide +kernel
theorem d19_49 : decode jdk_38_method_6_code 49 = .ok (.invokestatic 79, 3) := by decide +kernel
theorem d19_52 : decode jdk_38_method_6_code 52 = .ok (.anewarray 7, 3) := by decide +kernel
theorem d19_55 : decode jdk_38_method_6_code 55 = .ok (.dup_x1, 1) := by decide +kernel
theorem d19_56 : decode jdk_38_method_6_code 56 = .ok (.putfield 9, 3) := by decide +kernel
theorem d19_59 : decode jdk_38_method_6_code 59 = .ok (.areturn, 1) := by decide +kernel
theorem pn_19 : plainName "java/util/ArrayList" = true := by first | (simp [plainName, overriddenIn]; done) | decide +kernel
theorem pd_19_0 : parseMethodDescriptor "(II)I" = some ⟨[.int, .int], some .int⟩ := by decide +kernel
theorem ef_19 (m : MethodId) (a1 : Addr) : entryFrame m #[(.ref a1), (.int (1 : Int32))] 4 = mkF m 0 #[.val (.ref a1), .val (.int (1 : Int32)), .unset, .unset] [] := by first | (simp [entryFrame, mkF, argsToLocals, Value.category]; done) | rfl
def Q19 (Z : State) (a1 : Addr) (d0 : Addr) (kd : ClassId) (h0 : Heap) (n0 : Nat) (v : Option Value) (h : Heap) (L : List Loc) : Prop := ∃ (b : Addr), ∃ (k : ClassId), v = some (.ref b) ∧ Fr n0 L ∧ (h0.size ≤ b) ∧ (n0 ≤ b) ∧ (Keep h0 h [a1]) ∧ (Fld Z h a1 "java/util/AbstractList" "modCount" "I" (.int (1 : Int32))) ∧ (Fld Z h a1 "java/util/ArrayList" "size" "I" (.int (0 : Int32))) ∧ (Fld Z h a1 "java/util/ArrayList" "elementData" "[Ljava/lang/Object;" (.ref b)) ∧ (Exa Z h b "[Ljava/lang/Object;") ∧ (Arv Z h b k (.object "java/lang/Object") (10 : Int32) [.null, .null, .null, .null, .null, .null, .null, .null, .null, .null] .null) ∧ (Ovr Z k "java/lang/Object")
set_option maxRecDepth 65536 in
set_option maxHeartbeats 40000000 in
theorem rm19 (l : Launch) (Z : State) (a0 : Array Value) (hw : ∀ d ∈ tables_1, d.before a0 Z = true) (ws : List Jvm.Cond) (a1 : Addr) (d0 : Addr) (kd : ClassId) (h0 : Heap) (n0 : Nat) (Z0 : n0 ≤ h0.size) (P0 : Sta Z Z.heap "java/util/ArrayList" "DEFAULTCAPACITY_EMPTY_ELEMENTDATA" "[Ljava/lang/Object;" (.ref d0)) (P1 : Old Z n0 h0) (P2 : Arv Z Z.heap d0 kd (.object "java/lang/Object") (0 : Int32) [] .null) (P3 : Exa Z h0 a1 "java/util/ArrayList") (P4 : n0 ≤ a1) (P5 : Fld Z h0 a1 "java/util/AbstractList" "modCount" "I" (.int (1 : Int32))) (P6 : Fld Z h0 a1 "java/util/ArrayList" "size" "I" (.int (0 : Int32))) (P7 : Fld Z h0 a1 "java/util/ArrayList" "elementData" "[Ljava/lang/Object;" (.ref d0)) :
    MetFree l (⟨"java/util/ArrayList", "grow", "(I)[Ljava/lang/Object;"⟩ : MethodName) (head1 (Jvm.Cond.code (⟨"java/util/ArrayList", "grow", "(I)[Ljava/lang/Object;"⟩ : MethodName) jdk_38_method_6_code 4 (some (.array (.object "java/lang/Object"))) :: ws) ({ frames := 1, cells := 1, slots := 10, locals := 14 } : Room)) (fun a U => a = #[(.ref a1), (.int (1 : Int32))] ∧ Z.Warmed39 U.vm ∧ U.heap = h0) (fun _ _ _ _ _ => True) (fun _ U o U' => ∃ v L, o = .returned v ∧ Q19 Z a1 d0 kd h0 n0 v U'.heap L ∧ FrameEnd U o U' L ({ frames := 1, cells := 1, slots := 10, locals := 14 } : Room).cells ({ frames := 1, cells := 1, slots := 10, locals := 14 } : Room).slots) := by
  refine MetFree.of_bodySF (plainFor_of_name pn_19) hisR ?_
  intro p e s m args below meth c s₁ Bd hml0 hP hK
  obtain ⟨rfl, hZ, hh⟩ := hP
  have hx := Bd.exec
  have hby := Bd.bytes
  have hml : c.maxLocals = 4 := hml0
  have hown : s.vm.findClass "java/util/ArrayList" = some m.cls := findClass_of_methodNamed Bd.named
  have hnm := (name_of_methodNamed Bd.named Bd.method).1
  have X0 : Stand p l e ({ frames := 1, cells := 1, slots := 10, locals := 14 } : Room) s m #[(.ref a1), (.int (1 : Int32))] below meth c s₁ [] 0 0 := Stand.of_body Bd
  have e0 : s₁.heap = h0 := by rw [← hh, Bd.state]; rfl
  have N0 := Fr.nil n0
  have hS0 : s.Since s.vm 0 := (State.WarmedH.refl s).since 0
  show Go FrameEnd p e below s ({ frames := 1, cells := 1, slots := 10, locals := 14 } : Room).cells ({ frames := 1, cells := 1, slots := 10, locals := 14 } : Room).slots (Q19 Z a1 d0 kd h0 n0) (s₁.setTop (entryFrame m #[(.ref a1), (.int (1 : Int32))] 4))
  refine go (fun _ k => castTop (ef_19 m a1) k) ?_
  show Go _ p e below s _ _ _ (s₁.setTop (mkF m 0 #[.val (.ref a1), .val (.int (1 : Int32)), .unset, .unset] []))
  refine go (fun _ => XS.aloadN X0.here hx rfl (hb hby d19_0) rfl rfl) ?_
  show Go _ p e below s _ _ _ (s₁.setTop (mkF m 1 #[.val (.ref a1), .val (.int (1 : Int32)), .unset, .unset] [(.ref a1)]))
  obtain ⟨T82, X82, e82, st82⟩ := getF X0 hx hZ hown (host := "") (Or.inl (hw _ (List.mem_of_getElem? (i := 99) rfl))) Via.refl e0 P7 (g := (mkF m 1 #[.val (.ref a1), .val (.int (1 : Int32)), .unset, .unset] [(.ref a1)])) rfl rfl (hb hby d19_1)
  refine go st82 ?_
  show Go _ p e below s _ _ _ (T82.setTop (mkF m 4 #[.val (.ref a1), .val (.int (1 : Int32)), .unset, .unset] [(.ref d0)]))
  obtain ⟨cl83, Ar83, -, Sz83, Nz83, -, -⟩ := id (P2.ext P1.2)
  refine go (X82.arraylength hx (by rw [e82]; exact Ar83.1) (State.isArrayOf_alike hZ.alike Ar83.2.1) (g := (mkF m 4 #[.val (.ref a1), .val (.int (1 : Int32)), .unset, .unset] [(.ref d0)])) rfl rfl (hb hby d19_4)) ?_
  rw [len_of Sz83 Nz83]
  show Go _ p e below s _ _ _ (T82.setTop (mkF m 5 #[.val (.ref a1), .val (.int (1 : Int32)), .unset, .unset] [(.int (0 : Int32))]))
  refine go (fun _ => XS.istoreN X82.here hx rfl (hb hby d19_5) rfl (l' := #[.val (.ref a1), .val (.int (1 : Int32)), .val (.int (0 : Int32)), .unset]) rfl) ?_
  show Go _ p e below s _ _ _ (T82.setTop (mkF m 6 #[.val (.ref a1), .val (.int (1 : Int32)), .val (.int (0 : Int32)), .unset] []))
  refine go (fun _ => XS.iloadN X82.here hx rfl (hb hby d19_6) rfl) ?_
  show Go _ p e below s _ _ _ (T82.setTop (mkF m 7 #[.val (.ref a1), .val (.int (1 : Int32)), .val (.int (0 : Int32)), .unset] [(.int (0 : Int32))]))
  refine go (fun _ => XS.ifNo X82.here hx rfl (hb hby d19_7) rfl ((if0 _ _).trans (flt (by decide : ¬ ((0 : Int32) < (0 : Int32)))).2.2.1)) ?_
  show Go _ p e below s _ _ _ (T82.setTop (mkF m 10 #[.val (.ref a1), .val (.int (1 : Int32)), .val (.int (0 : Int32)), .unset] []))
  refine go (fun _ => XS.aloadN X82.here hx rfl (hb hby d19_10) rfl rfl) ?_
  show Go _ p e below s _ _ _ (T82.setTop (mkF m 11 #[.val (.ref a1), .val (.int (1 : Int32)), .val (.int (0 : Int32)), .unset] [(.ref a1)]))
  obtain ⟨T84, X84, e84, st84⟩ := getF X82 hx hZ hown (host := "") (Or.inl (hw _ (List.mem_of_getElem? (i := 99) rfl))) Via.refl e82 P7 (g := (mkF m 11 #[.val (.ref a1), .val (.int (1 : Int32)), .val (.int (0 : Int32)), .unset] [(.ref a1)])) rfl rfl (hb hby d19_11)
  refine go st84 ?_
  show Go _ p e below s _ _ _ (T84.setTop (mkF m 14 #[.val (.ref a1), .val (.int (1 : Int32)), .val (.int (0 : Int32)), .unset] [(.ref d0)]))
  obtain ⟨T85, X85, e85, st85⟩ := getS2 X84 hx hZ hown (host := "") (Or.inl (hw _ (List.mem_of_getElem? (i := 98) rfl))) Via.refl e84 (P0.ext P1.2) (g := (mkF m 14 #[.val (.ref a1), .val (.int (1 : Int32)), .val (.int (0 : Int32)), .unset] [(.ref d0)])) rfl (hb hby d19_14)
  refine go st85 ?_
  show Go _ p e below s _ _ _ (T85.setTop (mkF m 17 #[.val (.ref a1), .val (.int (1 : Int32)), .val (.int (0 : Int32)), .unset] [(.ref d0), (.ref d0)]))
  refine go (fun _ => Jvm.RoadKit.acmp (g := (mkF m 17 #[.val (.ref a1), .val (.int (1 : Int32)), .val (.int (0 : Int32)), .unset] [(.ref d0), (.ref d0)])) X85 hx rfl rfl rfl (pc0 := 17) (pc' := 45) (same := true) rfl (hb hby d19_17) rfl (decide_eq_true rfl) (by decide) (by decide)) ?_
  show Go _ p e below s _ _ _ (T85.setTop (mkF m 45 #[.val (.ref a1), .val (.int (1 : Int32)), .val (.int (0 : Int32)), .unset] []))
  refine go (fun _ => XS.aloadN X85.here hx rfl (hb hby d19_45) rfl rfl) ?_
  show Go _ p e below s _ _ _ (T85.setTop (mkF m 46 #[.val (.ref a1), .val (.int (1 : Int32)), .val (.int (0 : Int32)), .unset] [(.ref a1)]))
  refine go (fun _ => XS.bipush X85.here hx rfl (hb hby d19_46)) ?_
  show Go _ p e below s _ _ _ (T85.setTop (mkF m 48 #[.val (.ref a1), .val (.int (1 : Int32)), .val (.int (0 : Int32)), .unset] [(.int (10 : Int32)), (.ref a1)]))
  refine go (fun _ => XS.iloadN X85.here hx rfl (hb hby d19_48) rfl) ?_
  show Go _ p e below s _ _ _ (T85.setTop (mkF m 49 #[.val (.ref a1), .val (.int (1 : Int32)), .val (.int (0 : Int32)), .unset] [(.int (1 : Int32)), (.int (10 : Int32)), (.ref a1)]))
  obtain ⟨_, _, ⟨T86, L86, k86, n86⟩, -, X86, ⟨Lc86, hQ86, l86, y86, z86⟩, st86⟩ := Jvm.LawKit.callS X85 hx (y := (⟨"java/lang/Math", "max", "(II)I"⟩ : MethodName)) hown (mvT hZ (hw _ (List.mem_of_getElem? (i := 154) rfl))) (mvT hZ (hw _ (List.mem_of_getElem? (i := 155) rfl))) (mvT hZ (hw _ (List.mem_of_getElem? (i := 156) rfl))) (mvT hZ (hw _ (List.mem_of_getElem? (i := 157) rfl))) (by decide) (backOf (W := 1) (rm20 l Z a0 hw []  h0 n0 Z0 ) hZ (hw _ (List.mem_of_getElem? (i := 157) rfl)) (hw _ (List.mem_of_getElem? (i := 156) rfl)) (by decide) (by decide)) (g := (mkF m 49 #[.val (.ref a1), .val (.int (1 : Int32)), .val (.int (0 : Int32)), .unset] [(.int (1 : Int32)), (.int (10 : Int32)), (.ref a1)])) rfl (by rw [hml]; rfl) (argsL := [(.int (10 : Int32)), (.int (1 : Int32))]) (rest := [(.ref a1)]) (lenOf pd_19_0 rfl) rfl (by show 2 * 0 + _ ≤ _; exact Nat.le_of_eq rfl) (hb hby d19_49) (fun _ _ => ⟨rfl, e85, (by decide : 0 + 0 ≤ _), (by decide : 0 + 0 ≤ _)⟩)
  dsimp only [Pt.U, Pt.locs, Pt.cells, Pt.slots] at X86 l86 y86 z86 st86 hQ86
  subst l86 y86 z86
  obtain ⟨rfl, N86q, e86⟩ := hQ86
  have N86 := Fr.app N0 N86q
  refine go st86 ?_
  show Go _ p e below s _ _ _ (T86.setTop (mkF m 52 #[.val (.ref a1), .val (.int (1 : Int32)), .val (.int (0 : Int32)), .unset] [(.int (10 : Int32)), (.ref a1)]))
  obtain ⟨T87, h87, k87, X87, e87, E87, A87, AE87, O87, st87⟩ := newRE X86 hx hZ hown (hw _ (List.mem_of_getElem? (i := 158) rfl)) (hw _ (List.mem_of_getElem? (i := 159) rfl)) e86 (g := (mkF m 52 #[.val (.ref a1), .val (.int (1 : Int32)), .val (.int (0 : Int32)), .unset] [(.int (10 : Int32)), (.ref a1)])) rfl (hb hby d19_52) rfl (by decide) (cap := 10) (by decide) (by decide) (by decide) (by decide) (ad := "[Ljava/lang/Object;") (by first | rfl | decide)
  obtain ⟨b87, g87⟩ : ∃ z, z = h0.size := ⟨_, rfl⟩
  rw [← g87] at A87 AE87 st87
  have lt87_a1_b87 : a1 < b87 := Nat.lt_of_lt_of_le P3.lt (Nat.le_of_eq g87.symm)
  have G_b87 : n0 ≤ b87 := Nat.le_trans Z0 (Nat.le_of_eq g87.symm)
  have SZ_b87 : h0.size ≤ b87 := Nat.le_trans (Keep.refl h0 [a1]).1 (Nat.le_of_eq g87.symm)
  have c87_2 := P3.ext E87
  have c87_3 := P5.ext E87
  have c87_4 := P6.ext E87
  have c87_5 := P7.ext E87
  have KK87 : Keep h0 h87 [a1] := (Keep.refl h0 [a1]).ext E87
  have ZN87 : n0 ≤ h87.size := Nat.le_trans Z0 E87.1
  have OL87 := P1.ext E87
  have V87 : Arv Z h87 b87 k87 (.object "java/lang/Object") (10 : Int32) [.null, .null, .null, .null, .null, .null, .null, .null, .null, .null] .null := (Arv.new A87 (by decide)).pad (pad_rep [] .null 10)
  refine go st87 ?_
  show Go _ p e below s _ _ _ (T87.setTop (mkF m 55 #[.val (.ref a1), .val (.int (1 : Int32)), .val (.int (0 : Int32)), .unset] [(.ref b87), (.ref a1)]))
  refine go (fun _ => XS.dupX1 X87.here hx rfl (hb hby d19_55) rfl rfl rfl) ?_
  show Go _ p e below s _ _ _ (T87.setTop (mkF m 56 #[.val (.ref a1), .val (.int (1 : Int32)), .val (.int (0 : Int32)), .unset] [(.ref b87), (.ref a1), (.ref b87)]))
  obtain ⟨T88, h88, X88, e88, W88, st88⟩ := putF X87 hx hZ hown (host := "") (Or.inl (hw _ (List.mem_of_getElem? (i := 99) rfl))) Via.refl e87 c87_5 c87_2 (Or.inl (hw _ (List.mem_of_getElem? (i := 100) rfl))) (hw _ (List.mem_of_getElem? (i := 78) rfl)) (ty := (.array (.object "java/lang/Object"))) (by decide) rfl rfl (g := (mkF m 56 #[.val (.ref a1), .val (.int (1 : Int32)), .val (.int (0 : Int32)), .unset] [(.ref b87), (.ref a1), (.ref b87)])) rfl rfl (hb hby d19_56)
  have Fw88 := c87_5.same W88
  have c88_2 := c87_2.wr W88
  have c88_3 := c87_3.other W88 (Or.inr (slot_ne (Or.inl (hw _ (List.mem_of_getElem? (i := 97) rfl))) (Or.inl (hw _ (List.mem_of_getElem? (i := 100) rfl))) (by decide) (t := .int) (t' := (.array (.object "java/lang/Object"))) (by decide) (by decide)))
  have c88_4 := c87_4.other W88 (Or.inr (slot_ne (Or.inl (hw _ (List.mem_of_getElem? (i := 126) rfl))) (Or.inl (hw _ (List.mem_of_getElem? (i := 100) rfl))) (by decide) (t := .int) (t' := (.array (.object "java/lang/Object"))) (by decide) (by decide)))
  have c88_6 := AE87.wr W88
  have c88_7 := V87.other W88 (Ne.symm (Nat.ne_of_lt lt87_a1_b87))
  have KK88 : Keep h0 h88 [a1] := KK87.wr W88 (Or.inl (List.mem_of_getElem? (i := 0) rfl))
  have ZN88 : n0 ≤ h88.size := Nat.le_trans ZN87 (Keep.of_wr W88).1
  have NN88 := Fr.snoc X88 N86 P4
  have OL88 := OL87.wr W88 P4
  refine go st88 ?_
  show Go _ p e below s _ _ _ (T88.setTop (mkF m 59 #[.val (.ref a1), .val (.int (1 : Int32)), .val (.int (0 : Int32)), .unset] [(.ref b87)]))
  refine goRet X88 hx Bd.notSynchronized Bd.returns rfl (Or.inr (Or.inr (Or.inr (Or.inr ⟨rfl, rfl, rfl⟩)))) (hb hby d19_59) (by decide) (by decide) (by rw [e88]; refine ⟨b87, k87, rfl, NN88, SZ_b87, G_b87, KK88, c88_3, c88_4, Fw88, c88_6, c88_7, O87⟩)
theorem d18_0 : decode jdk_38_method_7_code 0 = .ok (.aload_n 0, 1) := by decide +kernel
theorem d18_1 : decode jdk_38_method_7_code 1 = .ok (.aload_n 0, 1) := by decide +kernel
theorem d18_2 : decode jdk_38_method_7_code 2 = .ok (.getfield 48, 3) := by decide +kernel
theorem d18_5 : decode jdk_38_method_7_code 5 = .ok (.iconst 1, 1) := by decide +kernel
theorem d18_6 : decode jdk_38_method_7_code 6 = .ok (.iadd, 1) := by decide +kernel
theorem d18_7 : decode jdk_38_method_7_code 7 = .ok (.invokevirtual 69, 3) := by decide +kernel
theorem d18_10 : decode jdk_38_method_7_code 10 = .ok (.areturn, 1) := by decide +kernel
theorem pn_18 : plainName "java/util/ArrayList" = true := by first | (simp [plainName, overriddenIn]; done) | decide +kernel
theorem pd_18_0 : parseMethodDescriptor "(I)[Ljava/lang/Object;" = some ⟨[.int], some (.array (.object "java/lang/Object"))⟩ := by decide +kernel
theorem ef_18 (m : MethodId) (a1 : Addr) : entryFrame m #[(.ref a1)] 1 = mkF m 0 #[.val (.ref a1)] [] := by first | (simp [entryFrame, mkF, argsToLocals, Value.category]; done) | rfl
def Q18 (Z : State) (a1 : Addr) (d0 : Addr) (kd : ClassId) (h0 : Heap) (n0 : Nat) (v : Option Value) (h : Heap) (L : List Loc) : Prop := ∃ (b : Addr), ∃ (k : ClassId), v = some (.ref b) ∧ Fr n0 L ∧ (h0.size ≤ b) ∧ (n0 ≤ b) ∧ (Keep h0 h [a1]) ∧ (Fld Z h a1 "java/util/AbstractList" "modCount" "I" (.int (1 : Int32))) ∧ (Fld Z h a1 "java/util/ArrayList" "size" "I" (.int (0 : Int32))) ∧ (Fld Z h a1 "java/util/ArrayList" "elementData" "[Ljava/lang/Object;" (.ref b)) ∧ (Exa Z h b "[Ljava/lang/Object;") ∧ (Arv Z h b k (.object "java/lang/Object") (10 : Int32) [.null, .null, .null, .null, .null, .null, .null, .null, .null, .null] .null) ∧ (Ovr Z k "java/lang/Object")
set_option maxRecDepth 65536 in
set_option maxHeartbeats 40000000 in
theorem rm18 (l : Launch) (Z : State) (a0 : Array Value) (hw : ∀ d ∈ tables_1, d.before a0 Z = true) (ws : List Jvm.Cond) (a1 : Addr) (d0 : Addr) (kd : ClassId) (h0 : Heap) (n0 : Nat) (Z0 : n0 ≤ h0.size) (P0 : Sta Z Z.heap "java/util/ArrayList" "DEFAULTCAPACITY_EMPTY_ELEMENTDATA" "[Ljava/lang/Object;" (.ref d0)) (P1 : Old Z n0 h0) (P2 : Arv Z Z.heap d0 kd (.object "java/lang/Object") (0 : Int32) [] .null) (P3 : Exa Z h0 a1 "java/util/ArrayList") (P4 : n0 ≤ a1) (P5 : Fld Z h0 a1 "java/util/AbstractList" "modCount" "I" (.int (1 : Int32))) (P6 : Fld Z h0 a1 "java/util/ArrayList" "size" "I" (.int (0 : Int32))) (P7 : Fld Z h0 a1 "java/util/ArrayList" "elementData" "[Ljava/lang/Object;" (.ref d0)) :
    MetFree l (⟨"java/util/ArrayList", "grow", "()[Ljava/lang/Object;"⟩ : MethodName) (head1 (Jvm.Cond.code (⟨"java/util/ArrayList", "grow", "()[Ljava/lang/Object;"⟩ : MethodName) jdk_38_method_7_code 1 (some (.array (.object "java/lang/Object"))) :: ws) ({ frames := 2, cells := 1, slots := 10, locals := 29 } : Room)) (fun a U => a = #[(.ref a1)] ∧ Z.Warmed39 U.vm ∧ U.heap = h0) (fun _ _ _ _ _ => True) (fun _ U o U' => ∃ v L, o = .returned v ∧ Q18 Z a1 d0 kd h0 n0 v U'.heap L ∧ FrameEnd U o U' L ({ frames := 2, cells := 1, slots := 10, locals := 29 } : Room).cells ({ frames := 2, cells := 1, slots := 10, locals := 29 } : Room).slots) := by
  refine MetFree.of_bodySF (plainFor_of_name pn_18) hisR ?_
  intro p e s m args below meth c s₁ Bd hml0 hP hK
  obtain ⟨rfl, hZ, hh⟩ := hP
  have hx := Bd.exec
  have hby := Bd.bytes
  have hml : c.maxLocals = 1 := hml0
  have hown : s.vm.findClass "java/util/ArrayList" = some m.cls := findClass_of_methodNamed Bd.named
  have hnm := (name_of_methodNamed Bd.named Bd.method).1
  have X0 : Stand p l e ({ frames := 2, cells := 1, slots := 10, locals := 29 } : Room) s m #[(.ref a1)] below meth c s₁ [] 0 0 := Stand.of_body Bd
  have e0 : s₁.heap = h0 := by rw [← hh, Bd.state]; rfl
  have N0 := Fr.nil n0
  have hS0 : s.Since s.vm 0 := (State.WarmedH.refl s).since 0
  show Go FrameEnd p e below s ({ frames := 2, cells := 1, slots := 10, locals := 29 } : Room).cells ({ frames := 2, cells := 1, slots := 10, locals := 29 } : Room).slots (Q18 Z a1 d0 kd h0 n0) (s₁.setTop (entryFrame m #[(.ref a1)] 1))
  refine go (fun _ k => castTop (ef_18 m a1) k) ?_
  show Go _ p e below s _ _ _ (s₁.setTop (mkF m 0 #[.val (.ref a1)] []))
  refine go (fun _ => XS.aloadN X0.here hx rfl (hb hby d18_0) rfl rfl) ?_
  show Go _ p e below s _ _ _ (s₁.setTop (mkF m 1 #[.val (.ref a1)] [(.ref a1)]))
  refine go (fun _ => XS.aloadN X0.here hx rfl (hb hby d18_1) rfl rfl) ?_
  show Go _ p e below s _ _ _ (s₁.setTop (mkF m 2 #[.val (.ref a1)] [(.ref a1), (.ref a1)]))
  obtain ⟨T91, X91, e91, st91⟩ := getF X0 hx hZ hown (host := "") (Or.inl (hw _ (List.mem_of_getElem? (i := 125) rfl))) Via.refl e0 P6 (g := (mkF m 2 #[.val (.ref a1)] [(.ref a1), (.ref a1)])) rfl rfl (hb hby d18_2)
  refine go st91 ?_
  show Go _ p e below s _ _ _ (T91.setTop (mkF m 5 #[.val (.ref a1)] [(.int (0 : Int32)), (.ref a1)]))
  refine go (fun _ => XS.iconst X91.here hx rfl (hb hby d18_5)) ?_
  show Go _ p e below s _ _ _ (T91.setTop (mkF m 6 #[.val (.ref a1)] [(.int (1 : Int32)), (.int (0 : Int32)), (.ref a1)]))
  refine go (fun _ => XS.iadd X91.here hx rfl (hb hby d18_6) rfl) ?_
  show Go _ p e below s _ _ _ (T91.setTop (mkF m 7 #[.val (.ref a1)] [(.int (1 : Int32)), (.ref a1)]))
  obtain ⟨cq92, q92, q92'⟩ := P3.cell
  obtain ⟨_, _, ⟨T92, L92, k92, n92⟩, -, X92, ⟨Lc92, hQ92, l92, y92, z92⟩, st92⟩ := X91.privateBack hx (y := (⟨"java/util/ArrayList", "grow", "(I)[Ljava/lang/Object;"⟩ : MethodName)) hown (mvT hZ (hw _ (List.mem_of_getElem? (i := 149) rfl))) (mvT hZ (hw _ (List.mem_of_getElem? (i := 150) rfl))) (mvT hZ (hw _ (List.mem_of_getElem? (i := 152) rfl))) (Cond.privateMethod_at (mvP hZ (hw _ (List.mem_of_getElem? (i := 151) rfl)) (args := #[]))) (mvT hZ (hw _ (List.mem_of_getElem? (i := 153) rfl))) (by decide) (backOf (W := 0) (rm19 l Z a0 hw [] a1 d0 kd h0 n0 Z0 P0 P1 P2 P3 P4 P5 P6 P7) hZ (hw _ (List.mem_of_getElem? (i := 153) rfl)) (hw _ (List.mem_of_getElem? (i := 79) rfl)) (by decide) (by decide)) (g := (mkF m 7 #[.val (.ref a1)] [(.int (1 : Int32)), (.ref a1)])) rfl (by rw [hml]; rfl) (Steps.refl _) (a := a1) (by rw [e91]; exact q92) q92' (argsL := [(.int (1 : Int32))]) (rest := []) (lenOf pd_18_0 rfl) rfl (by show 2 * 0 + _ ≤ _; exact Nat.le_of_eq rfl) (hb hby d18_7) (fun _ _ => ⟨rfl, e91, (by decide : 0 + 1 ≤ _), (by decide : 0 + 10 ≤ _)⟩)
  dsimp only [Pt.U, Pt.locs, Pt.cells, Pt.slots] at X92 l92 y92 z92 st92 hQ92
  subst l92 y92 z92
  obtain ⟨b92, k92, rfl, N92q, u92_0, u92_1, K92, u92_3, u92_4, u92_5, u92_6, u92_7, u92_8⟩ := hQ92
  have N92 := Fr.app N0 N92q
  have lt92_a1_b92 : a1 < b92 := Nat.lt_of_lt_of_le P3.lt u92_0
  have G_b92 : n0 ≤ b92 := Nat.le_trans Z0 u92_0
  have SZ_b92 : h0.size ≤ b92 := Nat.le_trans (Keep.refl h0 [a1]).1 u92_0
  have c92_2 := P3.keep K92
  have KK92 : Keep h0 T92.heap [a1] := (Keep.refl h0 [a1]).trans K92 (allS (P := fun x => x ∈ [a1] ∨ h0.size ≤ x) (Or.inl (List.mem_of_getElem? (i := 0) rfl)) all0)
  have ZN92 : n0 ≤ T92.heap.size := Nat.le_trans Z0 K92.1
  have OL92 := P1.keep K92 (allS P4 all0)
  refine goT st92 ?_
  show Go _ p e below s _ _ _ (T92.setTop (mkF m 10 #[.val (.ref a1)] [(.ref b92)]))
  refine goRet X92 hx Bd.notSynchronized Bd.returns rfl (Or.inr (Or.inr (Or.inr (Or.inr ⟨rfl, rfl, rfl⟩)))) (hb hby d18_10) (by decide) (by decide) (by refine ⟨b92, k92, rfl, N92, SZ_b92, u92_1, KK92, u92_3, u92_4, u92_5, u92_6, u92_7, u92_8⟩)
theorem d17_0 : decode jdk_38_method_24_code 0 = .ok (.iload_n 3, 1) := by decide +kernel
theorem d17_1 : decode jdk_38_method_24_code 1 = .ok (.aload_n 2, 1) := by decide +kernel
theorem d17_2 : decode jdk_38_method_24_code 2 = .ok (.arraylength, 1) := by decide +kernel
theorem d17_3 : decode jdk_38_method_24_code 3 = .ok (.if_icmp .ne 8, 3) := by decide +kernel
theorem d17_6 : decode jdk_38_method_24_code 6 = .ok (.aload_n 0, 1) := by decide +kernel
theorem d17_7 : decode jdk_38_method_24_code 7 = .ok (.invokevirtual 129, 3) := by decide +kernel
theorem d17_10 : decode jdk_38_method_24_code 10 = .ok (.astore_n 2, 1) := by decide +kernel
theorem d17_11 : decode jdk_38_method_24_code 11 = .ok (.aload_n 2, 1) := by decide +kernel
theorem d17_12 : decode jdk_38_method_24_code 12 = .ok (.iload_n 3, 1) := by decide +kernel
theorem d17_13 : decode jdk_38_method_24_code 13 = .ok (.aload_n 1, 1) := by decide +kernel
theorem d17_14 : decode jdk_38_method_24_code 14 = .ok (.aastore, 1) := by decide +kernel
theorem d17_15 : decode jdk_38_method_24_code 15 = .ok (.aload_n 0, 1) := by decide +kernel
theorem d17_16 : decode jdk_38_method_24_code 16 = .ok (.iload_n 3, 1) := by decide +kernel
theorem d17_17 : decode jdk_38_method_24_code 17 = .ok (.iconst 1, 1) := by decide +kernel
theorem d17_18 : decode jdk_38_method_24_code 18 = .ok (.iadd, 1) := by decide +kernel
theorem d17_19 : decode jdk_38_method_24_code 19 = .ok (.putfield 48, 3) := by decide +kernel
theorem d17_22 : decode jdk_38_method_24_code 22 = .ok (.return_, 1) := by decide +kernel
theorem pn_X3A : plainName "java/util/ArrayList" = true := by first | (simp [plainName, overriddenIn]; done) | decide +kernel
theorem pd_17_0 : parseMethodDescriptor "()[Ljava/lang/Object;" = some ⟨[], some (.array (.object "java/lang/Object"))⟩ := by decide +kernel
theorem ef_X3A (m : MethodId) (a1 : Addr) (a2 : Addr) (d0 : Addr) : entryFrame m #[(.ref a1), (.ref a2), (.ref d0), (.int (0 : Int32))] 4 = mkF m 0 #[.val (.ref a1), .val (.ref a2), .val (.ref d0), .val (.int (0 : Int32))] [] := by first | (simp [entryFrame, mkF, argsToLocals, Value.category]; done) | rfl
def QX3A (Z : State) (a1 : Addr) (a2 : Addr) (d0 : Addr) (kd : ClassId) (h0 : Heap) (n0 : Nat) (v : Option Value) (h : Heap) (L : List Loc) : Prop := ∃ (b : Addr), ∃ (k : ClassId), v = none ∧ Fr n0 L ∧ (h0.size ≤ b) ∧ (n0 ≤ b) ∧ (Keep h0 h [a1]) ∧ (Fld Z h a1 "java/util/AbstractList" "modCount" "I" (.int (1 : Int32))) ∧ (Fld Z h a1 "java/util/ArrayList" "size" "I" (.int (1 : Int32))) ∧ (Fld Z h a1 "java/util/ArrayList" "elementData" "[Ljava/lang/Object;" (.ref b)) ∧ (Exa Z h b "[Ljava/lang/Object;") ∧ (Arv Z h b k (.object "java/lang/Object") (10 : Int32) [(.ref a2), .null, .null, .null, .null, .null, .null, .null, .null, .null] .null) ∧ (Ovr Z k "java/lang/Object")
set_option maxRecDepth 65536 in
set_option maxHeartbeats 40000000 in
theorem rmX3A (l : Launch) (Z : State) (a0 : Array Value) (hw : ∀ d ∈ tables_1, d.before a0 Z = true) (ws : List Jvm.Cond) (a1 : Addr) (a2 : Addr) (d0 : Addr) (kd : ClassId) (h0 : Heap) (n0 : Nat) (Z0 : n0 ≤ h0.size) (P0 : Sta Z Z.heap "java/util/ArrayList" "DEFAULTCAPACITY_EMPTY_ELEMENTDATA" "[Ljava/lang/Object;" (.ref d0)) (P1 : Old Z n0 h0) (P2 : Arv Z Z.heap d0 kd (.object "java/lang/Object") (0 : Int32) [] .null) (P3 : Exa Z h0 a1 "java/util/ArrayList") (P4 : n0 ≤ a1) (P5 : Exa Z h0 a2 "com/example/reticule/reticule/engine/Activation") (P6 : Fld Z h0 a1 "java/util/AbstractList" "modCount" "I" (.int (1 : Int32))) (P7 : Fld Z h0 a1 "java/util/ArrayList" "size" "I" (.int (0 : Int32))) (P8 : Fld Z h0 a1 "java/util/ArrayList" "elementData" "[Ljava/lang/Object;" (.ref d0)) :
    MetFree l (⟨"java/util/ArrayList", "add", "(Ljava/lang/Object;[Ljava/lang/Object;I)V"⟩ : MethodName) (head1 (Jvm.Cond.code (⟨"java/util/ArrayList", "add", "(Ljava/lang/Object;[Ljava/lang/Object;I)V"⟩ : MethodName) jdk_38_method_24_code 4 none :: ws) ({ frames := 3, cells := 1, slots := 10, locals := 41 } : Room)) (fun a U => a = #[(.ref a1), (.ref a2), (.ref d0), (.int (0 : Int32))] ∧ Z.Warmed39 U.vm ∧ U.heap = h0) (fun _ _ _ _ _ => True) (fun _ U o U' => ∃ v L, o = .returned v ∧ QX3A Z a1 a2 d0 kd h0 n0 v U'.heap L ∧ FrameEnd U o U' L ({ frames := 3, cells := 1, slots := 10, locals := 41 } : Room).cells ({ frames := 3, cells := 1, slots := 10, locals := 41 } : Room).slots) := by
  refine MetFree.of_bodySF (plainFor_of_name pn_X3A) hisR ?_
  intro p e s m args below meth c s₁ Bd hml0 hP hK
  obtain ⟨rfl, hZ, hh⟩ := hP
  have hx := Bd.exec
  have hby := Bd.bytes
  have hml : c.maxLocals = 4 := hml0
  have hown : s.vm.findClass "java/util/ArrayList" = some m.cls := findClass_of_methodNamed Bd.named
  have hnm := (name_of_methodNamed Bd.named Bd.method).1
  have X0 : Stand p l e ({ frames := 3, cells := 1, slots := 10, locals := 41 } : Room) s m #[(.ref a1), (.ref a2), (.ref d0), (.int (0 : Int32))] below meth c s₁ [] 0 0 := Stand.of_body Bd
  have e0 : s₁.heap = h0 := by rw [← hh, Bd.state]; rfl
  have N0 := Fr.nil n0
  have hS0 : s.Since s.vm 0 := (State.WarmedH.refl s).since 0
  show Go FrameEnd p e below s ({ frames := 3, cells := 1, slots := 10, locals := 41 } : Room).cells ({ frames := 3, cells := 1, slots := 10, locals := 41 } : Room).slots (QX3A Z a1 a2 d0 kd h0 n0) (s₁.setTop (entryFrame m #[(.ref a1), (.ref a2), (.ref d0), (.int (0 : Int32))] 4))
  refine go (fun _ k => castTop (ef_X3A m a1 a2 d0) k) ?_
  show Go _ p e below s _ _ _ (s₁.setTop (mkF m 0 #[.val (.ref a1), .val (.ref a2), .val (.ref d0), .val (.int (0 : Int32))] []))
  refine go (fun _ => XS.iloadN X0.here hx rfl (hb hby d17_0) rfl) ?_
  show Go _ p e below s _ _ _ (s₁.setTop (mkF m 1 #[.val (.ref a1), .val (.ref a2), .val (.ref d0), .val (.int (0 : Int32))] [(.int (0 : Int32))]))
  refine go (fun _ => XS.aloadN X0.here hx rfl (hb hby d17_1) rfl rfl) ?_
  show Go _ p e below s _ _ _ (s₁.setTop (mkF m 2 #[.val (.ref a1), .val (.ref a2), .val (.ref d0), .val (.int (0 : Int32))] [(.ref d0), (.int (0 : Int32))]))
  obtain ⟨cl97, Ar97, -, Sz97, Nz97, -, -⟩ := id (P2.ext P1.2)
  refine go (X0.arraylength hx (by rw [e0]; exact Ar97.1) (State.isArrayOf_alike hZ.alike Ar97.2.1) (g := (mkF m 2 #[.val (.ref a1), .val (.ref a2), .val (.ref d0), .val (.int (0 : Int32))] [(.ref d0), (.int (0 : Int32))])) rfl rfl (hb hby d17_2)) ?_
  rw [len_of Sz97 Nz97]
  show Go _ p e below s _ _ _ (s₁.setTop (mkF m 3 #[.val (.ref a1), .val (.ref a2), .val (.ref d0), .val (.int (0 : Int32))] [(.int (0 : Int32)), (.int (0 : Int32))]))
  refine go (fun _ => XS.icmpNo X0.here hx rfl (hb hby d17_3) rfl (teq (rfl : (0 : Int32) = (0 : Int32))).2) ?_
  show Go _ p e below s _ _ _ (s₁.setTop (mkF m 6 #[.val (.ref a1), .val (.ref a2), .val (.ref d0), .val (.int (0 : Int32))] []))
  refine go (fun _ => XS.aloadN X0.here hx rfl (hb hby d17_6) rfl rfl) ?_
  show Go _ p e below s _ _ _ (s₁.setTop (mkF m 7 #[.val (.ref a1), .val (.ref a2), .val (.ref d0), .val (.int (0 : Int32))] [(.ref a1)]))
  obtain ⟨cq98, q98, q98'⟩ := P3.cell
  obtain ⟨_, _, ⟨T98, L98, k98, n98⟩, -, X98, ⟨Lc98, hQ98, l98, y98, z98⟩, st98⟩ := X0.privateBack hx (y := (⟨"java/util/ArrayList", "grow", "()[Ljava/lang/Object;"⟩ : MethodName)) hown (mvT hZ (hw _ (List.mem_of_getElem? (i := 144) rfl))) (mvT hZ (hw _ (List.mem_of_getElem? (i := 145) rfl))) (mvT hZ (hw _ (List.mem_of_getElem? (i := 147) rfl))) (Cond.privateMethod_at (mvP hZ (hw _ (List.mem_of_getElem? (i := 146) rfl)) (args := #[]))) (mvT hZ (hw _ (List.mem_of_getElem? (i := 148) rfl))) (by decide) (backOf (W := 0) (rm18 l Z a0 hw [] a1 d0 kd h0 n0 Z0 P0 P1 P2 P3 P4 P6 P7 P8) hZ (hw _ (List.mem_of_getElem? (i := 148) rfl)) (hw _ (List.mem_of_getElem? (i := 79) rfl)) (by decide) (by decide)) (g := (mkF m 7 #[.val (.ref a1), .val (.ref a2), .val (.ref d0), .val (.int (0 : Int32))] [(.ref a1)])) rfl (by rw [hml]; rfl) (Steps.refl _) (a := a1) (by rw [e0]; exact q98) q98' (argsL := []) (rest := []) (lenOf pd_17_0 rfl) rfl (by show 2 * 0 + _ ≤ _; exact Nat.le_of_eq rfl) (hb hby d17_7) (fun _ _ => ⟨rfl, e0, (by decide : 0 + 1 ≤ _), (by decide : 0 + 10 ≤ _)⟩)
  dsimp only [Pt.U, Pt.locs, Pt.cells, Pt.slots] at X98 l98 y98 z98 st98 hQ98
  subst l98 y98 z98
  obtain ⟨b98, k98, rfl, N98q, u98_0, u98_1, K98, u98_3, u98_4, u98_5, u98_6, u98_7, u98_8⟩ := hQ98
  have N98 := Fr.app N0 N98q
  have lt98_a1_b98 : a1 < b98 := Nat.lt_of_lt_of_le P3.lt u98_0
  have lt98_a2_b98 : a2 < b98 := Nat.lt_of_lt_of_le P5.lt u98_0
  have G_b98 : n0 ≤ b98 := Nat.le_trans Z0 u98_0
  have SZ_b98 : h0.size ≤ b98 := Nat.le_trans (Keep.refl h0 [a1]).1 u98_0
  have c98_2 := P3.keep K98
  have c98_3 := P5.keep K98
  have KK98 : Keep h0 T98.heap [a1] := (Keep.refl h0 [a1]).trans K98 (allS (P := fun x => x ∈ [a1] ∨ h0.size ≤ x) (Or.inl (List.mem_of_getElem? (i := 0) rfl)) all0)
  have ZN98 : n0 ≤ T98.heap.size := Nat.le_trans Z0 K98.1
  have OL98 := P1.keep K98 (allS P4 all0)
  refine goT st98 ?_
  show Go _ p e below s _ _ _ (T98.setTop (mkF m 10 #[.val (.ref a1), .val (.ref a2), .val (.ref d0), .val (.int (0 : Int32))] [(.ref b98)]))
  refine go (fun _ => XS.astoreN X98.here hx rfl (hb hby d17_10) rfl rfl (l' := #[.val (.ref a1), .val (.ref a2), .val (.ref b98), .val (.int (0 : Int32))]) rfl) ?_
  show Go _ p e below s _ _ _ (T98.setTop (mkF m 11 #[.val (.ref a1), .val (.ref a2), .val (.ref b98), .val (.int (0 : Int32))] []))
  refine go (fun _ => XS.aloadN X98.here hx rfl (hb hby d17_11) rfl rfl) ?_
  show Go _ p e below s _ _ _ (T98.setTop (mkF m 12 #[.val (.ref a1), .val (.ref a2), .val (.ref b98), .val (.int (0 : Int32))] [(.ref b98)]))
  refine go (fun _ => XS.iloadN X98.here hx rfl (hb hby d17_12) rfl) ?_
  show Go _ p e below s _ _ _ (T98.setTop (mkF m 13 #[.val (.ref a1), .val (.ref a2), .val (.ref b98), .val (.int (0 : Int32))] [(.int (0 : Int32)), (.ref b98)]))
  refine go (fun _ => XS.aloadN X98.here hx rfl (hb hby d17_13) rfl rfl) ?_
  show Go _ p e below s _ _ _ (T98.setTop (mkF m 14 #[.val (.ref a1), .val (.ref a2), .val (.ref b98), .val (.int (0 : Int32))] [(.ref a2), (.int (0 : Int32)), (.ref b98)]))
  obtain ⟨cl99, Ar99, q99, Sz99, Nz99, Hs99, Gs99⟩ := id u98_7
  have hin99 : ¬ ((0 : Int32) < 0 ∨ cl99.slots.size ≤ ((0 : Int32)).toNatClampNeg) := inb_of Sz99 ⟨by decide, by decide⟩
  obtain ⟨T99, h99, X99, e99, W99, st99⟩ := stR X98 hx hZ rfl Ar99 (j := (0 : Int32)) hin99 rfl (Sto.ofV Ar99 q99 u98_8 (Ins.of_exa c98_3 (hw _ (List.mem_of_getElem? (i := 160) rfl)))) (g := (mkF m 14 #[.val (.ref a1), .val (.ref a2), .val (.ref b98), .val (.int (0 : Int32))] [(.ref a2), (.int (0 : Int32)), (.ref b98)])) rfl rfl (hb hby d17_14)
  have V99 := Arv.set Ar99 q99 Sz99 Nz99 Hs99 Gs99 rfl W99 0 rfl (Nat.le_of_ble_eq_true rfl)
  have VV99 : Arv Z h99 b98 k98 (.object "java/lang/Object") (10 : Int32) [(.ref a2), .null, .null, .null, .null, .null, .null, .null, .null, .null] .null := V99
  have c99_2 := c98_2.wr W99
  have c99_3 := c98_3.wr W99
  have c99_4 := u98_3.other W99 (Or.inl (Nat.ne_of_lt lt98_a1_b98))
  have c99_5 := u98_4.other W99 (Or.inl (Nat.ne_of_lt lt98_a1_b98))
  have c99_6 := u98_5.other W99 (Or.inl (Nat.ne_of_lt lt98_a1_b98))
  have c99_7 := u98_6.wr W99
  have KK99 : Keep h0 h99 [a1] := KK98.wr W99 (Or.inr SZ_b98)
  have ZN99 : n0 ≤ h99.size := Nat.le_trans ZN98 (Keep.of_wr W99).1
  have NN99 := Fr.snoc X99 N98 u98_1
  have OL99 := OL98.wr W99 u98_1
  refine go st99 ?_
  show Go _ p e below s _ _ _ (T99.setTop (mkF m 15 #[.val (.ref a1), .val (.ref a2), .val (.ref b98), .val (.int (0 : Int32))] []))
  refine go (fun _ => XS.aloadN X99.here hx rfl (hb hby d17_15) rfl rfl) ?_
  show Go _ p e below s _ _ _ (T99.setTop (mkF m 16 #[.val (.ref a1), .val (.ref a2), .val (.ref b98), .val (.int (0 : Int32))] [(.ref a1)]))
  refine go (fun _ => XS.iloadN X99.here hx rfl (hb hby d17_16) rfl) ?_
  show Go _ p e below s _ _ _ (T99.setTop (mkF m 17 #[.val (.ref a1), .val (.ref a2), .val (.ref b98), .val (.int (0 : Int32))] [(.int (0 : Int32)), (.ref a1)]))
  refine go (fun _ => XS.iconst X99.here hx rfl (hb hby d17_17)) ?_
  show Go _ p e below s _ _ _ (T99.setTop (mkF m 18 #[.val (.ref a1), .val (.ref a2), .val (.ref b98), .val (.int (0 : Int32))] [(.int (1 : Int32)), (.int (0 : Int32)), (.ref a1)]))
  refine go (fun _ => XS.iadd X99.here hx rfl (hb hby d17_18) rfl) ?_
  show Go _ p e below s _ _ _ (T99.setTop (mkF m 19 #[.val (.ref a1), .val (.ref a2), .val (.ref b98), .val (.int (0 : Int32))] [(.int (1 : Int32)), (.ref a1)]))
  obtain ⟨T100, h100, X100, e100, W100, st100⟩ := putF X99 hx hZ hown (host := "") (Or.inl (hw _ (List.mem_of_getElem? (i := 125) rfl))) Via.refl e99 c99_5 c99_2 (Or.inl (hw _ (List.mem_of_getElem? (i := 126) rfl))) (hw _ (List.mem_of_getElem? (i := 78) rfl)) (ty := .int) (by decide) rfl rfl (g := (mkF m 19 #[.val (.ref a1), .val (.ref a2), .val (.ref b98), .val (.int (0 : Int32))] [(.int (1 : Int32)), (.ref a1)])) rfl rfl (hb hby d17_19)
  have Fw100 := c99_5.same W100
  have c100_2 := c99_2.wr W100
  have c100_3 := c99_3.wr W100
  have c100_4 := c99_4.other W100 (Or.inr (slot_ne (Or.inl (hw _ (List.mem_of_getElem? (i := 97) rfl))) (Or.inl (hw _ (List.mem_of_getElem? (i := 126) rfl))) (by decide) (t := .int) (t' := .int) (by decide) (by decide)))
  have c100_6 := c99_6.other W100 (Or.inr (slot_ne (Or.inl (hw _ (List.mem_of_getElem? (i := 100) rfl))) (Or.inl (hw _ (List.mem_of_getElem? (i := 126) rfl))) (by decide) (t := (.array (.object "java/lang/Object"))) (t' := .int) (by decide) (by decide)))
  have c100_7 := c99_7.wr W100
  have c100_8 := VV99.other W100 (Ne.symm (Nat.ne_of_lt lt98_a1_b98))
  have KK100 : Keep h0 h100 [a1] := KK99.wr W100 (Or.inl (List.mem_of_getElem? (i := 0) rfl))
  have ZN100 : n0 ≤ h100.size := Nat.le_trans ZN99 (Keep.of_wr W100).1
  have NN100 := Fr.snoc X100 NN99 P4
  have OL100 := OL99.wr W100 P4
  refine go st100 ?_
  show Go _ p e below s _ _ _ (T100.setTop (mkF m 22 #[.val (.ref a1), .val (.ref a2), .val (.ref b98), .val (.int (0 : Int32))] []))
  refine goRet0 X100 hx Bd.notSynchronized Bd.returns (hb hby d17_22) (by decide) (by decide) (by rw [e100]; refine ⟨b98, k98, rfl, NN100, SZ_b98, u98_1, KK100, c100_4, Fw100, c100_6, c100_7, c100_8, u98_8⟩)
theorem pn_X3B : plainName "java/util/ArrayList" = true := by first | (simp [plainName, overriddenIn]; done) | decide +kernel
theorem ef_X3B (m : MethodId) (a1 : Addr) (a2 : Addr) (b : Addr) : entryFrame m #[(.ref a1), (.ref a2), (.ref b), (.int (1 : Int32))] 4 = mkF m 0 #[.val (.ref a1), .val (.ref a2), .val (.ref b), .val (.int (1 : Int32))] [] := by first | (simp [entryFrame, mkF, argsToLocals, Value.category]; done) | rfl
def QX3B (Z : State) (a1 : Addr) (a2 : Addr) (b : Addr) (k : ClassId) (v0 : Addr) (h0 : Heap) (n0 : Nat) (v : Option Value) (h : Heap) (L : List Loc) : Prop := v = none ∧ Fr n0 L ∧ (Keep h0 h [a1, b]) ∧ (Fld Z h a1 "java/util/AbstractList" "modCount" "I" (.int (2 : Int32))) ∧ (Fld Z h a1 "java/util/ArrayList" "size" "I" (.int (2 : Int32))) ∧ (Fld Z h a1 "java/util/ArrayList" "elementData" "[Ljava/lang/Object;" (.ref b)) ∧ (Exa Z h b "[Ljava/lang/Object;") ∧ (Arv Z h b k (.object "java/lang/Object") (10 : Int32) [(.ref v0), (.ref a2), .null, .null, .null, .null, .null, .null, .null, .null] .null) ∧ (Ovr Z k "java/lang/Object")
set_option maxRecDepth 65536 in
set_option maxHeartbeats 40000000 in
theorem rmX3B (l : Launch) (Z : State) (a0 : Array Value) (hw : ∀ d ∈ tables_1, d.before a0 Z = true) (ws : List Jvm.Cond) (a1 : Addr) (a2 : Addr) (b : Addr) (k : ClassId) (v0 : Addr) (h0 : Heap) (n0 : Nat) (Z0 : n0 ≤ h0.size) (P0 : Exa Z h0 a1 "java/util/ArrayList") (P1 : n0 ≤ a1) (P2 : Exa Z h0 a2 "com/example/reticule/reticule/engine/Activation") (P3 : n0 ≤ b) (P4 : a1 ≠ b) (P5 : a2 ≠ b) (P6 : a1 ≠ a2) (P7 : Fld Z h0 a1 "java/util/AbstractList" "modCount" "I" (.int (2 : Int32))) (P8 : Fld Z h0 a1 "java/util/ArrayList" "size" "I" (.int (1 : Int32))) (P9 : Fld Z h0 a1 "java/util/ArrayList" "elementData" "[Ljava/lang/Object;" (.ref b)) (P10 : Exa Z h0 b "[Ljava/lang/Object;") (P11 : Arv Z h0 b k (.object "java/lang/Object") (10 : Int32) [(.ref v0), .null, .null, .null, .null, .null, .null, .null, .null, .null] .null) (P12 : Ovr Z k "java/lang/Object") :
    MetFree l (⟨"java/util/ArrayList", "add", "(Ljava/lang/Object;[Ljava/lang/Object;I)V"⟩ : MethodName) (head1 (Jvm.Cond.code (⟨"java/util/ArrayList", "add", "(Ljava/lang/Object;[Ljava/lang/Object;I)V"⟩ : MethodName) jdk_38_method_24_code 4 none :: ws) ({ frames := 0, cells := 0, slots := 0, locals := 0 } : Room)) (fun a U => a = #[(.ref a1), (.ref a2), (.ref b), (.int (1 : Int32))] ∧ Z.Warmed39 U.vm ∧ U.heap = h0) (fun _ _ _ _ _ => True) (fun _ U o U' => ∃ v L, o = .returned v ∧ QX3B Z a1 a2 b k v0 h0 n0 v U'.heap L ∧ FrameEnd U o U' L ({ frames := 0, cells := 0, slots := 0, locals := 0 } : Room).cells ({ frames := 0, cells := 0, slots := 0, locals := 0 } : Room).slots) := by
  refine MetFree.of_bodySF (plainFor_of_name pn_X3B) hisR ?_
  intro p e s m args below meth c s₁ Bd hml0 hP hK
  obtain ⟨rfl, hZ, hh⟩ := hP
  have hx := Bd.exec
  have hby := Bd.bytes
  have hml : c.maxLocals = 4 := hml0
  have hown : s.vm.findClass "java/util/ArrayList" = some m.cls := findClass_of_methodNamed Bd.named
  have hnm := (name_of_methodNamed Bd.named Bd.method).1
  have X0 : Stand p l e ({ frames := 0, cells := 0, slots := 0, locals := 0 } : Room) s m #[(.ref a1), (.ref a2), (.ref b), (.int (1 : Int32))] below meth c s₁ [] 0 0 := Stand.of_body Bd
  have e0 : s₁.heap = h0 := by rw [← hh, Bd.state]; rfl
  have N0 := Fr.nil n0
  have hS0 : s.Since s.vm 0 := (State.WarmedH.refl s).since 0
  show Go FrameEnd p e below s ({ frames := 0, cells := 0, slots := 0, locals := 0 } : Room).cells ({ frames := 0, cells := 0, slots := 0, locals := 0 } : Room).slots (QX3B Z a1 a2 b k v0 h0 n0) (s₁.setTop (entryFrame m #[(.ref a1), (.ref a2), (.ref b), (.int (1 : Int32))] 4))
  refine go (fun _ k => castTop (ef_X3B m a1 a2 b) k) ?_
  show Go _ p e below s _ _ _ (s₁.setTop (mkF m 0 #[.val (.ref a1), .val (.ref a2), .val (.ref b), .val (.int (1 : Int32))] []))
  refine go (fun _ => XS.iloadN X0.here hx rfl (hb hby d17_0) rfl) ?_
  show Go _ p e below s _ _ _ (s₁.setTop (mkF m 1 #[.val (.ref a1), .val (.ref a2), .val (.ref b), .val (.int (1 : Int32))] [(.int (1 : Int32))]))
  refine go (fun _ => XS.aloadN X0.here hx rfl (hb hby d17_1) rfl rfl) ?_
  show Go _ p e below s _ _ _ (s₁.setTop (mkF m 2 #[.val (.ref a1), .val (.ref a2), .val (.ref b), .val (.int (1 : Int32))] [(.ref b), (.int (1 : Int32))]))
  obtain ⟨cl104, Ar104, -, Sz104, Nz104, -, -⟩ := id P11
  refine go (X0.arraylength hx (by rw [e0]; exact Ar104.1) (State.isArrayOf_alike hZ.alike Ar104.2.1) (g := (mkF m 2 #[.val (.ref a1), .val (.ref a2), .val (.ref b), .val (.int (1 : Int32))] [(.ref b), (.int (1 : Int32))])) rfl rfl (hb hby d17_2)) ?_
  rw [len_of Sz104 Nz104]
  show Go _ p e below s _ _ _ (s₁.setTop (mkF m 3 #[.val (.ref a1), .val (.ref a2), .val (.ref b), .val (.int (1 : Int32))] [(.int (10 : Int32)), (.int (1 : Int32))]))
  refine go (fun _ => XS.icmpYes X0.here hx rfl (pc0 := 3) (pc' := 11) rfl (hb hby d17_3) rfl (feq (by decide : ¬ ((1 : Int32) = (10 : Int32)))).2 (by decide) (by decide)) ?_
  show Go _ p e below s _ _ _ (s₁.setTop (mkF m 11 #[.val (.ref a1), .val (.ref a2), .val (.ref b), .val (.int (1 : Int32))] []))
  refine go (fun _ => XS.aloadN X0.here hx rfl (hb hby d17_11) rfl rfl) ?_
  show Go _ p e below s _ _ _ (s₁.setTop (mkF m 12 #[.val (.ref a1), .val (.ref a2), .val (.ref b), .val (.int (1 : Int32))] [(.ref b)]))
  refine go (fun _ => XS.iloadN X0.here hx rfl (hb hby d17_12) rfl) ?_
  show Go _ p e below s _ _ _ (s₁.setTop (mkF m 13 #[.val (.ref a1), .val (.ref a2), .val (.ref b), .val (.int (1 : Int32))] [(.int (1 : Int32)), (.ref b)]))
  refine go (fun _ => XS.aloadN X0.here hx rfl (hb hby d17_13) rfl rfl) ?_
  show Go _ p e below s _ _ _ (s₁.setTop (mkF m 14 #[.val (.ref a1), .val (.ref a2), .val (.ref b), .val (.int (1 : Int32))] [(.ref a2), (.int (1 : Int32)), (.ref b)]))
  obtain ⟨cl105, Ar105, q105, Sz105, Nz105, Hs105, Gs105⟩ := id P11
  have hin105 : ¬ ((1 : Int32) < 0 ∨ cl105.slots.size ≤ ((1 : Int32)).toNatClampNeg) := inb_of Sz105 ⟨by decide, by decide⟩
  obtain ⟨T105, h105, X105, e105, W105, st105⟩ := stR X0 hx hZ e0 Ar105 (j := (1 : Int32)) hin105 rfl (Sto.ofV Ar105 q105 P12 (Ins.of_exa P2 (hw _ (List.mem_of_getElem? (i := 160) rfl)))) (g := (mkF m 14 #[.val (.ref a1), .val (.ref a2), .val (.ref b), .val (.int (1 : Int32))] [(.ref a2), (.int (1 : Int32)), (.ref b)])) rfl rfl (hb hby d17_14)
  have V105 := Arv.set Ar105 q105 Sz105 Nz105 Hs105 Gs105 rfl W105 1 rfl (Nat.le_of_ble_eq_true rfl)
  have VV105 : Arv Z h105 b k (.object "java/lang/Object") (10 : Int32) [(.ref v0), (.ref a2), .null, .null, .null, .null, .null, .null, .null, .null] .null := V105
  have c105_0 := P0.wr W105
  have c105_1 := P2.wr W105
  have c105_2 := P7.other W105 (Or.inl P4)
  have c105_3 := P8.other W105 (Or.inl P4)
  have c105_4 := P9.other W105 (Or.inl P4)
  have c105_5 := P10.wr W105
  have KK105 : Keep h0 h105 [a1, b] := (Keep.refl h0 [a1, b]).wr W105 (Or.inl (List.mem_of_getElem? (i := 1) rfl))
  have ZN105 : n0 ≤ h105.size := Nat.le_trans Z0 (Keep.of_wr W105).1
  have NN105 := Fr.snoc X105 N0 P3
  refine go st105 ?_
  show Go _ p e below s _ _ _ (T105.setTop (mkF m 15 #[.val (.ref a1), .val (.ref a2), .val (.ref b), .val (.int (1 : Int32))] []))
  refine go (fun _ => XS.aloadN X105.here hx rfl (hb hby d17_15) rfl rfl) ?_
  show Go _ p e below s _ _ _ (T105.setTop (mkF m 16 #[.val (.ref a1), .val (.ref a2), .val (.ref b), .val (.int (1 : Int32))] [(.ref a1)]))
  refine go (fun _ => XS.iloadN X105.here hx rfl (hb hby d17_16) rfl) ?_
  show Go _ p e below s _ _ _ (T105.setTop (mkF m 17 #[.val (.ref a1), .val (.ref a2), .val (.ref b), .val (.int (1 : Int32))] [(.int (1 : Int32)), (.ref a1)]))
  refine go (fun _ => XS.iconst X105.here hx rfl (hb hby d17_17)) ?_
  show Go _ p e below s _ _ _ (T105.setTop (mkF m 18 #[.val (.ref a1), .val (.ref a2), .val (.ref b), .val (.int (1 : Int32))] [(.int (1 : Int32)), (.int (1 : Int32)), (.ref a1)]))
  refine go (fun _ => XS.iadd X105.here hx rfl (hb hby d17_18) rfl) ?_
  show Go _ p e below s _ _ _ (T105.setTop (mkF m 19 #[.val (.ref a1), .val (.ref a2), .val (.ref b), .val (.int (1 : Int32))] [(.int (2 : Int32)), (.ref a1)]))
  obtain ⟨T106, h106, X106, e106, W106, st106⟩ := putF X105 hx hZ hown (host := "") (Or.inl (hw _ (List.mem_of_getElem? (i := 125) rfl))) Via.refl e105 c105_3 c105_0 (Or.inl (hw _ (List.mem_of_getElem? (i := 126) rfl))) (hw _ (List.mem_of_getElem? (i := 78) rfl)) (ty := .int) (by decide) rfl rfl (g := (mkF m 19 #[.val (.ref a1), .val (.ref a2), .val (.ref b), .val (.int (1 : Int32))] [(.int (2 : Int32)), (.ref a1)])) rfl rfl (hb hby d17_19)
  have Fw106 := c105_3.same W106
  have c106_0 := c105_0.wr W106
  have c106_1 := c105_1.wr W106
  have c106_2 := c105_2.other W106 (Or.inr (slot_ne (Or.inl (hw _ (List.mem_of_getElem? (i := 97) rfl))) (Or.inl (hw _ (List.mem_of_getElem? (i := 126) rfl))) (by decide) (t := .int) (t' := .int) (by decide) (by decide)))
  have c106_4 := c105_4.other W106 (Or.inr (slot_ne (Or.inl (hw _ (List.mem_of_getElem? (i := 100) rfl))) (Or.inl (hw _ (List.mem_of_getElem? (i := 126) rfl))) (by decide) (t := (.array (.object "java/lang/Object"))) (t' := .int) (by decide) (by decide)))
  have c106_5 := c105_5.wr W106
  have c106_6 := VV105.other W106 (Ne.symm P4)
  have KK106 : Keep h0 h106 [a1, b] := KK105.wr W106 (Or.inl (List.mem_of_getElem? (i := 0) rfl))
  have ZN106 : n0 ≤ h106.size := Nat.le_trans ZN105 (Keep.of_wr W106).1
  have NN106 := Fr.snoc X106 NN105 P1
  refine go st106 ?_
  show Go _ p e below s _ _ _ (T106.setTop (mkF m 22 #[.val (.ref a1), .val (.ref a2), .val (.ref b), .val (.int (1 : Int32))] []))
  refine goRet0 X106 hx Bd.notSynchronized Bd.returns (hb hby d17_22) (by decide) (by decide) (by rw [e106]; refine ⟨rfl, NN106, KK106, c106_2, Fw106, c106_4, c106_5, c106_6, P12⟩)
theorem d16_0 : decode jdk_38_method_25_code 0 = .ok (.aload_n 0, 1) := by decide +kernel
theorem d16_1 : decode jdk_38_method_25_code 1 = .ok (.dup, 1) := by decide +kernel
theorem d16_2 : decode jdk_38_method_25_code 2 = .ok (.getfield 63, 3) := by decide +kernel
theorem d16_5 : decode jdk_38_method_25_code 5 = .ok (.iconst 1, 1) := by decide +kernel
theorem d16_6 : decode jdk_38_method_25_code 6 = .ok (.iadd, 1) := by decide +kernel
theorem d16_7 : decode jdk_38_method_25_code 7 = .ok (.putfield 63, 3) := by decide +kernel
theorem d16_10 : decode jdk_38_method_25_code 10 = .ok (.aload_n 0, 1) := by decide +kernel
theorem d16_11 : decode jdk_38_method_25_code 11 = .ok (.aload_n 1, 1) := by decide +kernel
theorem d16_12 : decode jdk_38_method_25_code 12 = .ok (.aload_n 0, 1) := by decide +kernel
theorem d16_13 : decode jdk_38_method_25_code 13 = .ok (.getfield 9, 3) := by decide +kernel
theorem d16_16 : decode jdk_38_method_25_code 16 = .ok (.aload_n 0, 1) := by decide +kernel
theorem d16_17 : decode jdk_38_method_25_code 17 = .ok (.getfield 48, 3) := by decide +kernel
theorem d16_20 : decode jdk_38_method_25_code 20 = .ok (.invokevirtual 131, 3) := by decide +kernel
theorem d16_23 : decode jdk_38_method_25_code 23 = .ok (.iconst 1, 1) := by decide +kernel
theorem d16_24 : decode jdk_38_method_25_code 24 = .ok (.ireturn, 1) := by decide +kernel
theorem pn_X1A : plainName "java/util/ArrayList" = true := by first | (simp [plainName, overriddenIn]; done) | decide +kernel
theorem pd_16_0 : parseMethodDescriptor "(Ljava/lang/Object;[Ljava/lang/Object;I)V" = some ⟨[(.object "java/lang/Object"), (.array (.object "java/lang/Object")), .int], none⟩ := by decide +kernel
theorem ef_X1A (m : MethodId) (a1 : Addr) (a2 : Addr) : entryFrame m #[(.ref a1), (.ref a2)] 2 = mkF m 0 #[.val (.ref a1), .val (.ref a2)] [] := by first | (simp [entryFrame, mkF, argsToLocals, Value.category]; done) | rfl
def QX1A (Z : State) (a1 : Addr) (a2 : Addr) (d0 : Addr) (kd : ClassId) (h0 : Heap) (n0 : Nat) (v : Option Value) (h : Heap) (L : List Loc) : Prop := ∃ (b : Addr), ∃ (k : ClassId), v = some (.int (1 : Int32)) ∧ Fr n0 L ∧ (h0.size ≤ b) ∧ (n0 ≤ b) ∧ (Keep h0 h [a1]) ∧ (Fld Z h a1 "java/util/AbstractList" "modCount" "I" (.int (1 : Int32))) ∧ (Fld Z h a1 "java/util/ArrayList" "size" "I" (.int (1 : Int32))) ∧ (Fld Z h a1 "java/util/ArrayList" "elementData" "[Ljava/lang/Object;" (.ref b)) ∧ (Exa Z h b "[Ljava/lang/Object;") ∧ (Arv Z h b k (.object "java/lang/Object") (10 : Int32) [(.ref a2), .null, .null, .null, .null, .null, .null, .null, .null, .null] .null) ∧ (Ovr Z k "java/lang/Object")
set_option maxRecDepth 65536 in
set_option maxHeartbeats 40000000 in
theorem rmX1A (l : Launch) (Z : State) (a0 : Array Value) (hw : ∀ d ∈ tables_1, d.before a0 Z = true) (ws : List Jvm.Cond) (a1 : Addr) (a2 : Addr) (d0 : Addr) (kd : ClassId) (h0 : Heap) (n0 : Nat) (Z0 : n0 ≤ h0.size) (P0 : Sta Z Z.heap "java/util/ArrayList" "DEFAULTCAPACITY_EMPTY_ELEMENTDATA" "[Ljava/lang/Object;" (.ref d0)) (P1 : Old Z n0 h0) (P2 : Arv Z Z.heap d0 kd (.object "java/lang/Object") (0 : Int32) [] .null) (P3 : Exa Z h0 a1 "java/util/ArrayList") (P4 : n0 ≤ a1) (P5 : Exa Z h0 a2 "com/example/reticule/reticule/engine/Activation") (P6 : Fld Z h0 a1 "java/util/AbstractList" "modCount" "I" (.int (0 : Int32))) (P7 : Fld Z h0 a1 "java/util/ArrayList" "size" "I" (.int (0 : Int32))) (P8 : Fld Z h0 a1 "java/util/ArrayList" "elementData" "[Ljava/lang/Object;" (.ref d0)) :
    MetFree l (⟨"java/util/ArrayList", "add", "(Ljava/lang/Object;)Z"⟩ : MethodName) (head1 (Jvm.Cond.code (⟨"java/util/ArrayList", "add", "(Ljava/lang/Object;)Z"⟩ : MethodName) jdk_38_method_25_code 2 (some .boolean) :: ws) ({ frames := 4, cells := 1, slots := 10, locals := 56 } : Room)) (fun a U => a = #[(.ref a1), (.ref a2)] ∧ Z.Warmed39 U.vm ∧ U.heap = h0) (fun _ _ _ _ _ => True) (fun _ U o U' => ∃ v L, o = .returned v ∧ QX1A Z a1 a2 d0 kd h0 n0 v U'.heap L ∧ FrameEnd U o U' L ({ frames := 4, cells := 1, slots := 10, locals := 56 } : Room).cells ({ frames := 4, cells := 1, slots := 10, locals := 56 } : Room).slots) := by
  refine MetFree.of_bodySF (plainFor_of_name pn_X1A) hisR ?_
  intro p e s m args below meth c s₁ Bd hml0 hP hK
  obtain ⟨rfl, hZ, hh⟩ := hP
  have hx := Bd.exec
  have hby := Bd.bytes
  have hml : c.maxLocals = 2 := hml0
  have hown : s.vm.findClass "java/util/ArrayList" = some m.cls := findClass_of_methodNamed Bd.named
  have hnm := (name_of_methodNamed Bd.named Bd.method).1
  have X0 : Stand p l e ({ frames := 4, cells := 1, slots := 10, locals := 56 } : Room) s m #[(.ref a1), (.ref a2)] below meth c s₁ [] 0 0 := Stand.of_body Bd
  have e0 : s₁.heap = h0 := by rw [← hh, Bd.state]; rfl
  have N0 := Fr.nil n0
  have hS0 : s.Since s.vm 0 := (State.WarmedH.refl s).since 0
  show Go FrameEnd p e below s ({ frames := 4, cells := 1, slots := 10, locals := 56 } : Room).cells ({ frames := 4, cells := 1, slots := 10, locals := 56 } : Room).slots (QX1A Z a1 a2 d0 kd h0 n0) (s₁.setTop (entryFrame m #[(.ref a1), (.ref a2)] 2))
  refine go (fun _ k => castTop (ef_X1A m a1 a2) k) ?_
  show Go _ p e below s _ _ _ (s₁.setTop (mkF m 0 #[.val (.ref a1), .val (.ref a2)] []))
  refine go (fun _ => XS.aloadN X0.here hx rfl (hb hby d16_0) rfl rfl) ?_
  show Go _ p e below s _ _ _ (s₁.setTop (mkF m 1 #[.val (.ref a1), .val (.ref a2)] [(.ref a1)]))
  refine go (fun _ => XS.dup X0.here hx rfl (hb hby d16_1) rfl rfl) ?_
  show Go _ p e below s _ _ _ (s₁.setTop (mkF m 2 #[.val (.ref a1), .val (.ref a2)] [(.ref a1), (.ref a1)]))
  obtain ⟨T112, X112, e112, st112⟩ := getF X0 hx hZ hown (host := "") (Or.inl (hw _ (List.mem_of_getElem? (i := 137) rfl))) (Via.of (hw _ (List.mem_of_getElem? (i := 138) rfl))) e0 P6 (g := (mkF m 2 #[.val (.ref a1), .val (.ref a2)] [(.ref a1), (.ref a1)])) rfl rfl (hb hby d16_2)
  refine go st112 ?_
  show Go _ p e below s _ _ _ (T112.setTop (mkF m 5 #[.val (.ref a1), .val (.ref a2)] [(.int (0 : Int32)), (.ref a1)]))
  refine go (fun _ => XS.iconst X112.here hx rfl (hb hby d16_5)) ?_
  show Go _ p e below s _ _ _ (T112.setTop (mkF m 6 #[.val (.ref a1), .val (.ref a2)] [(.int (1 : Int32)), (.int (0 : Int32)), (.ref a1)]))
  refine go (fun _ => XS.iadd X112.here hx rfl (hb hby d16_6) rfl) ?_
  show Go _ p e below s _ _ _ (T112.setTop (mkF m 7 #[.val (.ref a1), .val (.ref a2)] [(.int (1 : Int32)), (.ref a1)]))
  obtain ⟨T113, h113, X113, e113, W113, st113⟩ := putF X112 hx hZ hown (host := "") (Or.inl (hw _ (List.mem_of_getElem? (i := 137) rfl))) (Via.of (hw _ (List.mem_of_getElem? (i := 138) rfl))) e112 P6 P3 (Or.inl (hw _ (List.mem_of_getElem? (i := 97) rfl))) (hw _ (List.mem_of_getElem? (i := 78) rfl)) (ty := .int) (by decide) rfl rfl (g := (mkF m 7 #[.val (.ref a1), .val (.ref a2)] [(.int (1 : Int32)), (.ref a1)])) rfl rfl (hb hby d16_7)
  have Fw113 := P6.same W113
  have c113_2 := P3.wr W113
  have c113_3 := P5.wr W113
  have c113_5 := P7.other W113 (Or.inr (slot_ne (Or.inl (hw _ (List.mem_of_getElem? (i := 126) rfl))) (Or.inl (hw _ (List.mem_of_getElem? (i := 97) rfl))) (by decide) (t := .int) (t' := .int) (by decide) (by decide)))
  have c113_6 := P8.other W113 (Or.inr (slot_ne (Or.inl (hw _ (List.mem_of_getElem? (i := 100) rfl))) (Or.inl (hw _ (List.mem_of_getElem? (i := 97) rfl))) (by decide) (t := (.array (.object "java/lang/Object"))) (t' := .int) (by decide) (by decide)))
  have KK113 : Keep h0 h113 [a1] := (Keep.refl h0 [a1]).wr W113 (Or.inl (List.mem_of_getElem? (i := 0) rfl))
  have ZN113 : n0 ≤ h113.size := Nat.le_trans Z0 (Keep.of_wr W113).1
  have NN113 := Fr.snoc X113 N0 P4
  have OL113 := P1.wr W113 P4
  refine go st113 ?_
  show Go _ p e below s _ _ _ (T113.setTop (mkF m 10 #[.val (.ref a1), .val (.ref a2)] []))
  refine go (fun _ => XS.aloadN X113.here hx rfl (hb hby d16_10) rfl rfl) ?_
  show Go _ p e below s _ _ _ (T113.setTop (mkF m 11 #[.val (.ref a1), .val (.ref a2)] [(.ref a1)]))
  refine go (fun _ => XS.aloadN X113.here hx rfl (hb hby d16_11) rfl rfl) ?_
  show Go _ p e below s _ _ _ (T113.setTop (mkF m 12 #[.val (.ref a1), .val (.ref a2)] [(.ref a2), (.ref a1)]))
  refine go (fun _ => XS.aloadN X113.here hx rfl (hb hby d16_12) rfl rfl) ?_
  show Go _ p e below s _ _ _ (T113.setTop (mkF m 13 #[.val (.ref a1), .val (.ref a2)] [(.ref a1), (.ref a2), (.ref a1)]))
  obtain ⟨T114, X114, e114, st114⟩ := getF X113 hx hZ hown (host := "") (Or.inl (hw _ (List.mem_of_getElem? (i := 99) rfl))) Via.refl e113 c113_6 (g := (mkF m 13 #[.val (.ref a1), .val (.ref a2)] [(.ref a1), (.ref a2), (.ref a1)])) rfl rfl (hb hby d16_13)
  refine go st114 ?_
  show Go _ p e below s _ _ _ (T114.setTop (mkF m 16 #[.val (.ref a1), .val (.ref a2)] [(.ref d0), (.ref a2), (.ref a1)]))
  refine go (fun _ => XS.aloadN X114.here hx rfl (hb hby d16_16) rfl rfl) ?_
  show Go _ p e below s _ _ _ (T114.setTop (mkF m 17 #[.val (.ref a1), .val (.ref a2)] [(.ref a1), (.ref d0), (.ref a2), (.ref a1)]))
  obtain ⟨T115, X115, e115, st115⟩ := getF X114 hx hZ hown (host := "") (Or.inl (hw _ (List.mem_of_getElem? (i := 125) rfl))) Via.refl e114 c113_5 (g := (mkF m 17 #[.val (.ref a1), .val (.ref a2)] [(.ref a1), (.ref d0), (.ref a2), (.ref a1)])) rfl rfl (hb hby d16_17)
  refine go st115 ?_
  show Go _ p e below s _ _ _ (T115.setTop (mkF m 20 #[.val (.ref a1), .val (.ref a2)] [(.int (0 : Int32)), (.ref d0), (.ref a2), (.ref a1)]))
  obtain ⟨cq116, q116, q116'⟩ := c113_2.cell
  obtain ⟨_, _, ⟨T116, L116, k116, n116⟩, -, X116, ⟨Lc116, hQ116, l116, y116, z116⟩, st116⟩ := X115.privateBack hx (y := (⟨"java/util/ArrayList", "add", "(Ljava/lang/Object;[Ljava/lang/Object;I)V"⟩ : MethodName)) hown (mvT hZ (hw _ (List.mem_of_getElem? (i := 139) rfl))) (mvT hZ (hw _ (List.mem_of_getElem? (i := 140) rfl))) (mvT hZ (hw _ (List.mem_of_getElem? (i := 142) rfl))) (Cond.privateMethod_at (mvP hZ (hw _ (List.mem_of_getElem? (i := 141) rfl)) (args := #[]))) (mvT hZ (hw _ (List.mem_of_getElem? (i := 143) rfl))) (by decide) (backOf (W := 0) (rmX3A l Z a0 hw [] a1 a2 d0 kd h113 n0 ZN113 P0 OL113 P2 c113_2 P4 c113_3 Fw113 c113_5 c113_6) hZ (hw _ (List.mem_of_getElem? (i := 143) rfl)) (hw _ (List.mem_of_getElem? (i := 79) rfl)) (by decide) (by decide)) (g := (mkF m 20 #[.val (.ref a1), .val (.ref a2)] [(.int (0 : Int32)), (.ref d0), (.ref a2), (.ref a1)])) rfl (by rw [hml]; rfl) (Steps.refl _) (a := a1) (by rw [e115]; exact q116) q116' (argsL := [(.ref a2), (.ref d0), (.int (0 : Int32))]) (rest := []) (lenOf pd_16_0 rfl) rfl (by show 2 * 0 + _ ≤ _; exact Nat.le_of_eq rfl) (hb hby d16_20) (fun _ _ => ⟨rfl, e115, (by decide : 0 + 1 ≤ _), (by decide : 0 + 10 ≤ _)⟩)
  dsimp only [Pt.U, Pt.locs, Pt.cells, Pt.slots] at X116 l116 y116 z116 st116 hQ116
  subst l116 y116 z116
  obtain ⟨b116, k116, rfl, N116q, u116_0, u116_1, K116, u116_3, u116_4, u116_5, u116_6, u116_7, u116_8⟩ := hQ116
  have N116 := Fr.app NN113 N116q
  have lt116_a1_b116 : a1 < b116 := Nat.lt_of_lt_of_le c113_2.lt u116_0
  have lt116_a2_b116 : a2 < b116 := Nat.lt_of_lt_of_le c113_3.lt u116_0
  have G_b116 : n0 ≤ b116 := Nat.le_trans ZN113 u116_0
  have SZ_b116 : h0.size ≤ b116 := Nat.le_trans KK113.1 u116_0
  have c116_2 := c113_2.keep K116
  have c116_3 := c113_3.keep K116
  have KK116 : Keep h0 T116.heap [a1] := KK113.trans K116 (allS (P := fun x => x ∈ [a1] ∨ h0.size ≤ x) (Or.inl (List.mem_of_getElem? (i := 0) rfl)) all0)
  have ZN116 : n0 ≤ T116.heap.size := Nat.le_trans ZN113 K116.1
  have OL116 := OL113.keep K116 (allS P4 all0)
  refine goT st116 ?_
  show Go _ p e below s _ _ _ (T116.setTop (mkF m 23 #[.val (.ref a1), .val (.ref a2)] []))
  refine go (fun _ => XS.iconst X116.here hx rfl (hb hby d16_23)) ?_
  show Go _ p e below s _ _ _ (T116.setTop (mkF m 24 #[.val (.ref a1), .val (.ref a2)] [(.int (1 : Int32))]))
  refine goRet X116 hx Bd.notSynchronized Bd.returns rfl (Or.inl ⟨rfl, Or.inr (Or.inl rfl), _, rfl⟩) (hb hby d16_24) (by decide) (by decide) (by refine ⟨b116, k116, rfl, N116, SZ_b116, u116_1, KK116, u116_3, u116_4, u116_5, u116_6, u116_7, u116_8⟩)
theorem pn_X1B : plainName "java/util/ArrayList" = true := by first | (simp [plainName, overriddenIn]; done) | decide +kernel
theorem ef_X1B (m : MethodId) (a1 : Addr) (a2 : Addr) : entryFrame m #[(.ref a1), (.ref a2)] 2 = mkF m 0 #[.val (.ref a1), .val (.ref a2)] [] := by first | (simp [entryFrame, mkF, argsToLocals, Value.category]; done) | rfl
def QX1B (Z : State) (a1 : Addr) (a2 : Addr) (b : Addr) (k : ClassId) (v0 : Addr) (h0 : Heap) (n0 : Nat) (v : Option Value) (h : Heap) (L : List Loc) : Prop := v = some (.int (1 : Int32)) ∧ Fr n0 L ∧ (Keep h0 h [a1, b]) ∧ (Fld Z h a1 "java/util/AbstractList" "modCount" "I" (.int (2 : Int32))) ∧ (Fld Z h a1 "java/util/ArrayList" "size" "I" (.int (2 : Int32))) ∧ (Fld Z h a1 "java/util/ArrayList" "elementData" "[Ljava/lang/Object;" (.ref b)) ∧ (Exa Z h b "[Ljava/lang/Object;") ∧ (Arv Z h b k (.object "java/lang/Object") (10 : Int32) [(.ref v0), (.ref a2), .null, .null, .null, .null, .null, .null, .null, .null] .null) ∧ (Ovr Z k "java/lang/Object")
set_option maxRecDepth 65536 in
set_option maxHeartbeats 40000000 in
theorem rmX1B (l : Launch) (Z : State) (a0 : Array Value) (hw : ∀ d ∈ tables_1, d.before a0 Z = true) (ws : List Jvm.Cond) (a1 : Addr) (a2 : Addr) (b : Addr) (k : ClassId) (v0 : Addr) (h0 : Heap) (n0 : Nat) (Z0 : n0 ≤ h0.size) (P0 : Exa Z h0 a1 "java/util/ArrayList") (P1 : n0 ≤ a1) (P2 : Exa Z h0 a2 "com/example/reticule/reticule/engine/Activation") (P3 : n0 ≤ b) (P4 : a1 ≠ b) (P5 : a2 ≠ b) (P6 : a1 ≠ a2) (P7 : Fld Z h0 a1 "java/util/AbstractList" "modCount" "I" (.int (1 : Int32))) (P8 : Fld Z h0 a1 "java/util/ArrayList" "size" "I" (.int (1 : Int32))) (P9 : Fld Z h0 a1 "java/util/ArrayList" "elementData" "[Ljava/lang/Object;" (.ref b)) (P10 : Exa Z h0 b "[Ljava/lang/Object;") (P11 : Arv Z h0 b k (.object "java/lang/Object") (10 : Int32) [(.ref v0), .null, .null, .null, .null, .null, .null, .null, .null, .null] .null) (P12 : Ovr Z k "java/lang/Object") :
    MetFree l (⟨"java/util/ArrayList", "add", "(Ljava/lang/Object;)Z"⟩ : MethodName) (head1 (Jvm.Cond.code (⟨"java/util/ArrayList", "add", "(Ljava/lang/Object;)Z"⟩ : MethodName) jdk_38_method_25_code 2 (some .boolean) :: ws) ({ frames := 1, cells := 0, slots := 0, locals := 15 } : Room)) (fun a U => a = #[(.ref a1), (.ref a2)] ∧ Z.Warmed39 U.vm ∧ U.heap = h0) (fun _ _ _ _ _ => True) (fun _ U o U' => ∃ v L, o = .returned v ∧ QX1B Z a1 a2 b k v0 h0 n0 v U'.heap L ∧ FrameEnd U o U' L ({ frames := 1, cells := 0, slots := 0, locals := 15 } : Room).cells ({ frames := 1, cells := 0, slots := 0, locals := 15 } : Room).slots) := by
  refine MetFree.of_bodySF (plainFor_of_name pn_X1B) hisR ?_
  intro p e s m args below meth c s₁ Bd hml0 hP hK
  obtain ⟨rfl, hZ, hh⟩ := hP
  have hx := Bd.exec
  have hby := Bd.bytes
  have hml : c.maxLocals = 2 := hml0
  have hown : s.vm.findClass "java/util/ArrayList" = some m.cls := findClass_of_methodNamed Bd.named
  have hnm := (name_of_methodNamed Bd.named Bd.method).1
  have X0 : Stand p l e ({ frames := 1, cells := 0, slots := 0, locals := 15 } : Room) s m #[(.ref a1), (.ref a2)] below meth c s₁ [] 0 0 := Stand.of_body Bd
  have e0 : s₁.heap = h0 := by rw [← hh, Bd.state]; rfl
  have N0 := Fr.nil n0
  have hS0 : s.Since s.vm 0 := (State.WarmedH.refl s).since 0
  show Go FrameEnd p e below s ({ frames := 1, cells := 0, slots := 0, locals := 15 } : Room).cells ({ frames := 1, cells := 0, slots := 0, locals := 15 } : Room).slots (QX1B Z a1 a2 b k v0 h0 n0) (s₁.setTop (entryFrame m #[(.ref a1), (.ref a2)] 2))
  refine go (fun _ k => castTop (ef_X1B m a1 a2) k) ?_
  show Go _ p e below s _ _ _ (s₁.setTop (mkF m 0 #[.val (.ref a1), .val (.ref a2)] []))
  refine go (fun _ => XS.aloadN X0.here hx rfl (hb hby d16_0) rfl rfl) ?_
  show Go _ p e below s _ _ _ (s₁.setTop (mkF m 1 #[.val (.ref a1), .val (.ref a2)] [(.ref a1)]))
  refine go (fun _ => XS.dup X0.here hx rfl (hb hby d16_1) rfl rfl) ?_
  show Go _ p e below s _ _ _ (s₁.setTop (mkF m 2 #[.val (.ref a1), .val (.ref a2)] [(.ref a1), (.ref a1)]))
  obtain ⟨T122, X122, e122, st122⟩ := getF X0 hx hZ hown (host := "") (Or.inl (hw _ (List.mem_of_getElem? (i := 137) rfl))) (Via.of (hw _ (List.mem_of_getElem? (i := 138) rfl))) e0 P7 (g := (mkF m 2 #[.val (.ref a1), .val (.ref a2)] [(.ref a1), (.ref a1)])) rfl rfl (hb hby d16_2)
  refine go st122 ?_
  show Go _ p e below s _ _ _ (T122.setTop (mkF m 5 #[.val (.ref a1), .val (.ref a2)] [(.int (1 : Int32)), (.ref a1)]))
  refine go (fun _ => XS.iconst X122.here hx rfl (hb hby d16_5)) ?_
  show Go _ p e below s _ _ _ (T122.setTop (mkF m 6 #[.val (.ref a1), .val (.ref a2)] [(.int (1 : Int32)), (.int (1 : Int32)), (.ref a1)]))
  refine go (fun _ => XS.iadd X122.here hx rfl (hb hby d16_6) rfl) ?_
  show Go _ p e below s _ _ _ (T122.setTop (mkF m 7 #[.val (.ref a1), .val (.ref a2)] [(.int (2 : Int32)), (.ref a1)]))
  obtain ⟨T123, h123, X123, e123, W123, st123⟩ := putF X122 hx hZ hown (host := "") (Or.inl (hw _ (List.mem_of_getElem? (i := 137) rfl))) (Via.of (hw _ (List.mem_of_getElem? (i := 138) rfl))) e122 P7 P0 (Or.inl (hw _ (List.mem_of_getElem? (i := 97) rfl))) (hw _ (List.mem_of_getElem? (i := 78) rfl)) (ty := .int) (by decide) rfl rfl (g := (mkF m 7 #[.val (.ref a1), .val (.ref a2)] [(.int (2 : Int32)), (.ref a1)])) rfl rfl (hb hby d16_7)
  have Fw123 := P7.same W123
  have c123_0 := P0.wr W123
  have c123_1 := P2.wr W123
  have c123_3 := P8.other W123 (Or.inr (slot_ne (Or.inl (hw _ (List.mem_of_getElem? (i := 126) rfl))) (Or.inl (hw _ (List.mem_of_getElem? (i := 97) rfl))) (by decide) (t := .int) (t' := .int) (by decide) (by decide)))
  have c123_4 := P9.other W123 (Or.inr (slot_ne (Or.inl (hw _ (List.mem_of_getElem? (i := 100) rfl))) (Or.inl (hw _ (List.mem_of_getElem? (i := 97) rfl))) (by decide) (t := (.array (.object "java/lang/Object"))) (t' := .int) (by decide) (by decide)))
  have c123_5 := P10.wr W123
  have c123_6 := P11.other W123 (Ne.symm P4)
  have KK123 : Keep h0 h123 [a1, b] := (Keep.refl h0 [a1, b]).wr W123 (Or.inl (List.mem_of_getElem? (i := 0) rfl))
  have ZN123 : n0 ≤ h123.size := Nat.le_trans Z0 (Keep.of_wr W123).1
  have NN123 := Fr.snoc X123 N0 P1
  refine go st123 ?_
  show Go _ p e below s _ _ _ (T123.setTop (mkF m 10 #[.val (.ref a1), .val (.ref a2)] []))
  refine go (fun _ => XS.aloadN X123.here hx rfl (hb hby d16_10) rfl rfl) ?_
  show Go _ p e below s _ _ _ (T123.setTop (mkF m 11 #[.val (.ref a1), .val (.ref a2)] [(.ref a1)]))
  refine go (fun _ => XS.aloadN X123.here hx rfl (hb hby d16_11) rfl rfl) ?_
  show Go _ p e below s _ _ _ (T123.setTop (mkF m 12 #[.val (.ref a1), .val (.ref a2)] [(.ref a2), (.ref a1)]))
  refine go (fun _ => XS.aloadN X123.here hx rfl (hb hby d16_12) rfl rfl) ?_
  show Go _ p e below s _ _ _ (T123.setTop (mkF m 13 #[.val (.ref a1), .val (.ref a2)] [(.ref a1), (.ref a2), (.ref a1)]))
  obtain ⟨T124, X124, e124, st124⟩ := getF X123 hx hZ hown (host := "") (Or.inl (hw _ (List.mem_of_getElem? (i := 99) rfl))) Via.refl e123 c123_4 (g := (mkF m 13 #[.val (.ref a1), .val (.ref a2)] [(.ref a1), (.ref a2), (.ref a1)])) rfl rfl (hb hby d16_13)
  refine go st124 ?_
  show Go _ p e below s _ _ _ (T124.setTop (mkF m 16 #[.val (.ref a1), .val (.ref a2)] [(.ref b), (.ref a2), (.ref a1)]))
  refine go (fun _ => XS.aloadN X124.here hx rfl (hb hby d16_16) rfl rfl) ?_
  show Go _ p e below s _ _ _ (T124.setTop (mkF m 17 #[.val (.ref a1), .val (.ref a2)] [(.ref a1), (.ref b), (.ref a2), (.ref a1)]))
  obtain ⟨T125, X125, e125, st125⟩ := getF X124 hx hZ hown (host := "") (Or.inl (hw _ (List.mem_of_getElem? (i := 125) rfl))) Via.refl e124 c123_3 (g := (mkF m 17 #[.val (.ref a1), .val (.ref a2)] [(.ref a1), (.ref b), (.ref a2), (.ref a1)])) rfl rfl (hb hby d16_17)
  refine go st125 ?_
  show Go _ p e below s _ _ _ (T125.setTop (mkF m 20 #[.val (.ref a1), .val (.ref a2)] [(.int (1 : Int32)), (.ref b), (.ref a2), (.ref a1)]))
  obtain ⟨cq126, q126, q126'⟩ := c123_0.cell
  obtain ⟨_, _, ⟨T126, L126, k126, n126⟩, -, X126, ⟨Lc126, hQ126, l126, y126, z126⟩, st126⟩ := X125.privateBack hx (y := (⟨"java/util/ArrayList", "add", "(Ljava/lang/Object;[Ljava/lang/Object;I)V"⟩ : MethodName)) hown (mvT hZ (hw _ (List.mem_of_getElem? (i := 139) rfl))) (mvT hZ (hw _ (List.mem_of_getElem? (i := 140) rfl))) (mvT hZ (hw _ (List.mem_of_getElem? (i := 142) rfl))) (Cond.privateMethod_at (mvP hZ (hw _ (List.mem_of_getElem? (i := 141) rfl)) (args := #[]))) (mvT hZ (hw _ (List.mem_of_getElem? (i := 143) rfl))) (by decide) (backOf (W := 0) (rmX3B l Z a0 hw [] a1 a2 b k v0 h123 n0 ZN123 c123_0 P1 c123_1 P3 P4 P5 P6 Fw123 c123_3 c123_4 c123_5 c123_6 P12) hZ (hw _ (List.mem_of_getElem? (i := 143) rfl)) (hw _ (List.mem_of_getElem? (i := 79) rfl)) (by decide) (by decide)) (g := (mkF m 20 #[.val (.ref a1), .val (.ref a2)] [(.int (1 : Int32)), (.ref b), (.ref a2), (.ref a1)])) rfl (by rw [hml]; rfl) (Steps.refl _) (a := a1) (by rw [e125]; exact q126) q126' (argsL := [(.ref a2), (.ref b), (.int (1 : Int32))]) (rest := []) (lenOf pd_16_0 rfl) rfl (by show 2 * 0 + _ ≤ _; exact Nat.le_of_eq rfl) (hb hby d16_20) (fun _ _ => ⟨rfl, e125, (by decide : 0 + 0 ≤ _), (by decide : 0 + 0 ≤ _)⟩)
  dsimp only [Pt.U, Pt.locs, Pt.cells, Pt.slots] at X126 l126 y126 z126 st126 hQ126
  subst l126 y126 z126
  obtain ⟨rfl, N126q, K126, u126_1, u126_2, u126_3, u126_4, u126_5, u126_6⟩ := hQ126
  have N126 := Fr.app NN123 N126q
  have c126_0 := c123_0.keep K126
  have c126_1 := c123_1.keep K126
  have c126_2 := c123_5.keep K126
  have KK126 : Keep h0 T126.heap [a1, b] := KK123.trans K126 (allS (P := fun x => x ∈ [a1, b] ∨ h0.size ≤ x) (Or.inl (List.mem_of_getElem? (i := 0) rfl)) (allS (P := fun x => x ∈ [a1, b] ∨ h0.size ≤ x) (Or.inl (List.mem_of_getElem? (i := 1) rfl)) all0))
  have ZN126 : n0 ≤ T126.heap.size := Nat.le_trans ZN123 K126.1
  refine goT st126 ?_
  show Go _ p e below s _ _ _ (T126.setTop (mkF m 23 #[.val (.ref a1), .val (.ref a2)] []))
  refine go (fun _ => XS.iconst X126.here hx rfl (hb hby d16_23)) ?_
  show Go _ p e below s _ _ _ (T126.setTop (mkF m 24 #[.val (.ref a1), .val (.ref a2)] [(.int (1 : Int32))]))
  refine goRet X126 hx Bd.notSynchronized Bd.returns rfl (Or.inl ⟨rfl, Or.inr (Or.inl rfl), _, rfl⟩) (hb hby d16_24) (by decide) (by decide) (by refine ⟨rfl, N126, KK126, u126_1, u126_2, u126_3, u126_4, u126_5, u126_6⟩)
theorem d14_0 : decode prog_11_method_2_code 0 = .ok (.aload_n 1, 1) := by decide +kernel
theorem d14_1 : decode prog_11_method_2_code 1 = .ok (.aload_n 0, 1) := by decide +kernel
theorem d14_2 : decode prog_11_method_2_code 2 = .ok (.getfield 10, 3) := by decide +kernel
theorem d14_5 : decode prog_11_method_2_code 5 = .ok (.invokeinterface 16 1, 5) := by decide +kernel
theorem d14_10 : decode prog_11_method_2_code 10 = .ok (.putfield 22, 3) := by decide +kernel
theorem d14_13 : decode prog_11_method_2_code 13 = .ok (.aload_n 0, 1) := by decide +kernel
theorem d14_14 : decode prog_11_method_2_code 14 = .ok (.getfield 10, 3) := by decide +kernel
theorem d14_17 : decode prog_11_method_2_code 17 = .ok (.aload_n 1, 1) := by decide +kernel
theorem d14_18 : decode prog_11_method_2_code 18 = .ok (.invokeinterface 28 2, 5) := by decide +kernel
theorem d14_23 : decode prog_11_method_2_code 23 = .ok (.pop, 1) := by decide +kernel
theorem d14_24 : decode prog_11_method_2_code 24 = .ok (.aload_n 0, 1) := by decide +kernel
theorem d14_25 : decode prog_11_method_2_code 25 = .ok (.dup, 1) := by decide +kernel
theorem d14_26 : decode prog_11_method_2_code 26 = .ok (.getfield 32, 3) := by decide +kernel
theorem d14_29 : decode prog_11_method_2_code 29 = .ok (.iconst 1, 1) := by decide +kernel
theorem d14_30 : decode prog_11_method_2_code 30 = .ok (.iadd, 1) := by decide +kernel
theorem d14_31 : decode prog_11_method_2_code 31 = .ok (.putfield 32, 3) := by decide +kernel
theorem d14_34 : decode prog_11_method_2_code 34 = .ok (.return_, 1) := by decide +kernel
theorem pn_RA : plainName "com/example/reticule/reticule/engine/ActivationRuns" = true := by first | (simp [plainName, overriddenIn]; done) | decide +kernel
theorem pd_14_0 : parseMethodDescriptor "()I" = some ⟨[], some .int⟩ := by decide +kernel
theorem pd_14_1 : parseMethodDescriptor "(Ljava/lang/Object;)Z" = some ⟨[(.object "java/lang/Object")], some .boolean⟩ := by decide +kernel
theorem ef_RA (m : MethodId) (a1 : Addr) (a2 : Addr) : entryFrame m #[(.ref a1), (.ref a2)] 2 = mkF m 0 #[.val (.ref a1), .val (.ref a2)] [] := by first | (simp [entryFrame, mkF, argsToLocals, Value.category]; done) | rfl
def QRA (Z : State) (a1 : Addr) (a2 : Addr) (ls : Addr) (u1 : Value) (d0 : Addr) (kd : ClassId) (h0 : Heap) (n0 : Nat) (v : Option Value) (h : Heap) (L : List Loc) : Prop := ∃ (b : Addr), ∃ (k : ClassId), v = none ∧ Fr n0 L ∧ (h0.size ≤ b) ∧ (n0 ≤ b) ∧ (Keep h0 h [a1, a2, ls]) ∧ (Fld Z h a1 "com/example/reticule/reticule/engine/ActivationRuns" "entries" "Ljava/util/List;" (.ref ls)) ∧ (Fld Z h a1 "com/example/reticule/reticule/engine/ActivationRuns" "count" "I" (.int (1 : Int32))) ∧ (Fld Z h a2 "com/example/reticule/reticule/engine/Activation" "place" "I" (.int (0 : Int32))) ∧ (Fld Z h ls "java/util/AbstractList" "modCount" "I" (.int (1 : Int32))) ∧ (Fld Z h ls "java/util/ArrayList" "size" "I" (.int (1 : Int32))) ∧ (Fld Z h ls "java/util/ArrayList" "elementData" "[Ljava/lang/Object;" (.ref b)) ∧ (Exa Z h b "[Ljava/lang/Object;") ∧ (Arv Z h b k (.object "java/lang/Object") (10 : Int32) [(.ref a2), .null, .null, .null, .null, .null, .null, .null, .null, .null] .null) ∧ (Ovr Z k "java/lang/Object")
set_option maxRecDepth 65536 in
set_option maxHeartbeats 40000000 in
theorem rmRA (l : Launch) (Z : State) (a0 : Array Value) (hw : ∀ d ∈ tables_1, d.before a0 Z = true) (ws : List Jvm.Cond) (a1 : Addr) (a2 : Addr) (ls : Addr) (u1 : Value) (d0 : Addr) (kd : ClassId) (h0 : Heap) (n0 : Nat) (Z0 : n0 ≤ h0.size) (P0 : Sta Z Z.heap "java/util/ArrayList" "DEFAULTCAPACITY_EMPTY_ELEMENTDATA" "[Ljava/lang/Object;" (.ref d0)) (P1 : Old Z n0 h0) (P2 : Fld Z h0 a1 "com/example/reticule/reticule/engine/ActivationRuns" "entries" "Ljava/util/List;" (.ref ls)) (P3 : Fld Z h0 a1 "com/example/reticule/reticule/engine/ActivationRuns" "count" "I" (.int (0 : Int32))) (P4 : Arv Z Z.heap d0 kd (.object "java/lang/Object") (0 : Int32) [] .null) (P5 : Exa Z h0 a1 "com/example/reticule/reticule/engine/ActivationRuns") (P6 : n0 ≤ a1) (P7 : Exa Z h0 a2 "com/example/reticule/reticule/engine/Activation") (P8 : n0 ≤ a2) (P9 : Exa Z h0 ls "java/util/ArrayList") (P10 : n0 ≤ ls) (P11 : Fld Z h0 a2 "com/example/reticule/reticule/engine/Activation" "place" "I" u1) (P12 : a1 ≠ a2) (P13 : a1 ≠ ls) (P14 : a2 ≠ ls) (P15 : Fld Z h0 ls "java/util/AbstractList" "modCount" "I" (.int (0 : Int32))) (P16 : Fld Z h0 ls "java/util/ArrayList" "size" "I" (.int (0 : Int32))) (P17 : Fld Z h0 ls "java/util/ArrayList" "elementData" "[Ljava/lang/Object;" (.ref d0)) :
    MetFree l (⟨"com/example/reticule/reticule/engine/ActivationRuns", "add", "(Lcom/example/reticule/reticule/engine/Activation;)V"⟩ : MethodName) (head1 (Jvm.Cond.code (⟨"com/example/reticule/reticule/engine/ActivationRuns", "add", "(Lcom/example/reticule/reticule/engine/Activation;)V"⟩ : MethodName) prog_11_method_2_code 2 none :: ws) ({ frames := 5, cells := 1, slots := 10, locals := 69 } : Room)) (fun a U => a = #[(.ref a1), (.ref a2)] ∧ Z.Warmed39 U.vm ∧ U.heap = h0) (fun _ _ _ _ _ => True) (fun _ U o U' => ∃ v L, o = .returned v ∧ QRA Z a1 a2 ls u1 d0 kd h0 n0 v U'.heap L ∧ FrameEnd U o U' L ({ frames := 5, cells := 1, slots := 10, locals := 69 } : Room).cells ({ frames := 5, cells := 1, slots := 10, locals := 69 } : Room).slots) := by
  refine MetFree.of_bodySF (plainFor_of_name pn_RA) hisR ?_
  intro p e s m args below meth c s₁ Bd hml0 hP hK
  obtain ⟨rfl, hZ, hh⟩ := hP
  have hx := Bd.exec
  have hby := Bd.bytes
  have hml : c.maxLocals = 2 := hml0
  have hown : s.vm.findClass "com/example/reticule/reticule/engine/ActivationRuns" = some m.cls := findClass_of_methodNamed Bd.named
  have hnm := (name_of_methodNamed Bd.named Bd.method).1
  have X0 : Stand p l e ({ frames := 5, cells := 1, slots := 10, locals := 69 } : Room) s m #[(.ref a1), (.ref a2)] below meth c s₁ [] 0 0 := Stand.of_body Bd
  have e0 : s₁.heap = h0 := by rw [← hh, Bd.state]; rfl
  have N0 := Fr.nil n0
  have hS0 : s.Since s.vm 0 := (State.WarmedH.refl s).since 0
  show Go FrameEnd p e below s ({ frames := 5, cells := 1, slots := 10, locals := 69 } : Room).cells ({ frames := 5, cells := 1, slots := 10, locals := 69 } : Room).slots (QRA Z a1 a2 ls u1 d0 kd h0 n0) (s₁.setTop (entryFrame m #[(.ref a1), (.ref a2)] 2))
  refine go (fun _ k => castTop (ef_RA m a1 a2) k) ?_
  show Go _ p e below s _ _ _ (s₁.setTop (mkF m 0 #[.val (.ref a1), .val (.ref a2)] []))
  refine go (fun _ => XS.aloadN X0.here hx rfl (hb hby d14_0) rfl rfl) ?_
  show Go _ p e below s _ _ _ (s₁.setTop (mkF m 1 #[.val (.ref a1), .val (.ref a2)] [(.ref a2)]))
  refine go (fun _ => XS.aloadN X0.here hx rfl (hb hby d14_1) rfl rfl) ?_
  show Go _ p e below s _ _ _ (s₁.setTop (mkF m 2 #[.val (.ref a1), .val (.ref a2)] [(.ref a1), (.ref a2)]))
  obtain ⟨T134, X134, e134, st134⟩ := getF X0 hx hZ hown (host := "") (Or.inl (hw _ (List.mem_of_getElem? (i := 101) rfl))) Via.refl e0 P2 (g := (mkF m 2 #[.val (.ref a1), .val (.ref a2)] [(.ref a1), (.ref a2)])) rfl rfl (hb hby d14_2)
  refine go st134 ?_
  show Go _ p e below s _ _ _ (T134.setTop (mkF m 5 #[.val (.ref a1), .val (.ref a2)] [(.ref ls), (.ref a2)]))
  obtain ⟨cq135, kq135, q135a, q135b, q135c⟩ := isOf hZ e134 P9
  obtain ⟨_, _, ⟨T135, L135, k135, n135⟩, -, X135, ⟨Lc135, hQ135, l135, y135, z135⟩, st135⟩ := X134.interfaceBack hx (xi := (⟨"java/util/List", "size", "()I"⟩ : MethodName)) (y := (⟨"java/util/ArrayList", "size", "()I"⟩ : MethodName)) hown (mvT hZ (hw _ (List.mem_of_getElem? (i := 116) rfl))) (mvT hZ (hw _ (List.mem_of_getElem? (i := 117) rfl))) (mvT hZ (hw _ (List.mem_of_getElem? (i := 118) rfl))) (mvT hZ (hw _ (List.mem_of_getElem? (i := 119) rfl))) (mvT hZ (hw _ (List.mem_of_getElem? (i := 120) rfl))) (mvT hZ (hw _ (List.mem_of_getElem? (i := 121) rfl))) (mvT hZ (hw _ (List.mem_of_getElem? (i := 122) rfl))) (mvT hZ (hw _ (List.mem_of_getElem? (i := 123) rfl))) (by decide) (backOf (W := 1) (rm15 l Z a0 hw [] ls (0 : Int32) h0 n0 Z0 P16) hZ (hw _ (List.mem_of_getElem? (i := 124) rfl)) (hw _ (List.mem_of_getElem? (i := 79) rfl)) (by decide) (by decide)) q135a q135b q135c (g := (mkF m 5 #[.val (.ref a1), .val (.ref a2)] [(.ref ls), (.ref a2)])) rfl (by rw [hml]; rfl) (Steps.refl _) (argsL := []) (rest := [(.ref a2)]) (lenOf pd_14_0 rfl) rfl (by show 2 * 0 + _ ≤ _; exact Nat.le_of_eq rfl) (hb hby d14_5) (fun _ _ => ⟨rfl, e134, (by decide : 0 + 0 ≤ _), (by decide : 0 + 0 ≤ _)⟩)
  dsimp only [Pt.U, Pt.locs, Pt.cells, Pt.slots] at X135 l135 y135 z135 st135 hQ135
  subst l135 y135 z135
  obtain ⟨rfl, N135q, e135⟩ := hQ135
  have N135 := Fr.app N0 N135q
  refine goT st135 ?_
  show Go _ p e below s _ _ _ (T135.setTop (mkF m 10 #[.val (.ref a1), .val (.ref a2)] [(.int (0 : Int32)), (.ref a2)]))
  obtain ⟨T136, h136, X136, e136, W136, st136⟩ := putF X135 hx hZ hown (host := "") (Or.inl (hw _ (List.mem_of_getElem? (i := 127) rfl))) Via.refl e135 P11 P7 (Or.inl (hw _ (List.mem_of_getElem? (i := 128) rfl))) (hw _ (List.mem_of_getElem? (i := 46) rfl)) (ty := .int) (by decide) rfl rfl (g := (mkF m 10 #[.val (.ref a1), .val (.ref a2)] [(.int (0 : Int32)), (.ref a2)])) rfl rfl (hb hby d14_10)
  have Fw136 := P11.same W136
  have c136_1 := P2.other W136 (Or.inl P12)
  have c136_2 := P3.other W136 (Or.inl P12)
  have c136_4 := P5.wr W136
  have c136_5 := P7.wr W136
  have c136_6 := P9.wr W136
  have c136_8 := P15.other W136 (Or.inl (Ne.symm P14))
  have c136_9 := P16.other W136 (Or.inl (Ne.symm P14))
  have c136_10 := P17.other W136 (Or.inl (Ne.symm P14))
  have KK136 : Keep h0 h136 [a1, a2, ls] := (Keep.refl h0 [a1, a2, ls]).wr W136 (Or.inl (List.mem_of_getElem? (i := 1) rfl))
  have ZN136 : n0 ≤ h136.size := Nat.le_trans Z0 (Keep.of_wr W136).1
  have NN136 := Fr.snoc X136 N135 P8
  have OL136 := P1.wr W136 P8
  refine go st136 ?_
  show Go _ p e below s _ _ _ (T136.setTop (mkF m 13 #[.val (.ref a1), .val (.ref a2)] []))
  refine go (fun _ => XS.aloadN X136.here hx rfl (hb hby d14_13) rfl rfl) ?_
  show Go _ p e below s _ _ _ (T136.setTop (mkF m 14 #[.val (.ref a1), .val (.ref a2)] [(.ref a1)]))
  obtain ⟨T137, X137, e137, st137⟩ := getF X136 hx hZ hown (host := "") (Or.inl (hw _ (List.mem_of_getElem? (i := 101) rfl))) Via.refl e136 c136_1 (g := (mkF m 14 #[.val (.ref a1), .val (.ref a2)] [(.ref a1)])) rfl rfl (hb hby d14_14)
  refine go st137 ?_
  show Go _ p e below s _ _ _ (T137.setTop (mkF m 17 #[.val (.ref a1), .val (.ref a2)] [(.ref ls)]))
  refine go (fun _ => XS.aloadN X137.here hx rfl (hb hby d14_17) rfl rfl) ?_
  show Go _ p e below s _ _ _ (T137.setTop (mkF m 18 #[.val (.ref a1), .val (.ref a2)] [(.ref a2), (.ref ls)]))
  obtain ⟨cq138, kq138, q138a, q138b, q138c⟩ := isOf hZ e137 c136_6
  obtain ⟨_, _, ⟨T138, L138, k138, n138⟩, -, X138, ⟨Lc138, hQ138, l138, y138, z138⟩, st138⟩ := X137.interfaceBack hx (xi := (⟨"java/util/List", "add", "(Ljava/lang/Object;)Z"⟩ : MethodName)) (y := (⟨"java/util/ArrayList", "add", "(Ljava/lang/Object;)Z"⟩ : MethodName)) hown (mvT hZ (hw _ (List.mem_of_getElem? (i := 129) rfl))) (mvT hZ (hw _ (List.mem_of_getElem? (i := 130) rfl))) (mvT hZ (hw _ (List.mem_of_getElem? (i := 131) rfl))) (mvT hZ (hw _ (List.mem_of_getElem? (i := 132) rfl))) (mvT hZ (hw _ (List.mem_of_getElem? (i := 133) rfl))) (mvT hZ (hw _ (List.mem_of_getElem? (i := 134) rfl))) (mvT hZ (hw _ (List.mem_of_getElem? (i := 135) rfl))) (mvT hZ (hw _ (List.mem_of_getElem? (i := 123) rfl))) (by decide) (backOf (W := 0) (rmX1A l Z a0 hw [] ls a2 d0 kd h136 n0 ZN136 P0 OL136 P4 c136_6 P10 c136_5 c136_8 c136_9 c136_10) hZ (hw _ (List.mem_of_getElem? (i := 136) rfl)) (hw _ (List.mem_of_getElem? (i := 79) rfl)) (by decide) (by decide)) q138a q138b q138c (g := (mkF m 18 #[.val (.ref a1), .val (.ref a2)] [(.ref a2), (.ref ls)])) rfl (by rw [hml]; rfl) (Steps.refl _) (argsL := [(.ref a2)]) (rest := []) (lenOf pd_14_1 rfl) rfl (by show 2 * 0 + _ ≤ _; exact Nat.le_of_eq rfl) (hb hby d14_18) (fun _ _ => ⟨rfl, e137, (by decide : 0 + 1 ≤ _), (by decide : 0 + 10 ≤ _)⟩)
  dsimp only [Pt.U, Pt.locs, Pt.cells, Pt.slots] at X138 l138 y138 z138 st138 hQ138
  subst l138 y138 z138
  obtain ⟨b138, k138, rfl, N138q, u138_0, u138_1, K138, u138_3, u138_4, u138_5, u138_6, u138_7, u138_8⟩ := hQ138
  have N138 := Fr.app NN136 N138q
  have lt138_a1_b138 : a1 < b138 := Nat.lt_of_lt_of_le c136_1.lt u138_0
  have lt138_a2_b138 : a2 < b138 := Nat.lt_of_lt_of_le c136_5.lt u138_0
  have lt138_ls_b138 : ls < b138 := Nat.lt_of_lt_of_le c136_6.lt u138_0
  have G_b138 : n0 ≤ b138 := Nat.le_trans ZN136 u138_0
  have SZ_b138 : h0.size ≤ b138 := Nat.le_trans KK136.1 u138_0
  have c138_1 := c136_1.keep K138 (ninS P13 nin0)
  have c138_2 := c136_2.keep K138 (ninS P13 nin0)
  have c138_4 := c136_4.keep K138
  have c138_5 := c136_5.keep K138
  have c138_6 := c136_6.keep K138
  have c138_7 := Fw136.keep K138 (ninS P14 nin0)
  have KK138 : Keep h0 T138.heap [a1, a2, ls] := KK136.trans K138 (allS (P := fun x => x ∈ [a1, a2, ls] ∨ h0.size ≤ x) (Or.inl (List.mem_of_getElem? (i := 2) rfl)) all0)
  have ZN138 : n0 ≤ T138.heap.size := Nat.le_trans ZN136 K138.1
  have OL138 := OL136.keep K138 (allS P10 all0)
  refine goT st138 ?_
  show Go _ p e below s _ _ _ (T138.setTop (mkF m 23 #[.val (.ref a1), .val (.ref a2)] [(.int (1 : Int32))]))
  refine go (fun _ => XS.pop X138.here hx rfl (hb hby d14_23) rfl rfl) ?_
  show Go _ p e below s _ _ _ (T138.setTop (mkF m 24 #[.val (.ref a1), .val (.ref a2)] []))
  refine go (fun _ => XS.aloadN X138.here hx rfl (hb hby d14_24) rfl rfl) ?_
  show Go _ p e below s _ _ _ (T138.setTop (mkF m 25 #[.val (.ref a1), .val (.ref a2)] [(.ref a1)]))
  refine go (fun _ => XS.dup X138.here hx rfl (hb hby d14_25) rfl rfl) ?_
  show Go _ p e below s _ _ _ (T138.setTop (mkF m 26 #[.val (.ref a1), .val (.ref a2)] [(.ref a1), (.ref a1)]))
  obtain ⟨T139, X139, e139, st139⟩ := getF X138 hx hZ hown (host := "") (Or.inl (hw _ (List.mem_of_getElem? (i := 108) rfl))) Via.refl rfl c138_2 (g := (mkF m 26 #[.val (.ref a1), .val (.ref a2)] [(.ref a1), (.ref a1)])) rfl rfl (hb hby d14_26)
  refine go st139 ?_
  show Go _ p e below s _ _ _ (T139.setTop (mkF m 29 #[.val (.ref a1), .val (.ref a2)] [(.int (0 : Int32)), (.ref a1)]))
  refine go (fun _ => XS.iconst X139.here hx rfl (hb hby d14_29)) ?_
  show Go _ p e below s _ _ _ (T139.setTop (mkF m 30 #[.val (.ref a1), .val (.ref a2)] [(.int (1 : Int32)), (.int (0 : Int32)), (.ref a1)]))
  refine go (fun _ => XS.iadd X139.here hx rfl (hb hby d14_30) rfl) ?_
  show Go _ p e below s _ _ _ (T139.setTop (mkF m 31 #[.val (.ref a1), .val (.ref a2)] [(.int (1 : Int32)), (.ref a1)]))
  obtain ⟨T140, h140, X140, e140, W140, st140⟩ := putF X139 hx hZ hown (host := "") (Or.inl (hw _ (List.mem_of_getElem? (i := 108) rfl))) Via.refl e139 c138_2 c138_4 (Or.inl (hw _ (List.mem_of_getElem? (i := 109) rfl))) (hw _ (List.mem_of_getElem? (i := 71) rfl)) (ty := .int) (by decide) rfl rfl (g := (mkF m 31 #[.val (.ref a1), .val (.ref a2)] [(.int (1 : Int32)), (.ref a1)])) rfl rfl (hb hby d14_31)
  have Fw140 := c138_2.same W140
  have c140_1 := c138_1.other W140 (Or.inr (slot_ne (Or.inr (hw _ (List.mem_of_getElem? (i := 102) rfl))) (Or.inl (hw _ (List.mem_of_getElem? (i := 109) rfl))) (by decide) (t := (.object "java/util/List")) (t' := .int) (by decide) (by decide)))
  have c140_4 := c138_4.wr W140
  have c140_5 := c138_5.wr W140
  have c140_6 := c138_6.wr W140
  have c140_7 := c138_7.other W140 (Or.inl (Ne.symm P12))
  have c140_8 := u138_3.other W140 (Or.inl (Ne.symm P13))
  have c140_9 := u138_4.other W140 (Or.inl (Ne.symm P13))
  have c140_10 := u138_5.other W140 (Or.inl (Ne.symm P13))
  have c140_11 := u138_6.wr W140
  have c140_12 := u138_7.other W140 (Ne.symm (Nat.ne_of_lt lt138_a1_b138))
  have KK140 : Keep h0 h140 [a1, a2, ls] := KK138.wr W140 (Or.inl (List.mem_of_getElem? (i := 0) rfl))
  have ZN140 : n0 ≤ h140.size := Nat.le_trans ZN138 (Keep.of_wr W140).1
  have NN140 := Fr.snoc X140 N138 P6
  have OL140 := OL138.wr W140 P6
  refine go st140 ?_
  show Go _ p e below s _ _ _ (T140.setTop (mkF m 34 #[.val (.ref a1), .val (.ref a2)] []))
  refine goRet0 X140 hx Bd.notSynchronized Bd.returns (hb hby d14_34) (by decide) (by decide) (by rw [e140]; refine ⟨b138, k138, rfl, NN140, SZ_b138, u138_1, KK140, c140_1, Fw140, c140_7, c140_8, c140_9, c140_10, c140_11, c140_12, u138_8⟩)
theorem pn_RB : plainName "com/example/reticule/reticule/engine/ActivationRuns" = true := by first | (simp [plainName, overriddenIn]; done) | decide +kernel
theorem ef_RB (m : MethodId) (a1 : Addr) (a2 : Addr) : entryFrame m #[(.ref a1), (.ref a2)] 2 = mkF m 0 #[.val (.ref a1), .val (.ref a2)] [] := by first | (simp [entryFrame, mkF, argsToLocals, Value.category]; done) | rfl
def QRB (Z : State) (a1 : Addr) (a2 : Addr) (ls : Addr) (u1 : Value) (b : Addr) (k : ClassId) (v0 : Addr) (h0 : Heap) (n0 : Nat) (v : Option Value) (h : Heap) (L : List Loc) : Prop := v = none ∧ Fr n0 L ∧ (Keep h0 h [a1, a2, ls, b]) ∧ (Fld Z h a1 "com/example/reticule/reticule/engine/ActivationRuns" "entries" "Ljava/util/List;" (.ref ls)) ∧ (Fld Z h a1 "com/example/reticule/reticule/engine/ActivationRuns" "count" "I" (.int (2 : Int32))) ∧ (Fld Z h a2 "com/example/reticule/reticule/engine/Activation" "place" "I" (.int (1 : Int32))) ∧ (Fld Z h ls "java/util/AbstractList" "modCount" "I" (.int (2 : Int32))) ∧ (Fld Z h ls "java/util/ArrayList" "size" "I" (.int (2 : Int32))) ∧ (Fld Z h ls "java/util/ArrayList" "elementData" "[Ljava/lang/Object;" (.ref b)) ∧ (Exa Z h b "[Ljava/lang/Object;") ∧ (Arv Z h b k (.object "java/lang/Object") (10 : Int32) [(.ref v0), (.ref a2), .null, .null, .null, .null, .null, .null, .null, .null] .null) ∧ (Ovr Z k "java/lang/Object")
set_option maxRecDepth 65536 in
set_option maxHeartbeats 40000000 in
theorem rmRB (l : Launch) (Z : State) (a0 : Array Value) (hw : ∀ d ∈ tables_1, d.before a0 Z = true) (ws : List Jvm.Cond) (a1 : Addr) (a2 : Addr) (ls : Addr) (u1 : Value) (b : Addr) (k : ClassId) (v0 : Addr) (h0 : Heap) (n0 : Nat) (Z0 : n0 ≤ h0.size) (P0 : Fld Z h0 a1 "com/example/reticule/reticule/engine/ActivationRuns" "entries" "Ljava/util/List;" (.ref ls)) (P1 : Fld Z h0 a1 "com/example/reticule/reticule/engine/ActivationRuns" "count" "I" (.int (1 : Int32))) (P2 : Fld Z h0 ls "java/util/AbstractList" "modCount" "I" (.int (1 : Int32))) (P3 : Fld Z h0 ls "java/util/ArrayList" "size" "I" (.int (1 : Int32))) (P4 : Fld Z h0 ls "java/util/ArrayList" "elementData" "[Ljava/lang/Object;" (.ref b)) (P5 : Exa Z h0 a1 "com/example/reticule/reticule/engine/ActivationRuns") (P6 : n0 ≤ a1) (P7 : Exa Z h0 a2 "com/example/reticule/reticule/engine/Activation") (P8 : n0 ≤ a2) (P9 : Exa Z h0 ls "java/util/ArrayList") (P10 : n0 ≤ ls) (P11 : n0 ≤ b) (P12 : Fld Z h0 a2 "com/example/reticule/reticule/engine/Activation" "place" "I" u1) (P13 : a1 ≠ a2) (P14 : a1 ≠ ls) (P15 : a1 ≠ b) (P16 : a2 ≠ ls) (P17 : a2 ≠ b) (P18 : ls ≠ b) (P19 : Exa Z h0 b "[Ljava/lang/Object;") (P20 : Arv Z h0 b k (.object "java/lang/Object") (10 : Int32) [(.ref v0), .null, .null, .null, .null, .null, .null, .null, .null, .null] .null) (P21 : Ovr Z k "java/lang/Object") :
    MetFree l (⟨"com/example/reticule/reticule/engine/ActivationRuns", "add", "(Lcom/example/reticule/reticule/engine/Activation;)V"⟩ : MethodName) (head1 (Jvm.Cond.code (⟨"com/example/reticule/reticule/engine/ActivationRuns", "add", "(Lcom/example/reticule/reticule/engine/Activation;)V"⟩ : MethodName) prog_11_method_2_code 2 none :: ws) ({ frames := 2, cells := 0, slots := 0, locals := 28 } : Room)) (fun a U => a = #[(.ref a1), (.ref a2)] ∧ Z.Warmed39 U.vm ∧ U.heap = h0) (fun _ _ _ _ _ => True) (fun _ U o U' => ∃ v L, o = .returned v ∧ QRB Z a1 a2 ls u1 b k v0 h0 n0 v U'.heap L ∧ FrameEnd U o U' L ({ frames := 2, cells := 0, slots := 0, locals := 28 } : Room).cells ({ frames := 2, cells := 0, slots := 0, locals := 28 } : Room).slots) := by
  refine MetFree.of_bodySF (plainFor_of_name pn_RB) hisR ?_
  intro p e s m args below meth c s₁ Bd hml0 hP hK
  obtain ⟨rfl, hZ, hh⟩ := hP
  have hx := Bd.exec
  have hby := Bd.bytes
  have hml : c.maxLocals = 2 := hml0
  have hown : s.vm.findClass "com/example/reticule/reticule/engine/ActivationRuns" = some m.cls := findClass_of_methodNamed Bd.named
  have hnm := (name_of_methodNamed Bd.named Bd.method).1
  have X0 : Stand p l e ({ frames := 2, cells := 0, slots := 0, locals := 28 } : Room) s m #[(.ref a1), (.ref a2)] below meth c s₁ [] 0 0 := Stand.of_body Bd
  have e0 : s₁.heap = h0 := by rw [← hh, Bd.state]; rfl
  have N0 := Fr.nil n0
  have hS0 : s.Since s.vm 0 := (State.WarmedH.refl s).since 0
  show Go FrameEnd p e below s ({ frames := 2, cells := 0, slots := 0, locals := 28 } : Room).cells ({ frames := 2, cells := 0, slots := 0, locals := 28 } : Room).slots (QRB Z a1 a2 ls u1 b k v0 h0 n0) (s₁.setTop (entryFrame m #[(.ref a1), (.ref a2)] 2))
  refine go (fun _ k => castTop (ef_RB m a1 a2) k) ?_
  show Go _ p e below s _ _ _ (s₁.setTop (mkF m 0 #[.val (.ref a1), .val (.ref a2)] []))
  refine go (fun _ => XS.aloadN X0.here hx rfl (hb hby d14_0) rfl rfl) ?_
  show Go _ p e below s _ _ _ (s₁.setTop (mkF m 1 #[.val (.ref a1), .val (.ref a2)] [(.ref a2)]))
  refine go (fun _ => XS.aloadN X0.here hx rfl (hb hby d14_1) rfl rfl) ?_
  show Go _ p e below s _ _ _ (s₁.setTop (mkF m 2 #[.val (.ref a1), .val (.ref a2)] [(.ref a1), (.ref a2)]))
  obtain ⟨T148, X148, e148, st148⟩ := getF X0 hx hZ hown (host := "") (Or.inl (hw _ (List.mem_of_getElem? (i := 101) rfl))) Via.refl e0 P0 (g := (mkF m 2 #[.val (.ref a1), .val (.ref a2)] [(.ref a1), (.ref a2)])) rfl rfl (hb hby d14_2)
  refine go st148 ?_
  show Go _ p e below s _ _ _ (T148.setTop (mkF m 5 #[.val (.ref a1), .val (.ref a2)] [(.ref ls), (.ref a2)]))
  obtain ⟨cq149, kq149, q149a, q149b, q149c⟩ := isOf hZ e148 P9
  obtain ⟨_, _, ⟨T149, L149, k149, n149⟩, -, X149, ⟨Lc149, hQ149, l149, y149, z149⟩, st149⟩ := X148.interfaceBack hx (xi := (⟨"java/util/List", "size", "()I"⟩ : MethodName)) (y := (⟨"java/util/ArrayList", "size", "()I"⟩ : MethodName)) hown (mvT hZ (hw _ (List.mem_of_getElem? (i := 116) rfl))) (mvT hZ (hw _ (List.mem_of_getElem? (i := 117) rfl))) (mvT hZ (hw _ (List.mem_of_getElem? (i := 118) rfl))) (mvT hZ (hw _ (List.mem_of_getElem? (i := 119) rfl))) (mvT hZ (hw _ (List.mem_of_getElem? (i := 120) rfl))) (mvT hZ (hw _ (List.mem_of_getElem? (i := 121) rfl))) (mvT hZ (hw _ (List.mem_of_getElem? (i := 122) rfl))) (mvT hZ (hw _ (List.mem_of_getElem? (i := 123) rfl))) (by decide) (backOf (W := 1) (rm15 l Z a0 hw [] ls (1 : Int32) h0 n0 Z0 P3) hZ (hw _ (List.mem_of_getElem? (i := 124) rfl)) (hw _ (List.mem_of_getElem? (i := 79) rfl)) (by decide) (by decide)) q149a q149b q149c (g := (mkF m 5 #[.val (.ref a1), .val (.ref a2)] [(.ref ls), (.ref a2)])) rfl (by rw [hml]; rfl) (Steps.refl _) (argsL := []) (rest := [(.ref a2)]) (lenOf pd_14_0 rfl) rfl (by show 2 * 0 + _ ≤ _; exact Nat.le_of_eq rfl) (hb hby d14_5) (fun _ _ => ⟨rfl, e148, (by decide : 0 + 0 ≤ _), (by decide : 0 + 0 ≤ _)⟩)
  dsimp only [Pt.U, Pt.locs, Pt.cells, Pt.slots] at X149 l149 y149 z149 st149 hQ149
  subst l149 y149 z149
  obtain ⟨rfl, N149q, e149⟩ := hQ149
  have N149 := Fr.app N0 N149q
  refine goT st149 ?_
  show Go _ p e below s _ _ _ (T149.setTop (mkF m 10 #[.val (.ref a1), .val (.ref a2)] [(.int (1 : Int32)), (.ref a2)]))
  obtain ⟨T150, h150, X150, e150, W150, st150⟩ := putF X149 hx hZ hown (host := "") (Or.inl (hw _ (List.mem_of_getElem? (i := 127) rfl))) Via.refl e149 P12 P7 (Or.inl (hw _ (List.mem_of_getElem? (i := 128) rfl))) (hw _ (List.mem_of_getElem? (i := 46) rfl)) (ty := .int) (by decide) rfl rfl (g := (mkF m 10 #[.val (.ref a1), .val (.ref a2)] [(.int (1 : Int32)), (.ref a2)])) rfl rfl (hb hby d14_10)
  have Fw150 := P12.same W150
  have c150_0 := P0.other W150 (Or.inl P13)
  have c150_1 := P1.other W150 (Or.inl P13)
  have c150_2 := P2.other W150 (Or.inl (Ne.symm P16))
  have c150_3 := P3.other W150 (Or.inl (Ne.symm P16))
  have c150_4 := P4.other W150 (Or.inl (Ne.symm P16))
  have c150_5 := P5.wr W150
  have c150_6 := P7.wr W150
  have c150_7 := P9.wr W150
  have c150_9 := P19.wr W150
  have c150_10 := P20.other W150 (Ne.symm P17)
  have KK150 : Keep h0 h150 [a1, a2, ls, b] := (Keep.refl h0 [a1, a2, ls, b]).wr W150 (Or.inl (List.mem_of_getElem? (i := 1) rfl))
  have ZN150 : n0 ≤ h150.size := Nat.le_trans Z0 (Keep.of_wr W150).1
  have NN150 := Fr.snoc X150 N149 P8
  refine go st150 ?_
  show Go _ p e below s _ _ _ (T150.setTop (mkF m 13 #[.val (.ref a1), .val (.ref a2)] []))
  refine go (fun _ => XS.aloadN X150.here hx rfl (hb hby d14_13) rfl rfl) ?_
  show Go _ p e below s _ _ _ (T150.setTop (mkF m 14 #[.val (.ref a1), .val (.ref a2)] [(.ref a1)]))
  obtain ⟨T151, X151, e151, st151⟩ := getF X150 hx hZ hown (host := "") (Or.inl (hw _ (List.mem_of_getElem? (i := 101) rfl))) Via.refl e150 c150_0 (g := (mkF m 14 #[.val (.ref a1), .val (.ref a2)] [(.ref a1)])) rfl rfl (hb hby d14_14)
  refine go st151 ?_
  show Go _ p e below s _ _ _ (T151.setTop (mkF m 17 #[.val (.ref a1), .val (.ref a2)] [(.ref ls)]))
  refine go (fun _ => XS.aloadN X151.here hx rfl (hb hby d14_17) rfl rfl) ?_
  show Go _ p e below s _ _ _ (T151.setTop (mkF m 18 #[.val (.ref a1), .val (.ref a2)] [(.ref a2), (.ref ls)]))
  obtain ⟨cq152, kq152, q152a, q152b, q152c⟩ := isOf hZ e151 c150_7
  obtain ⟨_, _, ⟨T152, L152, k152, n152⟩, -, X152, ⟨Lc152, hQ152, l152, y152, z152⟩, st152⟩ := X151.interfaceBack hx (xi := (⟨"java/util/List", "add", "(Ljava/lang/Object;)Z"⟩ : MethodName)) (y := (⟨"java/util/ArrayList", "add", "(Ljava/lang/Object;)Z"⟩ : MethodName)) hown (mvT hZ (hw _ (List.mem_of_getElem? (i := 129) rfl))) (mvT hZ (hw _ (List.mem_of_getElem? (i := 130) rfl))) (mvT hZ (hw _ (List.mem_of_getElem? (i := 131) rfl))) (mvT hZ (hw _ (List.mem_of_getElem? (i := 132) rfl))) (mvT hZ (hw _ (List.mem_of_getElem? (i := 133) rfl))) (mvT hZ (hw _ (List.mem_of_getElem? (i := 134) rfl))) (mvT hZ (hw _ (List.mem_of_getElem? (i := 135) rfl))) (mvT hZ (hw _ (List.mem_of_getElem? (i := 123) rfl))) (by decide) (backOf (W := 0) (rmX1B l Z a0 hw [] ls a2 b k v0 h150 n0 ZN150 c150_7 P10 c150_6 P11 P18 P17 (Ne.symm P16) c150_2 c150_3 c150_4 c150_9 c150_10 P21) hZ (hw _ (List.mem_of_getElem? (i := 136) rfl)) (hw _ (List.mem_of_getElem? (i := 79) rfl)) (by decide) (by decide)) q152a q152b q152c (g := (mkF m 18 #[.val (.ref a1), .val (.ref a2)] [(.ref a2), (.ref ls)])) rfl (by rw [hml]; rfl) (Steps.refl _) (argsL := [(.ref a2)]) (rest := []) (lenOf pd_14_1 rfl) rfl (by show 2 * 0 + _ ≤ _; exact Nat.le_of_eq rfl) (hb hby d14_18) (fun _ _ => ⟨rfl, e151, (by decide : 0 + 0 ≤ _), (by decide : 0 + 0 ≤ _)⟩)
  dsimp only [Pt.U, Pt.locs, Pt.cells, Pt.slots] at X152 l152 y152 z152 st152 hQ152
  subst l152 y152 z152
  obtain ⟨rfl, N152q, K152, u152_1, u152_2, u152_3, u152_4, u152_5, u152_6⟩ := hQ152
  have N152 := Fr.app NN150 N152q
  have c152_0 := c150_0.keep K152 (ninS P14 (ninS P15 nin0))
  have c152_1 := c150_1.keep K152 (ninS P14 (ninS P15 nin0))
  have c152_2 := c150_5.keep K152
  have c152_3 := c150_6.keep K152
  have c152_4 := c150_7.keep K152
  have c152_5 := Fw150.keep K152 (ninS P16 (ninS P17 nin0))
  have c152_6 := c150_9.keep K152
  have KK152 : Keep h0 T152.heap [a1, a2, ls, b] := KK150.trans K152 (allS (P := fun x => x ∈ [a1, a2, ls, b] ∨ h0.size ≤ x) (Or.inl (List.mem_of_getElem? (i := 2) rfl)) (allS (P := fun x => x ∈ [a1, a2, ls, b] ∨ h0.size ≤ x) (Or.inl (List.mem_of_getElem? (i := 3) rfl)) all0))
  have ZN152 : n0 ≤ T152.heap.size := Nat.le_trans ZN150 K152.1
  refine goT st152 ?_
  show Go _ p e below s _ _ _ (T152.setTop (mkF m 23 #[.val (.ref a1), .val (.ref a2)] [(.int (1 : Int32))]))
  refine go (fun _ => XS.pop X152.here hx rfl (hb hby d14_23) rfl rfl) ?_
  show Go _ p e below s _ _ _ (T152.setTop (mkF m 24 #[.val (.ref a1), .val (.ref a2)] []))
  refine go (fun _ => XS.aloadN X152.here hx rfl (hb hby d14_24) rfl rfl) ?_
  show Go _ p e below s _ _ _ (T152.setTop (mkF m 25 #[.val (.ref a1), .val (.ref a2)] [(.ref a1)]))
  refine go (fun _ => XS.dup X152.here hx rfl (hb hby d14_25) rfl rfl) ?_
  show Go _ p e below s _ _ _ (T152.setTop (mkF m 26 #[.val (.ref a1), .val (.ref a2)] [(.ref a1), (.ref a1)]))
  obtain ⟨T153, X153, e153, st153⟩ := getF X152 hx hZ hown (host := "") (Or.inl (hw _ (List.mem_of_getElem? (i := 108) rfl))) Via.refl rfl c152_1 (g := (mkF m 26 #[.val (.ref a1), .val (.ref a2)] [(.ref a1), (.ref a1)])) rfl rfl (hb hby d14_26)
  refine go st153 ?_
  show Go _ p e below s _ _ _ (T153.setTop (mkF m 29 #[.val (.ref a1), .val (.ref a2)] [(.int (1 : Int32)), (.ref a1)]))
  refine go (fun _ => XS.iconst X153.here hx rfl (hb hby d14_29)) ?_
  show Go _ p e below s _ _ _ (T153.setTop (mkF m 30 #[.val (.ref a1), .val (.ref a2)] [(.int (1 : Int32)), (.int (1 : Int32)), (.ref a1)]))
  refine go (fun _ => XS.iadd X153.here hx rfl (hb hby d14_30) rfl) ?_
  show Go _ p e below s _ _ _ (T153.setTop (mkF m 31 #[.val (.ref a1), .val (.ref a2)] [(.int (2 : Int32)), (.ref a1)]))
  obtain ⟨T154, h154, X154, e154, W154, st154⟩ := putF X153 hx hZ hown (host := "") (Or.inl (hw _ (List.mem_of_getElem? (i := 108) rfl))) Via.refl e153 c152_1 c152_2 (Or.inl (hw _ (List.mem_of_getElem? (i := 109) rfl))) (hw _ (List.mem_of_getElem? (i := 71) rfl)) (ty := .int) (by decide) rfl rfl (g := (mkF m 31 #[.val (.ref a1), .val (.ref a2)] [(.int (2 : Int32)), (.ref a1)])) rfl rfl (hb hby d14_31)
  have Fw154 := c152_1.same W154
  have c154_0 := c152_0.other W154 (Or.inr (slot_ne (Or.inr (hw _ (List.mem_of_getElem? (i := 102) rfl))) (Or.inl (hw _ (List.mem_of_getElem? (i := 109) rfl))) (by decide) (t := (.object "java/util/List")) (t' := .int) (by decide) (by decide)))
  have c154_2 := c152_2.wr W154
  have c154_3 := c152_3.wr W154
  have c154_4 := c152_4.wr W154
  have c154_5 := c152_5.other W154 (Or.inl (Ne.symm P13))
  have c154_6 := u152_4.wr W154
  have c154_7 := u152_1.other W154 (Or.inl (Ne.symm P14))
  have c154_8 := u152_2.other W154 (Or.inl (Ne.symm P14))
  have c154_9 := u152_3.other W154 (Or.inl (Ne.symm P14))
  have c154_10 := u152_5.other W154 (Ne.symm P15)
  have KK154 : Keep h0 h154 [a1, a2, ls, b] := KK152.wr W154 (Or.inl (List.mem_of_getElem? (i := 0) rfl))
  have ZN154 : n0 ≤ h154.size := Nat.le_trans ZN152 (Keep.of_wr W154).1
  have NN154 := Fr.snoc X154 N152 P6
  refine go st154 ?_
  show Go _ p e below s _ _ _ (T154.setTop (mkF m 34 #[.val (.ref a1), .val (.ref a2)] []))
  refine goRet0 X154 hx Bd.notSynchronized Bd.returns (hb hby d14_34) (by decide) (by decide) (by rw [e154]; refine ⟨rfl, NN154, KK154, c154_0, Fw154, c154_5, c154_7, c154_8, c154_9, c154_6, c154_10, u152_6⟩)
theorem d24_0 : decode jdk_41_method_11_code 0 = .ok (.iload_n 0, 1) := by decide +kernel
theorem d24_1 : decode jdk_41_method_11_code 1 = .ok (.ifCond .lt 8, 3) := by decide +kernel
theorem d24_4 : decode jdk_41_method_11_code 4 = .ok (.iload_n 0, 1) := by decide +kernel
theorem d24_5 : decode jdk_41_method_11_code 5 = .ok (.iload_n 1, 1) := by decide +kernel
theorem d24_6 : decode jdk_41_method_11_code 6 = .ok (.if_icmp .lt 10, 3) := by decide +kernel
theorem d24_16 : decode jdk_41_method_11_code 16 = .ok (.iload_n 0, 1) := by decide +kernel
theorem d24_17 : decode jdk_41_method_11_code 17 = .ok (.ireturn, 1) := by decide +kernel
theorem pn_24 : plainName "jdk/internal/util/Preconditions" = true := by first | (simp [plainName, overriddenIn]; done) | decide +kernel
theorem ef_24 (m : MethodId) (p1 : Int32) (p2 : Int32) : entryFrame m #[(.int p1), (.int p2), .null] 3 = mkF m 0 #[.val (.int p1), .val (.int p2), .val .null] [] := by first | (simp [entryFrame, mkF, argsToLocals, Value.category]; done) | rfl
def Q24 (Z : State) (p1 : Int32) (p2 : Int32) (h0 : Heap) (n0 : Nat) (v : Option Value) (h : Heap) (L : List Loc) : Prop := v = some (.int p1) ∧ Fr n0 L ∧ (h = h0)
set_option maxRecDepth 65536 in
set_option maxHeartbeats 40000000 in
theorem rm24 (l : Launch) (Z : State) (a0 : Array Value) (hw : ∀ d ∈ tables_1, d.before a0 Z = true) (ws : List Jvm.Cond) (p1 : Int32) (p2 : Int32) (h0 : Heap) (n0 : Nat) (Z0 : n0 ≤ h0.size) (h1 : ¬ p1 < 0) (h2 : p1 < p2) :
    MetFree l (⟨"jdk/internal/util/Preconditions", "checkIndex", "(IILjava/util/function/BiFunction;)I"⟩ : MethodName) (head1 (Jvm.Cond.code (⟨"jdk/internal/util/Preconditions", "checkIndex", "(IILjava/util/function/BiFunction;)I"⟩ : MethodName) jdk_41_method_11_code 3 (some .int) :: ws) ({ frames := 0, cells := 0, slots := 0, locals := 0 } : Room)) (fun a U => a = #[(.int p1), (.int p2), .null] ∧ Z.Warmed39 U.vm ∧ U.heap = h0) (fun _ _ _ _ _ => True) (fun _ U o U' => ∃ v L, o = .returned v ∧ Q24 Z p1 p2 h0 n0 v U'.heap L ∧ FrameEnd U o U' L ({ frames := 0, cells := 0, slots := 0, locals := 0 } : Room).cells ({ frames := 0, cells := 0, slots := 0, locals := 0 } : Room).slots) := by
  refine MetFree.of_bodySF (plainFor_of_name pn_24) hisR ?_
  intro p e s m args below meth c s₁ Bd hml0 hP hK
  obtain ⟨rfl, hZ, hh⟩ := hP
  have hx := Bd.exec
  have hby := Bd.bytes
  have hml : c.maxLocals = 3 := hml0
  have hown : s.vm.findClass "jdk/internal/util/Preconditions" = some m.cls := findClass_of_methodNamed Bd.named
  have hnm := (name_of_methodNamed Bd.named Bd.method).1
  have X0 : Stand p l e ({ frames := 0, cells := 0, slots := 0, locals := 0 } : Room) s m #[(.int p1), (.int p2), .null] below meth c s₁ [] 0 0 := Stand.of_body Bd
  have e0 : s₁.heap = h0 := by rw [← hh, Bd.state]; rfl
  have N0 := Fr.nil n0
  have hS0 : s.Since s.vm 0 := (State.WarmedH.refl s).since 0
  show Go FrameEnd p e below s ({ frames := 0, cells := 0, slots := 0, locals := 0 } : Room).cells ({ frames := 0, cells := 0, slots := 0, locals := 0 } : Room).slots (Q24 Z p1 p2 h0 n0) (s₁.setTop (entryFrame m #[(.int p1), (.int p2), .null] 3))
  refine go (fun _ k => castTop (ef_24 m p1 p2) k) ?_
  show Go _ p e below s _ _ _ (s₁.setTop (mkF m 0 #[.val (.int p1), .val (.int p2), .val .null] []))
  refine go (fun _ => XS.iloadN X0.here hx rfl (hb hby d24_0) rfl) ?_
  show Go _ p e below s _ _ _ (s₁.setTop (mkF m 1 #[.val (.int p1), .val (.int p2), .val .null] [(.int p1)]))
  refine go (fun _ => XS.ifNo X0.here hx rfl (hb hby d24_1) rfl ((if0 _ _).trans (flt h1).1)) ?_
  show Go _ p e below s _ _ _ (s₁.setTop (mkF m 4 #[.val (.int p1), .val (.int p2), .val .null] []))
  refine go (fun _ => XS.iloadN X0.here hx rfl (hb hby d24_4) rfl) ?_
  show Go _ p e below s _ _ _ (s₁.setTop (mkF m 5 #[.val (.int p1), .val (.int p2), .val .null] [(.int p1)]))
  refine go (fun _ => XS.iloadN X0.here hx rfl (hb hby d24_5) rfl) ?_
  show Go _ p e below s _ _ _ (s₁.setTop (mkF m 6 #[.val (.int p1), .val (.int p2), .val .null] [(.int p2), (.int p1)]))
  refine go (fun _ => XS.icmpYes X0.here hx rfl (pc0 := 6) (pc' := 16) rfl (hb hby d24_6) rfl (tlt h2).1 (by decide) (by decide)) ?_
  show Go _ p e below s _ _ _ (s₁.setTop (mkF m 16 #[.val (.int p1), .val (.int p2), .val .null] []))
  refine go (fun _ => XS.iloadN X0.here hx rfl (hb hby d24_16) rfl) ?_
  show Go _ p e below s _ _ _ (s₁.setTop (mkF m 17 #[.val (.int p1), .val (.int p2), .val .null] [(.int p1)]))
  refine goRet X0 hx Bd.notSynchronized Bd.returns rfl (Or.inl ⟨rfl, Or.inl rfl, _, rfl⟩) (hb hby d24_17) (by decide) (by decide) (by rw [e0]; refine ⟨rfl, N0, rfl⟩)
theorem d23_0 : decode jdk_31_method_17_code 0 = .ok (.iload_n 0, 1) := by decide +kernel
theorem d23_1 : decode jdk_31_method_17_code 1 = .ok (.iload_n 1, 1) := by decide +kernel
theorem d23_2 : decode jdk_31_method_17_code 2 = .ok (.aconst_null, 1) := by decide +kernel
theorem d23_3 : decode jdk_31_method_17_code 3 = .ok (.invokestatic 105, 3) := by decide +kernel
theorem d23_6 : decode jdk_31_method_17_code 6 = .ok (.ireturn, 1) := by decide +kernel
theorem pn_23 : plainName "java/util/Objects" = true := by first | (simp [plainName, overriddenIn]; done) | decide +kernel
theorem pd_23_0 : parseMethodDescriptor "(IILjava/util/function/BiFunction;)I" = some ⟨[.int, .int, (.object "java/util/function/BiFunction")], some .int⟩ := by decide +kernel
theorem ef_23 (m : MethodId) (p1 : Int32) (p2 : Int32) : entryFrame m #[(.int p1), (.int p2)] 2 = mkF m 0 #[.val (.int p1), .val (.int p2)] [] := by first | (simp [entryFrame, mkF, argsToLocals, Value.category]; done) | rfl
def Q23 (Z : State) (p1 : Int32) (p2 : Int32) (h0 : Heap) (n0 : Nat) (v : Option Value) (h : Heap) (L : List Loc) : Prop := v = some (.int p1) ∧ Fr n0 L ∧ (h = h0)
set_option maxRecDepth 65536 in
set_option maxHeartbeats 40000000 in
theorem rm23 (l : Launch) (Z : State) (a0 : Array Value) (hw : ∀ d ∈ tables_1, d.before a0 Z = true) (ws : List Jvm.Cond) (p1 : Int32) (p2 : Int32) (h0 : Heap) (n0 : Nat) (Z0 : n0 ≤ h0.size) (h1 : ¬ p1 < 0) (h2 : p1 < p2) :
    MetFree l (⟨"java/util/Objects", "checkIndex", "(II)I"⟩ : MethodName) (head1 (Jvm.Cond.code (⟨"java/util/Objects", "checkIndex", "(II)I"⟩ : MethodName) jdk_31_method_17_code 2 (some .int) :: ws) ({ frames := 1, cells := 0, slots := 0, locals := 14 } : Room)) (fun a U => a = #[(.int p1), (.int p2)] ∧ Z.Warmed39 U.vm ∧ U.heap = h0) (fun _ _ _ _ _ => True) (fun _ U o U' => ∃ v L, o = .returned v ∧ Q23 Z p1 p2 h0 n0 v U'.heap L ∧ FrameEnd U o U' L ({ frames := 1, cells := 0, slots := 0, locals := 14 } : Room).cells ({ frames := 1, cells := 0, slots := 0, locals := 14 } : Room).slots) := by
  refine MetFree.of_bodySF (plainFor_of_name pn_23) hisR ?_
  intro p e s m args below meth c s₁ Bd hml0 hP hK
  obtain ⟨rfl, hZ, hh⟩ := hP
  have hx := Bd.exec
  have hby := Bd.bytes
  have hml : c.maxLocals = 2 := hml0
  have hown : s.vm.findClass "java/util/Objects" = some m.cls := findClass_of_methodNamed Bd.named
  have hnm := (name_of_methodNamed Bd.named Bd.method).1
  have X0 : Stand p l e ({ frames := 1, cells := 0, slots := 0, locals := 14 } : Room) s m #[(.int p1), (.int p2)] below meth c s₁ [] 0 0 := Stand.of_body Bd
  have e0 : s₁.heap = h0 := by rw [← hh, Bd.state]; rfl
  have N0 := Fr.nil n0
  have hS0 : s.Since s.vm 0 := (State.WarmedH.refl s).since 0
  show Go FrameEnd p e below s ({ frames := 1, cells := 0, slots := 0, locals := 14 } : Room).cells ({ frames := 1, cells := 0, slots := 0, locals := 14 } : Room).slots (Q23 Z p1 p2 h0 n0) (s₁.setTop (entryFrame m #[(.int p1), (.int p2)] 2))
  refine go (fun _ k => castTop (ef_23 m p1 p2) k) ?_
  show Go _ p e below s _ _ _ (s₁.setTop (mkF m 0 #[.val (.int p1), .val (.int p2)] []))
  refine go (fun _ => XS.iloadN X0.here hx rfl (hb hby d23_0) rfl) ?_
  show Go _ p e below s _ _ _ (s₁.setTop (mkF m 1 #[.val (.int p1), .val (.int p2)] [(.int p1)]))
  refine go (fun _ => XS.iloadN X0.here hx rfl (hb hby d23_1) rfl) ?_
  show Go _ p e below s _ _ _ (s₁.setTop (mkF m 2 #[.val (.int p1), .val (.int p2)] [(.int p2), (.int p1)]))
  refine go (fun _ => XS.aconstNull X0.here hx rfl (hb hby d23_2)) ?_
  show Go _ p e below s _ _ _ (s₁.setTop (mkF m 3 #[.val (.int p1), .val (.int p2)] [.null, (.int p2), (.int p1)]))
  obtain ⟨_, _, ⟨T156, L156, k156, n156⟩, -, X156, ⟨Lc156, hQ156, l156, y156, z156⟩, st156⟩ := Jvm.LawKit.callS X0 hx (y := (⟨"jdk/internal/util/Preconditions", "checkIndex", "(IILjava/util/function/BiFunction;)I"⟩ : MethodName)) hown (mvT hZ (hw _ (List.mem_of_getElem? (i := 177) rfl))) (mvT hZ (hw _ (List.mem_of_getElem? (i := 178) rfl))) (mvT hZ (hw _ (List.mem_of_getElem? (i := 179) rfl))) (mvT hZ (hw _ (List.mem_of_getElem? (i := 180) rfl))) (by decide) (backOf (W := 0) (rm24 l Z a0 hw [] p1 p2 h0 n0 Z0 h1 h2) hZ (hw _ (List.mem_of_getElem? (i := 180) rfl)) (hw _ (List.mem_of_getElem? (i := 179) rfl)) (by decide) (by decide)) (g := (mkF m 3 #[.val (.int p1), .val (.int p2)] [.null, (.int p2), (.int p1)])) rfl (by rw [hml]; rfl) (argsL := [(.int p1), (.int p2), .null]) (rest := []) (lenOf pd_23_0 rfl) rfl (by show 2 * 0 + _ ≤ _; exact Nat.le_of_eq rfl) (hb hby d23_3) (fun _ _ => ⟨rfl, e0, (by decide : 0 + 0 ≤ _), (by decide : 0 + 0 ≤ _)⟩)
  dsimp only [Pt.U, Pt.locs, Pt.cells, Pt.slots] at X156 l156 y156 z156 st156 hQ156
  subst l156 y156 z156
  obtain ⟨rfl, N156q, e156⟩ := hQ156
  have N156 := Fr.app N0 N156q
  refine go st156 ?_
  show Go _ p e below s _ _ _ (T156.setTop (mkF m 6 #[.val (.int p1), .val (.int p2)] [(.int p1)]))
  refine goRet X156 hx Bd.notSynchronized Bd.returns rfl (Or.inl ⟨rfl, Or.inl rfl, _, rfl⟩) (hb hby d23_6) (by decide) (by decide) (by rw [e156]; refine ⟨rfl, N156, rfl⟩)
theorem d25_0 : decode jdk_38_method_18_code 0 = .ok (.aload_n 0, 1) := by decide +kernel
theorem d25_1 : decode jdk_38_method_18_code 1 = .ok (.getfield 9, 3) := by decide +kernel
theorem d25_4 : decode jdk_38_method_18_code 4 = .ok (.iload_n 1, 1) := by decide +kernel
theorem d25_5 : decode jdk_38_method_18_code 5 = .ok (.aaload, 1) := by decide +kernel
theorem d25_6 : decode jdk_38_method_18_code 6 = .ok (.areturn, 1) := by decide +kernel
theorem pn_ED0_1 : plainName "java/util/ArrayList" = true := by first | (simp [plainName, overriddenIn]; done) | decide +kernel
theorem ef_ED0_1 (m : MethodId) (a1 : Addr) : entryFrame m #[(.ref a1), (.int (0 : Int32))] 2 = mkF m 0 #[.val (.ref a1), .val (.int (0 : Int32))] [] := by first | (simp [entryFrame, mkF, argsToLocals, Value.category]; done) | rfl
def QED0_1 (Z : State) (a1 : Addr) (b : Addr) (k : ClassId) (v0 : Addr) (h0 : Heap) (n0 : Nat) (v : Option Value) (h : Heap) (L : List Loc) : Prop := v = some (.ref v0) ∧ Fr n0 L ∧ (h = h0)
set_option maxRecDepth 65536 in
set_option maxHeartbeats 40000000 in
theorem rmED0_1 (l : Launch) (Z : State) (a0 : Array Value) (hw : ∀ d ∈ tables_1, d.before a0 Z = true) (ws : List Jvm.Cond) (a1 : Addr) (b : Addr) (k : ClassId) (v0 : Addr) (h0 : Heap) (n0 : Nat) (Z0 : n0 ≤ h0.size) (P0 : Fld Z h0 a1 "java/util/ArrayList" "elementData" "[Ljava/lang/Object;" (.ref b)) (P1 : Exa Z h0 b "[Ljava/lang/Object;") (P2 : Arv Z h0 b k (.object "java/lang/Object") (10 : Int32) [(.ref v0), .null, .null, .null, .null, .null, .null, .null, .null, .null] .null) (P3 : Ovr Z k "java/lang/Object") :
    MetFree l (⟨"java/util/ArrayList", "elementData", "(I)Ljava/lang/Object;"⟩ : MethodName) (head1 (Jvm.Cond.code (⟨"java/util/ArrayList", "elementData", "(I)Ljava/lang/Object;"⟩ : MethodName) jdk_38_method_18_code 2 (some (.object "java/lang/Object")) :: ws) ({ frames := 0, cells := 0, slots := 0, locals := 0 } : Room)) (fun a U => a = #[(.ref a1), (.int (0 : Int32))] ∧ Z.Warmed39 U.vm ∧ U.heap = h0) (fun _ _ _ _ _ => True) (fun _ U o U' => ∃ v L, o = .returned v ∧ QED0_1 Z a1 b k v0 h0 n0 v U'.heap L ∧ FrameEnd U o U' L ({ frames := 0, cells := 0, slots := 0, locals := 0 } : Room).cells ({ frames := 0, cells := 0, slots := 0, locals := 0 } : Room).slots) := by
  refine MetFree.of_bodySF (plainFor_of_name pn_ED0_1) hisR ?_
  intro p e s m args below meth c s₁ Bd hml0 hP hK
  obtain ⟨rfl, hZ, hh⟩ := hP
  have hx := Bd.exec
  have hby := Bd.bytes
  have hml : c.maxLocals = 2 := hml0
  have hown : s.vm.findClass "java/util/ArrayList" = some m.cls := findClass_of_methodNamed Bd.named
  have hnm := (name_of_methodNamed Bd.named Bd.method).1
  have X0 : Stand p l e ({ frames := 0, cells := 0, slots := 0, locals := 0 } : Room) s m #[(.ref a1), (.int (0 : Int32))] below meth c s₁ [] 0 0 := Stand.of_body Bd
  have e0 : s₁.heap = h0 := by rw [← hh, Bd.state]; rfl
  have N0 := Fr.nil n0
  have hS0 : s.Since s.vm 0 := (State.WarmedH.refl s).since 0
  show Go FrameEnd p e below s ({ frames := 0, cells := 0, slots := 0, locals := 0 } : Room).cells ({ frames := 0, cells := 0, slots := 0, locals := 0 } : Room).slots (QED0_1 Z a1 b k v0 h0 n0) (s₁.setTop (entryFrame m #[(.ref a1), (.int (0 : Int32))] 2))
  refine go (fun _ k => castTop (ef_ED0_1 m a1) k) ?_
  show Go _ p e below s _ _ _ (s₁.setTop (mkF m 0 #[.val (.ref a1), .val (.int (0 : Int32))] []))
  refine go (fun _ => XS.aloadN X0.here hx rfl (hb hby d25_0) rfl rfl) ?_
  show Go _ p e below s _ _ _ (s₁.setTop (mkF m 1 #[.val (.ref a1), .val (.int (0 : Int32))] [(.ref a1)]))
  obtain ⟨T159, X159, e159, st159⟩ := getF X0 hx hZ hown (host := "") (Or.inl (hw _ (List.mem_of_getElem? (i := 99) rfl))) Via.refl e0 P0 (g := (mkF m 1 #[.val (.ref a1), .val (.int (0 : Int32))] [(.ref a1)])) rfl rfl (hb hby d25_1)
  refine go st159 ?_
  show Go _ p e below s _ _ _ (T159.setTop (mkF m 4 #[.val (.ref a1), .val (.int (0 : Int32))] [(.ref b)]))
  refine go (fun _ => XS.iloadN X159.here hx rfl (hb hby d25_4) rfl) ?_
  show Go _ p e below s _ _ _ (T159.setTop (mkF m 5 #[.val (.ref a1), .val (.int (0 : Int32))] [(.int (0 : Int32)), (.ref b)]))
  obtain ⟨cl160, Ar160, q160, Sz160, Nz160, Hs160, Gs160⟩ := id P2
  have hin160 : ¬ ((0 : Int32) < 0 ∨ cl160.slots.size ≤ ((0 : Int32)).toNatClampNeg) := inb_of Sz160 ⟨by decide, by decide⟩
  refine go (X159.aaload hx (j := (0 : Int32)) (v := (.ref v0)) (by rw [e159]; exact Ar160.1) (State.isArrayOf_alike hZ.alike Ar160.2.1) rfl Ar160.2.2 hin160 (Hs160.at hin160 rfl) (g := (mkF m 5 #[.val (.ref a1), .val (.int (0 : Int32))] [(.int (0 : Int32)), (.ref b)])) rfl rfl (hb hby d25_5)) ?_
  show Go _ p e below s _ _ _ (T159.setTop (mkF m 6 #[.val (.ref a1), .val (.int (0 : Int32))] [(.ref v0)]))
  refine goRet X159 hx Bd.notSynchronized Bd.returns rfl (Or.inr (Or.inr (Or.inr (Or.inr ⟨rfl, rfl, rfl⟩)))) (hb hby d25_6) (by decide) (by decide) (by rw [e159]; refine ⟨rfl, N0, rfl⟩)
theorem d22_0 : decode jdk_38_method_23_code 0 = .ok (.iload_n 1, 1) := by decide +kernel
theorem d22_1 : decode jdk_38_method_23_code 1 = .ok (.aload_n 0, 1) := by decide +kernel
theorem d22_2 : decode jdk_38_method_23_code 2 = .ok (.getfield 48, 3) := by decide +kernel
theorem d22_5 : decode jdk_38_method_23_code 5 = .ok (.invokestatic 118, 3) := by decide +kernel
theorem d22_8 : decode jdk_38_method_23_code 8 = .ok (.pop, 1) := by decide +kernel
theorem d22_9 : decode jdk_38_method_23_code 9 = .ok (.aload_n 0, 1) := by decide +kernel
theorem d22_10 : decode jdk_38_method_23_code 10 = .ok (.iload_n 1, 1) := by decide +kernel
theorem d22_11 : decode jdk_38_method_23_code 11 = .ok (.invokevirtual 123, 3) := by decide +kernel
theorem d22_14 : decode jdk_38_method_23_code 14 = .ok (.astore_n 3, 1) := by decide +kernel
theorem d22_15 : decode jdk_38_method_23_code 15 = .ok (.aload_n 0, 1) := by decide +kernel
theorem d22_16 : decode jdk_38_method_23_code 16 = .ok (.getfield 9, 3) := by decide +kernel
theorem d22_19 : decode jdk_38_method_23_code 19 = .ok (.iload_n 1, 1) := by decide +kernel
theorem d22_20 : decode jdk_38_method_23_code 20 = .ok (.aload_n 2, 1) := by decide +kernel
theorem d22_21 : decode jdk_38_method_23_code 21 = .ok (.aastore, 1) := by decide +kernel
theorem d22_22 : decode jdk_38_method_23_code 22 = .ok (.aload_n 3, 1) := by decide +kernel
theorem d22_23 : decode jdk_38_method_23_code 23 = .ok (.areturn, 1) := by decide +kernel
theorem pn_ST0_1 : plainName "java/util/ArrayList" = true := by first | (simp [plainName, overriddenIn]; done) | decide +kernel
theorem pd_22_0 : parseMethodDescriptor "(II)I" = some ⟨[.int, .int], some .int⟩ := by decide +kernel
theorem pd_22_1 : parseMethodDescriptor "(I)Ljava/lang/Object;" = some ⟨[.int], some (.object "java/lang/Object")⟩ := by decide +kernel
theorem ef_ST0_1 (m : MethodId) (a1 : Addr) : entryFrame m #[(.ref a1), (.int (0 : Int32)), .null] 4 = mkF m 0 #[.val (.ref a1), .val (.int (0 : Int32)), .val .null, .unset] [] := by first | (simp [entryFrame, mkF, argsToLocals, Value.category]; done) | rfl
def QST0_1 (Z : State) (a1 : Addr) (b : Addr) (k : ClassId) (v0 : Addr) (h0 : Heap) (n0 : Nat) (v : Option Value) (h : Heap) (L : List Loc) : Prop := v = some (.ref v0) ∧ Fr n0 L ∧ (Keep h0 h [b]) ∧ (Exa Z h b "[Ljava/lang/Object;") ∧ (Arv Z h b k (.object "java/lang/Object") (10 : Int32) [.null, .null, .null, .null, .null, .null, .null, .null, .null, .null] .null) ∧ (Ovr Z k "java/lang/Object")
set_option maxRecDepth 65536 in
set_option maxHeartbeats 40000000 in
theorem rmST0_1 (l : Launch) (Z : State) (a0 : Array Value) (hw : ∀ d ∈ tables_1, d.before a0 Z = true) (ws : List Jvm.Cond) (a1 : Addr) (b : Addr) (k : ClassId) (v0 : Addr) (h0 : Heap) (n0 : Nat) (Z0 : n0 ≤ h0.size) (P0 : Exa Z h0 a1 "java/util/ArrayList") (P1 : Fld Z h0 a1 "java/util/ArrayList" "size" "I" (.int (1 : Int32))) (P2 : Fld Z h0 a1 "java/util/ArrayList" "elementData" "[Ljava/lang/Object;" (.ref b)) (P3 : Exa Z h0 b "[Ljava/lang/Object;") (P4 : Arv Z h0 b k (.object "java/lang/Object") (10 : Int32) [(.ref v0), .null, .null, .null, .null, .null, .null, .null, .null, .null] .null) (P5 : Ovr Z k "java/lang/Object") (P6 : n0 ≤ b) (P7 : a1 ≠ b) :
    MetFree l (⟨"java/util/ArrayList", "set", "(ILjava/lang/Object;)Ljava/lang/Object;"⟩ : MethodName) (head1 (Jvm.Cond.code (⟨"java/util/ArrayList", "set", "(ILjava/lang/Object;)Ljava/lang/Object;"⟩ : MethodName) jdk_38_method_23_code 4 (some (.object "java/lang/Object")) :: ws) ({ frames := 2, cells := 0, slots := 0, locals := 27 } : Room)) (fun a U => a = #[(.ref a1), (.int (0 : Int32)), .null] ∧ Z.Warmed39 U.vm ∧ U.heap = h0) (fun _ _ _ _ _ => True) (fun _ U o U' => ∃ v L, o = .returned v ∧ QST0_1 Z a1 b k v0 h0 n0 v U'.heap L ∧ FrameEnd U o U' L ({ frames := 2, cells := 0, slots := 0, locals := 27 } : Room).cells ({ frames := 2, cells := 0, slots := 0, locals := 27 } : Room).slots) := by
  refine MetFree.of_bodySF (plainFor_of_name pn_ST0_1) hisR ?_
  intro p e s m args below meth c s₁ Bd hml0 hP hK
  obtain ⟨rfl, hZ, hh⟩ := hP
  have hx := Bd.exec
  have hby := Bd.bytes
  have hml : c.maxLocals = 4 := hml0
  have hown : s.vm.findClass "java/util/ArrayList" = some m.cls := findClass_of_methodNamed Bd.named
  have hnm := (name_of_methodNamed Bd.named Bd.method).1
  have X0 : Stand p l e ({ frames := 2, cells := 0, slots := 0, locals := 27 } : Room) s m #[(.ref a1), (.int (0 : Int32)), .null] below meth c s₁ [] 0 0 := Stand.of_body Bd
  have e0 : s₁.heap = h0 := by rw [← hh, Bd.state]; rfl
  have N0 := Fr.nil n0
  have hS0 : s.Since s.vm 0 := (State.WarmedH.refl s).since 0
  show Go FrameEnd p e below s ({ frames := 2, cells := 0, slots := 0, locals := 27 } : Room).cells ({ frames := 2, cells := 0, slots := 0, locals := 27 } : Room).slots (QST0_1 Z a1 b k v0 h0 n0) (s₁.setTop (entryFrame m #[(.ref a1), (.int (0 : Int32)), .null] 4))
  refine go (fun _ k => castTop (ef_ST0_1 m a1) k) ?_
  show Go _ p e below s _ _ _ (s₁.setTop (mkF m 0 #[.val (.ref a1), .val (.int (0 : Int32)), .val .null, .unset] []))
  refine go (fun _ => XS.iloadN X0.here hx rfl (hb hby d22_0) rfl) ?_
  show Go _ p e below s _ _ _ (s₁.setTop (mkF m 1 #[.val (.ref a1), .val (.int (0 : Int32)), .val .null, .unset] [(.int (0 : Int32))]))
  refine go (fun _ => XS.aloadN X0.here hx rfl (hb hby d22_1) rfl rfl) ?_
  show Go _ p e below s _ _ _ (s₁.setTop (mkF m 2 #[.val (.ref a1), .val (.int (0 : Int32)), .val .null, .unset] [(.ref a1), (.int (0 : Int32))]))
  obtain ⟨T166, X166, e166, st166⟩ := getF X0 hx hZ hown (host := "") (Or.inl (hw _ (List.mem_of_getElem? (i := 125) rfl))) Via.refl e0 P1 (g := (mkF m 2 #[.val (.ref a1), .val (.int (0 : Int32)), .val .null, .unset] [(.ref a1), (.int (0 : Int32))])) rfl rfl (hb hby d22_2)
  refine go st166 ?_
  show Go _ p e below s _ _ _ (T166.setTop (mkF m 5 #[.val (.ref a1), .val (.int (0 : Int32)), .val .null, .unset] [(.int (1 : Int32)), (.int (0 : Int32))]))
  obtain ⟨_, _, ⟨T167, L167, k167, n167⟩, -, X167, ⟨Lc167, hQ167, l167, y167, z167⟩, st167⟩ := Jvm.LawKit.callS X166 hx (y := (⟨"java/util/Objects", "checkIndex", "(II)I"⟩ : MethodName)) hown (mvT hZ (hw _ (List.mem_of_getElem? (i := 174) rfl))) (mvT hZ (hw _ (List.mem_of_getElem? (i := 175) rfl))) (mvT hZ (hw _ (List.mem_of_getElem? (i := 61) rfl))) (mvT hZ (hw _ (List.mem_of_getElem? (i := 176) rfl))) (by decide) (backOf (W := 0) (rm23 l Z a0 hw [] (0 : Int32) (1 : Int32) h0 n0 Z0 (by decide) (by decide)) hZ (hw _ (List.mem_of_getElem? (i := 176) rfl)) (hw _ (List.mem_of_getElem? (i := 61) rfl)) (by decide) (by decide)) (g := (mkF m 5 #[.val (.ref a1), .val (.int (0 : Int32)), .val .null, .unset] [(.int (1 : Int32)), (.int (0 : Int32))])) rfl (by rw [hml]; rfl) (argsL := [(.int (0 : Int32)), (.int (1 : Int32))]) (rest := []) (lenOf pd_22_0 rfl) rfl (by show 2 * 0 + _ ≤ _; exact Nat.le_of_eq rfl) (hb hby d22_5) (fun _ _ => ⟨rfl, e166, (by decide : 0 + 0 ≤ _), (by decide : 0 + 0 ≤ _)⟩)
  dsimp only [Pt.U, Pt.locs, Pt.cells, Pt.slots] at X167 l167 y167 z167 st167 hQ167
  subst l167 y167 z167
  obtain ⟨rfl, N167q, e167⟩ := hQ167
  have N167 := Fr.app N0 N167q
  refine go st167 ?_
  show Go _ p e below s _ _ _ (T167.setTop (mkF m 8 #[.val (.ref a1), .val (.int (0 : Int32)), .val .null, .unset] [(.int (0 : Int32))]))
  refine go (fun _ => XS.pop X167.here hx rfl (hb hby d22_8) rfl rfl) ?_
  show Go _ p e below s _ _ _ (T167.setTop (mkF m 9 #[.val (.ref a1), .val (.int (0 : Int32)), .val .null, .unset] []))
  refine go (fun _ => XS.aloadN X167.here hx rfl (hb hby d22_9) rfl rfl) ?_
  show Go _ p e below s _ _ _ (T167.setTop (mkF m 10 #[.val (.ref a1), .val (.int (0 : Int32)), .val .null, .unset] [(.ref a1)]))
  refine go (fun _ => XS.iloadN X167.here hx rfl (hb hby d22_10) rfl) ?_
  show Go _ p e below s _ _ _ (T167.setTop (mkF m 11 #[.val (.ref a1), .val (.int (0 : Int32)), .val .null, .unset] [(.int (0 : Int32)), (.ref a1)]))
  obtain ⟨cq168, kq168, q168a, q168b, q168c⟩ := isOf hZ e167 P0
  obtain ⟨_, _, ⟨T168, L168, k168, n168⟩, -, X168, ⟨Lc168, hQ168, l168, y168, z168⟩, st168⟩ := X167.virtualBack hx (y := (⟨"java/util/ArrayList", "elementData", "(I)Ljava/lang/Object;"⟩ : MethodName)) (z := (⟨"java/util/ArrayList", "elementData", "(I)Ljava/lang/Object;"⟩ : MethodName)) hown (mvT hZ (hw _ (List.mem_of_getElem? (i := 181) rfl))) (mvT hZ (hw _ (List.mem_of_getElem? (i := 182) rfl))) (notFace_of_selects (args := #[]) (mvT hZ (hw _ (List.mem_of_getElem? (i := 184) rfl)))) (mvT hZ (hw _ (List.mem_of_getElem? (i := 184) rfl))) (mvT hZ (hw _ (List.mem_of_getElem? (i := 183) rfl))) (by decide) (backOf (W := 0) (rmED0_1 l Z a0 hw [] a1 b k v0 h0 n0 Z0 P2 P3 P4 P5) hZ (hw _ (List.mem_of_getElem? (i := 185) rfl)) (hw _ (List.mem_of_getElem? (i := 79) rfl)) (by decide) (by decide)) q168a q168c (g := (mkF m 11 #[.val (.ref a1), .val (.int (0 : Int32)), .val .null, .unset] [(.int (0 : Int32)), (.ref a1)])) rfl (by rw [hml]; rfl) (Steps.refl _) (argsL := [(.int (0 : Int32))]) (rest := []) (lenOf pd_22_1 rfl) rfl (by show 2 * 0 + _ ≤ _; exact Nat.le_of_eq rfl) (hb hby d22_11) (fun _ _ => ⟨rfl, e167, (by decide : 0 + 0 ≤ _), (by decide : 0 + 0 ≤ _)⟩)
  dsimp only [Pt.U, Pt.locs, Pt.cells, Pt.slots] at X168 l168 y168 z168 st168 hQ168
  subst l168 y168 z168
  obtain ⟨rfl, N168q, e168⟩ := hQ168
  have N168 := Fr.app N167 N168q
  refine goT st168 ?_
  show Go _ p e below s _ _ _ (T168.setTop (mkF m 14 #[.val (.ref a1), .val (.int (0 : Int32)), .val .null, .unset] [(.ref v0)]))
  refine go (fun _ => XS.astoreN X168.here hx rfl (hb hby d22_14) rfl rfl (l' := #[.val (.ref a1), .val (.int (0 : Int32)), .val .null, .val (.ref v0)]) rfl) ?_
  show Go _ p e below s _ _ _ (T168.setTop (mkF m 15 #[.val (.ref a1), .val (.int (0 : Int32)), .val .null, .val (.ref v0)] []))
  refine go (fun _ => XS.aloadN X168.here hx rfl (hb hby d22_15) rfl rfl) ?_
  show Go _ p e below s _ _ _ (T168.setTop (mkF m 16 #[.val (.ref a1), .val (.int (0 : Int32)), .val .null, .val (.ref v0)] [(.ref a1)]))
  obtain ⟨T169, X169, e169, st169⟩ := getF X168 hx hZ hown (host := "") (Or.inl (hw _ (List.mem_of_getElem? (i := 99) rfl))) Via.refl e168 P2 (g := (mkF m 16 #[.val (.ref a1), .val (.int (0 : Int32)), .val .null, .val (.ref v0)] [(.ref a1)])) rfl rfl (hb hby d22_16)
  refine go st169 ?_
  show Go _ p e below s _ _ _ (T169.setTop (mkF m 19 #[.val (.ref a1), .val (.int (0 : Int32)), .val .null, .val (.ref v0)] [(.ref b)]))
  refine go (fun _ => XS.iloadN X169.here hx rfl (hb hby d22_19) rfl) ?_
  show Go _ p e below s _ _ _ (T169.setTop (mkF m 20 #[.val (.ref a1), .val (.int (0 : Int32)), .val .null, .val (.ref v0)] [(.int (0 : Int32)), (.ref b)]))
  refine go (fun _ => XS.aloadN X169.here hx rfl (hb hby d22_20) rfl rfl) ?_
  show Go _ p e below s _ _ _ (T169.setTop (mkF m 21 #[.val (.ref a1), .val (.int (0 : Int32)), .val .null, .val (.ref v0)] [.null, (.int (0 : Int32)), (.ref b)]))
  obtain ⟨cl170, Ar170, q170, Sz170, Nz170, Hs170, Gs170⟩ := id P4
  have hin170 : ¬ ((0 : Int32) < 0 ∨ cl170.slots.size ≤ ((0 : Int32)).toNatClampNeg) := inb_of Sz170 ⟨by decide, by decide⟩
  obtain ⟨T170, h170, X170, e170, W170, st170⟩ := stR X169 hx hZ e169 Ar170 (j := (0 : Int32)) hin170 rfl (Or.inl rfl) (g := (mkF m 21 #[.val (.ref a1), .val (.int (0 : Int32)), .val .null, .val (.ref v0)] [.null, (.int (0 : Int32)), (.ref b)])) rfl rfl (hb hby d22_21)
  have V170 := Arv.set Ar170 q170 Sz170 Nz170 Hs170 Gs170 rfl W170 0 rfl (Nat.le_of_ble_eq_true rfl)
  have VV170 : Arv Z h170 b k (.object "java/lang/Object") (10 : Int32) [.null, .null, .null, .null, .null, .null, .null, .null, .null, .null] .null := V170
  have c170_0 := P0.wr W170
  have c170_1 := P1.other W170 (Or.inl P7)
  have c170_2 := P2.other W170 (Or.inl P7)
  have c170_3 := P3.wr W170
  have KK170 : Keep h0 h170 [b] := (Keep.refl h0 [b]).wr W170 (Or.inl (List.mem_of_getElem? (i := 0) rfl))
  have ZN170 : n0 ≤ h170.size := Nat.le_trans Z0 (Keep.of_wr W170).1
  have NN170 := Fr.snoc X170 N168 P6
  refine go st170 ?_
  show Go _ p e below s _ _ _ (T170.setTop (mkF m 22 #[.val (.ref a1), .val (.int (0 : Int32)), .val .null, .val (.ref v0)] []))
  refine go (fun _ => XS.aloadN X170.here hx rfl (hb hby d22_22) rfl rfl) ?_
  show Go _ p e below s _ _ _ (T170.setTop (mkF m 23 #[.val (.ref a1), .val (.int (0 : Int32)), .val .null, .val (.ref v0)] [(.ref v0)]))
  refine goRet X170 hx Bd.notSynchronized Bd.returns rfl (Or.inr (Or.inr (Or.inr (Or.inr ⟨rfl, rfl, rfl⟩)))) (hb hby d22_23) (by decide) (by decide) (by rw [e170]; refine ⟨rfl, NN170, KK170, c170_3, VV170, P5⟩)
theorem d21_0 : decode prog_11_method_3_code 0 = .ok (.aload_n 0, 1) := by decide +kernel
theorem d21_1 : decode prog_11_method_3_code 1 = .ok (.getfield 10, 3) := by decide +kernel
theorem d21_4 : decode prog_11_method_3_code 4 = .ok (.aload_n 1, 1) := by decide +kernel
theorem d21_5 : decode prog_11_method_3_code 5 = .ok (.getfield 22, 3) := by decide +kernel
theorem d21_8 : decode prog_11_method_3_code 8 = .ok (.aconst_null, 1) := by decide +kernel
theorem d21_9 : decode prog_11_method_3_code 9 = .ok (.invokeinterface 35 3, 5) := by decide +kernel
theorem d21_14 : decode prog_11_method_3_code 14 = .ok (.pop, 1) := by decide +kernel
theorem d21_15 : decode prog_11_method_3_code 15 = .ok (.aload_n 0, 1) := by decide +kernel
theorem d21_16 : decode prog_11_method_3_code 16 = .ok (.dup, 1) := by decide +kernel
theorem d21_17 : decode prog_11_method_3_code 17 = .ok (.getfield 32, 3) := by decide +kernel
theorem d21_20 : decode prog_11_method_3_code 20 = .ok (.iconst 1, 1) := by decide +kernel
theorem d21_21 : decode prog_11_method_3_code 21 = .ok (.isub, 1) := by decide +kernel
theorem d21_22 : decode prog_11_method_3_code 22 = .ok (.putfield 32, 3) := by decide +kernel
theorem d21_25 : decode prog_11_method_3_code 25 = .ok (.return_, 1) := by decide +kernel
theorem pn_RM0_1_1 : plainName "com/example/reticule/reticule/engine/ActivationRuns" = true := by first | (simp [plainName, overriddenIn]; done) | decide +kernel
theorem pd_21_0 : parseMethodDescriptor "(ILjava/lang/Object;)Ljava/lang/Object;" = some ⟨[.int, (.object "java/lang/Object")], some (.object "java/lang/Object")⟩ := by decide +kernel
theorem ef_RM0_1_1 (m : MethodId) (a1 : Addr) (a2 : Addr) : entryFrame m #[(.ref a1), (.ref a2)] 2 = mkF m 0 #[.val (.ref a1), .val (.ref a2)] [] := by first | (simp [entryFrame, mkF, argsToLocals, Value.category]; done) | rfl
def QRM0_1_1 (Z : State) (a1 : Addr) (a2 : Addr) (ls : Addr) (b : Addr) (k : ClassId) (v0 : Addr) (h0 : Heap) (n0 : Nat) (v : Option Value) (h : Heap) (L : List Loc) : Prop := v = none ∧ Fr n0 L ∧ (Keep h0 h [a1, b]) ∧ (Fld Z h a1 "com/example/reticule/reticule/engine/ActivationRuns" "entries" "Ljava/util/List;" (.ref ls)) ∧ (Fld Z h a1 "com/example/reticule/reticule/engine/ActivationRuns" "count" "I" (.int (0 : Int32))) ∧ (Exa Z h b "[Ljava/lang/Object;") ∧ (Arv Z h b k (.object "java/lang/Object") (10 : Int32) [.null, .null, .null, .null, .null, .null, .null, .null, .null, .null] .null) ∧ (Ovr Z k "java/lang/Object")
set_option maxRecDepth 65536 in
set_option maxHeartbeats 40000000 in
theorem rmRM0_1_1 (l : Launch) (Z : State) (a0 : Array Value) (hw : ∀ d ∈ tables_1, d.before a0 Z = true) (ws : List Jvm.Cond) (a1 : Addr) (a2 : Addr) (ls : Addr) (b : Addr) (k : ClassId) (v0 : Addr) (h0 : Heap) (n0 : Nat) (Z0 : n0 ≤ h0.size) (P0 : Fld Z h0 a1 "com/example/reticule/reticule/engine/ActivationRuns" "entries" "Ljava/util/List;" (.ref ls)) (P1 : Fld Z h0 a1 "com/example/reticule/reticule/engine/ActivationRuns" "count" "I" (.int (1 : Int32))) (P2 : Fld Z h0 ls "java/util/ArrayList" "elementData" "[Ljava/lang/Object;" (.ref b)) (P3 : Exa Z h0 a1 "com/example/reticule/reticule/engine/ActivationRuns") (P4 : n0 ≤ a1) (P5 : n0 ≤ b) (P6 : Exa Z h0 ls "java/util/ArrayList") (P7 : Fld Z h0 ls "java/util/ArrayList" "size" "I" (.int (1 : Int32))) (P8 : Fld Z h0 a2 "com/example/reticule/reticule/engine/Activation" "place" "I" (.int (0 : Int32))) (P9 : Exa Z h0 b "[Ljava/lang/Object;") (P10 : Arv Z h0 b k (.object "java/lang/Object") (10 : Int32) [(.ref v0), .null, .null, .null, .null, .null, .null, .null, .null, .null] .null) (P11 : Ovr Z k "java/lang/Object") (P12 : a1 ≠ a2) (P13 : a1 ≠ ls) (P14 : a1 ≠ b) (P15 : a2 ≠ ls) (P16 : a2 ≠ b) (P17 : ls ≠ b) :
    MetFree l (⟨"com/example/reticule/reticule/engine/ActivationRuns", "remove", "(Lcom/example/reticule/reticule/engine/Activation;)V"⟩ : MethodName) (head1 (Jvm.Cond.code (⟨"com/example/reticule/reticule/engine/ActivationRuns", "remove", "(Lcom/example/reticule/reticule/engine/Activation;)V"⟩ : MethodName) prog_11_method_3_code 2 none :: ws) ({ frames := 3, cells := 0, slots := 0, locals := 42 } : Room)) (fun a U => a = #[(.ref a1), (.ref a2)] ∧ Z.Warmed39 U.vm ∧ U.heap = h0) (fun _ _ _ _ _ => True) (fun _ U o U' => ∃ v L, o = .returned v ∧ QRM0_1_1 Z a1 a2 ls b k v0 h0 n0 v U'.heap L ∧ FrameEnd U o U' L ({ frames := 3, cells := 0, slots := 0, locals := 42 } : Room).cells ({ frames := 3, cells := 0, slots := 0, locals := 42 } : Room).slots) := by
  refine MetFree.of_bodySF (plainFor_of_name pn_RM0_1_1) hisR ?_
  intro p e s m args below meth c s₁ Bd hml0 hP hK
  obtain ⟨rfl, hZ, hh⟩ := hP
  have hx := Bd.exec
  have hby := Bd.bytes
  have hml : c.maxLocals = 2 := hml0
  have hown : s.vm.findClass "com/example/reticule/reticule/engine/ActivationRuns" = some m.cls := findClass_of_methodNamed Bd.named
  have hnm := (name_of_methodNamed Bd.named Bd.method).1
  have X0 : Stand p l e ({ frames := 3, cells := 0, slots := 0, locals := 42 } : Room) s m #[(.ref a1), (.ref a2)] below meth c s₁ [] 0 0 := Stand.of_body Bd
  have e0 : s₁.heap = h0 := by rw [← hh, Bd.state]; rfl
  have N0 := Fr.nil n0
  have hS0 : s.Since s.vm 0 := (State.WarmedH.refl s).since 0
  show Go FrameEnd p e below s ({ frames := 3, cells := 0, slots := 0, locals := 42 } : Room).cells ({ frames := 3, cells := 0, slots := 0, locals := 42 } : Room).slots (QRM0_1_1 Z a1 a2 ls b k v0 h0 n0) (s₁.setTop (entryFrame m #[(.ref a1), (.ref a2)] 2))
  refine go (fun _ k => castTop (ef_RM0_1_1 m a1 a2) k) ?_
  show Go _ p e below s _ _ _ (s₁.setTop (mkF m 0 #[.val (.ref a1), .val (.ref a2)] []))
  refine go (fun _ => XS.aloadN X0.here hx rfl (hb hby d21_0) rfl rfl) ?_
  show Go _ p e below s _ _ _ (s₁.setTop (mkF m 1 #[.val (.ref a1), .val (.ref a2)] [(.ref a1)]))
  obtain ⟨T176, X176, e176, st176⟩ := getF X0 hx hZ hown (host := "") (Or.inl (hw _ (List.mem_of_getElem? (i := 101) rfl))) Via.refl e0 P0 (g := (mkF m 1 #[.val (.ref a1), .val (.ref a2)] [(.ref a1)])) rfl rfl (hb hby d21_1)
  refine go st176 ?_
  show Go _ p e below s _ _ _ (T176.setTop (mkF m 4 #[.val (.ref a1), .val (.ref a2)] [(.ref ls)]))
  refine go (fun _ => XS.aloadN X176.here hx rfl (hb hby d21_4) rfl rfl) ?_
  show Go _ p e below s _ _ _ (T176.setTop (mkF m 5 #[.val (.ref a1), .val (.ref a2)] [(.ref a2), (.ref ls)]))
  obtain ⟨T177, X177, e177, st177⟩ := getF X176 hx hZ hown (host := "") (Or.inl (hw _ (List.mem_of_getElem? (i := 127) rfl))) Via.refl e176 P8 (g := (mkF m 5 #[.val (.ref a1), .val (.ref a2)] [(.ref a2), (.ref ls)])) rfl rfl (hb hby d21_5)
  refine go st177 ?_
  show Go _ p e below s _ _ _ (T177.setTop (mkF m 8 #[.val (.ref a1), .val (.ref a2)] [(.int (0 : Int32)), (.ref ls)]))
  refine go (fun _ => XS.aconstNull X177.here hx rfl (hb hby d21_8)) ?_
  show Go _ p e below s _ _ _ (T177.setTop (mkF m 9 #[.val (.ref a1), .val (.ref a2)] [.null, (.int (0 : Int32)), (.ref ls)]))
  obtain ⟨cq178, kq178, q178a, q178b, q178c⟩ := isOf hZ e177 P6
  obtain ⟨_, _, ⟨T178, L178, k178, n178⟩, -, X178, ⟨Lc178, hQ178, l178, y178, z178⟩, st178⟩ := X177.interfaceBack hx (xi := (⟨"java/util/List", "set", "(ILjava/lang/Object;)Ljava/lang/Object;"⟩ : MethodName)) (y := (⟨"java/util/ArrayList", "set", "(ILjava/lang/Object;)Ljava/lang/Object;"⟩ : MethodName)) hown (mvT hZ (hw _ (List.mem_of_getElem? (i := 166) rfl))) (mvT hZ (hw _ (List.mem_of_getElem? (i := 167) rfl))) (mvT hZ (hw _ (List.mem_of_getElem? (i := 168) rfl))) (mvT hZ (hw _ (List.mem_of_getElem? (i := 169) rfl))) (mvT hZ (hw _ (List.mem_of_getElem? (i := 170) rfl))) (mvT hZ (hw _ (List.mem_of_getElem? (i := 171) rfl))) (mvT hZ (hw _ (List.mem_of_getElem? (i := 172) rfl))) (mvT hZ (hw _ (List.mem_of_getElem? (i := 123) rfl))) (by decide) (backOf (W := 0) (rmST0_1 l Z a0 hw [] ls b k v0 h0 n0 Z0 P6 P7 P2 P9 P10 P11 P5 P17) hZ (hw _ (List.mem_of_getElem? (i := 173) rfl)) (hw _ (List.mem_of_getElem? (i := 79) rfl)) (by decide) (by decide)) q178a q178b q178c (g := (mkF m 9 #[.val (.ref a1), .val (.ref a2)] [.null, (.int (0 : Int32)), (.ref ls)])) rfl (by rw [hml]; rfl) (Steps.refl _) (argsL := [(.int (0 : Int32)), .null]) (rest := []) (lenOf pd_21_0 rfl) rfl (by show 2 * 0 + _ ≤ _; exact Nat.le_of_eq rfl) (hb hby d21_9) (fun _ _ => ⟨rfl, e177, (by decide : 0 + 0 ≤ _), (by decide : 0 + 0 ≤ _)⟩)
  dsimp only [Pt.U, Pt.locs, Pt.cells, Pt.slots] at X178 l178 y178 z178 st178 hQ178
  subst l178 y178 z178
  obtain ⟨rfl, N178q, K178, u178_1, u178_2, u178_3⟩ := hQ178
  have N178 := Fr.app N0 N178q
  have c178_0 := P0.keep K178 (ninS P14 nin0)
  have c178_1 := P1.keep K178 (ninS P14 nin0)
  have c178_2 := P2.keep K178 (ninS P17 nin0)
  have c178_3 := P3.keep K178
  have c178_4 := P6.keep K178
  have c178_5 := P7.keep K178 (ninS P17 nin0)
  have c178_6 := P8.keep K178 (ninS P16 nin0)
  have c178_7 := P9.keep K178
  have KK178 : Keep h0 T178.heap [a1, b] := (Keep.refl h0 [a1, b]).trans K178 (allS (P := fun x => x ∈ [a1, b] ∨ h0.size ≤ x) (Or.inl (List.mem_of_getElem? (i := 1) rfl)) all0)
  have ZN178 : n0 ≤ T178.heap.size := Nat.le_trans Z0 K178.1
  refine goT st178 ?_
  show Go _ p e below s _ _ _ (T178.setTop (mkF m 14 #[.val (.ref a1), .val (.ref a2)] [(.ref v0)]))
  refine go (fun _ => XS.pop X178.here hx rfl (hb hby d21_14) rfl rfl) ?_
  show Go _ p e below s _ _ _ (T178.setTop (mkF m 15 #[.val (.ref a1), .val (.ref a2)] []))
  refine go (fun _ => XS.aloadN X178.here hx rfl (hb hby d21_15) rfl rfl) ?_
  show Go _ p e below s _ _ _ (T178.setTop (mkF m 16 #[.val (.ref a1), .val (.ref a2)] [(.ref a1)]))
  refine go (fun _ => XS.dup X178.here hx rfl (hb hby d21_16) rfl rfl) ?_
  show Go _ p e below s _ _ _ (T178.setTop (mkF m 17 #[.val (.ref a1), .val (.ref a2)] [(.ref a1), (.ref a1)]))
  obtain ⟨T179, X179, e179, st179⟩ := getF X178 hx hZ hown (host := "") (Or.inl (hw _ (List.mem_of_getElem? (i := 108) rfl))) Via.refl rfl c178_1 (g := (mkF m 17 #[.val (.ref a1), .val (.ref a2)] [(.ref a1), (.ref a1)])) rfl rfl (hb hby d21_17)
  refine go st179 ?_
  show Go _ p e below s _ _ _ (T179.setTop (mkF m 20 #[.val (.ref a1), .val (.ref a2)] [(.int (1 : Int32)), (.ref a1)]))
  refine go (fun _ => XS.iconst X179.here hx rfl (hb hby d21_20)) ?_
  show Go _ p e below s _ _ _ (T179.setTop (mkF m 21 #[.val (.ref a1), .val (.ref a2)] [(.int (1 : Int32)), (.int (1 : Int32)), (.ref a1)]))
  refine go (fun _ => XS.isub X179.here hx rfl (hb hby d21_21) rfl) ?_
  show Go _ p e below s _ _ _ (T179.setTop (mkF m 22 #[.val (.ref a1), .val (.ref a2)] [(.int (0 : Int32)), (.ref a1)]))
  obtain ⟨T180, h180, X180, e180, W180, st180⟩ := putF X179 hx hZ hown (host := "") (Or.inl (hw _ (List.mem_of_getElem? (i := 108) rfl))) Via.refl e179 c178_1 c178_3 (Or.inl (hw _ (List.mem_of_getElem? (i := 109) rfl))) (hw _ (List.mem_of_getElem? (i := 71) rfl)) (ty := .int) (by decide) rfl rfl (g := (mkF m 22 #[.val (.ref a1), .val (.ref a2)] [(.int (0 : Int32)), (.ref a1)])) rfl rfl (hb hby d21_22)
  have Fw180 := c178_1.same W180
  have c180_0 := c178_0.other W180 (Or.inr (slot_ne (Or.inr (hw _ (List.mem_of_getElem? (i := 102) rfl))) (Or.inl (hw _ (List.mem_of_getElem? (i := 109) rfl))) (by decide) (t := (.object "java/util/List")) (t' := .int) (by decide) (by decide)))
  have c180_2 := c178_2.other W180 (Or.inl (Ne.symm P13))
  have c180_3 := c178_3.wr W180
  have c180_4 := c178_4.wr W180
  have c180_5 := c178_5.other W180 (Or.inl (Ne.symm P13))
  have c180_6 := c178_6.other W180 (Or.inl (Ne.symm P12))
  have c180_7 := u178_1.wr W180
  have c180_8 := u178_2.other W180 (Ne.symm P14)
  have KK180 : Keep h0 h180 [a1, b] := KK178.wr W180 (Or.inl (List.mem_of_getElem? (i := 0) rfl))
  have ZN180 : n0 ≤ h180.size := Nat.le_trans ZN178 (Keep.of_wr W180).1
  have NN180 := Fr.snoc X180 N178 P4
  refine go st180 ?_
  show Go _ p e below s _ _ _ (T180.setTop (mkF m 25 #[.val (.ref a1), .val (.ref a2)] []))
  refine goRet0 X180 hx Bd.notSynchronized Bd.returns (hb hby d21_25) (by decide) (by decide) (by rw [e180]; refine ⟨rfl, NN180, KK180, c180_0, Fw180, c180_7, c180_8, u178_3⟩)
theorem pn_ED0_2 : plainName "java/util/ArrayList" = true := by first | (simp [plainName, overriddenIn]; done) | decide +kernel
theorem ef_ED0_2 (m : MethodId) (a1 : Addr) : entryFrame m #[(.ref a1), (.int (0 : Int32))] 2 = mkF m 0 #[.val (.ref a1), .val (.int (0 : Int32))] [] := by first | (simp [entryFrame, mkF, argsToLocals, Value.category]; done) | rfl
def QED0_2 (Z : State) (a1 : Addr) (b : Addr) (k : ClassId) (v0 : Addr) (u1 : Value) (h0 : Heap) (n0 : Nat) (v : Option Value) (h : Heap) (L : List Loc) : Prop := v = some (.ref v0) ∧ Fr n0 L ∧ (h = h0)
set_option maxRecDepth 65536 in
set_option maxHeartbeats 40000000 in
theorem rmED0_2 (l : Launch) (Z : State) (a0 : Array Value) (hw : ∀ d ∈ tables_1, d.before a0 Z = true) (ws : List Jvm.Cond) (a1 : Addr) (b : Addr) (k : ClassId) (v0 : Addr) (u1 : Value) (h0 : Heap) (n0 : Nat) (Z0 : n0 ≤ h0.size) (P0 : Fld Z h0 a1 "java/util/ArrayList" "elementData" "[Ljava/lang/Object;" (.ref b)) (P1 : Exa Z h0 b "[Ljava/lang/Object;") (P2 : Arv Z h0 b k (.object "java/lang/Object") (10 : Int32) [(.ref v0), u1, .null, .null, .null, .null, .null, .null, .null, .null] .null) (P3 : Ovr Z k "java/lang/Object") :
    MetFree l (⟨"java/util/ArrayList", "elementData", "(I)Ljava/lang/Object;"⟩ : MethodName) (head1 (Jvm.Cond.code (⟨"java/util/ArrayList", "elementData", "(I)Ljava/lang/Object;"⟩ : MethodName) jdk_38_method_18_code 2 (some (.object "java/lang/Object")) :: ws) ({ frames := 0, cells := 0, slots := 0, locals := 0 } : Room)) (fun a U => a = #[(.ref a1), (.int (0 : Int32))] ∧ Z.Warmed39 U.vm ∧ U.heap = h0) (fun _ _ _ _ _ => True) (fun _ U o U' => ∃ v L, o = .returned v ∧ QED0_2 Z a1 b k v0 u1 h0 n0 v U'.heap L ∧ FrameEnd U o U' L ({ frames := 0, cells := 0, slots := 0, locals := 0 } : Room).cells ({ frames := 0, cells := 0, slots := 0, locals := 0 } : Room).slots) := by
  refine MetFree.of_bodySF (plainFor_of_name pn_ED0_2) hisR ?_
  intro p e s m args below meth c s₁ Bd hml0 hP hK
  obtain ⟨rfl, hZ, hh⟩ := hP
  have hx := Bd.exec
  have hby := Bd.bytes
  have hml : c.maxLocals = 2 := hml0
  have hown : s.vm.findClass "java/util/ArrayList" = some m.cls := findClass_of_methodNamed Bd.named
  have hnm := (name_of_methodNamed Bd.named Bd.method).1
  have X0 : Stand p l e ({ frames := 0, cells := 0, slots := 0, locals := 0 } : Room) s m #[(.ref a1), (.int (0 : Int32))] below meth c s₁ [] 0 0 := Stand.of_body Bd
  have e0 : s₁.heap = h0 := by rw [← hh, Bd.state]; rfl
  have N0 := Fr.nil n0
  have hS0 : s.Since s.vm 0 := (State.WarmedH.refl s).since 0
  show Go FrameEnd p e below s ({ frames := 0, cells := 0, slots := 0, locals := 0 } : Room).cells ({ frames := 0, cells := 0, slots := 0, locals := 0 } : Room).slots (QED0_2 Z a1 b k v0 u1 h0 n0) (s₁.setTop (entryFrame m #[(.ref a1), (.int (0 : Int32))] 2))
  refine go (fun _ k => castTop (ef_ED0_2 m a1) k) ?_
  show Go _ p e below s _ _ _ (s₁.setTop (mkF m 0 #[.val (.ref a1), .val (.int (0 : Int32))] []))
  refine go (fun _ => XS.aloadN X0.here hx rfl (hb hby d25_0) rfl rfl) ?_
  show Go _ p e below s _ _ _ (s₁.setTop (mkF m 1 #[.val (.ref a1), .val (.int (0 : Int32))] [(.ref a1)]))
  obtain ⟨T183, X183, e183, st183⟩ := getF X0 hx hZ hown (host := "") (Or.inl (hw _ (List.mem_of_getElem? (i := 99) rfl))) Via.refl e0 P0 (g := (mkF m 1 #[.val (.ref a1), .val (.int (0 : Int32))] [(.ref a1)])) rfl rfl (hb hby d25_1)
  refine go st183 ?_
  show Go _ p e below s _ _ _ (T183.setTop (mkF m 4 #[.val (.ref a1), .val (.int (0 : Int32))] [(.ref b)]))
  refine go (fun _ => XS.iloadN X183.here hx rfl (hb hby d25_4) rfl) ?_
  show Go _ p e below s _ _ _ (T183.setTop (mkF m 5 #[.val (.ref a1), .val (.int (0 : Int32))] [(.int (0 : Int32)), (.ref b)]))
  obtain ⟨cl184, Ar184, q184, Sz184, Nz184, Hs184, Gs184⟩ := id P2
  have hin184 : ¬ ((0 : Int32) < 0 ∨ cl184.slots.size ≤ ((0 : Int32)).toNatClampNeg) := inb_of Sz184 ⟨by decide, by decide⟩
  refine go (X183.aaload hx (j := (0 : Int32)) (v := (.ref v0)) (by rw [e183]; exact Ar184.1) (State.isArrayOf_alike hZ.alike Ar184.2.1) rfl Ar184.2.2 hin184 (Hs184.at hin184 rfl) (g := (mkF m 5 #[.val (.ref a1), .val (.int (0 : Int32))] [(.int (0 : Int32)), (.ref b)])) rfl rfl (hb hby d25_5)) ?_
  show Go _ p e below s _ _ _ (T183.setTop (mkF m 6 #[.val (.ref a1), .val (.int (0 : Int32))] [(.ref v0)]))
  refine goRet X183 hx Bd.notSynchronized Bd.returns rfl (Or.inr (Or.inr (Or.inr (Or.inr ⟨rfl, rfl, rfl⟩)))) (hb hby d25_6) (by decide) (by decide) (by rw [e183]; refine ⟨rfl, N0, rfl⟩)
theorem pn_ST0_2 : plainName "java/util/ArrayList" = true := by first | (simp [plainName, overriddenIn]; done) | decide +kernel
theorem ef_ST0_2 (m : MethodId) (a1 : Addr) : entryFrame m #[(.ref a1), (.int (0 : Int32)), .null] 4 = mkF m 0 #[.val (.ref a1), .val (.int (0 : Int32)), .val .null, .unset] [] := by first | (simp [entryFrame, mkF, argsToLocals, Value.category]; done) | rfl
def QST0_2 (Z : State) (a1 : Addr) (b : Addr) (k : ClassId) (v0 : Addr) (u1 : Value) (h0 : Heap) (n0 : Nat) (v : Option Value) (h : Heap) (L : List Loc) : Prop := v = some (.ref v0) ∧ Fr n0 L ∧ (Keep h0 h [b]) ∧ (Exa Z h b "[Ljava/lang/Object;") ∧ (Arv Z h b k (.object "java/lang/Object") (10 : Int32) [.null, u1, .null, .null, .null, .null, .null, .null, .null, .null] .null) ∧ (Ovr Z k "java/lang/Object")
set_option maxRecDepth 65536 in
set_option maxHeartbeats 40000000 in
theorem rmST0_2 (l : Launch) (Z : State) (a0 : Array Value) (hw : ∀ d ∈ tables_1, d.before a0 Z = true) (ws : List Jvm.Cond) (a1 : Addr) (b : Addr) (k : ClassId) (v0 : Addr) (u1 : Value) (h0 : Heap) (n0 : Nat) (Z0 : n0 ≤ h0.size) (P0 : Exa Z h0 a1 "java/util/ArrayList") (P1 : Fld Z h0 a1 "java/util/ArrayList" "size" "I" (.int (2 : Int32))) (P2 : Fld Z h0 a1 "java/util/ArrayList" "elementData" "[Ljava/lang/Object;" (.ref b)) (P3 : Exa Z h0 b "[Ljava/lang/Object;") (P4 : Arv Z h0 b k (.object "java/lang/Object") (10 : Int32) [(.ref v0), u1, .null, .null, .null, .null, .null, .null, .null, .null] .null) (P5 : Ovr Z k "java/lang/Object") (P6 : n0 ≤ b) (P7 : a1 ≠ b) :
    MetFree l (⟨"java/util/ArrayList", "set", "(ILjava/lang/Object;)Ljava/lang/Object;"⟩ : MethodName) (head1 (Jvm.Cond.code (⟨"java/util/ArrayList", "set", "(ILjava/lang/Object;)Ljava/lang/Object;"⟩ : MethodName) jdk_38_method_23_code 4 (some (.object "java/lang/Object")) :: ws) ({ frames := 2, cells := 0, slots := 0, locals := 27 } : Room)) (fun a U => a = #[(.ref a1), (.int (0 : Int32)), .null] ∧ Z.Warmed39 U.vm ∧ U.heap = h0) (fun _ _ _ _ _ => True) (fun _ U o U' => ∃ v L, o = .returned v ∧ QST0_2 Z a1 b k v0 u1 h0 n0 v U'.heap L ∧ FrameEnd U o U' L ({ frames := 2, cells := 0, slots := 0, locals := 27 } : Room).cells ({ frames := 2, cells := 0, slots := 0, locals := 27 } : Room).slots) := by
  refine MetFree.of_bodySF (plainFor_of_name pn_ST0_2) hisR ?_
  intro p e s m args below meth c s₁ Bd hml0 hP hK
  obtain ⟨rfl, hZ, hh⟩ := hP
  have hx := Bd.exec
  have hby := Bd.bytes
  have hml : c.maxLocals = 4 := hml0
  have hown : s.vm.findClass "java/util/ArrayList" = some m.cls := findClass_of_methodNamed Bd.named
  have hnm := (name_of_methodNamed Bd.named Bd.method).1
  have X0 : Stand p l e ({ frames := 2, cells := 0, slots := 0, locals := 27 } : Room) s m #[(.ref a1), (.int (0 : Int32)), .null] below meth c s₁ [] 0 0 := Stand.of_body Bd
  have e0 : s₁.heap = h0 := by rw [← hh, Bd.state]; rfl
  have N0 := Fr.nil n0
  have hS0 : s.Since s.vm 0 := (State.WarmedH.refl s).since 0
  show Go FrameEnd p e below s ({ frames := 2, cells := 0, slots := 0, locals := 27 } : Room).cells ({ frames := 2, cells := 0, slots := 0, locals := 27 } : Room).slots (QST0_2 Z a1 b k v0 u1 h0 n0) (s₁.setTop (entryFrame m #[(.ref a1), (.int (0 : Int32)), .null] 4))
  refine go (fun _ k => castTop (ef_ST0_2 m a1) k) ?_
  show Go _ p e below s _ _ _ (s₁.setTop (mkF m 0 #[.val (.ref a1), .val (.int (0 : Int32)), .val .null, .unset] []))
  refine go (fun _ => XS.iloadN X0.here hx rfl (hb hby d22_0) rfl) ?_
  show Go _ p e below s _ _ _ (s₁.setTop (mkF m 1 #[.val (.ref a1), .val (.int (0 : Int32)), .val .null, .unset] [(.int (0 : Int32))]))
  refine go (fun _ => XS.aloadN X0.here hx rfl (hb hby d22_1) rfl rfl) ?_
  show Go _ p e below s _ _ _ (s₁.setTop (mkF m 2 #[.val (.ref a1), .val (.int (0 : Int32)), .val .null, .unset] [(.ref a1), (.int (0 : Int32))]))
  obtain ⟨T190, X190, e190, st190⟩ := getF X0 hx hZ hown (host := "") (Or.inl (hw _ (List.mem_of_getElem? (i := 125) rfl))) Via.refl e0 P1 (g := (mkF m 2 #[.val (.ref a1), .val (.int (0 : Int32)), .val .null, .unset] [(.ref a1), (.int (0 : Int32))])) rfl rfl (hb hby d22_2)
  refine go st190 ?_
  show Go _ p e below s _ _ _ (T190.setTop (mkF m 5 #[.val (.ref a1), .val (.int (0 : Int32)), .val .null, .unset] [(.int (2 : Int32)), (.int (0 : Int32))]))
  obtain ⟨_, _, ⟨T191, L191, k191, n191⟩, -, X191, ⟨Lc191, hQ191, l191, y191, z191⟩, st191⟩ := Jvm.LawKit.callS X190 hx (y := (⟨"java/util/Objects", "checkIndex", "(II)I"⟩ : MethodName)) hown (mvT hZ (hw _ (List.mem_of_getElem? (i := 174) rfl))) (mvT hZ (hw _ (List.mem_of_getElem? (i := 175) rfl))) (mvT hZ (hw _ (List.mem_of_getElem? (i := 61) rfl))) (mvT hZ (hw _ (List.mem_of_getElem? (i := 176) rfl))) (by decide) (backOf (W := 0) (rm23 l Z a0 hw [] (0 : Int32) (2 : Int32) h0 n0 Z0 (by decide) (by decide)) hZ (hw _ (List.mem_of_getElem? (i := 176) rfl)) (hw _ (List.mem_of_getElem? (i := 61) rfl)) (by decide) (by decide)) (g := (mkF m 5 #[.val (.ref a1), .val (.int (0 : Int32)), .val .null, .unset] [(.int (2 : Int32)), (.int (0 : Int32))])) rfl (by rw [hml]; rfl) (argsL := [(.int (0 : Int32)), (.int (2 : Int32))]) (rest := []) (lenOf pd_22_0 rfl) rfl (by show 2 * 0 + _ ≤ _; exact Nat.le_of_eq rfl) (hb hby d22_5) (fun _ _ => ⟨rfl, e190, (by decide : 0 + 0 ≤ _), (by decide : 0 + 0 ≤ _)⟩)
  dsimp only [Pt.U, Pt.locs, Pt.cells, Pt.slots] at X191 l191 y191 z191 st191 hQ191
  subst l191 y191 z191
  obtain ⟨rfl, N191q, e191⟩ := hQ191
  have N191 := Fr.app N0 N191q
  refine go st191 ?_
  show Go _ p e below s _ _ _ (T191.setTop (mkF m 8 #[.val (.ref a1), .val (.int (0 : Int32)), .val .null, .unset] [(.int (0 : Int32))]))
  refine go (fun _ => XS.pop X191.here hx rfl (hb hby d22_8) rfl rfl) ?_
  show Go _ p e below s _ _ _ (T191.setTop (mkF m 9 #[.val (.ref a1), .val (.int (0 : Int32)), .val .null, .unset] []))
  refine go (fun _ => XS.aloadN X191.here hx rfl (hb hby d22_9) rfl rfl) ?_
  show Go _ p e below s _ _ _ (T191.setTop (mkF m 10 #[.val (.ref a1), .val (.int (0 : Int32)), .val .null, .unset] [(.ref a1)]))
  refine go (fun _ => XS.iloadN X191.here hx rfl (hb hby d22_10) rfl) ?_
  show Go _ p e below s _ _ _ (T191.setTop (mkF m 11 #[.val (.ref a1), .val (.int (0 : Int32)), .val .null, .unset] [(.int (0 : Int32)), (.ref a1)]))
  obtain ⟨cq192, kq192, q192a, q192b, q192c⟩ := isOf hZ e191 P0
  obtain ⟨_, _, ⟨T192, L192, k192, n192⟩, -, X192, ⟨Lc192, hQ192, l192, y192, z192⟩, st192⟩ := X191.virtualBack hx (y := (⟨"java/util/ArrayList", "elementData", "(I)Ljava/lang/Object;"⟩ : MethodName)) (z := (⟨"java/util/ArrayList", "elementData", "(I)Ljava/lang/Object;"⟩ : MethodName)) hown (mvT hZ (hw _ (List.mem_of_getElem? (i := 181) rfl))) (mvT hZ (hw _ (List.mem_of_getElem? (i := 182) rfl))) (notFace_of_selects (args := #[]) (mvT hZ (hw _ (List.mem_of_getElem? (i := 184) rfl)))) (mvT hZ (hw _ (List.mem_of_getElem? (i := 184) rfl))) (mvT hZ (hw _ (List.mem_of_getElem? (i := 183) rfl))) (by decide) (backOf (W := 0) (rmED0_2 l Z a0 hw [] a1 b k v0 u1 h0 n0 Z0 P2 P3 P4 P5) hZ (hw _ (List.mem_of_getElem? (i := 185) rfl)) (hw _ (List.mem_of_getElem? (i := 79) rfl)) (by decide) (by decide)) q192a q192c (g := (mkF m 11 #[.val (.ref a1), .val (.int (0 : Int32)), .val .null, .unset] [(.int (0 : Int32)), (.ref a1)])) rfl (by rw [hml]; rfl) (Steps.refl _) (argsL := [(.int (0 : Int32))]) (rest := []) (lenOf pd_22_1 rfl) rfl (by show 2 * 0 + _ ≤ _; exact Nat.le_of_eq rfl) (hb hby d22_11) (fun _ _ => ⟨rfl, e191, (by decide : 0 + 0 ≤ _), (by decide : 0 + 0 ≤ _)⟩)
  dsimp only [Pt.U, Pt.locs, Pt.cells, Pt.slots] at X192 l192 y192 z192 st192 hQ192
  subst l192 y192 z192
  obtain ⟨rfl, N192q, e192⟩ := hQ192
  have N192 := Fr.app N191 N192q
  refine goT st192 ?_
  show Go _ p e below s _ _ _ (T192.setTop (mkF m 14 #[.val (.ref a1), .val (.int (0 : Int32)), .val .null, .unset] [(.ref v0)]))
  refine go (fun _ => XS.astoreN X192.here hx rfl (hb hby d22_14) rfl rfl (l' := #[.val (.ref a1), .val (.int (0 : Int32)), .val .null, .val (.ref v0)]) rfl) ?_
  show Go _ p e below s _ _ _ (T192.setTop (mkF m 15 #[.val (.ref a1), .val (.int (0 : Int32)), .val .null, .val (.ref v0)] []))
  refine go (fun _ => XS.aloadN X192.here hx rfl (hb hby d22_15) rfl rfl) ?_
  show Go _ p e below s _ _ _ (T192.setTop (mkF m 16 #[.val (.ref a1), .val (.int (0 : Int32)), .val .null, .val (.ref v0)] [(.ref a1)]))
  obtain ⟨T193, X193, e193, st193⟩ := getF X192 hx hZ hown (host := "") (Or.inl (hw _ (List.mem_of_getElem? (i := 99) rfl))) Via.refl e192 P2 (g := (mkF m 16 #[.val (.ref a1), .val (.int (0 : Int32)), .val .null, .val (.ref v0)] [(.ref a1)])) rfl rfl (hb hby d22_16)
  refine go st193 ?_
  show Go _ p e below s _ _ _ (T193.setTop (mkF m 19 #[.val (.ref a1), .val (.int (0 : Int32)), .val .null, .val (.ref v0)] [(.ref b)]))
  refine go (fun _ => XS.iloadN X193.here hx rfl (hb hby d22_19) rfl) ?_
  show Go _ p e below s _ _ _ (T193.setTop (mkF m 20 #[.val (.ref a1), .val (.int (0 : Int32)), .val .null, .val (.ref v0)] [(.int (0 : Int32)), (.ref b)]))
  refine go (fun _ => XS.aloadN X193.here hx rfl (hb hby d22_20) rfl rfl) ?_
  show Go _ p e below s _ _ _ (T193.setTop (mkF m 21 #[.val (.ref a1), .val (.int (0 : Int32)), .val .null, .val (.ref v0)] [.null, (.int (0 : Int32)), (.ref b)]))
  obtain ⟨cl194, Ar194, q194, Sz194, Nz194, Hs194, Gs194⟩ := id P4
  have hin194 : ¬ ((0 : Int32) < 0 ∨ cl194.slots.size ≤ ((0 : Int32)).toNatClampNeg) := inb_of Sz194 ⟨by decide, by decide⟩
  obtain ⟨T194, h194, X194, e194, W194, st194⟩ := stR X193 hx hZ e193 Ar194 (j := (0 : Int32)) hin194 rfl (Or.inl rfl) (g := (mkF m 21 #[.val (.ref a1), .val (.int (0 : Int32)), .val .null, .val (.ref v0)] [.null, (.int (0 : Int32)), (.ref b)])) rfl rfl (hb hby d22_21)
  have V194 := Arv.set Ar194 q194 Sz194 Nz194 Hs194 Gs194 rfl W194 0 rfl (Nat.le_of_ble_eq_true rfl)
  have VV194 : Arv Z h194 b k (.object "java/lang/Object") (10 : Int32) [.null, u1, .null, .null, .null, .null, .null, .null, .null, .null] .null := V194
  have c194_0 := P0.wr W194
  have c194_1 := P1.other W194 (Or.inl P7)
  have c194_2 := P2.other W194 (Or.inl P7)
  have c194_3 := P3.wr W194
  have KK194 : Keep h0 h194 [b] := (Keep.refl h0 [b]).wr W194 (Or.inl (List.mem_of_getElem? (i := 0) rfl))
  have ZN194 : n0 ≤ h194.size := Nat.le_trans Z0 (Keep.of_wr W194).1
  have NN194 := Fr.snoc X194 N192 P6
  refine go st194 ?_
  show Go _ p e below s _ _ _ (T194.setTop (mkF m 22 #[.val (.ref a1), .val (.int (0 : Int32)), .val .null, .val (.ref v0)] []))
  refine go (fun _ => XS.aloadN X194.here hx rfl (hb hby d22_22) rfl rfl) ?_
  show Go _ p e below s _ _ _ (T194.setTop (mkF m 23 #[.val (.ref a1), .val (.int (0 : Int32)), .val .null, .val (.ref v0)] [(.ref v0)]))
  refine goRet X194 hx Bd.notSynchronized Bd.returns rfl (Or.inr (Or.inr (Or.inr (Or.inr ⟨rfl, rfl, rfl⟩)))) (hb hby d22_23) (by decide) (by decide) (by rw [e194]; refine ⟨rfl, NN194, KK194, c194_3, VV194, P5⟩)
theorem pn_RM0_2_1 : plainName "com/example/reticule/reticule/engine/ActivationRuns" = true := by first | (simp [plainName, overriddenIn]; done) | decide +kernel
theorem ef_RM0_2_1 (m : MethodId) (a1 : Addr) (a2 : Addr) : entryFrame m #[(.ref a1), (.ref a2)] 2 = mkF m 0 #[.val (.ref a1), .val (.ref a2)] [] := by first | (simp [entryFrame, mkF, argsToLocals, Value.category]; done) | rfl
def QRM0_2_1 (Z : State) (a1 : Addr) (a2 : Addr) (ls : Addr) (b : Addr) (k : ClassId) (v0 : Addr) (u1 : Value) (h0 : Heap) (n0 : Nat) (v : Option Value) (h : Heap) (L : List Loc) : Prop := v = none ∧ Fr n0 L ∧ (Keep h0 h [a1, b]) ∧ (Fld Z h a1 "com/example/reticule/reticule/engine/ActivationRuns" "entries" "Ljava/util/List;" (.ref ls)) ∧ (Fld Z h a1 "com/example/reticule/reticule/engine/ActivationRuns" "count" "I" (.int (0 : Int32))) ∧ (Exa Z h b "[Ljava/lang/Object;") ∧ (Arv Z h b k (.object "java/lang/Object") (10 : Int32) [.null, u1, .null, .null, .null, .null, .null, .null, .null, .null] .null) ∧ (Ovr Z k "java/lang/Object")
set_option maxRecDepth 65536 in
set_option maxHeartbeats 40000000 in
theorem rmRM0_2_1 (l : Launch) (Z : State) (a0 : Array Value) (hw : ∀ d ∈ tables_1, d.before a0 Z = true) (ws : List Jvm.Cond) (a1 : Addr) (a2 : Addr) (ls : Addr) (b : Addr) (k : ClassId) (v0 : Addr) (u1 : Value) (h0 : Heap) (n0 : Nat) (Z0 : n0 ≤ h0.size) (P0 : Fld Z h0 a1 "com/example/reticule/reticule/engine/ActivationRuns" "entries" "Ljava/util/List;" (.ref ls)) (P1 : Fld Z h0 a1 "com/example/reticule/reticule/engine/ActivationRuns" "count" "I" (.int (1 : Int32))) (P2 : Fld Z h0 ls "java/util/ArrayList" "elementData" "[Ljava/lang/Object;" (.ref b)) (P3 : Exa Z h0 a1 "com/example/reticule/reticule/engine/ActivationRuns") (P4 : n0 ≤ a1) (P5 : n0 ≤ b) (P6 : Exa Z h0 ls "java/util/ArrayList") (P7 : Fld Z h0 ls "java/util/ArrayList" "size" "I" (.int (2 : Int32))) (P8 : Fld Z h0 a2 "com/example/reticule/reticule/engine/Activation" "place" "I" (.int (0 : Int32))) (P9 : Exa Z h0 b "[Ljava/lang/Object;") (P10 : Arv Z h0 b k (.object "java/lang/Object") (10 : Int32) [(.ref v0), u1, .null, .null, .null, .null, .null, .null, .null, .null] .null) (P11 : Ovr Z k "java/lang/Object") (P12 : a1 ≠ a2) (P13 : a1 ≠ ls) (P14 : a1 ≠ b) (P15 : a2 ≠ ls) (P16 : a2 ≠ b) (P17 : ls ≠ b) :
    MetFree l (⟨"com/example/reticule/reticule/engine/ActivationRuns", "remove", "(Lcom/example/reticule/reticule/engine/Activation;)V"⟩ : MethodName) (head1 (Jvm.Cond.code (⟨"com/example/reticule/reticule/engine/ActivationRuns", "remove", "(Lcom/example/reticule/reticule/engine/Activation;)V"⟩ : MethodName) prog_11_method_3_code 2 none :: ws) ({ frames := 3, cells := 0, slots := 0, locals := 42 } : Room)) (fun a U => a = #[(.ref a1), (.ref a2)] ∧ Z.Warmed39 U.vm ∧ U.heap = h0) (fun _ _ _ _ _ => True) (fun _ U o U' => ∃ v L, o = .returned v ∧ QRM0_2_1 Z a1 a2 ls b k v0 u1 h0 n0 v U'.heap L ∧ FrameEnd U o U' L ({ frames := 3, cells := 0, slots := 0, locals := 42 } : Room).cells ({ frames := 3, cells := 0, slots := 0, locals := 42 } : Room).slots) := by
  refine MetFree.of_bodySF (plainFor_of_name pn_RM0_2_1) hisR ?_
  intro p e s m args below meth c s₁ Bd hml0 hP hK
  obtain ⟨rfl, hZ, hh⟩ := hP
  have hx := Bd.exec
  have hby := Bd.bytes
  have hml : c.maxLocals = 2 := hml0
  have hown : s.vm.findClass "com/example/reticule/reticule/engine/ActivationRuns" = some m.cls := findClass_of_methodNamed Bd.named
  have hnm := (name_of_methodNamed Bd.named Bd.method).1
  have X0 : Stand p l e ({ frames := 3, cells := 0, slots := 0, locals := 42 } : Room) s m #[(.ref a1), (.ref a2)] below meth c s₁ [] 0 0 := Stand.of_body Bd
  have e0 : s₁.heap = h0 := by rw [← hh, Bd.state]; rfl
  have N0 := Fr.nil n0
  have hS0 : s.Since s.vm 0 := (State.WarmedH.refl s).since 0
  show Go FrameEnd p e below s ({ frames := 3, cells := 0, slots := 0, locals := 42 } : Room).cells ({ frames := 3, cells := 0, slots := 0, locals := 42 } : Room).slots (QRM0_2_1 Z a1 a2 ls b k v0 u1 h0 n0) (s₁.setTop (entryFrame m #[(.ref a1), (.ref a2)] 2))
  refine go (fun _ k => castTop (ef_RM0_2_1 m a1 a2) k) ?_
  show Go _ p e below s _ _ _ (s₁.setTop (mkF m 0 #[.val (.ref a1), .val (.ref a2)] []))
  refine go (fun _ => XS.aloadN X0.here hx rfl (hb hby d21_0) rfl rfl) ?_
  show Go _ p e below s _ _ _ (s₁.setTop (mkF m 1 #[.val (.ref a1), .val (.ref a2)] [(.ref a1)]))
  obtain ⟨T200, X200, e200, st200⟩ := getF X0 hx hZ hown (host := "") (Or.inl (hw _ (List.mem_of_getElem? (i := 101) rfl))) Via.refl e0 P0 (g := (mkF m 1 #[.val (.ref a1), .val (.ref a2)] [(.ref a1)])) rfl rfl (hb hby d21_1)
  refine go st200 ?_
  show Go _ p e below s _ _ _ (T200.setTop (mkF m 4 #[.val (.ref a1), .val (.ref a2)] [(.ref ls)]))
  refine go (fun _ => XS.aloadN X200.here hx rfl (hb hby d21_4) rfl rfl) ?_
  show Go _ p e below s _ _ _ (T200.setTop (mkF m 5 #[.val (.ref a1), .val (.ref a2)] [(.ref a2), (.ref ls)]))
  obtain ⟨T201, X201, e201, st201⟩ := getF X200 hx hZ hown (host := "") (Or.inl (hw _ (List.mem_of_getElem? (i := 127) rfl))) Via.refl e200 P8 (g := (mkF m 5 #[.val (.ref a1), .val (.ref a2)] [(.ref a2), (.ref ls)])) rfl rfl (hb hby d21_5)
  refine go st201 ?_
  show Go _ p e below s _ _ _ (T201.setTop (mkF m 8 #[.val (.ref a1), .val (.ref a2)] [(.int (0 : Int32)), (.ref ls)]))
  refine go (fun _ => XS.aconstNull X201.here hx rfl (hb hby d21_8)) ?_
  show Go _ p e below s _ _ _ (T201.setTop (mkF m 9 #[.val (.ref a1), .val (.ref a2)] [.null, (.int (0 : Int32)), (.ref ls)]))
  obtain ⟨cq202, kq202, q202a, q202b, q202c⟩ := isOf hZ e201 P6
  obtain ⟨_, _, ⟨T202, L202, k202, n202⟩, -, X202, ⟨Lc202, hQ202, l202, y202, z202⟩, st202⟩ := X201.interfaceBack hx (xi := (⟨"java/util/List", "set", "(ILjava/lang/Object;)Ljava/lang/Object;"⟩ : MethodName)) (y := (⟨"java/util/ArrayList", "set", "(ILjava/lang/Object;)Ljava/lang/Object;"⟩ : MethodName)) hown (mvT hZ (hw _ (List.mem_of_getElem? (i := 166) rfl))) (mvT hZ (hw _ (List.mem_of_getElem? (i := 167) rfl))) (mvT hZ (hw _ (List.mem_of_getElem? (i := 168) rfl))) (mvT hZ (hw _ (List.mem_of_getElem? (i := 169) rfl))) (mvT hZ (hw _ (List.mem_of_getElem? (i := 170) rfl))) (mvT hZ (hw _ (List.mem_of_getElem? (i := 171) rfl))) (mvT hZ (hw _ (List.mem_of_getElem? (i := 172) rfl))) (mvT hZ (hw _ (List.mem_of_getElem? (i := 123) rfl))) (by decide) (backOf (W := 0) (rmST0_2 l Z a0 hw [] ls b k v0 u1 h0 n0 Z0 P6 P7 P2 P9 P10 P11 P5 P17) hZ (hw _ (List.mem_of_getElem? (i := 173) rfl)) (hw _ (List.mem_of_getElem? (i := 79) rfl)) (by decide) (by decide)) q202a q202b q202c (g := (mkF m 9 #[.val (.ref a1), .val (.ref a2)] [.null, (.int (0 : Int32)), (.ref ls)])) rfl (by rw [hml]; rfl) (Steps.refl _) (argsL := [(.int (0 : Int32)), .null]) (rest := []) (lenOf pd_21_0 rfl) rfl (by show 2 * 0 + _ ≤ _; exact Nat.le_of_eq rfl) (hb hby d21_9) (fun _ _ => ⟨rfl, e201, (by decide : 0 + 0 ≤ _), (by decide : 0 + 0 ≤ _)⟩)
  dsimp only [Pt.U, Pt.locs, Pt.cells, Pt.slots] at X202 l202 y202 z202 st202 hQ202
  subst l202 y202 z202
  obtain ⟨rfl, N202q, K202, u202_1, u202_2, u202_3⟩ := hQ202
  have N202 := Fr.app N0 N202q
  have c202_0 := P0.keep K202 (ninS P14 nin0)
  have c202_1 := P1.keep K202 (ninS P14 nin0)
  have c202_2 := P2.keep K202 (ninS P17 nin0)
  have c202_3 := P3.keep K202
  have c202_4 := P6.keep K202
  have c202_5 := P7.keep K202 (ninS P17 nin0)
  have c202_6 := P8.keep K202 (ninS P16 nin0)
  have c202_7 := P9.keep K202
  have KK202 : Keep h0 T202.heap [a1, b] := (Keep.refl h0 [a1, b]).trans K202 (allS (P := fun x => x ∈ [a1, b] ∨ h0.size ≤ x) (Or.inl (List.mem_of_getElem? (i := 1) rfl)) all0)
  have ZN202 : n0 ≤ T202.heap.size := Nat.le_trans Z0 K202.1
  refine goT st202 ?_
  show Go _ p e below s _ _ _ (T202.setTop (mkF m 14 #[.val (.ref a1), .val (.ref a2)] [(.ref v0)]))
  refine go (fun _ => XS.pop X202.here hx rfl (hb hby d21_14) rfl rfl) ?_
  show Go _ p e below s _ _ _ (T202.setTop (mkF m 15 #[.val (.ref a1), .val (.ref a2)] []))
  refine go (fun _ => XS.aloadN X202.here hx rfl (hb hby d21_15) rfl rfl) ?_
  show Go _ p e below s _ _ _ (T202.setTop (mkF m 16 #[.val (.ref a1), .val (.ref a2)] [(.ref a1)]))
  refine go (fun _ => XS.dup X202.here hx rfl (hb hby d21_16) rfl rfl) ?_
  show Go _ p e below s _ _ _ (T202.setTop (mkF m 17 #[.val (.ref a1), .val (.ref a2)] [(.ref a1), (.ref a1)]))
  obtain ⟨T203, X203, e203, st203⟩ := getF X202 hx hZ hown (host := "") (Or.inl (hw _ (List.mem_of_getElem? (i := 108) rfl))) Via.refl rfl c202_1 (g := (mkF m 17 #[.val (.ref a1), .val (.ref a2)] [(.ref a1), (.ref a1)])) rfl rfl (hb hby d21_17)
  refine go st203 ?_
  show Go _ p e below s _ _ _ (T203.setTop (mkF m 20 #[.val (.ref a1), .val (.ref a2)] [(.int (1 : Int32)), (.ref a1)]))
  refine go (fun _ => XS.iconst X203.here hx rfl (hb hby d21_20)) ?_
  show Go _ p e below s _ _ _ (T203.setTop (mkF m 21 #[.val (.ref a1), .val (.ref a2)] [(.int (1 : Int32)), (.int (1 : Int32)), (.ref a1)]))
  refine go (fun _ => XS.isub X203.here hx rfl (hb hby d21_21) rfl) ?_
  show Go _ p e below s _ _ _ (T203.setTop (mkF m 22 #[.val (.ref a1), .val (.ref a2)] [(.int (0 : Int32)), (.ref a1)]))
  obtain ⟨T204, h204, X204, e204, W204, st204⟩ := putF X203 hx hZ hown (host := "") (Or.inl (hw _ (List.mem_of_getElem? (i := 108) rfl))) Via.refl e203 c202_1 c202_3 (Or.inl (hw _ (List.mem_of_getElem? (i := 109) rfl))) (hw _ (List.mem_of_getElem? (i := 71) rfl)) (ty := .int) (by decide) rfl rfl (g := (mkF m 22 #[.val (.ref a1), .val (.ref a2)] [(.int (0 : Int32)), (.ref a1)])) rfl rfl (hb hby d21_22)
  have Fw204 := c202_1.same W204
  have c204_0 := c202_0.other W204 (Or.inr (slot_ne (Or.inr (hw _ (List.mem_of_getElem? (i := 102) rfl))) (Or.inl (hw _ (List.mem_of_getElem? (i := 109) rfl))) (by decide) (t := (.object "java/util/List")) (t' := .int) (by decide) (by decide)))
  have c204_2 := c202_2.other W204 (Or.inl (Ne.symm P13))
  have c204_3 := c202_3.wr W204
  have c204_4 := c202_4.wr W204
  have c204_5 := c202_5.other W204 (Or.inl (Ne.symm P13))
  have c204_6 := c202_6.other W204 (Or.inl (Ne.symm P12))
  have c204_7 := u202_1.wr W204
  have c204_8 := u202_2.other W204 (Ne.symm P14)
  have KK204 : Keep h0 h204 [a1, b] := KK202.wr W204 (Or.inl (List.mem_of_getElem? (i := 0) rfl))
  have ZN204 : n0 ≤ h204.size := Nat.le_trans ZN202 (Keep.of_wr W204).1
  have NN204 := Fr.snoc X204 N202 P4
  refine go st204 ?_
  show Go _ p e below s _ _ _ (T204.setTop (mkF m 25 #[.val (.ref a1), .val (.ref a2)] []))
  refine goRet0 X204 hx Bd.notSynchronized Bd.returns (hb hby d21_25) (by decide) (by decide) (by rw [e204]; refine ⟨rfl, NN204, KK204, c204_0, Fw204, c204_7, c204_8, u202_3⟩)
theorem pn_RM0_2_2 : plainName "com/example/reticule/reticule/engine/ActivationRuns" = true := by first | (simp [plainName, overriddenIn]; done) | decide +kernel
theorem ef_RM0_2_2 (m : MethodId) (a1 : Addr) (a2 : Addr) : entryFrame m #[(.ref a1), (.ref a2)] 2 = mkF m 0 #[.val (.ref a1), .val (.ref a2)] [] := by first | (simp [entryFrame, mkF, argsToLocals, Value.category]; done) | rfl
def QRM0_2_2 (Z : State) (a1 : Addr) (a2 : Addr) (ls : Addr) (b : Addr) (k : ClassId) (v0 : Addr) (u1 : Value) (h0 : Heap) (n0 : Nat) (v : Option Value) (h : Heap) (L : List Loc) : Prop := v = none ∧ Fr n0 L ∧ (Keep h0 h [a1, b]) ∧ (Fld Z h a1 "com/example/reticule/reticule/engine/ActivationRuns" "entries" "Ljava/util/List;" (.ref ls)) ∧ (Fld Z h a1 "com/example/reticule/reticule/engine/ActivationRuns" "count" "I" (.int (1 : Int32))) ∧ (Exa Z h b "[Ljava/lang/Object;") ∧ (Arv Z h b k (.object "java/lang/Object") (10 : Int32) [.null, u1, .null, .null, .null, .null, .null, .null, .null, .null] .null) ∧ (Ovr Z k "java/lang/Object")
set_option maxRecDepth 65536 in
set_option maxHeartbeats 40000000 in
theorem rmRM0_2_2 (l : Launch) (Z : State) (a0 : Array Value) (hw : ∀ d ∈ tables_1, d.before a0 Z = true) (ws : List Jvm.Cond) (a1 : Addr) (a2 : Addr) (ls : Addr) (b : Addr) (k : ClassId) (v0 : Addr) (u1 : Value) (h0 : Heap) (n0 : Nat) (Z0 : n0 ≤ h0.size) (P0 : Fld Z h0 a1 "com/example/reticule/reticule/engine/ActivationRuns" "entries" "Ljava/util/List;" (.ref ls)) (P1 : Fld Z h0 a1 "com/example/reticule/reticule/engine/ActivationRuns" "count" "I" (.int (2 : Int32))) (P2 : Fld Z h0 ls "java/util/ArrayList" "elementData" "[Ljava/lang/Object;" (.ref b)) (P3 : Exa Z h0 a1 "com/example/reticule/reticule/engine/ActivationRuns") (P4 : n0 ≤ a1) (P5 : n0 ≤ b) (P6 : Exa Z h0 ls "java/util/ArrayList") (P7 : Fld Z h0 ls "java/util/ArrayList" "size" "I" (.int (2 : Int32))) (P8 : Fld Z h0 a2 "com/example/reticule/reticule/engine/Activation" "place" "I" (.int (0 : Int32))) (P9 : Exa Z h0 b "[Ljava/lang/Object;") (P10 : Arv Z h0 b k (.object "java/lang/Object") (10 : Int32) [(.ref v0), u1, .null, .null, .null, .null, .null, .null, .null, .null] .null) (P11 : Ovr Z k "java/lang/Object") (P12 : a1 ≠ a2) (P13 : a1 ≠ ls) (P14 : a1 ≠ b) (P15 : a2 ≠ ls) (P16 : a2 ≠ b) (P17 : ls ≠ b) :
    MetFree l (⟨"com/example/reticule/reticule/engine/ActivationRuns", "remove", "(Lcom/example/reticule/reticule/engine/Activation;)V"⟩ : MethodName) (head1 (Jvm.Cond.code (⟨"com/example/reticule/reticule/engine/ActivationRuns", "remove", "(Lcom/example/reticule/reticule/engine/Activation;)V"⟩ : MethodName) prog_11_method_3_code 2 none :: ws) ({ frames := 3, cells := 0, slots := 0, locals := 42 } : Room)) (fun a U => a = #[(.ref a1), (.ref a2)] ∧ Z.Warmed39 U.vm ∧ U.heap = h0) (fun _ _ _ _ _ => True) (fun _ U o U' => ∃ v L, o = .returned v ∧ QRM0_2_2 Z a1 a2 ls b k v0 u1 h0 n0 v U'.heap L ∧ FrameEnd U o U' L ({ frames := 3, cells := 0, slots := 0, locals := 42 } : Room).cells ({ frames := 3, cells := 0, slots := 0, locals := 42 } : Room).slots) := by
  refine MetFree.of_bodySF (plainFor_of_name pn_RM0_2_2) hisR ?_
  intro p e s m args below meth c s₁ Bd hml0 hP hK
  obtain ⟨rfl, hZ, hh⟩ := hP
  have hx := Bd.exec
  have hby := Bd.bytes
  have hml : c.maxLocals = 2 := hml0
  have hown : s.vm.findClass "com/example/reticule/reticule/engine/ActivationRuns" = some m.cls := findClass_of_methodNamed Bd.named
  have hnm := (name_of_methodNamed Bd.named Bd.method).1
  have X0 : Stand p l e ({ frames := 3, cells := 0, slots := 0, locals := 42 } : Room) s m #[(.ref a1), (.ref a2)] below meth c s₁ [] 0 0 := Stand.of_body Bd
  have e0 : s₁.heap = h0 := by rw [← hh, Bd.state]; rfl
  have N0 := Fr.nil n0
  have hS0 : s.Since s.vm 0 := (State.WarmedH.refl s).since 0
  show Go FrameEnd p e below s ({ frames := 3, cells := 0, slots := 0, locals := 42 } : Room).cells ({ frames := 3, cells := 0, slots := 0, locals := 42 } : Room).slots (QRM0_2_2 Z a1 a2 ls b k v0 u1 h0 n0) (s₁.setTop (entryFrame m #[(.ref a1), (.ref a2)] 2))
  refine go (fun _ k => castTop (ef_RM0_2_2 m a1 a2) k) ?_
  show Go _ p e below s _ _ _ (s₁.setTop (mkF m 0 #[.val (.ref a1), .val (.ref a2)] []))
  refine go (fun _ => XS.aloadN X0.here hx rfl (hb hby d21_0) rfl rfl) ?_
  show Go _ p e below s _ _ _ (s₁.setTop (mkF m 1 #[.val (.ref a1), .val (.ref a2)] [(.ref a1)]))
  obtain ⟨T210, X210, e210, st210⟩ := getF X0 hx hZ hown (host := "") (Or.inl (hw _ (List.mem_of_getElem? (i := 101) rfl))) Via.refl e0 P0 (g := (mkF m 1 #[.val (.ref a1), .val (.ref a2)] [(.ref a1)])) rfl rfl (hb hby d21_1)
  refine go st210 ?_
  show Go _ p e below s _ _ _ (T210.setTop (mkF m 4 #[.val (.ref a1), .val (.ref a2)] [(.ref ls)]))
  refine go (fun _ => XS.aloadN X210.here hx rfl (hb hby d21_4) rfl rfl) ?_
  show Go _ p e below s _ _ _ (T210.setTop (mkF m 5 #[.val (.ref a1), .val (.ref a2)] [(.ref a2), (.ref ls)]))
  obtain ⟨T211, X211, e211, st211⟩ := getF X210 hx hZ hown (host := "") (Or.inl (hw _ (List.mem_of_getElem? (i := 127) rfl))) Via.refl e210 P8 (g := (mkF m 5 #[.val (.ref a1), .val (.ref a2)] [(.ref a2), (.ref ls)])) rfl rfl (hb hby d21_5)
  refine go st211 ?_
  show Go _ p e below s _ _ _ (T211.setTop (mkF m 8 #[.val (.ref a1), .val (.ref a2)] [(.int (0 : Int32)), (.ref ls)]))
  refine go (fun _ => XS.aconstNull X211.here hx rfl (hb hby d21_8)) ?_
  show Go _ p e below s _ _ _ (T211.setTop (mkF m 9 #[.val (.ref a1), .val (.ref a2)] [.null, (.int (0 : Int32)), (.ref ls)]))
  obtain ⟨cq212, kq212, q212a, q212b, q212c⟩ := isOf hZ e211 P6
  obtain ⟨_, _, ⟨T212, L212, k212, n212⟩, -, X212, ⟨Lc212, hQ212, l212, y212, z212⟩, st212⟩ := X211.interfaceBack hx (xi := (⟨"java/util/List", "set", "(ILjava/lang/Object;)Ljava/lang/Object;"⟩ : MethodName)) (y := (⟨"java/util/ArrayList", "set", "(ILjava/lang/Object;)Ljava/lang/Object;"⟩ : MethodName)) hown (mvT hZ (hw _ (List.mem_of_getElem? (i := 166) rfl))) (mvT hZ (hw _ (List.mem_of_getElem? (i := 167) rfl))) (mvT hZ (hw _ (List.mem_of_getElem? (i := 168) rfl))) (mvT hZ (hw _ (List.mem_of_getElem? (i := 169) rfl))) (mvT hZ (hw _ (List.mem_of_getElem? (i := 170) rfl))) (mvT hZ (hw _ (List.mem_of_getElem? (i := 171) rfl))) (mvT hZ (hw _ (List.mem_of_getElem? (i := 172) rfl))) (mvT hZ (hw _ (List.mem_of_getElem? (i := 123) rfl))) (by decide) (backOf (W := 0) (rmST0_2 l Z a0 hw [] ls b k v0 u1 h0 n0 Z0 P6 P7 P2 P9 P10 P11 P5 P17) hZ (hw _ (List.mem_of_getElem? (i := 173) rfl)) (hw _ (List.mem_of_getElem? (i := 79) rfl)) (by decide) (by decide)) q212a q212b q212c (g := (mkF m 9 #[.val (.ref a1), .val (.ref a2)] [.null, (.int (0 : Int32)), (.ref ls)])) rfl (by rw [hml]; rfl) (Steps.refl _) (argsL := [(.int (0 : Int32)), .null]) (rest := []) (lenOf pd_21_0 rfl) rfl (by show 2 * 0 + _ ≤ _; exact Nat.le_of_eq rfl) (hb hby d21_9) (fun _ _ => ⟨rfl, e211, (by decide : 0 + 0 ≤ _), (by decide : 0 + 0 ≤ _)⟩)
  dsimp only [Pt.U, Pt.locs, Pt.cells, Pt.slots] at X212 l212 y212 z212 st212 hQ212
  subst l212 y212 z212
  obtain ⟨rfl, N212q, K212, u212_1, u212_2, u212_3⟩ := hQ212
  have N212 := Fr.app N0 N212q
  have c212_0 := P0.keep K212 (ninS P14 nin0)
  have c212_1 := P1.keep K212 (ninS P14 nin0)
  have c212_2 := P2.keep K212 (ninS P17 nin0)
  have c212_3 := P3.keep K212
  have c212_4 := P6.keep K212
  have c212_5 := P7.keep K212 (ninS P17 nin0)
  have c212_6 := P8.keep K212 (ninS P16 nin0)
  have c212_7 := P9.keep K212
  have KK212 : Keep h0 T212.heap [a1, b] := (Keep.refl h0 [a1, b]).trans K212 (allS (P := fun x => x ∈ [a1, b] ∨ h0.size ≤ x) (Or.inl (List.mem_of_getElem? (i := 1) rfl)) all0)
  have ZN212 : n0 ≤ T212.heap.size := Nat.le_trans Z0 K212.1
  refine goT st212 ?_
  show Go _ p e below s _ _ _ (T212.setTop (mkF m 14 #[.val (.ref a1), .val (.ref a2)] [(.ref v0)]))
  refine go (fun _ => XS.pop X212.here hx rfl (hb hby d21_14) rfl rfl) ?_
  show Go _ p e below s _ _ _ (T212.setTop (mkF m 15 #[.val (.ref a1), .val (.ref a2)] []))
  refine go (fun _ => XS.aloadN X212.here hx rfl (hb hby d21_15) rfl rfl) ?_
  show Go _ p e below s _ _ _ (T212.setTop (mkF m 16 #[.val (.ref a1), .val (.ref a2)] [(.ref a1)]))
  refine go (fun _ => XS.dup X212.here hx rfl (hb hby d21_16) rfl rfl) ?_
  show Go _ p e below s _ _ _ (T212.setTop (mkF m 17 #[.val (.ref a1), .val (.ref a2)] [(.ref a1), (.ref a1)]))
  obtain ⟨T213, X213, e213, st213⟩ := getF X212 hx hZ hown (host := "") (Or.inl (hw _ (List.mem_of_getElem? (i := 108) rfl))) Via.refl rfl c212_1 (g := (mkF m 17 #[.val (.ref a1), .val (.ref a2)] [(.ref a1), (.ref a1)])) rfl rfl (hb hby d21_17)
  refine go st213 ?_
  show Go _ p e below s _ _ _ (T213.setTop (mkF m 20 #[.val (.ref a1), .val (.ref a2)] [(.int (2 : Int32)), (.ref a1)]))
  refine go (fun _ => XS.iconst X213.here hx rfl (hb hby d21_20)) ?_
  show Go _ p e below s _ _ _ (T213.setTop (mkF m 21 #[.val (.ref a1), .val (.ref a2)] [(.int (1 : Int32)), (.int (2 : Int32)), (.ref a1)]))
  refine go (fun _ => XS.isub X213.here hx rfl (hb hby d21_21) rfl) ?_
  show Go _ p e below s _ _ _ (T213.setTop (mkF m 22 #[.val (.ref a1), .val (.ref a2)] [(.int (1 : Int32)), (.ref a1)]))
  obtain ⟨T214, h214, X214, e214, W214, st214⟩ := putF X213 hx hZ hown (host := "") (Or.inl (hw _ (List.mem_of_getElem? (i := 108) rfl))) Via.refl e213 c212_1 c212_3 (Or.inl (hw _ (List.mem_of_getElem? (i := 109) rfl))) (hw _ (List.mem_of_getElem? (i := 71) rfl)) (ty := .int) (by decide) rfl rfl (g := (mkF m 22 #[.val (.ref a1), .val (.ref a2)] [(.int (1 : Int32)), (.ref a1)])) rfl rfl (hb hby d21_22)
  have Fw214 := c212_1.same W214
  have c214_0 := c212_0.other W214 (Or.inr (slot_ne (Or.inr (hw _ (List.mem_of_getElem? (i := 102) rfl))) (Or.inl (hw _ (List.mem_of_getElem? (i := 109) rfl))) (by decide) (t := (.object "java/util/List")) (t' := .int) (by decide) (by decide)))
  have c214_2 := c212_2.other W214 (Or.inl (Ne.symm P13))
  have c214_3 := c212_3.wr W214
  have c214_4 := c212_4.wr W214
  have c214_5 := c212_5.other W214 (Or.inl (Ne.symm P13))
  have c214_6 := c212_6.other W214 (Or.inl (Ne.symm P12))
  have c214_7 := u212_1.wr W214
  have c214_8 := u212_2.other W214 (Ne.symm P14)
  have KK214 : Keep h0 h214 [a1, b] := KK212.wr W214 (Or.inl (List.mem_of_getElem? (i := 0) rfl))
  have ZN214 : n0 ≤ h214.size := Nat.le_trans ZN212 (Keep.of_wr W214).1
  have NN214 := Fr.snoc X214 N212 P4
  refine go st214 ?_
  show Go _ p e below s _ _ _ (T214.setTop (mkF m 25 #[.val (.ref a1), .val (.ref a2)] []))
  refine goRet0 X214 hx Bd.notSynchronized Bd.returns (hb hby d21_25) (by decide) (by decide) (by rw [e214]; refine ⟨rfl, NN214, KK214, c214_0, Fw214, c214_7, c214_8, u212_3⟩)
theorem pn_ED1_2 : plainName "java/util/ArrayList" = true := by first | (simp [plainName, overriddenIn]; done) | decide +kernel
theorem ef_ED1_2 (m : MethodId) (a1 : Addr) : entryFrame m #[(.ref a1), (.int (1 : Int32))] 2 = mkF m 0 #[.val (.ref a1), .val (.int (1 : Int32))] [] := by first | (simp [entryFrame, mkF, argsToLocals, Value.category]; done) | rfl
def QED1_2 (Z : State) (a1 : Addr) (b : Addr) (k : ClassId) (u0 : Value) (v1 : Addr) (h0 : Heap) (n0 : Nat) (v : Option Value) (h : Heap) (L : List Loc) : Prop := v = some (.ref v1) ∧ Fr n0 L ∧ (h = h0)
set_option maxRecDepth 65536 in
set_option maxHeartbeats 40000000 in
theorem rmED1_2 (l : Launch) (Z : State) (a0 : Array Value) (hw : ∀ d ∈ tables_1, d.before a0 Z = true) (ws : List Jvm.Cond) (a1 : Addr) (b : Addr) (k : ClassId) (u0 : Value) (v1 : Addr) (h0 : Heap) (n0 : Nat) (Z0 : n0 ≤ h0.size) (P0 : Fld Z h0 a1 "java/util/ArrayList" "elementData" "[Ljava/lang/Object;" (.ref b)) (P1 : Exa Z h0 b "[Ljava/lang/Object;") (P2 : Arv Z h0 b k (.object "java/lang/Object") (10 : Int32) [u0, (.ref v1), .null, .null, .null, .null, .null, .null, .null, .null] .null) (P3 : Ovr Z k "java/lang/Object") :
    MetFree l (⟨"java/util/ArrayList", "elementData", "(I)Ljava/lang/Object;"⟩ : MethodName) (head1 (Jvm.Cond.code (⟨"java/util/ArrayList", "elementData", "(I)Ljava/lang/Object;"⟩ : MethodName) jdk_38_method_18_code 2 (some (.object "java/lang/Object")) :: ws) ({ frames := 0, cells := 0, slots := 0, locals := 0 } : Room)) (fun a U => a = #[(.ref a1), (.int (1 : Int32))] ∧ Z.Warmed39 U.vm ∧ U.heap = h0) (fun _ _ _ _ _ => True) (fun _ U o U' => ∃ v L, o = .returned v ∧ QED1_2 Z a1 b k u0 v1 h0 n0 v U'.heap L ∧ FrameEnd U o U' L ({ frames := 0, cells := 0, slots := 0, locals := 0 } : Room).cells ({ frames := 0, cells := 0, slots := 0, locals := 0 } : Room).slots) := by
  refine MetFree.of_bodySF (plainFor_of_name pn_ED1_2) hisR ?_
  intro p e s m args below meth c s₁ Bd hml0 hP hK
  obtain ⟨rfl, hZ, hh⟩ := hP
  have hx := Bd.exec
  have hby := Bd.bytes
  have hml : c.maxLocals = 2 := hml0
  have hown : s.vm.findClass "java/util/ArrayList" = some m.cls := findClass_of_methodNamed Bd.named
  have hnm := (name_of_methodNamed Bd.named Bd.method).1
  have X0 : Stand p l e ({ frames := 0, cells := 0, slots := 0, locals := 0 } : Room) s m #[(.ref a1), (.int (1 : Int32))] below meth c s₁ [] 0 0 := Stand.of_body Bd
  have e0 : s₁.heap = h0 := by rw [← hh, Bd.state]; rfl
  have N0 := Fr.nil n0
  have hS0 : s.Since s.vm 0 := (State.WarmedH.refl s).since 0
  show Go FrameEnd p e below s ({ frames := 0, cells := 0, slots := 0, locals := 0 } : Room).cells ({ frames := 0, cells := 0, slots := 0, locals := 0 } : Room).slots (QED1_2 Z a1 b k u0 v1 h0 n0) (s₁.setTop (entryFrame m #[(.ref a1), (.int (1 : Int32))] 2))
  refine go (fun _ k => castTop (ef_ED1_2 m a1) k) ?_
  show Go _ p e below s _ _ _ (s₁.setTop (mkF m 0 #[.val (.ref a1), .val (.int (1 : Int32))] []))
  refine go (fun _ => XS.aloadN X0.here hx rfl (hb hby d25_0) rfl rfl) ?_
  show Go _ p e below s _ _ _ (s₁.setTop (mkF m 1 #[.val (.ref a1), .val (.int (1 : Int32))] [(.ref a1)]))
  obtain ⟨T217, X217, e217, st217⟩ := getF X0 hx hZ hown (host := "") (Or.inl (hw _ (List.mem_of_getElem? (i := 99) rfl))) Via.refl e0 P0 (g := (mkF m 1 #[.val (.ref a1), .val (.int (1 : Int32))] [(.ref a1)])) rfl rfl (hb hby d25_1)
  refine go st217 ?_
  show Go _ p e below s _ _ _ (T217.setTop (mkF m 4 #[.val (.ref a1), .val (.int (1 : Int32))] [(.ref b)]))
  refine go (fun _ => XS.iloadN X217.here hx rfl (hb hby d25_4) rfl) ?_
  show Go _ p e below s _ _ _ (T217.setTop (mkF m 5 #[.val (.ref a1), .val (.int (1 : Int32))] [(.int (1 : Int32)), (.ref b)]))
  obtain ⟨cl218, Ar218, q218, Sz218, Nz218, Hs218, Gs218⟩ := id P2
  have hin218 : ¬ ((1 : Int32) < 0 ∨ cl218.slots.size ≤ ((1 : Int32)).toNatClampNeg) := inb_of Sz218 ⟨by decide, by decide⟩
  refine go (X217.aaload hx (j := (1 : Int32)) (v := (.ref v1)) (by rw [e217]; exact Ar218.1) (State.isArrayOf_alike hZ.alike Ar218.2.1) rfl Ar218.2.2 hin218 (Hs218.at hin218 rfl) (g := (mkF m 5 #[.val (.ref a1), .val (.int (1 : Int32))] [(.int (1 : Int32)), (.ref b)])) rfl rfl (hb hby d25_5)) ?_
  show Go _ p e below s _ _ _ (T217.setTop (mkF m 6 #[.val (.ref a1), .val (.int (1 : Int32))] [(.ref v1)]))
  refine goRet X217 hx Bd.notSynchronized Bd.returns rfl (Or.inr (Or.inr (Or.inr (Or.inr ⟨rfl, rfl, rfl⟩)))) (hb hby d25_6) (by decide) (by decide) (by rw [e217]; refine ⟨rfl, N0, rfl⟩)
theorem pn_ST1_2 : plainName "java/util/ArrayList" = true := by first | (simp [plainName, overriddenIn]; done) | decide +kernel
theorem ef_ST1_2 (m : MethodId) (a1 : Addr) : entryFrame m #[(.ref a1), (.int (1 : Int32)), .null] 4 = mkF m 0 #[.val (.ref a1), .val (.int (1 : Int32)), .val .null, .unset] [] := by first | (simp [entryFrame, mkF, argsToLocals, Value.category]; done) | rfl
def QST1_2 (Z : State) (a1 : Addr) (b : Addr) (k : ClassId) (u0 : Value) (v1 : Addr) (h0 : Heap) (n0 : Nat) (v : Option Value) (h : Heap) (L : List Loc) : Prop := v = some (.ref v1) ∧ Fr n0 L ∧ (Keep h0 h [b]) ∧ (Exa Z h b "[Ljava/lang/Object;") ∧ (Arv Z h b k (.object "java/lang/Object") (10 : Int32) [u0, .null, .null, .null, .null, .null, .null, .null, .null, .null] .null) ∧ (Ovr Z k "java/lang/Object")
set_option maxRecDepth 65536 in
set_option maxHeartbeats 40000000 in
theorem rmST1_2 (l : Launch) (Z : State) (a0 : Array Value) (hw : ∀ d ∈ tables_1, d.before a0 Z = true) (ws : List Jvm.Cond) (a1 : Addr) (b : Addr) (k : ClassId) (u0 : Value) (v1 : Addr) (h0 : Heap) (n0 : Nat) (Z0 : n0 ≤ h0.size) (P0 : Exa Z h0 a1 "java/util/ArrayList") (P1 : Fld Z h0 a1 "java/util/ArrayList" "size" "I" (.int (2 : Int32))) (P2 : Fld Z h0 a1 "java/util/ArrayList" "elementData" "[Ljava/lang/Object;" (.ref b)) (P3 : Exa Z h0 b "[Ljava/lang/Object;") (P4 : Arv Z h0 b k (.object "java/lang/Object") (10 : Int32) [u0, (.ref v1), .null, .null, .null, .null, .null, .null, .null, .null] .null) (P5 : Ovr Z k "java/lang/Object") (P6 : n0 ≤ b) (P7 : a1 ≠ b) :
    MetFree l (⟨"java/util/ArrayList", "set", "(ILjava/lang/Object;)Ljava/lang/Object;"⟩ : MethodName) (head1 (Jvm.Cond.code (⟨"java/util/ArrayList", "set", "(ILjava/lang/Object;)Ljava/lang/Object;"⟩ : MethodName) jdk_38_method_23_code 4 (some (.object "java/lang/Object")) :: ws) ({ frames := 2, cells := 0, slots := 0, locals := 27 } : Room)) (fun a U => a = #[(.ref a1), (.int (1 : Int32)), .null] ∧ Z.Warmed39 U.vm ∧ U.heap = h0) (fun _ _ _ _ _ => True) (fun _ U o U' => ∃ v L, o = .returned v ∧ QST1_2 Z a1 b k u0 v1 h0 n0 v U'.heap L ∧ FrameEnd U o U' L ({ frames := 2, cells := 0, slots := 0, locals := 27 } : Room).cells ({ frames := 2, cells := 0, slots := 0, locals := 27 } : Room).slots) := by
  refine MetFree.of_bodySF (plainFor_of_name pn_ST1_2) hisR ?_
  intro p e s m args below meth c s₁ Bd hml0 hP hK
  obtain ⟨rfl, hZ, hh⟩ := hP
  have hx := Bd.exec
  have hby := Bd.bytes
  have hml : c.maxLocals = 4 := hml0
  have hown : s.vm.findClass "java/util/ArrayList" = some m.cls := findClass_of_methodNamed Bd.named
  have hnm := (name_of_methodNamed Bd.named Bd.method).1
  have X0 : Stand p l e ({ frames := 2, cells := 0, slots := 0, locals := 27 } : Room) s m #[(.ref a1), (.int (1 : Int32)), .null] below meth c s₁ [] 0 0 := Stand.of_body Bd
  have e0 : s₁.heap = h0 := by rw [← hh, Bd.state]; rfl
  have N0 := Fr.nil n0
  have hS0 : s.Since s.vm 0 := (State.WarmedH.refl s).since 0
  show Go FrameEnd p e below s ({ frames := 2, cells := 0, slots := 0, locals := 27 } : Room).cells ({ frames := 2, cells := 0, slots := 0, locals := 27 } : Room).slots (QST1_2 Z a1 b k u0 v1 h0 n0) (s₁.setTop (entryFrame m #[(.ref a1), (.int (1 : Int32)), .null] 4))
  refine go (fun _ k => castTop (ef_ST1_2 m a1) k) ?_
  show Go _ p e below s _ _ _ (s₁.setTop (mkF m 0 #[.val (.ref a1), .val (.int (1 : Int32)), .val .null, .unset] []))
  refine go (fun _ => XS.iloadN X0.here hx rfl (hb hby d22_0) rfl) ?_
  show Go _ p e below s _ _ _ (s₁.setTop (mkF m 1 #[.val (.ref a1), .val (.int (1 : Int32)), .val .null, .unset] [(.int (1 : Int32))]))
  refine go (fun _ => XS.aloadN X0.here hx rfl (hb hby d22_1) rfl rfl) ?_
  show Go _ p e below s _ _ _ (s₁.setTop (mkF m 2 #[.val (.ref a1), .val (.int (1 : Int32)), .val .null, .unset] [(.ref a1), (.int (1 : Int32))]))
  obtain ⟨T224, X224, e224, st224⟩ := getF X0 hx hZ hown (host := "") (Or.inl (hw _ (List.mem_of_getElem? (i := 125) rfl))) Via.refl e0 P1 (g := (mkF m 2 #[.val (.ref a1), .val (.int (1 : Int32)), .val .null, .unset] [(.ref a1), (.int (1 : Int32))])) rfl rfl (hb hby d22_2)
  refine go st224 ?_
  show Go _ p e below s _ _ _ (T224.setTop (mkF m 5 #[.val (.ref a1), .val (.int (1 : Int32)), .val .null, .unset] [(.int (2 : Int32)), (.int (1 : Int32))]))
  obtain ⟨_, _, ⟨T225, L225, k225, n225⟩, -, X225, ⟨Lc225, hQ225, l225, y225, z225⟩, st225⟩ := Jvm.LawKit.callS X224 hx (y := (⟨"java/util/Objects", "checkIndex", "(II)I"⟩ : MethodName)) hown (mvT hZ (hw _ (List.mem_of_getElem? (i := 174) rfl))) (mvT hZ (hw _ (List.mem_of_getElem? (i := 175) rfl))) (mvT hZ (hw _ (List.mem_of_getElem? (i := 61) rfl))) (mvT hZ (hw _ (List.mem_of_getElem? (i := 176) rfl))) (by decide) (backOf (W := 0) (rm23 l Z a0 hw [] (1 : Int32) (2 : Int32) h0 n0 Z0 (by decide) (by decide)) hZ (hw _ (List.mem_of_getElem? (i := 176) rfl)) (hw _ (List.mem_of_getElem? (i := 61) rfl)) (by decide) (by decide)) (g := (mkF m 5 #[.val (.ref a1), .val (.int (1 : Int32)), .val .null, .unset] [(.int (2 : Int32)), (.int (1 : Int32))])) rfl (by rw [hml]; rfl) (argsL := [(.int (1 : Int32)), (.int (2 : Int32))]) (rest := []) (lenOf pd_22_0 rfl) rfl (by show 2 * 0 + _ ≤ _; exact Nat.le_of_eq rfl) (hb hby d22_5) (fun _ _ => ⟨rfl, e224, (by decide : 0 + 0 ≤ _), (by decide : 0 + 0 ≤ _)⟩)
  dsimp only [Pt.U, Pt.locs, Pt.cells, Pt.slots] at X225 l225 y225 z225 st225 hQ225
  subst l225 y225 z225
  obtain ⟨rfl, N225q, e225⟩ := hQ225
  have N225 := Fr.app N0 N225q
  refine go st225 ?_
  show Go _ p e below s _ _ _ (T225.setTop (mkF m 8 #[.val (.ref a1), .val (.int (1 : Int32)), .val .null, .unset] [(.int (1 : Int32))]))
  refine go (fun _ => XS.pop X225.here hx rfl (hb hby d22_8) rfl rfl) ?_
  show Go _ p e below s _ _ _ (T225.setTop (mkF m 9 #[.val (.ref a1), .val (.int (1 : Int32)), .val .null, .unset] []))
  refine go (fun _ => XS.aloadN X225.here hx rfl (hb hby d22_9) rfl rfl) ?_
  show Go _ p e below s _ _ _ (T225.setTop (mkF m 10 #[.val (.ref a1), .val (.int (1 : Int32)), .val .null, .unset] [(.ref a1)]))
  refine go (fun _ => XS.iloadN X225.here hx rfl (hb hby d22_10) rfl) ?_
  show Go _ p e below s _ _ _ (T225.setTop (mkF m 11 #[.val (.ref a1), .val (.int (1 : Int32)), .val .null, .unset] [(.int (1 : Int32)), (.ref a1)]))
  obtain ⟨cq226, kq226, q226a, q226b, q226c⟩ := isOf hZ e225 P0
  obtain ⟨_, _, ⟨T226, L226, k226, n226⟩, -, X226, ⟨Lc226, hQ226, l226, y226, z226⟩, st226⟩ := X225.virtualBack hx (y := (⟨"java/util/ArrayList", "elementData", "(I)Ljava/lang/Object;"⟩ : MethodName)) (z := (⟨"java/util/ArrayList", "elementData", "(I)Ljava/lang/Object;"⟩ : MethodName)) hown (mvT hZ (hw _ (List.mem_of_getElem? (i := 181) rfl))) (mvT hZ (hw _ (List.mem_of_getElem? (i := 182) rfl))) (notFace_of_selects (args := #[]) (mvT hZ (hw _ (List.mem_of_getElem? (i := 184) rfl)))) (mvT hZ (hw _ (List.mem_of_getElem? (i := 184) rfl))) (mvT hZ (hw _ (List.mem_of_getElem? (i := 183) rfl))) (by decide) (backOf (W := 0) (rmED1_2 l Z a0 hw [] a1 b k u0 v1 h0 n0 Z0 P2 P3 P4 P5) hZ (hw _ (List.mem_of_getElem? (i := 185) rfl)) (hw _ (List.mem_of_getElem? (i := 79) rfl)) (by decide) (by decide)) q226a q226c (g := (mkF m 11 #[.val (.ref a1), .val (.int (1 : Int32)), .val .null, .unset] [(.int (1 : Int32)), (.ref a1)])) rfl (by rw [hml]; rfl) (Steps.refl _) (argsL := [(.int (1 : Int32))]) (rest := []) (lenOf pd_22_1 rfl) rfl (by show 2 * 0 + _ ≤ _; exact Nat.le_of_eq rfl) (hb hby d22_11) (fun _ _ => ⟨rfl, e225, (by decide : 0 + 0 ≤ _), (by decide : 0 + 0 ≤ _)⟩)
  dsimp only [Pt.U, Pt.locs, Pt.cells, Pt.slots] at X226 l226 y226 z226 st226 hQ226
  subst l226 y226 z226
  obtain ⟨rfl, N226q, e226⟩ := hQ226
  have N226 := Fr.app N225 N226q
  refine goT st226 ?_
  show Go _ p e below s _ _ _ (T226.setTop (mkF m 14 #[.val (.ref a1), .val (.int (1 : Int32)), .val .null, .unset] [(.ref v1)]))
  refine go (fun _ => XS.astoreN X226.here hx rfl (hb hby d22_14) rfl rfl (l' := #[.val (.ref a1), .val (.int (1 : Int32)), .val .null, .val (.ref v1)]) rfl) ?_
  show Go _ p e below s _ _ _ (T226.setTop (mkF m 15 #[.val (.ref a1), .val (.int (1 : Int32)), .val .null, .val (.ref v1)] []))
  refine go (fun _ => XS.aloadN X226.here hx rfl (hb hby d22_15) rfl rfl) ?_
  show Go _ p e below s _ _ _ (T226.setTop (mkF m 16 #[.val (.ref a1), .val (.int (1 : Int32)), .val .null, .val (.ref v1)] [(.ref a1)]))
  obtain ⟨T227, X227, e227, st227⟩ := getF X226 hx hZ hown (host := "") (Or.inl (hw _ (List.mem_of_getElem? (i := 99) rfl))) Via.refl e226 P2 (g := (mkF m 16 #[.val (.ref a1), .val (.int (1 : Int32)), .val .null, .val (.ref v1)] [(.ref a1)])) rfl rfl (hb hby d22_16)
  refine go st227 ?_
  show Go _ p e below s _ _ _ (T227.setTop (mkF m 19 #[.val (.ref a1), .val (.int (1 : Int32)), .val .null, .val (.ref v1)] [(.ref b)]))
  refine go (fun _ => XS.iloadN X227.here hx rfl (hb hby d22_19) rfl) ?_
  show Go _ p e below s _ _ _ (T227.setTop (mkF m 20 #[.val (.ref a1), .val (.int (1 : Int32)), .val .null, .val (.ref v1)] [(.int (1 : Int32)), (.ref b)]))
  refine go (fun _ => XS.aloadN X227.here hx rfl (hb hby d22_20) rfl rfl) ?_
  show Go _ p e below s _ _ _ (T227.setTop (mkF m 21 #[.val (.ref a1), .val (.int (1 : Int32)), .val .null, .val (.ref v1)] [.null, (.int (1 : Int32)), (.ref b)]))
  obtain ⟨cl228, Ar228, q228, Sz228, Nz228, Hs228, Gs228⟩ := id P4
  have hin228 : ¬ ((1 : Int32) < 0 ∨ cl228.slots.size ≤ ((1 : Int32)).toNatClampNeg) := inb_of Sz228 ⟨by decide, by decide⟩
  obtain ⟨T228, h228, X228, e228, W228, st228⟩ := stR X227 hx hZ e227 Ar228 (j := (1 : Int32)) hin228 rfl (Or.inl rfl) (g := (mkF m 21 #[.val (.ref a1), .val (.int (1 : Int32)), .val .null, .val (.ref v1)] [.null, (.int (1 : Int32)), (.ref b)])) rfl rfl (hb hby d22_21)
  have V228 := Arv.set Ar228 q228 Sz228 Nz228 Hs228 Gs228 rfl W228 1 rfl (Nat.le_of_ble_eq_true rfl)
  have VV228 : Arv Z h228 b k (.object "java/lang/Object") (10 : Int32) [u0, .null, .null, .null, .null, .null, .null, .null, .null, .null] .null := V228
  have c228_0 := P0.wr W228
  have c228_1 := P1.other W228 (Or.inl P7)
  have c228_2 := P2.other W228 (Or.inl P7)
  have c228_3 := P3.wr W228
  have KK228 : Keep h0 h228 [b] := (Keep.refl h0 [b]).wr W228 (Or.inl (List.mem_of_getElem? (i := 0) rfl))
  have ZN228 : n0 ≤ h228.size := Nat.le_trans Z0 (Keep.of_wr W228).1
  have NN228 := Fr.snoc X228 N226 P6
  refine go st228 ?_
  show Go _ p e below s _ _ _ (T228.setTop (mkF m 22 #[.val (.ref a1), .val (.int (1 : Int32)), .val .null, .val (.ref v1)] []))
  refine go (fun _ => XS.aloadN X228.here hx rfl (hb hby d22_22) rfl rfl) ?_
  show Go _ p e below s _ _ _ (T228.setTop (mkF m 23 #[.val (.ref a1), .val (.int (1 : Int32)), .val .null, .val (.ref v1)] [(.ref v1)]))
  refine goRet X228 hx Bd.notSynchronized Bd.returns rfl (Or.inr (Or.inr (Or.inr (Or.inr ⟨rfl, rfl, rfl⟩)))) (hb hby d22_23) (by decide) (by decide) (by rw [e228]; refine ⟨rfl, NN228, KK228, c228_3, VV228, P5⟩)
theorem pn_RM1_2_1 : plainName "com/example/reticule/reticule/engine/ActivationRuns" = true := by first | (simp [plainName, overriddenIn]; done) | decide +kernel
theorem ef_RM1_2_1 (m : MethodId) (a1 : Addr) (a2 : Addr) : entryFrame m #[(.ref a1), (.ref a2)] 2 = mkF m 0 #[.val (.ref a1), .val (.ref a2)] [] := by first | (simp [entryFrame, mkF, argsToLocals, Value.category]; done) | rfl
def QRM1_2_1 (Z : State) (a1 : Addr) (a2 : Addr) (ls : Addr) (b : Addr) (k : ClassId) (u0 : Value) (v1 : Addr) (h0 : Heap) (n0 : Nat) (v : Option Value) (h : Heap) (L : List Loc) : Prop := v = none ∧ Fr n0 L ∧ (Keep h0 h [a1, b]) ∧ (Fld Z h a1 "com/example/reticule/reticule/engine/ActivationRuns" "entries" "Ljava/util/List;" (.ref ls)) ∧ (Fld Z h a1 "com/example/reticule/reticule/engine/ActivationRuns" "count" "I" (.int (0 : Int32))) ∧ (Exa Z h b "[Ljava/lang/Object;") ∧ (Arv Z h b k (.object "java/lang/Object") (10 : Int32) [u0, .null, .null, .null, .null, .null, .null, .null, .null, .null] .null) ∧ (Ovr Z k "java/lang/Object")
set_option maxRecDepth 65536 in
set_option maxHeartbeats 40000000 in
theorem rmRM1_2_1 (l : Launch) (Z : State) (a0 : Array Value) (hw : ∀ d ∈ tables_1, d.before a0 Z = true) (ws : List Jvm.Cond) (a1 : Addr) (a2 : Addr) (ls : Addr) (b : Addr) (k : ClassId) (u0 : Value) (v1 : Addr) (h0 : Heap) (n0 : Nat) (Z0 : n0 ≤ h0.size) (P0 : Fld Z h0 a1 "com/example/reticule/reticule/engine/ActivationRuns" "entries" "Ljava/util/List;" (.ref ls)) (P1 : Fld Z h0 a1 "com/example/reticule/reticule/engine/ActivationRuns" "count" "I" (.int (1 : Int32))) (P2 : Fld Z h0 ls "java/util/ArrayList" "elementData" "[Ljava/lang/Object;" (.ref b)) (P3 : Exa Z h0 a1 "com/example/reticule/reticule/engine/ActivationRuns") (P4 : n0 ≤ a1) (P5 : n0 ≤ b) (P6 : Exa Z h0 ls "java/util/ArrayList") (P7 : Fld Z h0 ls "java/util/ArrayList" "size" "I" (.int (2 : Int32))) (P8 : Fld Z h0 a2 "com/example/reticule/reticule/engine/Activation" "place" "I" (.int (1 : Int32))) (P9 : Exa Z h0 b "[Ljava/lang/Object;") (P10 : Arv Z h0 b k (.object "java/lang/Object") (10 : Int32) [u0, (.ref v1), .null, .null, .null, .null, .null, .null, .null, .null] .null) (P11 : Ovr Z k "java/lang/Object") (P12 : a1 ≠ a2) (P13 : a1 ≠ ls) (P14 : a1 ≠ b) (P15 : a2 ≠ ls) (P16 : a2 ≠ b) (P17 : ls ≠ b) :
    MetFree l (⟨"com/example/reticule/reticule/engine/ActivationRuns", "remove", "(Lcom/example/reticule/reticule/engine/Activation;)V"⟩ : MethodName) (head1 (Jvm.Cond.code (⟨"com/example/reticule/reticule/engine/ActivationRuns", "remove", "(Lcom/example/reticule/reticule/engine/Activation;)V"⟩ : MethodName) prog_11_method_3_code 2 none :: ws) ({ frames := 3, cells := 0, slots := 0, locals := 42 } : Room)) (fun a U => a = #[(.ref a1), (.ref a2)] ∧ Z.Warmed39 U.vm ∧ U.heap = h0) (fun _ _ _ _ _ => True) (fun _ U o U' => ∃ v L, o = .returned v ∧ QRM1_2_1 Z a1 a2 ls b k u0 v1 h0 n0 v U'.heap L ∧ FrameEnd U o U' L ({ frames := 3, cells := 0, slots := 0, locals := 42 } : Room).cells ({ frames := 3, cells := 0, slots := 0, locals := 42 } : Room).slots) := by
  refine MetFree.of_bodySF (plainFor_of_name pn_RM1_2_1) hisR ?_
  intro p e s m args below meth c s₁ Bd hml0 hP hK
  obtain ⟨rfl, hZ, hh⟩ := hP
  have hx := Bd.exec
  have hby := Bd.bytes
  have hml : c.maxLocals = 2 := hml0
  have hown : s.vm.findClass "com/example/reticule/reticule/engine/ActivationRuns" = some m.cls := findClass_of_methodNamed Bd.named
  have hnm := (name_of_methodNamed Bd.named Bd.method).1
  have X0 : Stand p l e ({ frames := 3, cells := 0, slots := 0, locals := 42 } : Room) s m #[(.ref a1), (.ref a2)] below meth c s₁ [] 0 0 := Stand.of_body Bd
  have e0 : s₁.heap = h0 := by rw [← hh, Bd.state]; rfl
  have N0 := Fr.nil n0
  have hS0 : s.Since s.vm 0 := (State.WarmedH.refl s).since 0
  show Go FrameEnd p e below s ({ frames := 3, cells := 0, slots := 0, locals := 42 } : Room).cells ({ frames := 3, cells := 0, slots := 0, locals := 42 } : Room).slots (QRM1_2_1 Z a1 a2 ls b k u0 v1 h0 n0) (s₁.setTop (entryFrame m #[(.ref a1), (.ref a2)] 2))
  refine go (fun _ k => castTop (ef_RM1_2_1 m a1 a2) k) ?_
  show Go _ p e below s _ _ _ (s₁.setTop (mkF m 0 #[.val (.ref a1), .val (.ref a2)] []))
  refine go (fun _ => XS.aloadN X0.here hx rfl (hb hby d21_0) rfl rfl) ?_
  show Go _ p e below s _ _ _ (s₁.setTop (mkF m 1 #[.val (.ref a1), .val (.ref a2)] [(.ref a1)]))
  obtain ⟨T234, X234, e234, st234⟩ := getF X0 hx hZ hown (host := "") (Or.inl (hw _ (List.mem_of_getElem? (i := 101) rfl))) Via.refl e0 P0 (g := (mkF m 1 #[.val (.ref a1), .val (.ref a2)] [(.ref a1)])) rfl rfl (hb hby d21_1)
  refine go st234 ?_
  show Go _ p e below s _ _ _ (T234.setTop (mkF m 4 #[.val (.ref a1), .val (.ref a2)] [(.ref ls)]))
  refine go (fun _ => XS.aloadN X234.here hx rfl (hb hby d21_4) rfl rfl) ?_
  show Go _ p e below s _ _ _ (T234.setTop (mkF m 5 #[.val (.ref a1), .val (.ref a2)] [(.ref a2), (.ref ls)]))
  obtain ⟨T235, X235, e235, st235⟩ := getF X234 hx hZ hown (host := "") (Or.inl (hw _ (List.mem_of_getElem? (i := 127) rfl))) Via.refl e234 P8 (g := (mkF m 5 #[.val (.ref a1), .val (.ref a2)] [(.ref a2), (.ref ls)])) rfl rfl (hb hby d21_5)
  refine go st235 ?_
  show Go _ p e below s _ _ _ (T235.setTop (mkF m 8 #[.val (.ref a1), .val (.ref a2)] [(.int (1 : Int32)), (.ref ls)]))
  refine go (fun _ => XS.aconstNull X235.here hx rfl (hb hby d21_8)) ?_
  show Go _ p e below s _ _ _ (T235.setTop (mkF m 9 #[.val (.ref a1), .val (.ref a2)] [.null, (.int (1 : Int32)), (.ref ls)]))
  obtain ⟨cq236, kq236, q236a, q236b, q236c⟩ := isOf hZ e235 P6
  obtain ⟨_, _, ⟨T236, L236, k236, n236⟩, -, X236, ⟨Lc236, hQ236, l236, y236, z236⟩, st236⟩ := X235.interfaceBack hx (xi := (⟨"java/util/List", "set", "(ILjava/lang/Object;)Ljava/lang/Object;"⟩ : MethodName)) (y := (⟨"java/util/ArrayList", "set", "(ILjava/lang/Object;)Ljava/lang/Object;"⟩ : MethodName)) hown (mvT hZ (hw _ (List.mem_of_getElem? (i := 166) rfl))) (mvT hZ (hw _ (List.mem_of_getElem? (i := 167) rfl))) (mvT hZ (hw _ (List.mem_of_getElem? (i := 168) rfl))) (mvT hZ (hw _ (List.mem_of_getElem? (i := 169) rfl))) (mvT hZ (hw _ (List.mem_of_getElem? (i := 170) rfl))) (mvT hZ (hw _ (List.mem_of_getElem? (i := 171) rfl))) (mvT hZ (hw _ (List.mem_of_getElem? (i := 172) rfl))) (mvT hZ (hw _ (List.mem_of_getElem? (i := 123) rfl))) (by decide) (backOf (W := 0) (rmST1_2 l Z a0 hw [] ls b k u0 v1 h0 n0 Z0 P6 P7 P2 P9 P10 P11 P5 P17) hZ (hw _ (List.mem_of_getElem? (i := 173) rfl)) (hw _ (List.mem_of_getElem? (i := 79) rfl)) (by decide) (by decide)) q236a q236b q236c (g := (mkF m 9 #[.val (.ref a1), .val (.ref a2)] [.null, (.int (1 : Int32)), (.ref ls)])) rfl (by rw [hml]; rfl) (Steps.refl _) (argsL := [(.int (1 : Int32)), .null]) (rest := []) (lenOf pd_21_0 rfl) rfl (by show 2 * 0 + _ ≤ _; exact Nat.le_of_eq rfl) (hb hby d21_9) (fun _ _ => ⟨rfl, e235, (by decide : 0 + 0 ≤ _), (by decide : 0 + 0 ≤ _)⟩)
  dsimp only [Pt.U, Pt.locs, Pt.cells, Pt.slots] at X236 l236 y236 z236 st236 hQ236
  subst l236 y236 z236
  obtain ⟨rfl, N236q, K236, u236_1, u236_2, u236_3⟩ := hQ236
  have N236 := Fr.app N0 N236q
  have c236_0 := P0.keep K236 (ninS P14 nin0)
  have c236_1 := P1.keep K236 (ninS P14 nin0)
  have c236_2 := P2.keep K236 (ninS P17 nin0)
  have c236_3 := P3.keep K236
  have c236_4 := P6.keep K236
  have c236_5 := P7.keep K236 (ninS P17 nin0)
  have c236_6 := P8.keep K236 (ninS P16 nin0)
  have c236_7 := P9.keep K236
  have KK236 : Keep h0 T236.heap [a1, b] := (Keep.refl h0 [a1, b]).trans K236 (allS (P := fun x => x ∈ [a1, b] ∨ h0.size ≤ x) (Or.inl (List.mem_of_getElem? (i := 1) rfl)) all0)
  have ZN236 : n0 ≤ T236.heap.size := Nat.le_trans Z0 K236.1
  refine goT st236 ?_
  show Go _ p e below s _ _ _ (T236.setTop (mkF m 14 #[.val (.ref a1), .val (.ref a2)] [(.ref v1)]))
  refine go (fun _ => XS.pop X236.here hx rfl (hb hby d21_14) rfl rfl) ?_
  show Go _ p e below s _ _ _ (T236.setTop (mkF m 15 #[.val (.ref a1), .val (.ref a2)] []))
  refine go (fun _ => XS.aloadN X236.here hx rfl (hb hby d21_15) rfl rfl) ?_
  show Go _ p e below s _ _ _ (T236.setTop (mkF m 16 #[.val (.ref a1), .val (.ref a2)] [(.ref a1)]))
  refine go (fun _ => XS.dup X236.here hx rfl (hb hby d21_16) rfl rfl) ?_
  show Go _ p e below s _ _ _ (T236.setTop (mkF m 17 #[.val (.ref a1), .val (.ref a2)] [(.ref a1), (.ref a1)]))
  obtain ⟨T237, X237, e237, st237⟩ := getF X236 hx hZ hown (host := "") (Or.inl (hw _ (List.mem_of_getElem? (i := 108) rfl))) Via.refl rfl c236_1 (g := (mkF m 17 #[.val (.ref a1), .val (.ref a2)] [(.ref a1), (.ref a1)])) rfl rfl (hb hby d21_17)
  refine go st237 ?_
  show Go _ p e below s _ _ _ (T237.setTop (mkF m 20 #[.val (.ref a1), .val (.ref a2)] [(.int (1 : Int32)), (.ref a1)]))
  refine go (fun _ => XS.iconst X237.here hx rfl (hb hby d21_20)) ?_
  show Go _ p e below s _ _ _ (T237.setTop (mkF m 21 #[.val (.ref a1), .val (.ref a2)] [(.int (1 : Int32)), (.int (1 : Int32)), (.ref a1)]))
  refine go (fun _ => XS.isub X237.here hx rfl (hb hby d21_21) rfl) ?_
  show Go _ p e below s _ _ _ (T237.setTop (mkF m 22 #[.val (.ref a1), .val (.ref a2)] [(.int (0 : Int32)), (.ref a1)]))
  obtain ⟨T238, h238, X238, e238, W238, st238⟩ := putF X237 hx hZ hown (host := "") (Or.inl (hw _ (List.mem_of_getElem? (i := 108) rfl))) Via.refl e237 c236_1 c236_3 (Or.inl (hw _ (List.mem_of_getElem? (i := 109) rfl))) (hw _ (List.mem_of_getElem? (i := 71) rfl)) (ty := .int) (by decide) rfl rfl (g := (mkF m 22 #[.val (.ref a1), .val (.ref a2)] [(.int (0 : Int32)), (.ref a1)])) rfl rfl (hb hby d21_22)
  have Fw238 := c236_1.same W238
  have c238_0 := c236_0.other W238 (Or.inr (slot_ne (Or.inr (hw _ (List.mem_of_getElem? (i := 102) rfl))) (Or.inl (hw _ (List.mem_of_getElem? (i := 109) rfl))) (by decide) (t := (.object "java/util/List")) (t' := .int) (by decide) (by decide)))
  have c238_2 := c236_2.other W238 (Or.inl (Ne.symm P13))
  have c238_3 := c236_3.wr W238
  have c238_4 := c236_4.wr W238
  have c238_5 := c236_5.other W238 (Or.inl (Ne.symm P13))
  have c238_6 := c236_6.other W238 (Or.inl (Ne.symm P12))
  have c238_7 := u236_1.wr W238
  have c238_8 := u236_2.other W238 (Ne.symm P14)
  have KK238 : Keep h0 h238 [a1, b] := KK236.wr W238 (Or.inl (List.mem_of_getElem? (i := 0) rfl))
  have ZN238 : n0 ≤ h238.size := Nat.le_trans ZN236 (Keep.of_wr W238).1
  have NN238 := Fr.snoc X238 N236 P4
  refine go st238 ?_
  show Go _ p e below s _ _ _ (T238.setTop (mkF m 25 #[.val (.ref a1), .val (.ref a2)] []))
  refine goRet0 X238 hx Bd.notSynchronized Bd.returns (hb hby d21_25) (by decide) (by decide) (by rw [e238]; refine ⟨rfl, NN238, KK238, c238_0, Fw238, c238_7, c238_8, u236_3⟩)
theorem pn_RM1_2_2 : plainName "com/example/reticule/reticule/engine/ActivationRuns" = true := by first | (simp [plainName, overriddenIn]; done) | decide +kernel
theorem ef_RM1_2_2 (m : MethodId) (a1 : Addr) (a2 : Addr) : entryFrame m #[(.ref a1), (.ref a2)] 2 = mkF m 0 #[.val (.ref a1), .val (.ref a2)] [] := by first | (simp [entryFrame, mkF, argsToLocals, Value.category]; done) | rfl
def QRM1_2_2 (Z : State) (a1 : Addr) (a2 : Addr) (ls : Addr) (b : Addr) (k : ClassId) (u0 : Value) (v1 : Addr) (h0 : Heap) (n0 : Nat) (v : Option Value) (h : Heap) (L : List Loc) : Prop := v = none ∧ Fr n0 L ∧ (Keep h0 h [a1, b]) ∧ (Fld Z h a1 "com/example/reticule/reticule/engine/ActivationRuns" "entries" "Ljava/util/List;" (.ref ls)) ∧ (Fld Z h a1 "com/example/reticule/reticule/engine/ActivationRuns" "count" "I" (.int (1 : Int32))) ∧ (Exa Z h b "[Ljava/lang/Object;") ∧ (Arv Z h b k (.object "java/lang/Object") (10 : Int32) [u0, .null, .null, .null, .null, .null, .null, .null, .null, .null] .null) ∧ (Ovr Z k "java/lang/Object")
set_option maxRecDepth 65536 in
set_option maxHeartbeats 40000000 in
theorem rmRM1_2_2 (l : Launch) (Z : State) (a0 : Array Value) (hw : ∀ d ∈ tables_1, d.before a0 Z = true) (ws : List Jvm.Cond) (a1 : Addr) (a2 : Addr) (ls : Addr) (b : Addr) (k : ClassId) (u0 : Value) (v1 : Addr) (h0 : Heap) (n0 : Nat) (Z0 : n0 ≤ h0.size) (P0 : Fld Z h0 a1 "com/example/reticule/reticule/engine/ActivationRuns" "entries" "Ljava/util/List;" (.ref ls)) (P1 : Fld Z h0 a1 "com/example/reticule/reticule/engine/ActivationRuns" "count" "I" (.int (2 : Int32))) (P2 : Fld Z h0 ls "java/util/ArrayList" "elementData" "[Ljava/lang/Object;" (.ref b)) (P3 : Exa Z h0 a1 "com/example/reticule/reticule/engine/ActivationRuns") (P4 : n0 ≤ a1) (P5 : n0 ≤ b) (P6 : Exa Z h0 ls "java/util/ArrayList") (P7 : Fld Z h0 ls "java/util/ArrayList" "size" "I" (.int (2 : Int32))) (P8 : Fld Z h0 a2 "com/example/reticule/reticule/engine/Activation" "place" "I" (.int (1 : Int32))) (P9 : Exa Z h0 b "[Ljava/lang/Object;") (P10 : Arv Z h0 b k (.object "java/lang/Object") (10 : Int32) [u0, (.ref v1), .null, .null, .null, .null, .null, .null, .null, .null] .null) (P11 : Ovr Z k "java/lang/Object") (P12 : a1 ≠ a2) (P13 : a1 ≠ ls) (P14 : a1 ≠ b) (P15 : a2 ≠ ls) (P16 : a2 ≠ b) (P17 : ls ≠ b) :
    MetFree l (⟨"com/example/reticule/reticule/engine/ActivationRuns", "remove", "(Lcom/example/reticule/reticule/engine/Activation;)V"⟩ : MethodName) (head1 (Jvm.Cond.code (⟨"com/example/reticule/reticule/engine/ActivationRuns", "remove", "(Lcom/example/reticule/reticule/engine/Activation;)V"⟩ : MethodName) prog_11_method_3_code 2 none :: ws) ({ frames := 3, cells := 0, slots := 0, locals := 42 } : Room)) (fun a U => a = #[(.ref a1), (.ref a2)] ∧ Z.Warmed39 U.vm ∧ U.heap = h0) (fun _ _ _ _ _ => True) (fun _ U o U' => ∃ v L, o = .returned v ∧ QRM1_2_2 Z a1 a2 ls b k u0 v1 h0 n0 v U'.heap L ∧ FrameEnd U o U' L ({ frames := 3, cells := 0, slots := 0, locals := 42 } : Room).cells ({ frames := 3, cells := 0, slots := 0, locals := 42 } : Room).slots) := by
  refine MetFree.of_bodySF (plainFor_of_name pn_RM1_2_2) hisR ?_
  intro p e s m args below meth c s₁ Bd hml0 hP hK
  obtain ⟨rfl, hZ, hh⟩ := hP
  have hx := Bd.exec
  have hby := Bd.bytes
  have hml : c.maxLocals = 2 := hml0
  have hown : s.vm.findClass "com/example/reticule/reticule/engine/ActivationRuns" = some m.cls := findClass_of_methodNamed Bd.named
  have hnm := (name_of_methodNamed Bd.named Bd.method).1
  have X0 : Stand p l e ({ frames := 3, cells := 0, slots := 0, locals := 42 } : Room) s m #[(.ref a1), (.ref a2)] below meth c s₁ [] 0 0 := Stand.of_body Bd
  have e0 : s₁.heap = h0 := by rw [← hh, Bd.state]; rfl
  have N0 := Fr.nil n0
  have hS0 : s.Since s.vm 0 := (State.WarmedH.refl s).since 0
  show Go FrameEnd p e below s ({ frames := 3, cells := 0, slots := 0, locals := 42 } : Room).cells ({ frames := 3, cells := 0, slots := 0, locals := 42 } : Room).slots (QRM1_2_2 Z a1 a2 ls b k u0 v1 h0 n0) (s₁.setTop (entryFrame m #[(.ref a1), (.ref a2)] 2))
  refine go (fun _ k => castTop (ef_RM1_2_2 m a1 a2) k) ?_
  show Go _ p e below s _ _ _ (s₁.setTop (mkF m 0 #[.val (.ref a1), .val (.ref a2)] []))
  refine go (fun _ => XS.aloadN X0.here hx rfl (hb hby d21_0) rfl rfl) ?_
  show Go _ p e below s _ _ _ (s₁.setTop (mkF m 1 #[.val (.ref a1), .val (.ref a2)] [(.ref a1)]))
  obtain ⟨T244, X244, e244, st244⟩ := getF X0 hx hZ hown (host := "") (Or.inl (hw _ (List.mem_of_getElem? (i := 101) rfl))) Via.refl e0 P0 (g := (mkF m 1 #[.val (.ref a1), .val (.ref a2)] [(.ref a1)])) rfl rfl (hb hby d21_1)
  refine go st244 ?_
  show Go _ p e below s _ _ _ (T244.setTop (mkF m 4 #[.val (.ref a1), .val (.ref a2)] [(.ref ls)]))
  refine go (fun _ => XS.aloadN X244.here hx rfl (hb hby d21_4) rfl rfl) ?_
  show Go _ p e below s _ _ _ (T244.setTop (mkF m 5 #[.val (.ref a1), .val (.ref a2)] [(.ref a2), (.ref ls)]))
  obtain ⟨T245, X245, e245, st245⟩ := getF X244 hx hZ hown (host := "") (Or.inl (hw _ (List.mem_of_getElem? (i := 127) rfl))) Via.refl e244 P8 (g := (mkF m 5 #[.val (.ref a1), .val (.ref a2)] [(.ref a2), (.ref ls)])) rfl rfl (hb hby d21_5)
  refine go st245 ?_
  show Go _ p e below s _ _ _ (T245.setTop (mkF m 8 #[.val (.ref a1), .val (.ref a2)] [(.int (1 : Int32)), (.ref ls)]))
  refine go (fun _ => XS.aconstNull X245.here hx rfl (hb hby d21_8)) ?_
  show Go _ p e below s _ _ _ (T245.setTop (mkF m 9 #[.val (.ref a1), .val (.ref a2)] [.null, (.int (1 : Int32)), (.ref ls)]))
  obtain ⟨cq246, kq246, q246a, q246b, q246c⟩ := isOf hZ e245 P6
  obtain ⟨_, _, ⟨T246, L246, k246, n246⟩, -, X246, ⟨Lc246, hQ246, l246, y246, z246⟩, st246⟩ := X245.interfaceBack hx (xi := (⟨"java/util/List", "set", "(ILjava/lang/Object;)Ljava/lang/Object;"⟩ : MethodName)) (y := (⟨"java/util/ArrayList", "set", "(ILjava/lang/Object;)Ljava/lang/Object;"⟩ : MethodName)) hown (mvT hZ (hw _ (List.mem_of_getElem? (i := 166) rfl))) (mvT hZ (hw _ (List.mem_of_getElem? (i := 167) rfl))) (mvT hZ (hw _ (List.mem_of_getElem? (i := 168) rfl))) (mvT hZ (hw _ (List.mem_of_getElem? (i := 169) rfl))) (mvT hZ (hw _ (List.mem_of_getElem? (i := 170) rfl))) (mvT hZ (hw _ (List.mem_of_getElem? (i := 171) rfl))) (mvT hZ (hw _ (List.mem_of_getElem? (i := 172) rfl))) (mvT hZ (hw _ (List.mem_of_getElem? (i := 123) rfl))) (by decide) (backOf (W := 0) (rmST1_2 l Z a0 hw [] ls b k u0 v1 h0 n0 Z0 P6 P7 P2 P9 P10 P11 P5 P17) hZ (hw _ (List.mem_of_getElem? (i := 173) rfl)) (hw _ (List.mem_of_getElem? (i := 79) rfl)) (by decide) (by decide)) q246a q246b q246c (g := (mkF m 9 #[.val (.ref a1), .val (.ref a2)] [.null, (.int (1 : Int32)), (.ref ls)])) rfl (by rw [hml]; rfl) (Steps.refl _) (argsL := [(.int (1 : Int32)), .null]) (rest := []) (lenOf pd_21_0 rfl) rfl (by show 2 * 0 + _ ≤ _; exact Nat.le_of_eq rfl) (hb hby d21_9) (fun _ _ => ⟨rfl, e245, (by decide : 0 + 0 ≤ _), (by decide : 0 + 0 ≤ _)⟩)
  dsimp only [Pt.U, Pt.locs, Pt.cells, Pt.slots] at X246 l246 y246 z246 st246 hQ246
  subst l246 y246 z246
  obtain ⟨rfl, N246q, K246, u246_1, u246_2, u246_3⟩ := hQ246
  have N246 := Fr.app N0 N246q
  have c246_0 := P0.keep K246 (ninS P14 nin0)
  have c246_1 := P1.keep K246 (ninS P14 nin0)
  have c246_2 := P2.keep K246 (ninS P17 nin0)
  have c246_3 := P3.keep K246
  have c246_4 := P6.keep K246
  have c246_5 := P7.keep K246 (ninS P17 nin0)
  have c246_6 := P8.keep K246 (ninS P16 nin0)
  have c246_7 := P9.keep K246
  have KK246 : Keep h0 T246.heap [a1, b] := (Keep.refl h0 [a1, b]).trans K246 (allS (P := fun x => x ∈ [a1, b] ∨ h0.size ≤ x) (Or.inl (List.mem_of_getElem? (i := 1) rfl)) all0)
  have ZN246 : n0 ≤ T246.heap.size := Nat.le_trans Z0 K246.1
  refine goT st246 ?_
  show Go _ p e below s _ _ _ (T246.setTop (mkF m 14 #[.val (.ref a1), .val (.ref a2)] [(.ref v1)]))
  refine go (fun _ => XS.pop X246.here hx rfl (hb hby d21_14) rfl rfl) ?_
  show Go _ p e below s _ _ _ (T246.setTop (mkF m 15 #[.val (.ref a1), .val (.ref a2)] []))
  refine go (fun _ => XS.aloadN X246.here hx rfl (hb hby d21_15) rfl rfl) ?_
  show Go _ p e below s _ _ _ (T246.setTop (mkF m 16 #[.val (.ref a1), .val (.ref a2)] [(.ref a1)]))
  refine go (fun _ => XS.dup X246.here hx rfl (hb hby d21_16) rfl rfl) ?_
  show Go _ p e below s _ _ _ (T246.setTop (mkF m 17 #[.val (.ref a1), .val (.ref a2)] [(.ref a1), (.ref a1)]))
  obtain ⟨T247, X247, e247, st247⟩ := getF X246 hx hZ hown (host := "") (Or.inl (hw _ (List.mem_of_getElem? (i := 108) rfl))) Via.refl rfl c246_1 (g := (mkF m 17 #[.val (.ref a1), .val (.ref a2)] [(.ref a1), (.ref a1)])) rfl rfl (hb hby d21_17)
  refine go st247 ?_
  show Go _ p e below s _ _ _ (T247.setTop (mkF m 20 #[.val (.ref a1), .val (.ref a2)] [(.int (2 : Int32)), (.ref a1)]))
  refine go (fun _ => XS.iconst X247.here hx rfl (hb hby d21_20)) ?_
  show Go _ p e below s _ _ _ (T247.setTop (mkF m 21 #[.val (.ref a1), .val (.ref a2)] [(.int (1 : Int32)), (.int (2 : Int32)), (.ref a1)]))
  refine go (fun _ => XS.isub X247.here hx rfl (hb hby d21_21) rfl) ?_
  show Go _ p e below s _ _ _ (T247.setTop (mkF m 22 #[.val (.ref a1), .val (.ref a2)] [(.int (1 : Int32)), (.ref a1)]))
  obtain ⟨T248, h248, X248, e248, W248, st248⟩ := putF X247 hx hZ hown (host := "") (Or.inl (hw _ (List.mem_of_getElem? (i := 108) rfl))) Via.refl e247 c246_1 c246_3 (Or.inl (hw _ (List.mem_of_getElem? (i := 109) rfl))) (hw _ (List.mem_of_getElem? (i := 71) rfl)) (ty := .int) (by decide) rfl rfl (g := (mkF m 22 #[.val (.ref a1), .val (.ref a2)] [(.int (1 : Int32)), (.ref a1)])) rfl rfl (hb hby d21_22)
  have Fw248 := c246_1.same W248
  have c248_0 := c246_0.other W248 (Or.inr (slot_ne (Or.inr (hw _ (List.mem_of_getElem? (i := 102) rfl))) (Or.inl (hw _ (List.mem_of_getElem? (i := 109) rfl))) (by decide) (t := (.object "java/util/List")) (t' := .int) (by decide) (by decide)))
  have c248_2 := c246_2.other W248 (Or.inl (Ne.symm P13))
  have c248_3 := c246_3.wr W248
  have c248_4 := c246_4.wr W248
  have c248_5 := c246_5.other W248 (Or.inl (Ne.symm P13))
  have c248_6 := c246_6.other W248 (Or.inl (Ne.symm P12))
  have c248_7 := u246_1.wr W248
  have c248_8 := u246_2.other W248 (Ne.symm P14)
  have KK248 : Keep h0 h248 [a1, b] := KK246.wr W248 (Or.inl (List.mem_of_getElem? (i := 0) rfl))
  have ZN248 : n0 ≤ h248.size := Nat.le_trans ZN246 (Keep.of_wr W248).1
  have NN248 := Fr.snoc X248 N246 P4
  refine go st248 ?_
  show Go _ p e below s _ _ _ (T248.setTop (mkF m 25 #[.val (.ref a1), .val (.ref a2)] []))
  refine goRet0 X248 hx Bd.notSynchronized Bd.returns (hb hby d21_25) (by decide) (by decide) (by rw [e248]; refine ⟨rfl, NN248, KK248, c248_0, Fw248, c248_7, c248_8, u246_3⟩)
theorem own_mod3 (x : Int32) : (x &&& 2147483647) % 3 = 0 ∨ (x &&& 2147483647) % 3 = 1 ∨ (x &&& 2147483647) % 3 = 2 := by
  have h := Jvm.Kit.i32_mask x 2147483647 (k := 31) (by decide) (by decide)
  have e6 : (3 : Int32).toInt = 3 := by decide
  have e : ((x &&& 2147483647) % 3).toInt = (x &&& 2147483647).toInt % 3 := by rw [Jvm.Kit.i32_rem_nonneg (by omega), e6]
  simp only [← Int32.toInt_inj, e, show (0 : Int32).toInt = 0 from by decide, show (1 : Int32).toInt = 1 from by decide, show (2 : Int32).toInt = 2 from by decide]
  omega
theorem own_mod2 (x : Int32) : (x &&& 2147483647) % 2 = 0 ∨ (x &&& 2147483647) % 2 = 1 := by
  have h := Jvm.Kit.i32_mask x 2147483647 (k := 31) (by decide) (by decide)
  have e6 : (2 : Int32).toInt = 2 := by decide
  have e : ((x &&& 2147483647) % 2).toInt = (x &&& 2147483647).toInt % 2 := by rw [Jvm.Kit.i32_rem_nonneg (by omega), e6]
  simp only [← Int32.toInt_inj, e, show (0 : Int32).toInt = 0 from by decide, show (1 : Int32).toInt = 1 from by decide]
  omega
theorem own_mod1 (x : Int32) : (x &&& 2147483647) % 1 = 0 := by
  have h := Jvm.Kit.i32_mask x 2147483647 (k := 31) (by decide) (by decide)
  have e6 : (1 : Int32).toInt = 1 := by decide
  have e : ((x &&& 2147483647) % 1).toInt = (x &&& 2147483647).toInt % 1 := by rw [Jvm.Kit.i32_rem_nonneg (by omega), e6]
  simp only [← Int32.toInt_inj, e, show (0 : Int32).toInt = 0 from by decide]
  omega
theorem pn_0 : plainName "com/example/reticule/reticule/engine/ActivationRunsIsEmptyPinLaw" = true := by first | (simp [plainName, overriddenIn]; done) | decide +kernel
theorem pd_0_0 : parseMethodDescriptor "(IILcom/example/reticule/reticule/engine/Expression;Lcom/example/reticule/reticule/engine/Agenda;)V" = some ⟨[.int, .int, (.object "com/example/reticule/reticule/engine/Expression"), (.object "com/example/reticule/reticule/engine/Agenda")], none⟩ := by decide +kernel
theorem pd_0_1 : parseMethodDescriptor "(Lcom/example/reticule/reticule/engine/ParentNode;)Lcom/example/reticule/reticule/engine/Token;" = some ⟨[(.object "com/example/reticule/reticule/engine/ParentNode")], some (.object "com/example/reticule/reticule/engine/Token")⟩ := by decide +kernel
theorem pd_0_2 : parseMethodDescriptor "(Lcom/example/reticule/reticule/engine/TerminalNode;Lcom/example/reticule/reticule/engine/Token;)V" = some ⟨[(.object "com/example/reticule/reticule/engine/TerminalNode"), (.object "com/example/reticule/reticule/engine/Token")], none⟩ := by decide +kernel
theorem pd_0_3 : parseMethodDescriptor "()V" = some ⟨[], none⟩ := by decide +kernel
theorem pd_0_4 : parseMethodDescriptor "()Z" = some ⟨[], some .boolean⟩ := by decide +kernel
theorem pd_0_5 : parseMethodDescriptor "(Lcom/example/reticule/reticule/engine/Activation;)V" = some ⟨[(.object "com/example/reticule/reticule/engine/Activation")], none⟩ := by decide +kernel
theorem ef_0 (m : MethodId) (p1 : Int32) (p2 : Int32) (p3 : Int32) : entryFrame m #[(.int p1), (.int p2), (.int p3)] maxLocals = mkF m 0 #[.val (.int p1), .val (.int p2), .val (.int p3), .unset, .unset, .unset, .unset, .unset, .unset, .unset, .unset, .unset, .unset, .unset] [] := by first | (simp [entryFrame, mkF, argsToLocals, Value.category, maxLocals]; done) | rfl
def Q0 (Z : State) (p1 : Int32) (p2 : Int32) (p3 : Int32) (d0 : Addr) (kd : ClassId) (h0 : Heap) (n0 : Nat) (v : Option Value) (h : Heap) (L : List Loc) : Prop := v = some (.int (1 : Int32)) ∧ Fr n0 L
set_option maxRecDepth 65536 in
set_option maxHeartbeats 40000000 in
theorem rm0 (l : Launch) (Z : State) (a0 : Array Value) (hw : ∀ d ∈ tables_1, d.before a0 Z = true) (ws : List Jvm.Cond) (p1 : Int32) (p2 : Int32) (p3 : Int32) (d0 : Addr) (kd : ClassId) (h0 : Heap) (n0 : Nat) (Z0 : n0 ≤ h0.size) (P0 : Sta Z Z.heap "java/util/ArrayList" "DEFAULTCAPACITY_EMPTY_ELEMENTDATA" "[Ljava/lang/Object;" (.ref d0)) (P1 : Old Z n0 h0) (P2 : Arv Z Z.heap d0 kd (.object "java/lang/Object") (0 : Int32) [] .null) :
    MetFree l x (head1 (Jvm.Cond.code x code maxLocals ret :: ws) room_1) (fun a U => a = #[(.int p1), (.int p2), (.int p3)] ∧ Z.Warmed39 U.vm ∧ U.heap = h0) (fun _ _ _ _ _ => True) (fun _ U o U' => ∃ v L, o = .returned v ∧ Q0 Z p1 p2 p3 d0 kd h0 n0 v U'.heap L ∧ ReturnedEndW U o U' L room_1.cells room_1.slots) := by
  refine MetFree.of_bodySF (plainFor_of_name pn_0) hisR ?_
  intro p e s m args below meth c s₁ Bd hml0 hP hK
  obtain ⟨rfl, hZ, hh⟩ := hP
  have hx := Bd.exec
  have hby := Bd.bytes
  have hml : c.maxLocals = 14 := hml0
  have hown : s.vm.findClass "com/example/reticule/reticule/engine/ActivationRunsIsEmptyPinLaw" = some m.cls := findClass_of_methodNamed Bd.named
  have hnm := (name_of_methodNamed Bd.named Bd.method).1
  have X0 : Stand p l e room_1 (s.setVm s.vm) m #[(.int p1), (.int p2), (.int p3)] below meth c s₁ [] 0 0 := Stand.of_body Bd
  have e0 : s₁.heap = h0 := by rw [← hh, Bd.state]; rfl
  have N0 := Fr.nil n0
  have hS0 : s.Since s.vm 0 := (State.WarmedH.refl s).since 0
  show Go ReturnedEndW p e below s room_1.cells room_1.slots (Q0 Z p1 p2 p3 d0 kd h0 n0) (s₁.setTop (entryFrame m #[(.int p1), (.int p2), (.int p3)] maxLocals))
  refine go (fun _ k => castTop (ef_0 m p1 p2 p3) k) ?_
  show Go _ p e below s _ _ _ (s₁.setTop (mkF m 0 #[.val (.int p1), .val (.int p2), .val (.int p3), .unset, .unset, .unset, .unset, .unset, .unset, .unset, .unset, .unset, .unset, .unset] []))
  obtain ⟨T249, h249, X249, e249, E249, A249, D249, -, st249⟩ := newO X0 hx hZ hown (hw _ (List.mem_of_getElem? (i := 0) rfl)) (hw _ (List.mem_of_getElem? (i := 1) rfl)) (hw _ (List.mem_of_getElem? (i := 2) rfl)) e0 (g := (mkF m 0 #[.val (.int p1), .val (.int p2), .val (.int p3), .unset, .unset, .unset, .unset, .unset, .unset, .unset, .unset, .unset, .unset, .unset] [])) rfl (hb hby at_0) (by decide) (by decide)
  obtain ⟨b249, g249⟩ : ∃ z, z = h0.size := ⟨_, rfl⟩
  rw [← g249] at A249 D249 st249
  have G_b249 : n0 ≤ b249 := Nat.le_trans Z0 (Nat.le_of_eq g249.symm)
  have SZ_b249 : h0.size ≤ b249 := Nat.le_trans (Keep.refl h0 []).1 (Nat.le_of_eq g249.symm)
  have KK249 : Keep h0 h249 [] := (Keep.refl h0 []).ext E249
  have ZN249 : n0 ≤ h249.size := Nat.le_trans Z0 E249.1
  have HK249 : 0 ≤ h249.size := Nat.le_trans (Nat.zero_le _) E249.1
  have OL249 := P1.ext E249
  have F249_10 : Fld Z h249 b249 "com/example/reticule/reticule/engine/TerminalNode" "ruleIndex" "I" (.int (0 : Int32)) := D249 (Or.inr (hw _ (List.mem_of_getElem? (i := 10) rfl))) (ty := .int) (by decide)
  have F249_12 : Fld Z h249 b249 "com/example/reticule/reticule/engine/TerminalNode" "salience" "I" (.int (0 : Int32)) := D249 (Or.inr (hw _ (List.mem_of_getElem? (i := 12) rfl))) (ty := .int) (by decide)
  have F249_14 : Fld Z h249 b249 "com/example/reticule/reticule/engine/TerminalNode" "actions" "Lcom/example/reticule/reticule/engine/Expression;" .null := D249 (Or.inr (hw _ (List.mem_of_getElem? (i := 14) rfl))) (ty := (.object "com/example/reticule/reticule/engine/Expression")) (by decide)
  have F249_16 : Fld Z h249 b249 "com/example/reticule/reticule/engine/TerminalNode" "agenda" "Lcom/example/reticule/reticule/engine/Agenda;" .null := D249 (Or.inr (hw _ (List.mem_of_getElem? (i := 16) rfl))) (ty := (.object "com/example/reticule/reticule/engine/Agenda")) (by decide)
  refine go st249 ?_
  show Go _ p e below s _ _ _ (T249.setTop (mkF m 3 #[.val (.int p1), .val (.int p2), .val (.int p3), .unset, .unset, .unset, .unset, .unset, .unset, .unset, .unset, .unset, .unset, .unset] [(.ref b249)]))
  refine go (fun _ => XS.dup X249.here hx rfl (hb hby at_3) rfl rfl) ?_
  show Go _ p e below s _ _ _ (T249.setTop (mkF m 4 #[.val (.int p1), .val (.int p2), .val (.int p3), .unset, .unset, .unset, .unset, .unset, .unset, .unset, .unset, .unset, .unset, .unset] [(.ref b249), (.ref b249)]))
  refine go (fun _ => XS.iconst X249.here hx rfl (hb hby at_4)) ?_
  show Go _ p e below s _ _ _ (T249.setTop (mkF m 5 #[.val (.int p1), .val (.int p2), .val (.int p3), .unset, .unset, .unset, .unset, .unset, .unset, .unset, .unset, .unset, .unset, .unset] [(.int (0 : Int32)), (.ref b249), (.ref b249)]))
  refine go (fun _ => XS.iconst X249.here hx rfl (hb hby at_5)) ?_
  show Go _ p e below s _ _ _ (T249.setTop (mkF m 6 #[.val (.int p1), .val (.int p2), .val (.int p3), .unset, .unset, .unset, .unset, .unset, .unset, .unset, .unset, .unset, .unset, .unset] [(.int (0 : Int32)), (.int (0 : Int32)), (.ref b249), (.ref b249)]))
  refine go (fun _ => XS.aconstNull X249.here hx rfl (hb hby at_6)) ?_
  show Go _ p e below s _ _ _ (T249.setTop (mkF m 7 #[.val (.int p1), .val (.int p2), .val (.int p3), .unset, .unset, .unset, .unset, .unset, .unset, .unset, .unset, .unset, .unset, .unset] [.null, (.int (0 : Int32)), (.int (0 : Int32)), (.ref b249), (.ref b249)]))
  refine go (fun _ => XS.aconstNull X249.here hx rfl (hb hby at_7)) ?_
  show Go _ p e below s _ _ _ (T249.setTop (mkF m 8 #[.val (.int p1), .val (.int p2), .val (.int p3), .unset, .unset, .unset, .unset, .unset, .unset, .unset, .unset, .unset, .unset, .unset] [.null, .null, (.int (0 : Int32)), (.int (0 : Int32)), (.ref b249), (.ref b249)]))
  obtain ⟨_, _, ⟨T250, L250, k250, n250⟩, -, X250, ⟨Lc250, hQ250, l250, y250, z250⟩, st250⟩ := X249.specialBack hx (y := (⟨"com/example/reticule/reticule/engine/TerminalNode", "<init>", "(IILcom/example/reticule/reticule/engine/Expression;Lcom/example/reticule/reticule/engine/Agenda;)V"⟩ : MethodName)) rfl hown (mvT hZ (hw _ (List.mem_of_getElem? (i := 3) rfl))) (mvT hZ (hw _ (List.mem_of_getElem? (i := 4) rfl))) (mvT hZ (hw _ (List.mem_of_getElem? (i := 5) rfl))) (by decide) (backOf (W := 1) (rm1 l Z a0 hw [] b249 (.int (0 : Int32)) (.int (0 : Int32)) .null .null h249 n0 ZN249 A249 G_b249 F249_10 F249_12 F249_14 F249_16) hZ (hw _ (List.mem_of_getElem? (i := 5) rfl)) (hw _ (List.mem_of_getElem? (i := 2) rfl)) (by decide) (by decide)) (g := (mkF m 8 #[.val (.int p1), .val (.int p2), .val (.int p3), .unset, .unset, .unset, .unset, .unset, .unset, .unset, .unset, .unset, .unset, .unset] [.null, .null, (.int (0 : Int32)), (.int (0 : Int32)), (.ref b249), (.ref b249)])) rfl (by rw [hml]; rfl) (Steps.refl _) (a := b249) (argsL := [(.int (0 : Int32)), (.int (0 : Int32)), .null, .null]) (rest := [(.ref b249)]) (lenOf pd_0_0 rfl) rfl (by show 2 * 0 + _ ≤ _; exact Nat.le_of_eq rfl) (hb hby at_8) (fun _ _ => ⟨rfl, e249, (by decide : 1 + 0 ≤ _), (by decide : 4 + 0 ≤ _)⟩)
  dsimp only [Pt.U, Pt.locs, Pt.cells, Pt.slots] at X250 l250 y250 z250 st250 hQ250
  subst l250 y250 z250
  obtain ⟨rfl, N250q, K250⟩ := hQ250
  have N250 := Fr.app N0 N250q
  have c250_2 := A249.keep K250
  have KK250 : Keep h0 T250.heap [] := KK249.trans K250 (allS (P := fun x => x ∈ [] ∨ h0.size ≤ x) (Or.inr SZ_b249) all0)
  have ZN250 : n0 ≤ T250.heap.size := Nat.le_trans ZN249 K250.1
  have HK250 : 0 ≤ T250.heap.size := Nat.le_trans HK249 K250.1
  have OL250 := OL249.keep K250 (allS G_b249 all0)
  refine goT st250 ?_
  show Go _ p e below s _ _ _ (T250.setTop (mkF m 11 #[.val (.int p1), .val (.int p2), .val (.int p3), .unset, .unset, .unset, .unset, .unset, .unset, .unset, .unset, .unset, .unset, .unset] [(.ref b249)]))
  refine go (fun _ => XS.astoreN X250.here hx rfl (hb hby at_11) rfl rfl (l' := #[.val (.int p1), .val (.int p2), .val (.int p3), .val (.ref b249), .unset, .unset, .unset, .unset, .unset, .unset, .unset, .unset, .unset, .unset]) rfl) ?_
  show Go _ p e below s _ _ _ (T250.setTop (mkF m 12 #[.val (.int p1), .val (.int p2), .val (.int p3), .val (.ref b249), .unset, .unset, .unset, .unset, .unset, .unset, .unset, .unset, .unset, .unset] []))
  refine go (fun _ => XS.aconstNull X250.here hx rfl (hb hby at_12)) ?_
  show Go _ p e below s _ _ _ (T250.setTop (mkF m 13 #[.val (.int p1), .val (.int p2), .val (.int p3), .val (.ref b249), .unset, .unset, .unset, .unset, .unset, .unset, .unset, .unset, .unset, .unset] [.null]))
  obtain ⟨_, _, ⟨T251, L251, k251, n251⟩, -, X251, ⟨Lc251, hQ251, l251, y251, z251⟩, st251⟩ := Jvm.LawKit.callS X250 hx (y := (⟨"com/example/reticule/reticule/engine/Token", "start", "(Lcom/example/reticule/reticule/engine/ParentNode;)Lcom/example/reticule/reticule/engine/Token;"⟩ : MethodName)) hown (mvT hZ (hw _ (List.mem_of_getElem? (i := 17) rfl))) (mvT hZ (hw _ (List.mem_of_getElem? (i := 18) rfl))) (mvT hZ (hw _ (List.mem_of_getElem? (i := 19) rfl))) (mvT hZ (hw _ (List.mem_of_getElem? (i := 20) rfl))) (by decide) (backOf (W := 0) (rm3 l Z a0 hw []  (T250.heap) n0 ZN250 ) hZ (hw _ (List.mem_of_getElem? (i := 20) rfl)) (hw _ (List.mem_of_getElem? (i := 19) rfl)) (by decide) (by decide)) (g := (mkF m 13 #[.val (.int p1), .val (.int p2), .val (.int p3), .val (.ref b249), .unset, .unset, .unset, .unset, .unset, .unset, .unset, .unset, .unset, .unset] [.null])) rfl (by rw [hml]; rfl) (argsL := [.null]) (rest := []) (lenOf pd_0_1 rfl) rfl (by show 2 * 0 + _ ≤ _; exact Nat.le_of_eq rfl) (hb hby at_13) (fun _ _ => ⟨rfl, rfl, (by decide : 1 + 1 ≤ _), (by decide : 4 + 11 ≤ _)⟩)
  dsimp only [Pt.U, Pt.locs, Pt.cells, Pt.slots] at X251 l251 y251 z251 st251 hQ251
  subst l251 y251 z251
  obtain ⟨b251, rfl, N251q, u251_0, u251_1, K251, u251_3⟩ := hQ251
  have N251 := Fr.app N250 N251q
  have lt251_b249_b251 : b249 < b251 := Nat.lt_of_lt_of_le c250_2.lt u251_0
  have G_b251 : n0 ≤ b251 := Nat.le_trans ZN250 u251_0
  have SZ_b251 : h0.size ≤ b251 := Nat.le_trans KK250.1 u251_0
  have c251_2 := c250_2.keep K251
  have KK251 : Keep h0 T251.heap [] := KK250.trans K251 all0
  have ZN251 : n0 ≤ T251.heap.size := Nat.le_trans ZN250 K251.1
  have HK251 : 0 ≤ T251.heap.size := Nat.le_trans HK250 K251.1
  have OL251 := OL250.keep K251 all0
  refine go st251 ?_
  show Go _ p e below s _ _ _ (T251.setTop (mkF m 16 #[.val (.int p1), .val (.int p2), .val (.int p3), .val (.ref b249), .unset, .unset, .unset, .unset, .unset, .unset, .unset, .unset, .unset, .unset] [(.ref b251)]))
  refine go (fun _ => XS.astore X251.here hx rfl (hb hby at_16) rfl rfl (l' := #[.val (.int p1), .val (.int p2), .val (.int p3), .val (.ref b249), .val (.ref b251), .unset, .unset, .unset, .unset, .unset, .unset, .unset, .unset, .unset]) rfl) ?_
  show Go _ p e below s _ _ _ (T251.setTop (mkF m 18 #[.val (.int p1), .val (.int p2), .val (.int p3), .val (.ref b249), .val (.ref b251), .unset, .unset, .unset, .unset, .unset, .unset, .unset, .unset, .unset] []))
  obtain ⟨T252, h252, X252, e252, E252, A252, D252, -, st252⟩ := newO X251 hx hZ hown (hw _ (List.mem_of_getElem? (i := 45) rfl)) (hw _ (List.mem_of_getElem? (i := 46) rfl)) (hw _ (List.mem_of_getElem? (i := 47) rfl)) rfl (g := (mkF m 18 #[.val (.int p1), .val (.int p2), .val (.int p3), .val (.ref b249), .val (.ref b251), .unset, .unset, .unset, .unset, .unset, .unset, .unset, .unset, .unset] [])) rfl (hb hby at_18) (by decide) (by decide)
  obtain ⟨b252, g252⟩ : ∃ z, z = T251.heap.size := ⟨_, rfl⟩
  rw [← g252] at A252 D252 st252
  have lt252_b249_b252 : b249 < b252 := Nat.lt_of_lt_of_le c251_2.lt (Nat.le_of_eq g252.symm)
  have lt252_b251_b252 : b251 < b252 := Nat.lt_of_lt_of_le u251_3.lt (Nat.le_of_eq g252.symm)
  have G_b252 : n0 ≤ b252 := Nat.le_trans ZN251 (Nat.le_of_eq g252.symm)
  have SZ_b252 : h0.size ≤ b252 := Nat.le_trans KK251.1 (Nat.le_of_eq g252.symm)
  have c252_2 := c251_2.ext E252
  have c252_3 := u251_3.ext E252
  have KK252 : Keep h0 h252 [] := KK251.ext E252
  have ZN252 : n0 ≤ h252.size := Nat.le_trans ZN251 E252.1
  have HK252 : 0 ≤ h252.size := Nat.le_trans HK251 E252.1
  have OL252 := OL251.ext E252
  have F252_64 : Fld Z h252 b252 "com/example/reticule/reticule/engine/Made" "maker" "Ljava/lang/Object;" .null := D252 (Or.inr (hw _ (List.mem_of_getElem? (i := 64) rfl))) (ty := (.object "java/lang/Object")) (by decide)
  have F252_69 : Fld Z h252 b252 "com/example/reticule/reticule/engine/Activation" "token" "Lcom/example/reticule/reticule/engine/Token;" .null := D252 (Or.inr (hw _ (List.mem_of_getElem? (i := 69) rfl))) (ty := (.object "com/example/reticule/reticule/engine/Token")) (by decide)
  have F252_128 : Fld Z h252 b252 "com/example/reticule/reticule/engine/Activation" "place" "I" (.int (0 : Int32)) := D252 (Or.inl (hw _ (List.mem_of_getElem? (i := 128) rfl))) (ty := .int) (by decide)
  refine go st252 ?_
  show Go _ p e below s _ _ _ (T252.setTop (mkF m 21 #[.val (.int p1), .val (.int p2), .val (.int p3), .val (.ref b249), .val (.ref b251), .unset, .unset, .unset, .unset, .unset, .unset, .unset, .unset, .unset] [(.ref b252)]))
  refine go (fun _ => XS.dup X252.here hx rfl (hb hby at_21) rfl rfl) ?_
  show Go _ p e below s _ _ _ (T252.setTop (mkF m 22 #[.val (.int p1), .val (.int p2), .val (.int p3), .val (.ref b249), .val (.ref b251), .unset, .unset, .unset, .unset, .unset, .unset, .unset, .unset, .unset] [(.ref b252), (.ref b252)]))
  refine go (fun _ => XS.aloadN X252.here hx rfl (hb hby at_22) rfl rfl) ?_
  show Go _ p e below s _ _ _ (T252.setTop (mkF m 23 #[.val (.int p1), .val (.int p2), .val (.int p3), .val (.ref b249), .val (.ref b251), .unset, .unset, .unset, .unset, .unset, .unset, .unset, .unset, .unset] [(.ref b249), (.ref b252), (.ref b252)]))
  refine go (fun _ => XS.aload X252.here hx rfl (hb hby at_23) rfl rfl) ?_
  show Go _ p e below s _ _ _ (T252.setTop (mkF m 25 #[.val (.int p1), .val (.int p2), .val (.int p3), .val (.ref b249), .val (.ref b251), .unset, .unset, .unset, .unset, .unset, .unset, .unset, .unset, .unset] [(.ref b251), (.ref b249), (.ref b252), (.ref b252)]))
  obtain ⟨_, _, ⟨T253, L253, k253, n253⟩, -, X253, sc253, gc253, ⟨Lc253, hQ253, l253, y253, z253⟩, st253⟩ := X252.specialBackS hx (y := (⟨"com/example/reticule/reticule/engine/Activation", "<init>", "(Lcom/example/reticule/reticule/engine/TerminalNode;Lcom/example/reticule/reticule/engine/Token;)V"⟩ : MethodName)) rfl hown (mvT hZ (hw _ (List.mem_of_getElem? (i := 48) rfl))) (mvT hZ (hw _ (List.mem_of_getElem? (i := 49) rfl))) (mvT hZ (hw _ (List.mem_of_getElem? (i := 50) rfl))) (by decide) (backOfS (W := 1) (rm7 l Z a0 hw [] b252 b249 b251 .null .null (.int (0 : Int32)) h252 n0 ZN252 A252 G_b252 F252_64 F252_69 F252_128 c252_3) hZ (hw _ (List.mem_of_getElem? (i := 50) rfl)) (hw _ (List.mem_of_getElem? (i := 47) rfl)) (by decide) (by decide)) (g := (mkF m 25 #[.val (.int p1), .val (.int p2), .val (.int p3), .val (.ref b249), .val (.ref b251), .unset, .unset, .unset, .unset, .unset, .unset, .unset, .unset, .unset] [(.ref b251), (.ref b249), (.ref b252), (.ref b252)])) rfl (by rw [hml]; rfl) (Steps.refl _) (a := b252) (argsL := [(.ref b249), (.ref b251)]) (rest := [(.ref b252)]) (lenOf pd_0_2 rfl) rfl (by show 2 * 0 + _ ≤ _; exact Nat.le_of_eq rfl) (hb hby at_25) (fun _ _ => ⟨rfl, e252, (by decide : 3 + 4 ≤ _), (by decide : 20 + 60 ≤ _)⟩)
  dsimp only [Pt.U, Pt.locs, Pt.cells, Pt.slots] at X253 l253 y253 z253 st253 hQ253 sc253 gc253
  subst l253 y253 z253
  have hS253 : s.Since T253.vm T253.heap.size := foldS (T := T252) hS0 (by rw [e252]; exact HK252) sc253 gc253
  have hZ : Z.Warmed39 (s.setVm T253.vm).vm := State.Warmed39.trans hZ sc253.1
  have hown : (s.setVm T253.vm).vm.findClass "com/example/reticule/reticule/engine/ActivationRunsIsEmptyPinLaw" = some m.cls := by rw [show (s.setVm T253.vm).vm = T253.vm from rfl, sc253.1.alike.findClass]; exact hown
  have X253 : Stand p l e room_1 (s.setVm T253.vm) m #[(.int p1), (.int p2), (.int p3)] below meth c T253 _ _ _ := X253
  obtain ⟨rfl, N253q, K253, u253_1⟩ := hQ253
  have N253 := Fr.app N251 N253q
  have c253_2 := c252_2.keep K253
  have c253_3 := c252_3.keep K253
  have c253_4 := A252.keep K253
  have KK253 : Keep h0 T253.heap [] := KK252.trans K253 (allS (P := fun x => x ∈ [] ∨ h0.size ≤ x) (Or.inr SZ_b252) all0)
  have ZN253 : n0 ≤ T253.heap.size := Nat.le_trans ZN252 K253.1
  have OL253 := OL252.keep K253 (allS G_b252 all0)
  refine goT st253 ?_
  show Go _ p e below s _ _ _ (T253.setTop (mkF m 28 #[.val (.int p1), .val (.int p2), .val (.int p3), .val (.ref b249), .val (.ref b251), .unset, .unset, .unset, .unset, .unset, .unset, .unset, .unset, .unset] [(.ref b252)]))
  refine go (fun _ => XS.astore X253.here hx rfl (hb hby at_28) rfl rfl (l' := #[.val (.int p1), .val (.int p2), .val (.int p3), .val (.ref b249), .val (.ref b251), .val (.ref b252), .unset, .unset, .unset, .unset, .unset, .unset, .unset, .unset]) rfl) ?_
  show Go _ p e below s _ _ _ (T253.setTop (mkF m 30 #[.val (.int p1), .val (.int p2), .val (.int p3), .val (.ref b249), .val (.ref b251), .val (.ref b252), .unset, .unset, .unset, .unset, .unset, .unset, .unset, .unset] []))
  obtain ⟨T254, h254, X254, e254, E254, A254, D254, -, st254⟩ := newO X253 hx hZ hown (hw _ (List.mem_of_getElem? (i := 45) rfl)) (hw _ (List.mem_of_getElem? (i := 46) rfl)) (hw _ (List.mem_of_getElem? (i := 47) rfl)) rfl (g := (mkF m 30 #[.val (.int p1), .val (.int p2), .val (.int p3), .val (.ref b249), .val (.ref b251), .val (.ref b252), .unset, .unset, .unset, .unset, .unset, .unset, .unset, .unset] [])) rfl (hb hby at_30) (by decide) (by decide)
  obtain ⟨b254, g254⟩ : ∃ z, z = T253.heap.size := ⟨_, rfl⟩
  rw [← g254] at A254 D254 st254
  have lt254_b249_b254 : b249 < b254 := Nat.lt_of_lt_of_le c253_2.lt (Nat.le_of_eq g254.symm)
  have lt254_b251_b254 : b251 < b254 := Nat.lt_of_lt_of_le c253_3.lt (Nat.le_of_eq g254.symm)
  have lt254_b252_b254 : b252 < b254 := Nat.lt_of_lt_of_le c253_4.lt (Nat.le_of_eq g254.symm)
  have G_b254 : n0 ≤ b254 := Nat.le_trans ZN253 (Nat.le_of_eq g254.symm)
  have SZ_b254 : h0.size ≤ b254 := Nat.le_trans KK253.1 (Nat.le_of_eq g254.symm)
  have c254_2 := c253_2.ext E254
  have c254_3 := c253_3.ext E254
  have c254_4 := c253_4.ext E254
  have c254_5 := u253_1.ext E254
  have KK254 : Keep h0 h254 [] := KK253.ext E254
  have ZN254 : n0 ≤ h254.size := Nat.le_trans ZN253 E254.1
  have HK254 : T253.heap.size ≤ h254.size := Nat.le_trans (Nat.le_refl _) E254.1
  have OL254 := OL253.ext E254
  have F254_64 : Fld Z h254 b254 "com/example/reticule/reticule/engine/Made" "maker" "Ljava/lang/Object;" .null := D254 (Or.inr (hw _ (List.mem_of_getElem? (i := 64) rfl))) (ty := (.object "java/lang/Object")) (by decide)
  have F254_69 : Fld Z h254 b254 "com/example/reticule/reticule/engine/Activation" "token" "Lcom/example/reticule/reticule/engine/Token;" .null := D254 (Or.inr (hw _ (List.mem_of_getElem? (i := 69) rfl))) (ty := (.object "com/example/reticule/reticule/engine/Token")) (by decide)
  have F254_128 : Fld Z h254 b254 "com/example/reticule/reticule/engine/Activation" "place" "I" (.int (0 : Int32)) := D254 (Or.inl (hw _ (List.mem_of_getElem? (i := 128) rfl))) (ty := .int) (by decide)
  refine go st254 ?_
  show Go _ p e below s _ _ _ (T254.setTop (mkF m 33 #[.val (.int p1), .val (.int p2), .val (.int p3), .val (.ref b249), .val (.ref b251), .val (.ref b252), .unset, .unset, .unset, .unset, .unset, .unset, .unset, .unset] [(.ref b254)]))
  refine go (fun _ => XS.dup X254.here hx rfl (hb hby at_33) rfl rfl) ?_
  show Go _ p e below s _ _ _ (T254.setTop (mkF m 34 #[.val (.int p1), .val (.int p2), .val (.int p3), .val (.ref b249), .val (.ref b251), .val (.ref b252), .unset, .unset, .unset, .unset, .unset, .unset, .unset, .unset] [(.ref b254), (.ref b254)]))
  refine go (fun _ => XS.aloadN X254.here hx rfl (hb hby at_34) rfl rfl) ?_
  show Go _ p e below s _ _ _ (T254.setTop (mkF m 35 #[.val (.int p1), .val (.int p2), .val (.int p3), .val (.ref b249), .val (.ref b251), .val (.ref b252), .unset, .unset, .unset, .unset, .unset, .unset, .unset, .unset] [(.ref b249), (.ref b254), (.ref b254)]))
  refine go (fun _ => XS.aload X254.here hx rfl (hb hby at_35) rfl rfl) ?_
  show Go _ p e below s _ _ _ (T254.setTop (mkF m 37 #[.val (.int p1), .val (.int p2), .val (.int p3), .val (.ref b249), .val (.ref b251), .val (.ref b252), .unset, .unset, .unset, .unset, .unset, .unset, .unset, .unset] [(.ref b251), (.ref b249), (.ref b254), (.ref b254)]))
  obtain ⟨_, _, ⟨T255, L255, k255, n255⟩, -, X255, sc255, gc255, ⟨Lc255, hQ255, l255, y255, z255⟩, st255⟩ := X254.specialBackS hx (y := (⟨"com/example/reticule/reticule/engine/Activation", "<init>", "(Lcom/example/reticule/reticule/engine/TerminalNode;Lcom/example/reticule/reticule/engine/Token;)V"⟩ : MethodName)) rfl hown (mvT hZ (hw _ (List.mem_of_getElem? (i := 48) rfl))) (mvT hZ (hw _ (List.mem_of_getElem? (i := 49) rfl))) (mvT hZ (hw _ (List.mem_of_getElem? (i := 50) rfl))) (by decide) (backOfS (W := 1) (rm7 l Z a0 hw [] b254 b249 b251 .null .null (.int (0 : Int32)) h254 n0 ZN254 A254 G_b254 F254_64 F254_69 F254_128 c254_3) hZ (hw _ (List.mem_of_getElem? (i := 50) rfl)) (hw _ (List.mem_of_getElem? (i := 47) rfl)) (by decide) (by decide)) (g := (mkF m 37 #[.val (.int p1), .val (.int p2), .val (.int p3), .val (.ref b249), .val (.ref b251), .val (.ref b252), .unset, .unset, .unset, .unset, .unset, .unset, .unset, .unset] [(.ref b251), (.ref b249), (.ref b254), (.ref b254)])) rfl (by rw [hml]; rfl) (Steps.refl _) (a := b254) (argsL := [(.ref b249), (.ref b251)]) (rest := [(.ref b254)]) (lenOf pd_0_2 rfl) rfl (by show 2 * 0 + _ ≤ _; exact Nat.le_of_eq rfl) (hb hby at_37) (fun _ _ => ⟨rfl, e254, (by decide : 8 + 4 ≤ _), (by decide : 85 + 60 ≤ _)⟩)
  dsimp only [Pt.U, Pt.locs, Pt.cells, Pt.slots] at X255 l255 y255 z255 st255 hQ255 sc255 gc255
  subst l255 y255 z255
  have hS255 : s.Since T255.vm T255.heap.size := foldS (T := T254) hS253 (by rw [e254]; exact HK254) sc255 gc255
  have hZ : Z.Warmed39 (s.setVm T255.vm).vm := State.Warmed39.trans hZ sc255.1
  have hown : (s.setVm T255.vm).vm.findClass "com/example/reticule/reticule/engine/ActivationRunsIsEmptyPinLaw" = some m.cls := by rw [show (s.setVm T255.vm).vm = T255.vm from rfl, sc255.1.alike.findClass]; exact hown
  have X255 : Stand p l e room_1 (s.setVm T255.vm) m #[(.int p1), (.int p2), (.int p3)] below meth c T255 _ _ _ := X255
  obtain ⟨rfl, N255q, K255, u255_1⟩ := hQ255
  have N255 := Fr.app N253 N255q
  have c255_2 := c254_2.keep K255
  have c255_3 := c254_3.keep K255
  have c255_4 := c254_4.keep K255
  have c255_5 := c254_5.keep K255 (ninS (Nat.ne_of_lt lt254_b252_b254) nin0)
  have c255_6 := A254.keep K255
  have KK255 : Keep h0 T255.heap [] := KK254.trans K255 (allS (P := fun x => x ∈ [] ∨ h0.size ≤ x) (Or.inr SZ_b254) all0)
  have ZN255 : n0 ≤ T255.heap.size := Nat.le_trans ZN254 K255.1
  have OL255 := OL254.keep K255 (allS G_b254 all0)
  refine goT st255 ?_
  show Go _ p e below s _ _ _ (T255.setTop (mkF m 40 #[.val (.int p1), .val (.int p2), .val (.int p3), .val (.ref b249), .val (.ref b251), .val (.ref b252), .unset, .unset, .unset, .unset, .unset, .unset, .unset, .unset] [(.ref b254)]))
  refine go (fun _ => XS.astore X255.here hx rfl (hb hby at_40) rfl rfl (l' := #[.val (.int p1), .val (.int p2), .val (.int p3), .val (.ref b249), .val (.ref b251), .val (.ref b252), .val (.ref b254), .unset, .unset, .unset, .unset, .unset, .unset, .unset]) rfl) ?_
  show Go _ p e below s _ _ _ (T255.setTop (mkF m 42 #[.val (.int p1), .val (.int p2), .val (.int p3), .val (.ref b249), .val (.ref b251), .val (.ref b252), .val (.ref b254), .unset, .unset, .unset, .unset, .unset, .unset, .unset] []))
  obtain ⟨T256, h256, X256, e256, E256, A256, D256, -, st256⟩ := newO X255 hx hZ hown (hw _ (List.mem_of_getElem? (i := 70) rfl)) (hw _ (List.mem_of_getElem? (i := 71) rfl)) (hw _ (List.mem_of_getElem? (i := 72) rfl)) rfl (g := (mkF m 42 #[.val (.int p1), .val (.int p2), .val (.int p3), .val (.ref b249), .val (.ref b251), .val (.ref b252), .val (.ref b254), .unset, .unset, .unset, .unset, .unset, .unset, .unset] [])) rfl (hb hby at_42) (by decide) (by decide)
  obtain ⟨b256, g256⟩ : ∃ z, z = T255.heap.size := ⟨_, rfl⟩
  rw [← g256] at A256 D256 st256
  have lt256_b249_b256 : b249 < b256 := Nat.lt_of_lt_of_le c255_2.lt (Nat.le_of_eq g256.symm)
  have lt256_b251_b256 : b251 < b256 := Nat.lt_of_lt_of_le c255_3.lt (Nat.le_of_eq g256.symm)
  have lt256_b252_b256 : b252 < b256 := Nat.lt_of_lt_of_le c255_4.lt (Nat.le_of_eq g256.symm)
  have lt256_b254_b256 : b254 < b256 := Nat.lt_of_lt_of_le c255_6.lt (Nat.le_of_eq g256.symm)
  have G_b256 : n0 ≤ b256 := Nat.le_trans ZN255 (Nat.le_of_eq g256.symm)
  have SZ_b256 : h0.size ≤ b256 := Nat.le_trans KK255.1 (Nat.le_of_eq g256.symm)
  have c256_2 := c255_2.ext E256
  have c256_3 := c255_3.ext E256
  have c256_4 := c255_4.ext E256
  have c256_5 := c255_5.ext E256
  have c256_6 := c255_6.ext E256
  have c256_7 := u255_1.ext E256
  have KK256 : Keep h0 h256 [] := KK255.ext E256
  have ZN256 : n0 ≤ h256.size := Nat.le_trans ZN255 E256.1
  have HK256 : T255.heap.size ≤ h256.size := Nat.le_trans (Nat.le_refl _) E256.1
  have OL256 := OL255.ext E256
  have F256_102 : Fld Z h256 b256 "com/example/reticule/reticule/engine/ActivationRuns" "entries" "Ljava/util/List;" .null := D256 (Or.inr (hw _ (List.mem_of_getElem? (i := 102) rfl))) (ty := (.object "java/util/List")) (by decide)
  have F256_109 : Fld Z h256 b256 "com/example/reticule/reticule/engine/ActivationRuns" "count" "I" (.int (0 : Int32)) := D256 (Or.inl (hw _ (List.mem_of_getElem? (i := 109) rfl))) (ty := .int) (by decide)
  refine go st256 ?_
  show Go _ p e below s _ _ _ (T256.setTop (mkF m 45 #[.val (.int p1), .val (.int p2), .val (.int p3), .val (.ref b249), .val (.ref b251), .val (.ref b252), .val (.ref b254), .unset, .unset, .unset, .unset, .unset, .unset, .unset] [(.ref b256)]))
  refine go (fun _ => XS.dup X256.here hx rfl (hb hby at_45) rfl rfl) ?_
  show Go _ p e below s _ _ _ (T256.setTop (mkF m 46 #[.val (.int p1), .val (.int p2), .val (.int p3), .val (.ref b249), .val (.ref b251), .val (.ref b252), .val (.ref b254), .unset, .unset, .unset, .unset, .unset, .unset, .unset] [(.ref b256), (.ref b256)]))
  obtain ⟨_, _, ⟨T257, L257, k257, n257⟩, -, X257, ⟨Lc257, hQ257, l257, y257, z257⟩, st257⟩ := X256.specialBack hx (y := (⟨"com/example/reticule/reticule/engine/ActivationRuns", "<init>", "()V"⟩ : MethodName)) rfl hown (mvT hZ (hw _ (List.mem_of_getElem? (i := 73) rfl))) (mvT hZ (hw _ (List.mem_of_getElem? (i := 74) rfl))) (mvT hZ (hw _ (List.mem_of_getElem? (i := 75) rfl))) (by decide) (backOf (W := 1) (rm9 l Z a0 hw [] b256 .null d0 h256 n0 ZN256 P0 OL256 A256 G_b256 F256_102 F256_109) hZ (hw _ (List.mem_of_getElem? (i := 75) rfl)) (hw _ (List.mem_of_getElem? (i := 72) rfl)) (by decide) (by decide)) (g := (mkF m 46 #[.val (.int p1), .val (.int p2), .val (.int p3), .val (.ref b249), .val (.ref b251), .val (.ref b252), .val (.ref b254), .unset, .unset, .unset, .unset, .unset, .unset, .unset] [(.ref b256), (.ref b256)])) rfl (by rw [hml]; rfl) (Steps.refl _) (a := b256) (argsL := []) (rest := [(.ref b256)]) (lenOf pd_0_3 rfl) rfl (by show 2 * 0 + _ ≤ _; exact Nat.le_of_eq rfl) (hb hby at_46) (fun _ _ => ⟨rfl, e256, (by decide : 13 + 1 ≤ _), (by decide : 148 + 3 ≤ _)⟩)
  dsimp only [Pt.U, Pt.locs, Pt.cells, Pt.slots] at X257 l257 y257 z257 st257 hQ257
  subst l257 y257 z257
  obtain ⟨b257, rfl, N257q, u257_0, u257_1, K257, u257_3, u257_4, u257_5, u257_6, u257_7, u257_8⟩ := hQ257
  have N257 := Fr.app N255 N257q
  have lt257_b249_b257 : b249 < b257 := Nat.lt_of_lt_of_le c256_2.lt u257_0
  have lt257_b251_b257 : b251 < b257 := Nat.lt_of_lt_of_le c256_3.lt u257_0
  have lt257_b252_b257 : b252 < b257 := Nat.lt_of_lt_of_le c256_4.lt u257_0
  have lt257_b254_b257 : b254 < b257 := Nat.lt_of_lt_of_le c256_6.lt u257_0
  have lt257_b256_b257 : b256 < b257 := Nat.lt_of_lt_of_le A256.lt u257_0
  have G_b257 : n0 ≤ b257 := Nat.le_trans ZN256 u257_0
  have SZ_b257 : h0.size ≤ b257 := Nat.le_trans KK256.1 u257_0
  have c257_2 := c256_2.keep K257
  have c257_3 := c256_3.keep K257
  have c257_4 := c256_4.keep K257
  have c257_5 := c256_5.keep K257 (ninS (Nat.ne_of_lt lt256_b252_b256) nin0)
  have c257_6 := c256_6.keep K257
  have c257_7 := c256_7.keep K257 (ninS (Nat.ne_of_lt lt256_b254_b256) nin0)
  have c257_8 := A256.keep K257
  have KK257 : Keep h0 T257.heap [] := KK256.trans K257 (allS (P := fun x => x ∈ [] ∨ h0.size ≤ x) (Or.inr SZ_b256) all0)
  have ZN257 : n0 ≤ T257.heap.size := Nat.le_trans ZN256 K257.1
  have HK257 : T255.heap.size ≤ T257.heap.size := Nat.le_trans HK256 K257.1
  have OL257 := OL256.keep K257 (allS G_b256 all0)
  refine goT st257 ?_
  show Go _ p e below s _ _ _ (T257.setTop (mkF m 49 #[.val (.int p1), .val (.int p2), .val (.int p3), .val (.ref b249), .val (.ref b251), .val (.ref b252), .val (.ref b254), .unset, .unset, .unset, .unset, .unset, .unset, .unset] [(.ref b256)]))
  refine go (fun _ => XS.astore X257.here hx rfl (hb hby at_49) rfl rfl (l' := #[.val (.int p1), .val (.int p2), .val (.int p3), .val (.ref b249), .val (.ref b251), .val (.ref b252), .val (.ref b254), .val (.ref b256), .unset, .unset, .unset, .unset, .unset, .unset]) rfl) ?_
  show Go _ p e below s _ _ _ (T257.setTop (mkF m 51 #[.val (.int p1), .val (.int p2), .val (.int p3), .val (.ref b249), .val (.ref b251), .val (.ref b252), .val (.ref b254), .val (.ref b256), .unset, .unset, .unset, .unset, .unset, .unset] []))
  refine go (fun _ => XS.aload X257.here hx rfl (hb hby at_51) rfl rfl) ?_
  show Go _ p e below s _ _ _ (T257.setTop (mkF m 53 #[.val (.int p1), .val (.int p2), .val (.int p3), .val (.ref b249), .val (.ref b251), .val (.ref b252), .val (.ref b254), .val (.ref b256), .unset, .unset, .unset, .unset, .unset, .unset] [(.ref b256)]))
  obtain ⟨cq258, kq258, q258a, q258b, q258c⟩ := isOf hZ rfl c257_8
  obtain ⟨_, _, ⟨T258, L258, k258, n258⟩, -, X258, ⟨Lc258, hQ258, l258, y258, z258⟩, st258⟩ := X257.virtualBack hx (y := (⟨"com/example/reticule/reticule/engine/ActivationRuns", "isEmpty", "()Z"⟩ : MethodName)) (z := (⟨"com/example/reticule/reticule/engine/ActivationRuns", "isEmpty", "()Z"⟩ : MethodName)) hown (mvT hZ (hw _ (List.mem_of_getElem? (i := 103) rfl))) (mvT hZ (hw _ (List.mem_of_getElem? (i := 104) rfl))) (notFace_of_selects (args := #[]) (mvT hZ (hw _ (List.mem_of_getElem? (i := 106) rfl)))) (mvT hZ (hw _ (List.mem_of_getElem? (i := 106) rfl))) (mvT hZ (hw _ (List.mem_of_getElem? (i := 105) rfl))) (by decide) (backOf (W := 0) (rmE0 l Z a0 hw [] b256 (T257.heap) n0 ZN257 u257_8) hZ (hw _ (List.mem_of_getElem? (i := 107) rfl)) (hw _ (List.mem_of_getElem? (i := 72) rfl)) (by decide) (by decide)) q258a q258c (g := (mkF m 53 #[.val (.int p1), .val (.int p2), .val (.int p3), .val (.ref b249), .val (.ref b251), .val (.ref b252), .val (.ref b254), .val (.ref b256), .unset, .unset, .unset, .unset, .unset, .unset] [(.ref b256)])) rfl (by rw [hml]; rfl) (Steps.refl _) (argsL := []) (rest := []) (lenOf pd_0_4 rfl) rfl (by show 2 * 0 + _ ≤ _; exact Nat.le_of_eq rfl) (hb hby at_53) (fun _ _ => ⟨rfl, rfl, (by decide : 14 + 0 ≤ _), (by decide : 151 + 0 ≤ _)⟩)
  dsimp only [Pt.U, Pt.locs, Pt.cells, Pt.slots] at X258 l258 y258 z258 st258 hQ258
  subst l258 y258 z258
  obtain ⟨rfl, N258q, e258⟩ := hQ258
  have N258 := Fr.app N257 N258q
  refine goT st258 ?_
  show Go _ p e below s _ _ _ (T258.setTop (mkF m 56 #[.val (.int p1), .val (.int p2), .val (.int p3), .val (.ref b249), .val (.ref b251), .val (.ref b252), .val (.ref b254), .val (.ref b256), .unset, .unset, .unset, .unset, .unset, .unset] [(.int (1 : Int32))]))
  refine go (fun _ => XS.istore X258.here hx rfl (hb hby at_56) rfl (l' := #[.val (.int p1), .val (.int p2), .val (.int p3), .val (.ref b249), .val (.ref b251), .val (.ref b252), .val (.ref b254), .val (.ref b256), .val (.int (1 : Int32)), .unset, .unset, .unset, .unset, .unset]) rfl) ?_
  show Go _ p e below s _ _ _ (T258.setTop (mkF m 58 #[.val (.int p1), .val (.int p2), .val (.int p3), .val (.ref b249), .val (.ref b251), .val (.ref b252), .val (.ref b254), .val (.ref b256), .val (.int (1 : Int32)), .unset, .unset, .unset, .unset, .unset] []))
  refine go (fun _ => XS.iloadN X258.here hx rfl (hb hby at_58) rfl) ?_
  show Go _ p e below s _ _ _ (T258.setTop (mkF m 59 #[.val (.int p1), .val (.int p2), .val (.int p3), .val (.ref b249), .val (.ref b251), .val (.ref b252), .val (.ref b254), .val (.ref b256), .val (.int (1 : Int32)), .unset, .unset, .unset, .unset, .unset] [(.int p1)]))
  refine go (X258.ldcInt hx hown (mvT hZ (hw _ (List.mem_of_getElem? (i := 110) rfl))) (g := (mkF m 59 #[.val (.int p1), .val (.int p2), .val (.int p3), .val (.ref b249), .val (.ref b251), .val (.ref b252), .val (.ref b254), .val (.ref b256), .val (.int (1 : Int32)), .unset, .unset, .unset, .unset, .unset] [(.int p1)])) rfl (hb hby at_59)) ?_
  show Go _ p e below s _ _ _ (T258.setTop (mkF m 61 #[.val (.int p1), .val (.int p2), .val (.int p3), .val (.ref b249), .val (.ref b251), .val (.ref b252), .val (.ref b254), .val (.ref b256), .val (.int (1 : Int32)), .unset, .unset, .unset, .unset, .unset] [(.int (2147483647 : Int32)), (.int p1)]))
  refine go (fun _ => XS.iand X258.here hx rfl (hb hby at_61) rfl) ?_
  show Go _ p e below s _ _ _ (T258.setTop (mkF m 62 #[.val (.int p1), .val (.int p2), .val (.int p3), .val (.ref b249), .val (.ref b251), .val (.ref b252), .val (.ref b254), .val (.ref b256), .val (.int (1 : Int32)), .unset, .unset, .unset, .unset, .unset] [(.int (p1 &&& (2147483647 : Int32)))]))
  refine go (fun _ => XS.iconst X258.here hx rfl (hb hby at_62)) ?_
  show Go _ p e below s _ _ _ (T258.setTop (mkF m 63 #[.val (.int p1), .val (.int p2), .val (.int p3), .val (.ref b249), .val (.ref b251), .val (.ref b252), .val (.ref b254), .val (.ref b256), .val (.int (1 : Int32)), .unset, .unset, .unset, .unset, .unset] [(.int (3 : Int32)), (.int (p1 &&& (2147483647 : Int32)))]))
  refine go (fun _ => iremM X258 hx rfl (hb hby at_63) rfl (by decide)) ?_
  show Go _ p e below s _ _ _ (T258.setTop (mkF m 64 #[.val (.int p1), .val (.int p2), .val (.int p3), .val (.ref b249), .val (.ref b251), .val (.ref b252), .val (.ref b254), .val (.ref b256), .val (.int (1 : Int32)), .unset, .unset, .unset, .unset, .unset] [(.int ((p1 &&& (2147483647 : Int32)) % (3 : Int32)))]))
  refine go (fun _ => XS.istore X258.here hx rfl (hb hby at_64) rfl (l' := #[.val (.int p1), .val (.int p2), .val (.int p3), .val (.ref b249), .val (.ref b251), .val (.ref b252), .val (.ref b254), .val (.ref b256), .val (.int (1 : Int32)), .val (.int ((p1 &&& (2147483647 : Int32)) % (3 : Int32))), .unset, .unset, .unset, .unset]) rfl) ?_
  show Go _ p e below s _ _ _ (T258.setTop (mkF m 66 #[.val (.int p1), .val (.int p2), .val (.int p3), .val (.ref b249), .val (.ref b251), .val (.ref b252), .val (.ref b254), .val (.ref b256), .val (.int (1 : Int32)), .val (.int ((p1 &&& (2147483647 : Int32)) % (3 : Int32))), .unset, .unset, .unset, .unset] []))
  have hm := own_mod3 p1
  generalize ((p1 &&& (2147483647 : Int32)) % (3 : Int32)) = mm at hm ⊢
  rcases hm with rfl | rfl | rfl
  · show Go _ p e below s _ _ _ (T258.setTop (mkF m 66 #[.val (.int p1), .val (.int p2), .val (.int p3), .val (.ref b249), .val (.ref b251), .val (.ref b252), .val (.ref b254), .val (.ref b256), .val (.int (1 : Int32)), .val (.int (0 : Int32)), .unset, .unset, .unset, .unset] []))
    refine go (fun _ => XS.iload X258.here hx rfl (hb hby at_66) rfl) ?_
    show Go _ p e below s _ _ _ (T258.setTop (mkF m 68 #[.val (.int p1), .val (.int p2), .val (.int p3), .val (.ref b249), .val (.ref b251), .val (.ref b252), .val (.ref b254), .val (.ref b256), .val (.int (1 : Int32)), .val (.int (0 : Int32)), .unset, .unset, .unset, .unset] [(.int (0 : Int32))]))
    refine go (fun _ => XS.iconst X258.here hx rfl (hb hby at_68)) ?_
    show Go _ p e below s _ _ _ (T258.setTop (mkF m 69 #[.val (.int p1), .val (.int p2), .val (.int p3), .val (.ref b249), .val (.ref b251), .val (.ref b252), .val (.ref b254), .val (.ref b256), .val (.int (1 : Int32)), .val (.int (0 : Int32)), .unset, .unset, .unset, .unset] [(.int (1 : Int32)), (.int (0 : Int32))]))
    refine go (fun _ => XS.icmpYes X258.here hx rfl (pc0 := 69) (pc' := 79) rfl (hb hby at_69) rfl (tlt (by decide : ((0 : Int32) < (1 : Int32)))).1 (by decide) (by decide)) ?_
    show Go _ p e below s _ _ _ (T258.setTop (mkF m 79 #[.val (.int p1), .val (.int p2), .val (.int p3), .val (.ref b249), .val (.ref b251), .val (.ref b252), .val (.ref b254), .val (.ref b256), .val (.int (1 : Int32)), .val (.int (0 : Int32)), .unset, .unset, .unset, .unset] []))
    refine go (fun _ => XS.iload X258.here hx rfl (hb hby at_79) rfl) ?_
    show Go _ p e below s _ _ _ (T258.setTop (mkF m 81 #[.val (.int p1), .val (.int p2), .val (.int p3), .val (.ref b249), .val (.ref b251), .val (.ref b252), .val (.ref b254), .val (.ref b256), .val (.int (1 : Int32)), .val (.int (0 : Int32)), .unset, .unset, .unset, .unset] [(.int (0 : Int32))]))
    refine go (fun _ => XS.iconst X258.here hx rfl (hb hby at_81)) ?_
    show Go _ p e below s _ _ _ (T258.setTop (mkF m 82 #[.val (.int p1), .val (.int p2), .val (.int p3), .val (.ref b249), .val (.ref b251), .val (.ref b252), .val (.ref b254), .val (.ref b256), .val (.int (1 : Int32)), .val (.int (0 : Int32)), .unset, .unset, .unset, .unset] [(.int (2 : Int32)), (.int (0 : Int32))]))
    refine go (fun _ => XS.icmpYes X258.here hx rfl (pc0 := 82) (pc' := 92) rfl (hb hby at_82) rfl (tlt (by decide : ((0 : Int32) < (2 : Int32)))).1 (by decide) (by decide)) ?_
    show Go _ p e below s _ _ _ (T258.setTop (mkF m 92 #[.val (.int p1), .val (.int p2), .val (.int p3), .val (.ref b249), .val (.ref b251), .val (.ref b252), .val (.ref b254), .val (.ref b256), .val (.int (1 : Int32)), .val (.int (0 : Int32)), .unset, .unset, .unset, .unset] []))
    refine go (fun _ => XS.aload X258.here hx rfl (hb hby at_92) rfl rfl) ?_
    show Go _ p e below s _ _ _ (T258.setTop (mkF m 94 #[.val (.int p1), .val (.int p2), .val (.int p3), .val (.ref b249), .val (.ref b251), .val (.ref b252), .val (.ref b254), .val (.ref b256), .val (.int (1 : Int32)), .val (.int (0 : Int32)), .unset, .unset, .unset, .unset] [(.ref b256)]))
    obtain ⟨cq259, kq259, q259a, q259b, q259c⟩ := isOf hZ e258 c257_8
    obtain ⟨_, _, ⟨T259, L259, k259, n259⟩, -, X259, ⟨Lc259, hQ259, l259, y259, z259⟩, st259⟩ := X258.virtualBack hx (y := (⟨"com/example/reticule/reticule/engine/ActivationRuns", "isEmpty", "()Z"⟩ : MethodName)) (z := (⟨"com/example/reticule/reticule/engine/ActivationRuns", "isEmpty", "()Z"⟩ : MethodName)) hown (mvT hZ (hw _ (List.mem_of_getElem? (i := 103) rfl))) (mvT hZ (hw _ (List.mem_of_getElem? (i := 104) rfl))) (notFace_of_selects (args := #[]) (mvT hZ (hw _ (List.mem_of_getElem? (i := 106) rfl)))) (mvT hZ (hw _ (List.mem_of_getElem? (i := 106) rfl))) (mvT hZ (hw _ (List.mem_of_getElem? (i := 105) rfl))) (by decide) (backOf (W := 0) (rmE0 l Z a0 hw [] b256 (T257.heap) n0 ZN257 u257_8) hZ (hw _ (List.mem_of_getElem? (i := 107) rfl)) (hw _ (List.mem_of_getElem? (i := 72) rfl)) (by decide) (by decide)) q259a q259c (g := (mkF m 94 #[.val (.int p1), .val (.int p2), .val (.int p3), .val (.ref b249), .val (.ref b251), .val (.ref b252), .val (.ref b254), .val (.ref b256), .val (.int (1 : Int32)), .val (.int (0 : Int32)), .unset, .unset, .unset, .unset] [(.ref b256)])) rfl (by rw [hml]; rfl) (Steps.refl _) (argsL := []) (rest := []) (lenOf pd_0_4 rfl) rfl (by show 2 * 0 + _ ≤ _; exact Nat.le_of_eq rfl) (hb hby at_94) (fun _ _ => ⟨rfl, e258, (by decide : 14 + 0 ≤ _), (by decide : 151 + 0 ≤ _)⟩)
    dsimp only [Pt.U, Pt.locs, Pt.cells, Pt.slots] at X259 l259 y259 z259 st259 hQ259
    subst l259 y259 z259
    obtain ⟨rfl, N259q, e259⟩ := hQ259
    have N259 := Fr.app N258 N259q
    refine goT st259 ?_
    show Go _ p e below s _ _ _ (T259.setTop (mkF m 97 #[.val (.int p1), .val (.int p2), .val (.int p3), .val (.ref b249), .val (.ref b251), .val (.ref b252), .val (.ref b254), .val (.ref b256), .val (.int (1 : Int32)), .val (.int (0 : Int32)), .unset, .unset, .unset, .unset] [(.int (1 : Int32))]))
    refine go (fun _ => XS.istore X259.here hx rfl (hb hby at_97) rfl (l' := #[.val (.int p1), .val (.int p2), .val (.int p3), .val (.ref b249), .val (.ref b251), .val (.ref b252), .val (.ref b254), .val (.ref b256), .val (.int (1 : Int32)), .val (.int (0 : Int32)), .val (.int (1 : Int32)), .unset, .unset, .unset]) rfl) ?_
    show Go _ p e below s _ _ _ (T259.setTop (mkF m 99 #[.val (.int p1), .val (.int p2), .val (.int p3), .val (.ref b249), .val (.ref b251), .val (.ref b252), .val (.ref b254), .val (.ref b256), .val (.int (1 : Int32)), .val (.int (0 : Int32)), .val (.int (1 : Int32)), .unset, .unset, .unset] []))
    refine go (fun _ => XS.iloadN X259.here hx rfl (hb hby at_99) rfl) ?_
    show Go _ p e below s _ _ _ (T259.setTop (mkF m 100 #[.val (.int p1), .val (.int p2), .val (.int p3), .val (.ref b249), .val (.ref b251), .val (.ref b252), .val (.ref b254), .val (.ref b256), .val (.int (1 : Int32)), .val (.int (0 : Int32)), .val (.int (1 : Int32)), .unset, .unset, .unset] [(.int p2)]))
    refine go (X259.ldcInt hx hown (mvT hZ (hw _ (List.mem_of_getElem? (i := 110) rfl))) (g := (mkF m 100 #[.val (.int p1), .val (.int p2), .val (.int p3), .val (.ref b249), .val (.ref b251), .val (.ref b252), .val (.ref b254), .val (.ref b256), .val (.int (1 : Int32)), .val (.int (0 : Int32)), .val (.int (1 : Int32)), .unset, .unset, .unset] [(.int p2)])) rfl (hb hby at_100)) ?_
    show Go _ p e below s _ _ _ (T259.setTop (mkF m 102 #[.val (.int p1), .val (.int p2), .val (.int p3), .val (.ref b249), .val (.ref b251), .val (.ref b252), .val (.ref b254), .val (.ref b256), .val (.int (1 : Int32)), .val (.int (0 : Int32)), .val (.int (1 : Int32)), .unset, .unset, .unset] [(.int (2147483647 : Int32)), (.int p2)]))
    refine go (fun _ => XS.iand X259.here hx rfl (hb hby at_102) rfl) ?_
    show Go _ p e below s _ _ _ (T259.setTop (mkF m 103 #[.val (.int p1), .val (.int p2), .val (.int p3), .val (.ref b249), .val (.ref b251), .val (.ref b252), .val (.ref b254), .val (.ref b256), .val (.int (1 : Int32)), .val (.int (0 : Int32)), .val (.int (1 : Int32)), .unset, .unset, .unset] [(.int (p2 &&& (2147483647 : Int32)))]))
    refine go (fun _ => XS.iload X259.here hx rfl (hb hby at_103) rfl) ?_
    show Go _ p e below s _ _ _ (T259.setTop (mkF m 105 #[.val (.int p1), .val (.int p2), .val (.int p3), .val (.ref b249), .val (.ref b251), .val (.ref b252), .val (.ref b254), .val (.ref b256), .val (.int (1 : Int32)), .val (.int (0 : Int32)), .val (.int (1 : Int32)), .unset, .unset, .unset] [(.int (0 : Int32)), (.int (p2 &&& (2147483647 : Int32)))]))
    refine go (fun _ => XS.iconst X259.here hx rfl (hb hby at_105)) ?_
    show Go _ p e below s _ _ _ (T259.setTop (mkF m 106 #[.val (.int p1), .val (.int p2), .val (.int p3), .val (.ref b249), .val (.ref b251), .val (.ref b252), .val (.ref b254), .val (.ref b256), .val (.int (1 : Int32)), .val (.int (0 : Int32)), .val (.int (1 : Int32)), .unset, .unset, .unset] [(.int (1 : Int32)), (.int (0 : Int32)), (.int (p2 &&& (2147483647 : Int32)))]))
    refine go (fun _ => XS.iadd X259.here hx rfl (hb hby at_106) rfl) ?_
    show Go _ p e below s _ _ _ (T259.setTop (mkF m 107 #[.val (.int p1), .val (.int p2), .val (.int p3), .val (.ref b249), .val (.ref b251), .val (.ref b252), .val (.ref b254), .val (.ref b256), .val (.int (1 : Int32)), .val (.int (0 : Int32)), .val (.int (1 : Int32)), .unset, .unset, .unset] [(.int (1 : Int32)), (.int (p2 &&& (2147483647 : Int32)))]))
    refine go (fun _ => iremM X259 hx rfl (hb hby at_107) rfl (by decide)) ?_
    show Go _ p e below s _ _ _ (T259.setTop (mkF m 108 #[.val (.int p1), .val (.int p2), .val (.int p3), .val (.ref b249), .val (.ref b251), .val (.ref b252), .val (.ref b254), .val (.ref b256), .val (.int (1 : Int32)), .val (.int (0 : Int32)), .val (.int (1 : Int32)), .unset, .unset, .unset] [(.int ((p2 &&& (2147483647 : Int32)) % (1 : Int32)))]))
    refine go (fun _ => XS.istore X259.here hx rfl (hb hby at_108) rfl (l' := #[.val (.int p1), .val (.int p2), .val (.int p3), .val (.ref b249), .val (.ref b251), .val (.ref b252), .val (.ref b254), .val (.ref b256), .val (.int (1 : Int32)), .val (.int (0 : Int32)), .val (.int (1 : Int32)), .val (.int ((p2 &&& (2147483647 : Int32)) % (1 : Int32))), .unset, .unset]) rfl) ?_
    show Go _ p e below s _ _ _ (T259.setTop (mkF m 110 #[.val (.int p1), .val (.int p2), .val (.int p3), .val (.ref b249), .val (.ref b251), .val (.ref b252), .val (.ref b254), .val (.ref b256), .val (.int (1 : Int32)), .val (.int (0 : Int32)), .val (.int (1 : Int32)), .val (.int ((p2 &&& (2147483647 : Int32)) % (1 : Int32))), .unset, .unset] []))
    rw [own_mod1 p2]
    show Go _ p e below s _ _ _ (T259.setTop (mkF m 110 #[.val (.int p1), .val (.int p2), .val (.int p3), .val (.ref b249), .val (.ref b251), .val (.ref b252), .val (.ref b254), .val (.ref b256), .val (.int (1 : Int32)), .val (.int (0 : Int32)), .val (.int (1 : Int32)), .val (.int (0 : Int32)), .unset, .unset] []))
    refine go (fun _ => XS.iloadN X259.here hx rfl (hb hby at_110) rfl) ?_
    show Go _ p e below s _ _ _ (T259.setTop (mkF m 111 #[.val (.int p1), .val (.int p2), .val (.int p3), .val (.ref b249), .val (.ref b251), .val (.ref b252), .val (.ref b254), .val (.ref b256), .val (.int (1 : Int32)), .val (.int (0 : Int32)), .val (.int (1 : Int32)), .val (.int (0 : Int32)), .unset, .unset] [(.int p3)]))
    refine go (fun _ => XS.iconst X259.here hx rfl (hb hby at_111)) ?_
    show Go _ p e below s _ _ _ (T259.setTop (mkF m 112 #[.val (.int p1), .val (.int p2), .val (.int p3), .val (.ref b249), .val (.ref b251), .val (.ref b252), .val (.ref b254), .val (.ref b256), .val (.int (1 : Int32)), .val (.int (0 : Int32)), .val (.int (1 : Int32)), .val (.int (0 : Int32)), .unset, .unset] [(.int (1 : Int32)), (.int p3)]))
    refine go (fun _ => XS.iand X259.here hx rfl (hb hby at_112) rfl) ?_
    show Go _ p e below s _ _ _ (T259.setTop (mkF m 113 #[.val (.int p1), .val (.int p2), .val (.int p3), .val (.ref b249), .val (.ref b251), .val (.ref b252), .val (.ref b254), .val (.ref b256), .val (.int (1 : Int32)), .val (.int (0 : Int32)), .val (.int (1 : Int32)), .val (.int (0 : Int32)), .unset, .unset] [(.int (p3 &&& (1 : Int32)))]))
    by_cases hc113_260 : (p3 &&& (1 : Int32)) = (0 : Int32)
    · refine go (fun _ => XS.ifYes X259.here hx rfl (pc0 := 113) (pc' := 120) rfl (hb hby at_113) rfl ((if0 _ _).trans (teq hc113_260).1) (by decide) (by decide)) ?_
      show Go _ p e below s _ _ _ (T259.setTop (mkF m 120 #[.val (.int p1), .val (.int p2), .val (.int p3), .val (.ref b249), .val (.ref b251), .val (.ref b252), .val (.ref b254), .val (.ref b256), .val (.int (1 : Int32)), .val (.int (0 : Int32)), .val (.int (1 : Int32)), .val (.int (0 : Int32)), .unset, .unset] []))
      refine go (fun _ => XS.iconst X259.here hx rfl (hb hby at_120)) ?_
      show Go _ p e below s _ _ _ (T259.setTop (mkF m 121 #[.val (.int p1), .val (.int p2), .val (.int p3), .val (.ref b249), .val (.ref b251), .val (.ref b252), .val (.ref b254), .val (.ref b256), .val (.int (1 : Int32)), .val (.int (0 : Int32)), .val (.int (1 : Int32)), .val (.int (0 : Int32)), .unset, .unset] [(.int (0 : Int32))]))
      refine go (fun _ => XS.istore X259.here hx rfl (hb hby at_121) rfl (l' := #[.val (.int p1), .val (.int p2), .val (.int p3), .val (.ref b249), .val (.ref b251), .val (.ref b252), .val (.ref b254), .val (.ref b256), .val (.int (1 : Int32)), .val (.int (0 : Int32)), .val (.int (1 : Int32)), .val (.int (0 : Int32)), .val (.int (0 : Int32)), .unset]) rfl) ?_
      show Go _ p e below s _ _ _ (T259.setTop (mkF m 123 #[.val (.int p1), .val (.int p2), .val (.int p3), .val (.ref b249), .val (.ref b251), .val (.ref b252), .val (.ref b254), .val (.ref b256), .val (.int (1 : Int32)), .val (.int (0 : Int32)), .val (.int (1 : Int32)), .val (.int (0 : Int32)), .val (.int (0 : Int32)), .unset] []))
      refine go (fun _ => XS.iload X259.here hx rfl (hb hby at_123) rfl) ?_
      show Go _ p e below s _ _ _ (T259.setTop (mkF m 125 #[.val (.int p1), .val (.int p2), .val (.int p3), .val (.ref b249), .val (.ref b251), .val (.ref b252), .val (.ref b254), .val (.ref b256), .val (.int (1 : Int32)), .val (.int (0 : Int32)), .val (.int (1 : Int32)), .val (.int (0 : Int32)), .val (.int (0 : Int32)), .unset] [(.int (0 : Int32))]))
      refine go (fun _ => XS.iconst X259.here hx rfl (hb hby at_125)) ?_
      show Go _ p e below s _ _ _ (T259.setTop (mkF m 126 #[.val (.int p1), .val (.int p2), .val (.int p3), .val (.ref b249), .val (.ref b251), .val (.ref b252), .val (.ref b254), .val (.ref b256), .val (.int (1 : Int32)), .val (.int (0 : Int32)), .val (.int (1 : Int32)), .val (.int (0 : Int32)), .val (.int (0 : Int32)), .unset] [(.int (1 : Int32)), (.int (0 : Int32))]))
      refine go (fun _ => XS.icmpYes X259.here hx rfl (pc0 := 126) (pc' := 157) rfl (hb hby at_126) rfl (feq (by decide : ¬ ((0 : Int32) = (1 : Int32)))).2 (by decide) (by decide)) ?_
      show Go _ p e below s _ _ _ (T259.setTop (mkF m 157 #[.val (.int p1), .val (.int p2), .val (.int p3), .val (.ref b249), .val (.ref b251), .val (.ref b252), .val (.ref b254), .val (.ref b256), .val (.int (1 : Int32)), .val (.int (0 : Int32)), .val (.int (1 : Int32)), .val (.int (0 : Int32)), .val (.int (0 : Int32)), .unset] []))
      refine go (fun _ => XS.iload X259.here hx rfl (hb hby at_157) rfl) ?_
      show Go _ p e below s _ _ _ (T259.setTop (mkF m 159 #[.val (.int p1), .val (.int p2), .val (.int p3), .val (.ref b249), .val (.ref b251), .val (.ref b252), .val (.ref b254), .val (.ref b256), .val (.int (1 : Int32)), .val (.int (0 : Int32)), .val (.int (1 : Int32)), .val (.int (0 : Int32)), .val (.int (0 : Int32)), .unset] [(.int (0 : Int32))]))
      refine go (fun _ => XS.iconst X259.here hx rfl (hb hby at_159)) ?_
      show Go _ p e below s _ _ _ (T259.setTop (mkF m 160 #[.val (.int p1), .val (.int p2), .val (.int p3), .val (.ref b249), .val (.ref b251), .val (.ref b252), .val (.ref b254), .val (.ref b256), .val (.int (1 : Int32)), .val (.int (0 : Int32)), .val (.int (1 : Int32)), .val (.int (0 : Int32)), .val (.int (0 : Int32)), .unset] [(.int (2 : Int32)), (.int (0 : Int32))]))
      refine go (fun _ => XS.icmpYes X259.here hx rfl (pc0 := 160) (pc' := 199) rfl (hb hby at_160) rfl (feq (by decide : ¬ ((0 : Int32) = (2 : Int32)))).2 (by decide) (by decide)) ?_
      show Go _ p e below s _ _ _ (T259.setTop (mkF m 199 #[.val (.int p1), .val (.int p2), .val (.int p3), .val (.ref b249), .val (.ref b251), .val (.ref b252), .val (.ref b254), .val (.ref b256), .val (.int (1 : Int32)), .val (.int (0 : Int32)), .val (.int (1 : Int32)), .val (.int (0 : Int32)), .val (.int (0 : Int32)), .unset] []))
      refine go (fun _ => XS.aload X259.here hx rfl (hb hby at_199) rfl rfl) ?_
      show Go _ p e below s _ _ _ (T259.setTop (mkF m 201 #[.val (.int p1), .val (.int p2), .val (.int p3), .val (.ref b249), .val (.ref b251), .val (.ref b252), .val (.ref b254), .val (.ref b256), .val (.int (1 : Int32)), .val (.int (0 : Int32)), .val (.int (1 : Int32)), .val (.int (0 : Int32)), .val (.int (0 : Int32)), .unset] [(.ref b256)]))
      obtain ⟨cq261, kq261, q261a, q261b, q261c⟩ := isOf hZ e259 c257_8
      obtain ⟨_, _, ⟨T261, L261, k261, n261⟩, -, X261, ⟨Lc261, hQ261, l261, y261, z261⟩, st261⟩ := X259.virtualBack hx (y := (⟨"com/example/reticule/reticule/engine/ActivationRuns", "isEmpty", "()Z"⟩ : MethodName)) (z := (⟨"com/example/reticule/reticule/engine/ActivationRuns", "isEmpty", "()Z"⟩ : MethodName)) hown (mvT hZ (hw _ (List.mem_of_getElem? (i := 103) rfl))) (mvT hZ (hw _ (List.mem_of_getElem? (i := 104) rfl))) (notFace_of_selects (args := #[]) (mvT hZ (hw _ (List.mem_of_getElem? (i := 106) rfl)))) (mvT hZ (hw _ (List.mem_of_getElem? (i := 106) rfl))) (mvT hZ (hw _ (List.mem_of_getElem? (i := 105) rfl))) (by decide) (backOf (W := 0) (rmE0 l Z a0 hw [] b256 (T257.heap) n0 ZN257 u257_8) hZ (hw _ (List.mem_of_getElem? (i := 107) rfl)) (hw _ (List.mem_of_getElem? (i := 72) rfl)) (by decide) (by decide)) q261a q261c (g := (mkF m 201 #[.val (.int p1), .val (.int p2), .val (.int p3), .val (.ref b249), .val (.ref b251), .val (.ref b252), .val (.ref b254), .val (.ref b256), .val (.int (1 : Int32)), .val (.int (0 : Int32)), .val (.int (1 : Int32)), .val (.int (0 : Int32)), .val (.int (0 : Int32)), .unset] [(.ref b256)])) rfl (by rw [hml]; rfl) (Steps.refl _) (argsL := []) (rest := []) (lenOf pd_0_4 rfl) rfl (by show 2 * 0 + _ ≤ _; exact Nat.le_of_eq rfl) (hb hby at_201) (fun _ _ => ⟨rfl, e259, (by decide : 14 + 0 ≤ _), (by decide : 151 + 0 ≤ _)⟩)
      dsimp only [Pt.U, Pt.locs, Pt.cells, Pt.slots] at X261 l261 y261 z261 st261 hQ261
      subst l261 y261 z261
      obtain ⟨rfl, N261q, e261⟩ := hQ261
      have N261 := Fr.app N259 N261q
      refine goT st261 ?_
      show Go _ p e below s _ _ _ (T261.setTop (mkF m 204 #[.val (.int p1), .val (.int p2), .val (.int p3), .val (.ref b249), .val (.ref b251), .val (.ref b252), .val (.ref b254), .val (.ref b256), .val (.int (1 : Int32)), .val (.int (0 : Int32)), .val (.int (1 : Int32)), .val (.int (0 : Int32)), .val (.int (0 : Int32)), .unset] [(.int (1 : Int32))]))
      refine go (fun _ => XS.istore X261.here hx rfl (hb hby at_204) rfl (l' := #[.val (.int p1), .val (.int p2), .val (.int p3), .val (.ref b249), .val (.ref b251), .val (.ref b252), .val (.ref b254), .val (.ref b256), .val (.int (1 : Int32)), .val (.int (0 : Int32)), .val (.int (1 : Int32)), .val (.int (0 : Int32)), .val (.int (0 : Int32)), .val (.int (1 : Int32))]) rfl) ?_
      show Go _ p e below s _ _ _ (T261.setTop (mkF m 206 #[.val (.int p1), .val (.int p2), .val (.int p3), .val (.ref b249), .val (.ref b251), .val (.ref b252), .val (.ref b254), .val (.ref b256), .val (.int (1 : Int32)), .val (.int (0 : Int32)), .val (.int (1 : Int32)), .val (.int (0 : Int32)), .val (.int (0 : Int32)), .val (.int (1 : Int32))] []))
      refine go (fun _ => XS.iload X261.here hx rfl (hb hby at_206) rfl) ?_
      show Go _ p e below s _ _ _ (T261.setTop (mkF m 208 #[.val (.int p1), .val (.int p2), .val (.int p3), .val (.ref b249), .val (.ref b251), .val (.ref b252), .val (.ref b254), .val (.ref b256), .val (.int (1 : Int32)), .val (.int (0 : Int32)), .val (.int (1 : Int32)), .val (.int (0 : Int32)), .val (.int (0 : Int32)), .val (.int (1 : Int32))] [(.int (1 : Int32))]))
      refine go (fun _ => XS.ifNo X261.here hx rfl (hb hby at_208) rfl ((if0 _ _).trans (feq (by decide : ¬ ((1 : Int32) = (0 : Int32)))).1)) ?_
      show Go _ p e below s _ _ _ (T261.setTop (mkF m 211 #[.val (.int p1), .val (.int p2), .val (.int p3), .val (.ref b249), .val (.ref b251), .val (.ref b252), .val (.ref b254), .val (.ref b256), .val (.int (1 : Int32)), .val (.int (0 : Int32)), .val (.int (1 : Int32)), .val (.int (0 : Int32)), .val (.int (0 : Int32)), .val (.int (1 : Int32))] []))
      refine go (fun _ => XS.iload X261.here hx rfl (hb hby at_211) rfl) ?_
      show Go _ p e below s _ _ _ (T261.setTop (mkF m 213 #[.val (.int p1), .val (.int p2), .val (.int p3), .val (.ref b249), .val (.ref b251), .val (.ref b252), .val (.ref b254), .val (.ref b256), .val (.int (1 : Int32)), .val (.int (0 : Int32)), .val (.int (1 : Int32)), .val (.int (0 : Int32)), .val (.int (0 : Int32)), .val (.int (1 : Int32))] [(.int (1 : Int32))]))
      refine go (fun _ => XS.iload X261.here hx rfl (hb hby at_213) rfl) ?_
      show Go _ p e below s _ _ _ (T261.setTop (mkF m 215 #[.val (.int p1), .val (.int p2), .val (.int p3), .val (.ref b249), .val (.ref b251), .val (.ref b252), .val (.ref b254), .val (.ref b256), .val (.int (1 : Int32)), .val (.int (0 : Int32)), .val (.int (1 : Int32)), .val (.int (0 : Int32)), .val (.int (0 : Int32)), .val (.int (1 : Int32))] [(.int (0 : Int32)), (.int (1 : Int32))]))
      refine go (fun _ => XS.ifNo X261.here hx rfl (hb hby at_215) rfl ((if0 _ _).trans (teq (rfl : (0 : Int32) = (0 : Int32))).2)) ?_
      show Go _ p e below s _ _ _ (T261.setTop (mkF m 218 #[.val (.int p1), .val (.int p2), .val (.int p3), .val (.ref b249), .val (.ref b251), .val (.ref b252), .val (.ref b254), .val (.ref b256), .val (.int (1 : Int32)), .val (.int (0 : Int32)), .val (.int (1 : Int32)), .val (.int (0 : Int32)), .val (.int (0 : Int32)), .val (.int (1 : Int32))] [(.int (1 : Int32))]))
      refine go (fun _ => XS.iconst X261.here hx rfl (hb hby at_218)) ?_
      show Go _ p e below s _ _ _ (T261.setTop (mkF m 219 #[.val (.int p1), .val (.int p2), .val (.int p3), .val (.ref b249), .val (.ref b251), .val (.ref b252), .val (.ref b254), .val (.ref b256), .val (.int (1 : Int32)), .val (.int (0 : Int32)), .val (.int (1 : Int32)), .val (.int (0 : Int32)), .val (.int (0 : Int32)), .val (.int (1 : Int32))] [(.int (1 : Int32)), (.int (1 : Int32))]))
      refine go (fun _ => XS.goto X261.here hx rfl (pc0 := 219) (pc' := 223) rfl (hb hby at_219) (by decide) (by decide)) ?_
      show Go _ p e below s _ _ _ (T261.setTop (mkF m 223 #[.val (.int p1), .val (.int p2), .val (.int p3), .val (.ref b249), .val (.ref b251), .val (.ref b252), .val (.ref b254), .val (.ref b256), .val (.int (1 : Int32)), .val (.int (0 : Int32)), .val (.int (1 : Int32)), .val (.int (0 : Int32)), .val (.int (0 : Int32)), .val (.int (1 : Int32))] [(.int (1 : Int32)), (.int (1 : Int32))]))
      refine go (fun _ => XS.icmpNo X261.here hx rfl (hb hby at_223) rfl (teq (rfl : (1 : Int32) = (1 : Int32))).2) ?_
      show Go _ p e below s _ _ _ (T261.setTop (mkF m 226 #[.val (.int p1), .val (.int p2), .val (.int p3), .val (.ref b249), .val (.ref b251), .val (.ref b252), .val (.ref b254), .val (.ref b256), .val (.int (1 : Int32)), .val (.int (0 : Int32)), .val (.int (1 : Int32)), .val (.int (0 : Int32)), .val (.int (0 : Int32)), .val (.int (1 : Int32))] []))
      refine go (fun _ => XS.iload X261.here hx rfl (hb hby at_226) rfl) ?_
      show Go _ p e below s _ _ _ (T261.setTop (mkF m 228 #[.val (.int p1), .val (.int p2), .val (.int p3), .val (.ref b249), .val (.ref b251), .val (.ref b252), .val (.ref b254), .val (.ref b256), .val (.int (1 : Int32)), .val (.int (0 : Int32)), .val (.int (1 : Int32)), .val (.int (0 : Int32)), .val (.int (0 : Int32)), .val (.int (1 : Int32))] [(.int (1 : Int32))]))
      refine go (fun _ => XS.iload X261.here hx rfl (hb hby at_228) rfl) ?_
      show Go _ p e below s _ _ _ (T261.setTop (mkF m 230 #[.val (.int p1), .val (.int p2), .val (.int p3), .val (.ref b249), .val (.ref b251), .val (.ref b252), .val (.ref b254), .val (.ref b256), .val (.int (1 : Int32)), .val (.int (0 : Int32)), .val (.int (1 : Int32)), .val (.int (0 : Int32)), .val (.int (0 : Int32)), .val (.int (1 : Int32))] [(.int (0 : Int32)), (.int (1 : Int32))]))
      refine go (fun _ => XS.iload X261.here hx rfl (hb hby at_230) rfl) ?_
      show Go _ p e below s _ _ _ (T261.setTop (mkF m 232 #[.val (.int p1), .val (.int p2), .val (.int p3), .val (.ref b249), .val (.ref b251), .val (.ref b252), .val (.ref b254), .val (.ref b256), .val (.int (1 : Int32)), .val (.int (0 : Int32)), .val (.int (1 : Int32)), .val (.int (0 : Int32)), .val (.int (0 : Int32)), .val (.int (1 : Int32))] [(.int (0 : Int32)), (.int (0 : Int32)), (.int (1 : Int32))]))
      refine go (fun _ => XS.icmpNo X261.here hx rfl (hb hby at_232) rfl (teq (rfl : (0 : Int32) = (0 : Int32))).2) ?_
      show Go _ p e below s _ _ _ (T261.setTop (mkF m 235 #[.val (.int p1), .val (.int p2), .val (.int p3), .val (.ref b249), .val (.ref b251), .val (.ref b252), .val (.ref b254), .val (.ref b256), .val (.int (1 : Int32)), .val (.int (0 : Int32)), .val (.int (1 : Int32)), .val (.int (0 : Int32)), .val (.int (0 : Int32)), .val (.int (1 : Int32))] [(.int (1 : Int32))]))
      refine go (fun _ => XS.iconst X261.here hx rfl (hb hby at_235)) ?_
      show Go _ p e below s _ _ _ (T261.setTop (mkF m 236 #[.val (.int p1), .val (.int p2), .val (.int p3), .val (.ref b249), .val (.ref b251), .val (.ref b252), .val (.ref b254), .val (.ref b256), .val (.int (1 : Int32)), .val (.int (0 : Int32)), .val (.int (1 : Int32)), .val (.int (0 : Int32)), .val (.int (0 : Int32)), .val (.int (1 : Int32))] [(.int (1 : Int32)), (.int (1 : Int32))]))
      refine go (fun _ => XS.goto X261.here hx rfl (pc0 := 236) (pc' := 240) rfl (hb hby at_236) (by decide) (by decide)) ?_
      show Go _ p e below s _ _ _ (T261.setTop (mkF m 240 #[.val (.int p1), .val (.int p2), .val (.int p3), .val (.ref b249), .val (.ref b251), .val (.ref b252), .val (.ref b254), .val (.ref b256), .val (.int (1 : Int32)), .val (.int (0 : Int32)), .val (.int (1 : Int32)), .val (.int (0 : Int32)), .val (.int (0 : Int32)), .val (.int (1 : Int32))] [(.int (1 : Int32)), (.int (1 : Int32))]))
      refine go (fun _ => XS.icmpNo X261.here hx rfl (hb hby at_240) rfl (teq (rfl : (1 : Int32) = (1 : Int32))).2) ?_
      show Go _ p e below s _ _ _ (T261.setTop (mkF m 243 #[.val (.int p1), .val (.int p2), .val (.int p3), .val (.ref b249), .val (.ref b251), .val (.ref b252), .val (.ref b254), .val (.ref b256), .val (.int (1 : Int32)), .val (.int (0 : Int32)), .val (.int (1 : Int32)), .val (.int (0 : Int32)), .val (.int (0 : Int32)), .val (.int (1 : Int32))] []))
      refine go (fun _ => XS.iconst X261.here hx rfl (hb hby at_243)) ?_
      show Go _ p e below s _ _ _ (T261.setTop (mkF m 244 #[.val (.int p1), .val (.int p2), .val (.int p3), .val (.ref b249), .val (.ref b251), .val (.ref b252), .val (.ref b254), .val (.ref b256), .val (.int (1 : Int32)), .val (.int (0 : Int32)), .val (.int (1 : Int32)), .val (.int (0 : Int32)), .val (.int (0 : Int32)), .val (.int (1 : Int32))] [(.int (1 : Int32))]))
      refine go (fun _ => XS.goto X261.here hx rfl (pc0 := 244) (pc' := 248) rfl (hb hby at_244) (by decide) (by decide)) ?_
      show Go _ p e below s _ _ _ (T261.setTop (mkF m 248 #[.val (.int p1), .val (.int p2), .val (.int p3), .val (.ref b249), .val (.ref b251), .val (.ref b252), .val (.ref b254), .val (.ref b256), .val (.int (1 : Int32)), .val (.int (0 : Int32)), .val (.int (1 : Int32)), .val (.int (0 : Int32)), .val (.int (0 : Int32)), .val (.int (1 : Int32))] [(.int (1 : Int32))]))
      refine goRetW X261 hS255 (by rw [e261]; exact HK257) hx Bd.notSynchronized Bd.returns rfl (Or.inl ⟨rfl, Or.inr (Or.inl rfl), _, rfl⟩) (hb hby at_248) (by decide) (by decide) (by rw [e261]; refine ⟨rfl, N261⟩)
    · refine go (fun _ => XS.ifNo X259.here hx rfl (hb hby at_113) rfl ((if0 _ _).trans (feq hc113_260).1)) ?_
      show Go _ p e below s _ _ _ (T259.setTop (mkF m 116 #[.val (.int p1), .val (.int p2), .val (.int p3), .val (.ref b249), .val (.ref b251), .val (.ref b252), .val (.ref b254), .val (.ref b256), .val (.int (1 : Int32)), .val (.int (0 : Int32)), .val (.int (1 : Int32)), .val (.int (0 : Int32)), .unset, .unset] []))
      refine go (fun _ => XS.iconst X259.here hx rfl (hb hby at_116)) ?_
      show Go _ p e below s _ _ _ (T259.setTop (mkF m 117 #[.val (.int p1), .val (.int p2), .val (.int p3), .val (.ref b249), .val (.ref b251), .val (.ref b252), .val (.ref b254), .val (.ref b256), .val (.int (1 : Int32)), .val (.int (0 : Int32)), .val (.int (1 : Int32)), .val (.int (0 : Int32)), .unset, .unset] [(.int (1 : Int32))]))
      refine go (fun _ => XS.goto X259.here hx rfl (pc0 := 117) (pc' := 121) rfl (hb hby at_117) (by decide) (by decide)) ?_
      show Go _ p e below s _ _ _ (T259.setTop (mkF m 121 #[.val (.int p1), .val (.int p2), .val (.int p3), .val (.ref b249), .val (.ref b251), .val (.ref b252), .val (.ref b254), .val (.ref b256), .val (.int (1 : Int32)), .val (.int (0 : Int32)), .val (.int (1 : Int32)), .val (.int (0 : Int32)), .unset, .unset] [(.int (1 : Int32))]))
      refine go (fun _ => XS.istore X259.here hx rfl (hb hby at_121) rfl (l' := #[.val (.int p1), .val (.int p2), .val (.int p3), .val (.ref b249), .val (.ref b251), .val (.ref b252), .val (.ref b254), .val (.ref b256), .val (.int (1 : Int32)), .val (.int (0 : Int32)), .val (.int (1 : Int32)), .val (.int (0 : Int32)), .val (.int (1 : Int32)), .unset]) rfl) ?_
      show Go _ p e below s _ _ _ (T259.setTop (mkF m 123 #[.val (.int p1), .val (.int p2), .val (.int p3), .val (.ref b249), .val (.ref b251), .val (.ref b252), .val (.ref b254), .val (.ref b256), .val (.int (1 : Int32)), .val (.int (0 : Int32)), .val (.int (1 : Int32)), .val (.int (0 : Int32)), .val (.int (1 : Int32)), .unset] []))
      refine go (fun _ => XS.iload X259.here hx rfl (hb hby at_123) rfl) ?_
      show Go _ p e below s _ _ _ (T259.setTop (mkF m 125 #[.val (.int p1), .val (.int p2), .val (.int p3), .val (.ref b249), .val (.ref b251), .val (.ref b252), .val (.ref b254), .val (.ref b256), .val (.int (1 : Int32)), .val (.int (0 : Int32)), .val (.int (1 : Int32)), .val (.int (0 : Int32)), .val (.int (1 : Int32)), .unset] [(.int (0 : Int32))]))
      refine go (fun _ => XS.iconst X259.here hx rfl (hb hby at_125)) ?_
      show Go _ p e below s _ _ _ (T259.setTop (mkF m 126 #[.val (.int p1), .val (.int p2), .val (.int p3), .val (.ref b249), .val (.ref b251), .val (.ref b252), .val (.ref b254), .val (.ref b256), .val (.int (1 : Int32)), .val (.int (0 : Int32)), .val (.int (1 : Int32)), .val (.int (0 : Int32)), .val (.int (1 : Int32)), .unset] [(.int (1 : Int32)), (.int (0 : Int32))]))
      refine go (fun _ => XS.icmpYes X259.here hx rfl (pc0 := 126) (pc' := 157) rfl (hb hby at_126) rfl (feq (by decide : ¬ ((0 : Int32) = (1 : Int32)))).2 (by decide) (by decide)) ?_
      show Go _ p e below s _ _ _ (T259.setTop (mkF m 157 #[.val (.int p1), .val (.int p2), .val (.int p3), .val (.ref b249), .val (.ref b251), .val (.ref b252), .val (.ref b254), .val (.ref b256), .val (.int (1 : Int32)), .val (.int (0 : Int32)), .val (.int (1 : Int32)), .val (.int (0 : Int32)), .val (.int (1 : Int32)), .unset] []))
      refine go (fun _ => XS.iload X259.here hx rfl (hb hby at_157) rfl) ?_
      show Go _ p e below s _ _ _ (T259.setTop (mkF m 159 #[.val (.int p1), .val (.int p2), .val (.int p3), .val (.ref b249), .val (.ref b251), .val (.ref b252), .val (.ref b254), .val (.ref b256), .val (.int (1 : Int32)), .val (.int (0 : Int32)), .val (.int (1 : Int32)), .val (.int (0 : Int32)), .val (.int (1 : Int32)), .unset] [(.int (0 : Int32))]))
      refine go (fun _ => XS.iconst X259.here hx rfl (hb hby at_159)) ?_
      show Go _ p e below s _ _ _ (T259.setTop (mkF m 160 #[.val (.int p1), .val (.int p2), .val (.int p3), .val (.ref b249), .val (.ref b251), .val (.ref b252), .val (.ref b254), .val (.ref b256), .val (.int (1 : Int32)), .val (.int (0 : Int32)), .val (.int (1 : Int32)), .val (.int (0 : Int32)), .val (.int (1 : Int32)), .unset] [(.int (2 : Int32)), (.int (0 : Int32))]))
      refine go (fun _ => XS.icmpYes X259.here hx rfl (pc0 := 160) (pc' := 199) rfl (hb hby at_160) rfl (feq (by decide : ¬ ((0 : Int32) = (2 : Int32)))).2 (by decide) (by decide)) ?_
      show Go _ p e below s _ _ _ (T259.setTop (mkF m 199 #[.val (.int p1), .val (.int p2), .val (.int p3), .val (.ref b249), .val (.ref b251), .val (.ref b252), .val (.ref b254), .val (.ref b256), .val (.int (1 : Int32)), .val (.int (0 : Int32)), .val (.int (1 : Int32)), .val (.int (0 : Int32)), .val (.int (1 : Int32)), .unset] []))
      refine go (fun _ => XS.aload X259.here hx rfl (hb hby at_199) rfl rfl) ?_
      show Go _ p e below s _ _ _ (T259.setTop (mkF m 201 #[.val (.int p1), .val (.int p2), .val (.int p3), .val (.ref b249), .val (.ref b251), .val (.ref b252), .val (.ref b254), .val (.ref b256), .val (.int (1 : Int32)), .val (.int (0 : Int32)), .val (.int (1 : Int32)), .val (.int (0 : Int32)), .val (.int (1 : Int32)), .unset] [(.ref b256)]))
      obtain ⟨cq262, kq262, q262a, q262b, q262c⟩ := isOf hZ e259 c257_8
      obtain ⟨_, _, ⟨T262, L262, k262, n262⟩, -, X262, ⟨Lc262, hQ262, l262, y262, z262⟩, st262⟩ := X259.virtualBack hx (y := (⟨"com/example/reticule/reticule/engine/ActivationRuns", "isEmpty", "()Z"⟩ : MethodName)) (z := (⟨"com/example/reticule/reticule/engine/ActivationRuns", "isEmpty", "()Z"⟩ : MethodName)) hown (mvT hZ (hw _ (List.mem_of_getElem? (i := 103) rfl))) (mvT hZ (hw _ (List.mem_of_getElem? (i := 104) rfl))) (notFace_of_selects (args := #[]) (mvT hZ (hw _ (List.mem_of_getElem? (i := 106) rfl)))) (mvT hZ (hw _ (List.mem_of_getElem? (i := 106) rfl))) (mvT hZ (hw _ (List.mem_of_getElem? (i := 105) rfl))) (by decide) (backOf (W := 0) (rmE0 l Z a0 hw [] b256 (T257.heap) n0 ZN257 u257_8) hZ (hw _ (List.mem_of_getElem? (i := 107) rfl)) (hw _ (List.mem_of_getElem? (i := 72) rfl)) (by decide) (by decide)) q262a q262c (g := (mkF m 201 #[.val (.int p1), .val (.int p2), .val (.int p3), .val (.ref b249), .val (.ref b251), .val (.ref b252), .val (.ref b254), .val (.ref b256), .val (.int (1 : Int32)), .val (.int (0 : Int32)), .val (.int (1 : Int32)), .val (.int (0 : Int32)), .val (.int (1 : Int32)), .unset] [(.ref b256)])) rfl (by rw [hml]; rfl) (Steps.refl _) (argsL := []) (rest := []) (lenOf pd_0_4 rfl) rfl (by show 2 * 0 + _ ≤ _; exact Nat.le_of_eq rfl) (hb hby at_201) (fun _ _ => ⟨rfl, e259, (by decide : 14 + 0 ≤ _), (by decide : 151 + 0 ≤ _)⟩)
      dsimp only [Pt.U, Pt.locs, Pt.cells, Pt.slots] at X262 l262 y262 z262 st262 hQ262
      subst l262 y262 z262
      obtain ⟨rfl, N262q, e262⟩ := hQ262
      have N262 := Fr.app N259 N262q
      refine goT st262 ?_
      show Go _ p e below s _ _ _ (T262.setTop (mkF m 204 #[.val (.int p1), .val (.int p2), .val (.int p3), .val (.ref b249), .val (.ref b251), .val (.ref b252), .val (.ref b254), .val (.ref b256), .val (.int (1 : Int32)), .val (.int (0 : Int32)), .val (.int (1 : Int32)), .val (.int (0 : Int32)), .val (.int (1 : Int32)), .unset] [(.int (1 : Int32))]))
      refine go (fun _ => XS.istore X262.here hx rfl (hb hby at_204) rfl (l' := #[.val (.int p1), .val (.int p2), .val (.int p3), .val (.ref b249), .val (.ref b251), .val (.ref b252), .val (.ref b254), .val (.ref b256), .val (.int (1 : Int32)), .val (.int (0 : Int32)), .val (.int (1 : Int32)), .val (.int (0 : Int32)), .val (.int (1 : Int32)), .val (.int (1 : Int32))]) rfl) ?_
      show Go _ p e below s _ _ _ (T262.setTop (mkF m 206 #[.val (.int p1), .val (.int p2), .val (.int p3), .val (.ref b249), .val (.ref b251), .val (.ref b252), .val (.ref b254), .val (.ref b256), .val (.int (1 : Int32)), .val (.int (0 : Int32)), .val (.int (1 : Int32)), .val (.int (0 : Int32)), .val (.int (1 : Int32)), .val (.int (1 : Int32))] []))
      refine go (fun _ => XS.iload X262.here hx rfl (hb hby at_206) rfl) ?_
      show Go _ p e below s _ _ _ (T262.setTop (mkF m 208 #[.val (.int p1), .val (.int p2), .val (.int p3), .val (.ref b249), .val (.ref b251), .val (.ref b252), .val (.ref b254), .val (.ref b256), .val (.int (1 : Int32)), .val (.int (0 : Int32)), .val (.int (1 : Int32)), .val (.int (0 : Int32)), .val (.int (1 : Int32)), .val (.int (1 : Int32))] [(.int (1 : Int32))]))
      refine go (fun _ => XS.ifNo X262.here hx rfl (hb hby at_208) rfl ((if0 _ _).trans (feq (by decide : ¬ ((1 : Int32) = (0 : Int32)))).1)) ?_
      show Go _ p e below s _ _ _ (T262.setTop (mkF m 211 #[.val (.int p1), .val (.int p2), .val (.int p3), .val (.ref b249), .val (.ref b251), .val (.ref b252), .val (.ref b254), .val (.ref b256), .val (.int (1 : Int32)), .val (.int (0 : Int32)), .val (.int (1 : Int32)), .val (.int (0 : Int32)), .val (.int (1 : Int32)), .val (.int (1 : Int32))] []))
      refine go (fun _ => XS.iload X262.here hx rfl (hb hby at_211) rfl) ?_
      show Go _ p e below s _ _ _ (T262.setTop (mkF m 213 #[.val (.int p1), .val (.int p2), .val (.int p3), .val (.ref b249), .val (.ref b251), .val (.ref b252), .val (.ref b254), .val (.ref b256), .val (.int (1 : Int32)), .val (.int (0 : Int32)), .val (.int (1 : Int32)), .val (.int (0 : Int32)), .val (.int (1 : Int32)), .val (.int (1 : Int32))] [(.int (1 : Int32))]))
      refine go (fun _ => XS.iload X262.here hx rfl (hb hby at_213) rfl) ?_
      show Go _ p e below s _ _ _ (T262.setTop (mkF m 215 #[.val (.int p1), .val (.int p2), .val (.int p3), .val (.ref b249), .val (.ref b251), .val (.ref b252), .val (.ref b254), .val (.ref b256), .val (.int (1 : Int32)), .val (.int (0 : Int32)), .val (.int (1 : Int32)), .val (.int (0 : Int32)), .val (.int (1 : Int32)), .val (.int (1 : Int32))] [(.int (0 : Int32)), (.int (1 : Int32))]))
      refine go (fun _ => XS.ifNo X262.here hx rfl (hb hby at_215) rfl ((if0 _ _).trans (teq (rfl : (0 : Int32) = (0 : Int32))).2)) ?_
      show Go _ p e below s _ _ _ (T262.setTop (mkF m 218 #[.val (.int p1), .val (.int p2), .val (.int p3), .val (.ref b249), .val (.ref b251), .val (.ref b252), .val (.ref b254), .val (.ref b256), .val (.int (1 : Int32)), .val (.int (0 : Int32)), .val (.int (1 : Int32)), .val (.int (0 : Int32)), .val (.int (1 : Int32)), .val (.int (1 : Int32))] [(.int (1 : Int32))]))
      refine go (fun _ => XS.iconst X262.here hx rfl (hb hby at_218)) ?_
      show Go _ p e below s _ _ _ (T262.setTop (mkF m 219 #[.val (.int p1), .val (.int p2), .val (.int p3), .val (.ref b249), .val (.ref b251), .val (.ref b252), .val (.ref b254), .val (.ref b256), .val (.int (1 : Int32)), .val (.int (0 : Int32)), .val (.int (1 : Int32)), .val (.int (0 : Int32)), .val (.int (1 : Int32)), .val (.int (1 : Int32))] [(.int (1 : Int32)), (.int (1 : Int32))]))
      refine go (fun _ => XS.goto X262.here hx rfl (pc0 := 219) (pc' := 223) rfl (hb hby at_219) (by decide) (by decide)) ?_
      show Go _ p e below s _ _ _ (T262.setTop (mkF m 223 #[.val (.int p1), .val (.int p2), .val (.int p3), .val (.ref b249), .val (.ref b251), .val (.ref b252), .val (.ref b254), .val (.ref b256), .val (.int (1 : Int32)), .val (.int (0 : Int32)), .val (.int (1 : Int32)), .val (.int (0 : Int32)), .val (.int (1 : Int32)), .val (.int (1 : Int32))] [(.int (1 : Int32)), (.int (1 : Int32))]))
      refine go (fun _ => XS.icmpNo X262.here hx rfl (hb hby at_223) rfl (teq (rfl : (1 : Int32) = (1 : Int32))).2) ?_
      show Go _ p e below s _ _ _ (T262.setTop (mkF m 226 #[.val (.int p1), .val (.int p2), .val (.int p3), .val (.ref b249), .val (.ref b251), .val (.ref b252), .val (.ref b254), .val (.ref b256), .val (.int (1 : Int32)), .val (.int (0 : Int32)), .val (.int (1 : Int32)), .val (.int (0 : Int32)), .val (.int (1 : Int32)), .val (.int (1 : Int32))] []))
      refine go (fun _ => XS.iload X262.here hx rfl (hb hby at_226) rfl) ?_
      show Go _ p e below s _ _ _ (T262.setTop (mkF m 228 #[.val (.int p1), .val (.int p2), .val (.int p3), .val (.ref b249), .val (.ref b251), .val (.ref b252), .val (.ref b254), .val (.ref b256), .val (.int (1 : Int32)), .val (.int (0 : Int32)), .val (.int (1 : Int32)), .val (.int (0 : Int32)), .val (.int (1 : Int32)), .val (.int (1 : Int32))] [(.int (1 : Int32))]))
      refine go (fun _ => XS.iload X262.here hx rfl (hb hby at_228) rfl) ?_
      show Go _ p e below s _ _ _ (T262.setTop (mkF m 230 #[.val (.int p1), .val (.int p2), .val (.int p3), .val (.ref b249), .val (.ref b251), .val (.ref b252), .val (.ref b254), .val (.ref b256), .val (.int (1 : Int32)), .val (.int (0 : Int32)), .val (.int (1 : Int32)), .val (.int (0 : Int32)), .val (.int (1 : Int32)), .val (.int (1 : Int32))] [(.int (0 : Int32)), (.int (1 : Int32))]))
      refine go (fun _ => XS.iload X262.here hx rfl (hb hby at_230) rfl) ?_
      show Go _ p e below s _ _ _ (T262.setTop (mkF m 232 #[.val (.int p1), .val (.int p2), .val (.int p3), .val (.ref b249), .val (.ref b251), .val (.ref b252), .val (.ref b254), .val (.ref b256), .val (.int (1 : Int32)), .val (.int (0 : Int32)), .val (.int (1 : Int32)), .val (.int (0 : Int32)), .val (.int (1 : Int32)), .val (.int (1 : Int32))] [(.int (0 : Int32)), (.int (0 : Int32)), (.int (1 : Int32))]))
      refine go (fun _ => XS.icmpNo X262.here hx rfl (hb hby at_232) rfl (teq (rfl : (0 : Int32) = (0 : Int32))).2) ?_
      show Go _ p e below s _ _ _ (T262.setTop (mkF m 235 #[.val (.int p1), .val (.int p2), .val (.int p3), .val (.ref b249), .val (.ref b251), .val (.ref b252), .val (.ref b254), .val (.ref b256), .val (.int (1 : Int32)), .val (.int (0 : Int32)), .val (.int (1 : Int32)), .val (.int (0 : Int32)), .val (.int (1 : Int32)), .val (.int (1 : Int32))] [(.int (1 : Int32))]))
      refine go (fun _ => XS.iconst X262.here hx rfl (hb hby at_235)) ?_
      show Go _ p e below s _ _ _ (T262.setTop (mkF m 236 #[.val (.int p1), .val (.int p2), .val (.int p3), .val (.ref b249), .val (.ref b251), .val (.ref b252), .val (.ref b254), .val (.ref b256), .val (.int (1 : Int32)), .val (.int (0 : Int32)), .val (.int (1 : Int32)), .val (.int (0 : Int32)), .val (.int (1 : Int32)), .val (.int (1 : Int32))] [(.int (1 : Int32)), (.int (1 : Int32))]))
      refine go (fun _ => XS.goto X262.here hx rfl (pc0 := 236) (pc' := 240) rfl (hb hby at_236) (by decide) (by decide)) ?_
      show Go _ p e below s _ _ _ (T262.setTop (mkF m 240 #[.val (.int p1), .val (.int p2), .val (.int p3), .val (.ref b249), .val (.ref b251), .val (.ref b252), .val (.ref b254), .val (.ref b256), .val (.int (1 : Int32)), .val (.int (0 : Int32)), .val (.int (1 : Int32)), .val (.int (0 : Int32)), .val (.int (1 : Int32)), .val (.int (1 : Int32))] [(.int (1 : Int32)), (.int (1 : Int32))]))
      refine go (fun _ => XS.icmpNo X262.here hx rfl (hb hby at_240) rfl (teq (rfl : (1 : Int32) = (1 : Int32))).2) ?_
      show Go _ p e below s _ _ _ (T262.setTop (mkF m 243 #[.val (.int p1), .val (.int p2), .val (.int p3), .val (.ref b249), .val (.ref b251), .val (.ref b252), .val (.ref b254), .val (.ref b256), .val (.int (1 : Int32)), .val (.int (0 : Int32)), .val (.int (1 : Int32)), .val (.int (0 : Int32)), .val (.int (1 : Int32)), .val (.int (1 : Int32))] []))
      refine go (fun _ => XS.iconst X262.here hx rfl (hb hby at_243)) ?_
      show Go _ p e below s _ _ _ (T262.setTop (mkF m 244 #[.val (.int p1), .val (.int p2), .val (.int p3), .val (.ref b249), .val (.ref b251), .val (.ref b252), .val (.ref b254), .val (.ref b256), .val (.int (1 : Int32)), .val (.int (0 : Int32)), .val (.int (1 : Int32)), .val (.int (0 : Int32)), .val (.int (1 : Int32)), .val (.int (1 : Int32))] [(.int (1 : Int32))]))
      refine go (fun _ => XS.goto X262.here hx rfl (pc0 := 244) (pc' := 248) rfl (hb hby at_244) (by decide) (by decide)) ?_
      show Go _ p e below s _ _ _ (T262.setTop (mkF m 248 #[.val (.int p1), .val (.int p2), .val (.int p3), .val (.ref b249), .val (.ref b251), .val (.ref b252), .val (.ref b254), .val (.ref b256), .val (.int (1 : Int32)), .val (.int (0 : Int32)), .val (.int (1 : Int32)), .val (.int (0 : Int32)), .val (.int (1 : Int32)), .val (.int (1 : Int32))] [(.int (1 : Int32))]))
      refine goRetW X262 hS255 (by rw [e262]; exact HK257) hx Bd.notSynchronized Bd.returns rfl (Or.inl ⟨rfl, Or.inr (Or.inl rfl), _, rfl⟩) (hb hby at_248) (by decide) (by decide) (by rw [e262]; refine ⟨rfl, N262⟩)
  · show Go _ p e below s _ _ _ (T258.setTop (mkF m 66 #[.val (.int p1), .val (.int p2), .val (.int p3), .val (.ref b249), .val (.ref b251), .val (.ref b252), .val (.ref b254), .val (.ref b256), .val (.int (1 : Int32)), .val (.int (1 : Int32)), .unset, .unset, .unset, .unset] []))
    refine go (fun _ => XS.iload X258.here hx rfl (hb hby at_66) rfl) ?_
    show Go _ p e below s _ _ _ (T258.setTop (mkF m 68 #[.val (.int p1), .val (.int p2), .val (.int p3), .val (.ref b249), .val (.ref b251), .val (.ref b252), .val (.ref b254), .val (.ref b256), .val (.int (1 : Int32)), .val (.int (1 : Int32)), .unset, .unset, .unset, .unset] [(.int (1 : Int32))]))
    refine go (fun _ => XS.iconst X258.here hx rfl (hb hby at_68)) ?_
    show Go _ p e below s _ _ _ (T258.setTop (mkF m 69 #[.val (.int p1), .val (.int p2), .val (.int p3), .val (.ref b249), .val (.ref b251), .val (.ref b252), .val (.ref b254), .val (.ref b256), .val (.int (1 : Int32)), .val (.int (1 : Int32)), .unset, .unset, .unset, .unset] [(.int (1 : Int32)), (.int (1 : Int32))]))
    refine go (fun _ => XS.icmpNo X258.here hx rfl (hb hby at_69) rfl (flt (by decide : ¬ ((1 : Int32) < (1 : Int32)))).1) ?_
    show Go _ p e below s _ _ _ (T258.setTop (mkF m 72 #[.val (.int p1), .val (.int p2), .val (.int p3), .val (.ref b249), .val (.ref b251), .val (.ref b252), .val (.ref b254), .val (.ref b256), .val (.int (1 : Int32)), .val (.int (1 : Int32)), .unset, .unset, .unset, .unset] []))
    refine go (fun _ => XS.aload X258.here hx rfl (hb hby at_72) rfl rfl) ?_
    show Go _ p e below s _ _ _ (T258.setTop (mkF m 74 #[.val (.int p1), .val (.int p2), .val (.int p3), .val (.ref b249), .val (.ref b251), .val (.ref b252), .val (.ref b254), .val (.ref b256), .val (.int (1 : Int32)), .val (.int (1 : Int32)), .unset, .unset, .unset, .unset] [(.ref b256)]))
    refine go (fun _ => XS.aload X258.here hx rfl (hb hby at_74) rfl rfl) ?_
    show Go _ p e below s _ _ _ (T258.setTop (mkF m 76 #[.val (.int p1), .val (.int p2), .val (.int p3), .val (.ref b249), .val (.ref b251), .val (.ref b252), .val (.ref b254), .val (.ref b256), .val (.int (1 : Int32)), .val (.int (1 : Int32)), .unset, .unset, .unset, .unset] [(.ref b252), (.ref b256)]))
    obtain ⟨cq263, kq263, q263a, q263b, q263c⟩ := isOf hZ e258 c257_8
    obtain ⟨_, _, ⟨T263, L263, k263, n263⟩, -, X263, ⟨Lc263, hQ263, l263, y263, z263⟩, st263⟩ := X258.virtualBack hx (y := (⟨"com/example/reticule/reticule/engine/ActivationRuns", "add", "(Lcom/example/reticule/reticule/engine/Activation;)V"⟩ : MethodName)) (z := (⟨"com/example/reticule/reticule/engine/ActivationRuns", "add", "(Lcom/example/reticule/reticule/engine/Activation;)V"⟩ : MethodName)) hown (mvT hZ (hw _ (List.mem_of_getElem? (i := 111) rfl))) (mvT hZ (hw _ (List.mem_of_getElem? (i := 112) rfl))) (notFace_of_selects (args := #[]) (mvT hZ (hw _ (List.mem_of_getElem? (i := 114) rfl)))) (mvT hZ (hw _ (List.mem_of_getElem? (i := 114) rfl))) (mvT hZ (hw _ (List.mem_of_getElem? (i := 113) rfl))) (by decide) (backOf (W := 0) (rmRA l Z a0 hw [] b256 b252 b257 (.int (0 : Int32)) d0 kd (T257.heap) n0 ZN257 P0 OL257 u257_7 u257_8 P2 c257_8 G_b256 c257_4 G_b252 u257_3 u257_1 c257_5 (Ne.symm (Nat.ne_of_lt lt256_b252_b256)) (Nat.ne_of_lt lt257_b256_b257) (Nat.ne_of_lt lt257_b252_b257) u257_4 u257_5 u257_6) hZ (hw _ (List.mem_of_getElem? (i := 115) rfl)) (hw _ (List.mem_of_getElem? (i := 72) rfl)) (by decide) (by decide)) q263a q263c (g := (mkF m 76 #[.val (.int p1), .val (.int p2), .val (.int p3), .val (.ref b249), .val (.ref b251), .val (.ref b252), .val (.ref b254), .val (.ref b256), .val (.int (1 : Int32)), .val (.int (1 : Int32)), .unset, .unset, .unset, .unset] [(.ref b252), (.ref b256)])) rfl (by rw [hml]; rfl) (Steps.refl _) (argsL := [(.ref b252)]) (rest := []) (lenOf pd_0_5 rfl) rfl (by show 2 * 0 + _ ≤ _; exact Nat.le_of_eq rfl) (hb hby at_76) (fun _ _ => ⟨rfl, e258, (by decide : 14 + 1 ≤ _), (by decide : 151 + 10 ≤ _)⟩)
    dsimp only [Pt.U, Pt.locs, Pt.cells, Pt.slots] at X263 l263 y263 z263 st263 hQ263
    subst l263 y263 z263
    obtain ⟨b263, k263, rfl, N263q, u263_0, u263_1, K263, u263_3, u263_4, u263_5, u263_6, u263_7, u263_8, u263_9, u263_10, u263_11⟩ := hQ263
    have N263 := Fr.app N258 N263q
    have lt263_b252_b263 : b252 < b263 := Nat.lt_of_lt_of_le c257_4.lt u263_0
    have lt263_b254_b263 : b254 < b263 := Nat.lt_of_lt_of_le c257_6.lt u263_0
    have lt263_b256_b263 : b256 < b263 := Nat.lt_of_lt_of_le c257_8.lt u263_0
    have lt263_b257_b263 : b257 < b263 := Nat.lt_of_lt_of_le u257_3.lt u263_0
    have G_b263 : n0 ≤ b263 := Nat.le_trans ZN257 u263_0
    have SZ_b263 : h0.size ≤ b263 := Nat.le_trans KK257.1 u263_0
    have c263_2 := c257_4.keep K263
    have c263_3 := c257_6.keep K263
    have c263_4 := c257_7.keep K263 (ninS (Nat.ne_of_lt lt256_b254_b256) (ninS (Ne.symm (Nat.ne_of_lt lt254_b252_b254)) (ninS (Nat.ne_of_lt lt257_b254_b257) nin0)))
    have c263_5 := c257_8.keep K263
    have c263_6 := u257_3.keep K263
    have KK263 : Keep h0 T263.heap [] := KK257.trans K263 (allS (P := fun x => x ∈ [] ∨ h0.size ≤ x) (Or.inr SZ_b256) (allS (P := fun x => x ∈ [] ∨ h0.size ≤ x) (Or.inr SZ_b252) (allS (P := fun x => x ∈ [] ∨ h0.size ≤ x) (Or.inr SZ_b257) all0)))
    have ZN263 : n0 ≤ T263.heap.size := Nat.le_trans ZN257 K263.1
    have HK263 : T255.heap.size ≤ T263.heap.size := Nat.le_trans HK257 K263.1
    have OL263 := OL257.keep K263 (allS G_b256 (allS G_b252 (allS u257_1 all0)))
    refine goT st263 ?_
    show Go _ p e below s _ _ _ (T263.setTop (mkF m 79 #[.val (.int p1), .val (.int p2), .val (.int p3), .val (.ref b249), .val (.ref b251), .val (.ref b252), .val (.ref b254), .val (.ref b256), .val (.int (1 : Int32)), .val (.int (1 : Int32)), .unset, .unset, .unset, .unset] []))
    refine go (fun _ => XS.iload X263.here hx rfl (hb hby at_79) rfl) ?_
    show Go _ p e below s _ _ _ (T263.setTop (mkF m 81 #[.val (.int p1), .val (.int p2), .val (.int p3), .val (.ref b249), .val (.ref b251), .val (.ref b252), .val (.ref b254), .val (.ref b256), .val (.int (1 : Int32)), .val (.int (1 : Int32)), .unset, .unset, .unset, .unset] [(.int (1 : Int32))]))
    refine go (fun _ => XS.iconst X263.here hx rfl (hb hby at_81)) ?_
    show Go _ p e below s _ _ _ (T263.setTop (mkF m 82 #[.val (.int p1), .val (.int p2), .val (.int p3), .val (.ref b249), .val (.ref b251), .val (.ref b252), .val (.ref b254), .val (.ref b256), .val (.int (1 : Int32)), .val (.int (1 : Int32)), .unset, .unset, .unset, .unset] [(.int (2 : Int32)), (.int (1 : Int32))]))
    refine go (fun _ => XS.icmpYes X263.here hx rfl (pc0 := 82) (pc' := 92) rfl (hb hby at_82) rfl (tlt (by decide : ((1 : Int32) < (2 : Int32)))).1 (by decide) (by decide)) ?_
    show Go _ p e below s _ _ _ (T263.setTop (mkF m 92 #[.val (.int p1), .val (.int p2), .val (.int p3), .val (.ref b249), .val (.ref b251), .val (.ref b252), .val (.ref b254), .val (.ref b256), .val (.int (1 : Int32)), .val (.int (1 : Int32)), .unset, .unset, .unset, .unset] []))
    refine go (fun _ => XS.aload X263.here hx rfl (hb hby at_92) rfl rfl) ?_
    show Go _ p e below s _ _ _ (T263.setTop (mkF m 94 #[.val (.int p1), .val (.int p2), .val (.int p3), .val (.ref b249), .val (.ref b251), .val (.ref b252), .val (.ref b254), .val (.ref b256), .val (.int (1 : Int32)), .val (.int (1 : Int32)), .unset, .unset, .unset, .unset] [(.ref b256)]))
    obtain ⟨cq264, kq264, q264a, q264b, q264c⟩ := isOf hZ rfl c263_5
    obtain ⟨_, _, ⟨T264, L264, k264, n264⟩, -, X264, ⟨Lc264, hQ264, l264, y264, z264⟩, st264⟩ := X263.virtualBack hx (y := (⟨"com/example/reticule/reticule/engine/ActivationRuns", "isEmpty", "()Z"⟩ : MethodName)) (z := (⟨"com/example/reticule/reticule/engine/ActivationRuns", "isEmpty", "()Z"⟩ : MethodName)) hown (mvT hZ (hw _ (List.mem_of_getElem? (i := 103) rfl))) (mvT hZ (hw _ (List.mem_of_getElem? (i := 104) rfl))) (notFace_of_selects (args := #[]) (mvT hZ (hw _ (List.mem_of_getElem? (i := 106) rfl)))) (mvT hZ (hw _ (List.mem_of_getElem? (i := 106) rfl))) (mvT hZ (hw _ (List.mem_of_getElem? (i := 105) rfl))) (by decide) (backOf (W := 0) (rmE1 l Z a0 hw [] b256 (T263.heap) n0 ZN263 u263_4) hZ (hw _ (List.mem_of_getElem? (i := 107) rfl)) (hw _ (List.mem_of_getElem? (i := 72) rfl)) (by decide) (by decide)) q264a q264c (g := (mkF m 94 #[.val (.int p1), .val (.int p2), .val (.int p3), .val (.ref b249), .val (.ref b251), .val (.ref b252), .val (.ref b254), .val (.ref b256), .val (.int (1 : Int32)), .val (.int (1 : Int32)), .unset, .unset, .unset, .unset] [(.ref b256)])) rfl (by rw [hml]; rfl) (Steps.refl _) (argsL := []) (rest := []) (lenOf pd_0_4 rfl) rfl (by show 2 * 0 + _ ≤ _; exact Nat.le_of_eq rfl) (hb hby at_94) (fun _ _ => ⟨rfl, rfl, (by decide : 15 + 0 ≤ _), (by decide : 161 + 0 ≤ _)⟩)
    dsimp only [Pt.U, Pt.locs, Pt.cells, Pt.slots] at X264 l264 y264 z264 st264 hQ264
    subst l264 y264 z264
    obtain ⟨rfl, N264q, e264⟩ := hQ264
    have N264 := Fr.app N263 N264q
    refine goT st264 ?_
    show Go _ p e below s _ _ _ (T264.setTop (mkF m 97 #[.val (.int p1), .val (.int p2), .val (.int p3), .val (.ref b249), .val (.ref b251), .val (.ref b252), .val (.ref b254), .val (.ref b256), .val (.int (1 : Int32)), .val (.int (1 : Int32)), .unset, .unset, .unset, .unset] [(.int (0 : Int32))]))
    refine go (fun _ => XS.istore X264.here hx rfl (hb hby at_97) rfl (l' := #[.val (.int p1), .val (.int p2), .val (.int p3), .val (.ref b249), .val (.ref b251), .val (.ref b252), .val (.ref b254), .val (.ref b256), .val (.int (1 : Int32)), .val (.int (1 : Int32)), .val (.int (0 : Int32)), .unset, .unset, .unset]) rfl) ?_
    show Go _ p e below s _ _ _ (T264.setTop (mkF m 99 #[.val (.int p1), .val (.int p2), .val (.int p3), .val (.ref b249), .val (.ref b251), .val (.ref b252), .val (.ref b254), .val (.ref b256), .val (.int (1 : Int32)), .val (.int (1 : Int32)), .val (.int (0 : Int32)), .unset, .unset, .unset] []))
    refine go (fun _ => XS.iloadN X264.here hx rfl (hb hby at_99) rfl) ?_
    show Go _ p e below s _ _ _ (T264.setTop (mkF m 100 #[.val (.int p1), .val (.int p2), .val (.int p3), .val (.ref b249), .val (.ref b251), .val (.ref b252), .val (.ref b254), .val (.ref b256), .val (.int (1 : Int32)), .val (.int (1 : Int32)), .val (.int (0 : Int32)), .unset, .unset, .unset] [(.int p2)]))
    refine go (X264.ldcInt hx hown (mvT hZ (hw _ (List.mem_of_getElem? (i := 110) rfl))) (g := (mkF m 100 #[.val (.int p1), .val (.int p2), .val (.int p3), .val (.ref b249), .val (.ref b251), .val (.ref b252), .val (.ref b254), .val (.ref b256), .val (.int (1 : Int32)), .val (.int (1 : Int32)), .val (.int (0 : Int32)), .unset, .unset, .unset] [(.int p2)])) rfl (hb hby at_100)) ?_
    show Go _ p e below s _ _ _ (T264.setTop (mkF m 102 #[.val (.int p1), .val (.int p2), .val (.int p3), .val (.ref b249), .val (.ref b251), .val (.ref b252), .val (.ref b254), .val (.ref b256), .val (.int (1 : Int32)), .val (.int (1 : Int32)), .val (.int (0 : Int32)), .unset, .unset, .unset] [(.int (2147483647 : Int32)), (.int p2)]))
    refine go (fun _ => XS.iand X264.here hx rfl (hb hby at_102) rfl) ?_
    show Go _ p e below s _ _ _ (T264.setTop (mkF m 103 #[.val (.int p1), .val (.int p2), .val (.int p3), .val (.ref b249), .val (.ref b251), .val (.ref b252), .val (.ref b254), .val (.ref b256), .val (.int (1 : Int32)), .val (.int (1 : Int32)), .val (.int (0 : Int32)), .unset, .unset, .unset] [(.int (p2 &&& (2147483647 : Int32)))]))
    refine go (fun _ => XS.iload X264.here hx rfl (hb hby at_103) rfl) ?_
    show Go _ p e below s _ _ _ (T264.setTop (mkF m 105 #[.val (.int p1), .val (.int p2), .val (.int p3), .val (.ref b249), .val (.ref b251), .val (.ref b252), .val (.ref b254), .val (.ref b256), .val (.int (1 : Int32)), .val (.int (1 : Int32)), .val (.int (0 : Int32)), .unset, .unset, .unset] [(.int (1 : Int32)), (.int (p2 &&& (2147483647 : Int32)))]))
    refine go (fun _ => XS.iconst X264.here hx rfl (hb hby at_105)) ?_
    show Go _ p e below s _ _ _ (T264.setTop (mkF m 106 #[.val (.int p1), .val (.int p2), .val (.int p3), .val (.ref b249), .val (.ref b251), .val (.ref b252), .val (.ref b254), .val (.ref b256), .val (.int (1 : Int32)), .val (.int (1 : Int32)), .val (.int (0 : Int32)), .unset, .unset, .unset] [(.int (1 : Int32)), (.int (1 : Int32)), (.int (p2 &&& (2147483647 : Int32)))]))
    refine go (fun _ => XS.iadd X264.here hx rfl (hb hby at_106) rfl) ?_
    show Go _ p e below s _ _ _ (T264.setTop (mkF m 107 #[.val (.int p1), .val (.int p2), .val (.int p3), .val (.ref b249), .val (.ref b251), .val (.ref b252), .val (.ref b254), .val (.ref b256), .val (.int (1 : Int32)), .val (.int (1 : Int32)), .val (.int (0 : Int32)), .unset, .unset, .unset] [(.int (2 : Int32)), (.int (p2 &&& (2147483647 : Int32)))]))
    refine go (fun _ => iremM X264 hx rfl (hb hby at_107) rfl (by decide)) ?_
    show Go _ p e below s _ _ _ (T264.setTop (mkF m 108 #[.val (.int p1), .val (.int p2), .val (.int p3), .val (.ref b249), .val (.ref b251), .val (.ref b252), .val (.ref b254), .val (.ref b256), .val (.int (1 : Int32)), .val (.int (1 : Int32)), .val (.int (0 : Int32)), .unset, .unset, .unset] [(.int ((p2 &&& (2147483647 : Int32)) % (2 : Int32)))]))
    refine go (fun _ => XS.istore X264.here hx rfl (hb hby at_108) rfl (l' := #[.val (.int p1), .val (.int p2), .val (.int p3), .val (.ref b249), .val (.ref b251), .val (.ref b252), .val (.ref b254), .val (.ref b256), .val (.int (1 : Int32)), .val (.int (1 : Int32)), .val (.int (0 : Int32)), .val (.int ((p2 &&& (2147483647 : Int32)) % (2 : Int32))), .unset, .unset]) rfl) ?_
    show Go _ p e below s _ _ _ (T264.setTop (mkF m 110 #[.val (.int p1), .val (.int p2), .val (.int p3), .val (.ref b249), .val (.ref b251), .val (.ref b252), .val (.ref b254), .val (.ref b256), .val (.int (1 : Int32)), .val (.int (1 : Int32)), .val (.int (0 : Int32)), .val (.int ((p2 &&& (2147483647 : Int32)) % (2 : Int32))), .unset, .unset] []))
    have hm := own_mod2 p2
    generalize ((p2 &&& (2147483647 : Int32)) % (2 : Int32)) = mm at hm ⊢
    rcases hm with rfl | rfl
    · show Go _ p e below s _ _ _ (T264.setTop (mkF m 110 #[.val (.int p1), .val (.int p2), .val (.int p3), .val (.ref b249), .val (.ref b251), .val (.ref b252), .val (.ref b254), .val (.ref b256), .val (.int (1 : Int32)), .val (.int (1 : Int32)), .val (.int (0 : Int32)), .val (.int (0 : Int32)), .unset, .unset] []))
      refine go (fun _ => XS.iloadN X264.here hx rfl (hb hby at_110) rfl) ?_
      show Go _ p e below s _ _ _ (T264.setTop (mkF m 111 #[.val (.int p1), .val (.int p2), .val (.int p3), .val (.ref b249), .val (.ref b251), .val (.ref b252), .val (.ref b254), .val (.ref b256), .val (.int (1 : Int32)), .val (.int (1 : Int32)), .val (.int (0 : Int32)), .val (.int (0 : Int32)), .unset, .unset] [(.int p3)]))
      refine go (fun _ => XS.iconst X264.here hx rfl (hb hby at_111)) ?_
      show Go _ p e below s _ _ _ (T264.setTop (mkF m 112 #[.val (.int p1), .val (.int p2), .val (.int p3), .val (.ref b249), .val (.ref b251), .val (.ref b252), .val (.ref b254), .val (.ref b256), .val (.int (1 : Int32)), .val (.int (1 : Int32)), .val (.int (0 : Int32)), .val (.int (0 : Int32)), .unset, .unset] [(.int (1 : Int32)), (.int p3)]))
      refine go (fun _ => XS.iand X264.here hx rfl (hb hby at_112) rfl) ?_
      show Go _ p e below s _ _ _ (T264.setTop (mkF m 113 #[.val (.int p1), .val (.int p2), .val (.int p3), .val (.ref b249), .val (.ref b251), .val (.ref b252), .val (.ref b254), .val (.ref b256), .val (.int (1 : Int32)), .val (.int (1 : Int32)), .val (.int (0 : Int32)), .val (.int (0 : Int32)), .unset, .unset] [(.int (p3 &&& (1 : Int32)))]))
      by_cases hc113_265 : (p3 &&& (1 : Int32)) = (0 : Int32)
      · refine go (fun _ => XS.ifYes X264.here hx rfl (pc0 := 113) (pc' := 120) rfl (hb hby at_113) rfl ((if0 _ _).trans (teq hc113_265).1) (by decide) (by decide)) ?_
        show Go _ p e below s _ _ _ (T264.setTop (mkF m 120 #[.val (.int p1), .val (.int p2), .val (.int p3), .val (.ref b249), .val (.ref b251), .val (.ref b252), .val (.ref b254), .val (.ref b256), .val (.int (1 : Int32)), .val (.int (1 : Int32)), .val (.int (0 : Int32)), .val (.int (0 : Int32)), .unset, .unset] []))
        refine go (fun _ => XS.iconst X264.here hx rfl (hb hby at_120)) ?_
        show Go _ p e below s _ _ _ (T264.setTop (mkF m 121 #[.val (.int p1), .val (.int p2), .val (.int p3), .val (.ref b249), .val (.ref b251), .val (.ref b252), .val (.ref b254), .val (.ref b256), .val (.int (1 : Int32)), .val (.int (1 : Int32)), .val (.int (0 : Int32)), .val (.int (0 : Int32)), .unset, .unset] [(.int (0 : Int32))]))
        refine go (fun _ => XS.istore X264.here hx rfl (hb hby at_121) rfl (l' := #[.val (.int p1), .val (.int p2), .val (.int p3), .val (.ref b249), .val (.ref b251), .val (.ref b252), .val (.ref b254), .val (.ref b256), .val (.int (1 : Int32)), .val (.int (1 : Int32)), .val (.int (0 : Int32)), .val (.int (0 : Int32)), .val (.int (0 : Int32)), .unset]) rfl) ?_
        show Go _ p e below s _ _ _ (T264.setTop (mkF m 123 #[.val (.int p1), .val (.int p2), .val (.int p3), .val (.ref b249), .val (.ref b251), .val (.ref b252), .val (.ref b254), .val (.ref b256), .val (.int (1 : Int32)), .val (.int (1 : Int32)), .val (.int (0 : Int32)), .val (.int (0 : Int32)), .val (.int (0 : Int32)), .unset] []))
        refine go (fun _ => XS.iload X264.here hx rfl (hb hby at_123) rfl) ?_
        show Go _ p e below s _ _ _ (T264.setTop (mkF m 125 #[.val (.int p1), .val (.int p2), .val (.int p3), .val (.ref b249), .val (.ref b251), .val (.ref b252), .val (.ref b254), .val (.ref b256), .val (.int (1 : Int32)), .val (.int (1 : Int32)), .val (.int (0 : Int32)), .val (.int (0 : Int32)), .val (.int (0 : Int32)), .unset] [(.int (0 : Int32))]))
        refine go (fun _ => XS.iconst X264.here hx rfl (hb hby at_125)) ?_
        show Go _ p e below s _ _ _ (T264.setTop (mkF m 126 #[.val (.int p1), .val (.int p2), .val (.int p3), .val (.ref b249), .val (.ref b251), .val (.ref b252), .val (.ref b254), .val (.ref b256), .val (.int (1 : Int32)), .val (.int (1 : Int32)), .val (.int (0 : Int32)), .val (.int (0 : Int32)), .val (.int (0 : Int32)), .unset] [(.int (1 : Int32)), (.int (0 : Int32))]))
        refine go (fun _ => XS.icmpYes X264.here hx rfl (pc0 := 126) (pc' := 157) rfl (hb hby at_126) rfl (feq (by decide : ¬ ((0 : Int32) = (1 : Int32)))).2 (by decide) (by decide)) ?_
        show Go _ p e below s _ _ _ (T264.setTop (mkF m 157 #[.val (.int p1), .val (.int p2), .val (.int p3), .val (.ref b249), .val (.ref b251), .val (.ref b252), .val (.ref b254), .val (.ref b256), .val (.int (1 : Int32)), .val (.int (1 : Int32)), .val (.int (0 : Int32)), .val (.int (0 : Int32)), .val (.int (0 : Int32)), .unset] []))
        refine go (fun _ => XS.iload X264.here hx rfl (hb hby at_157) rfl) ?_
        show Go _ p e below s _ _ _ (T264.setTop (mkF m 159 #[.val (.int p1), .val (.int p2), .val (.int p3), .val (.ref b249), .val (.ref b251), .val (.ref b252), .val (.ref b254), .val (.ref b256), .val (.int (1 : Int32)), .val (.int (1 : Int32)), .val (.int (0 : Int32)), .val (.int (0 : Int32)), .val (.int (0 : Int32)), .unset] [(.int (0 : Int32))]))
        refine go (fun _ => XS.iconst X264.here hx rfl (hb hby at_159)) ?_
        show Go _ p e below s _ _ _ (T264.setTop (mkF m 160 #[.val (.int p1), .val (.int p2), .val (.int p3), .val (.ref b249), .val (.ref b251), .val (.ref b252), .val (.ref b254), .val (.ref b256), .val (.int (1 : Int32)), .val (.int (1 : Int32)), .val (.int (0 : Int32)), .val (.int (0 : Int32)), .val (.int (0 : Int32)), .unset] [(.int (2 : Int32)), (.int (0 : Int32))]))
        refine go (fun _ => XS.icmpYes X264.here hx rfl (pc0 := 160) (pc' := 199) rfl (hb hby at_160) rfl (feq (by decide : ¬ ((0 : Int32) = (2 : Int32)))).2 (by decide) (by decide)) ?_
        show Go _ p e below s _ _ _ (T264.setTop (mkF m 199 #[.val (.int p1), .val (.int p2), .val (.int p3), .val (.ref b249), .val (.ref b251), .val (.ref b252), .val (.ref b254), .val (.ref b256), .val (.int (1 : Int32)), .val (.int (1 : Int32)), .val (.int (0 : Int32)), .val (.int (0 : Int32)), .val (.int (0 : Int32)), .unset] []))
        refine go (fun _ => XS.aload X264.here hx rfl (hb hby at_199) rfl rfl) ?_
        show Go _ p e below s _ _ _ (T264.setTop (mkF m 201 #[.val (.int p1), .val (.int p2), .val (.int p3), .val (.ref b249), .val (.ref b251), .val (.ref b252), .val (.ref b254), .val (.ref b256), .val (.int (1 : Int32)), .val (.int (1 : Int32)), .val (.int (0 : Int32)), .val (.int (0 : Int32)), .val (.int (0 : Int32)), .unset] [(.ref b256)]))
        obtain ⟨cq266, kq266, q266a, q266b, q266c⟩ := isOf hZ e264 c263_5
        obtain ⟨_, _, ⟨T266, L266, k266, n266⟩, -, X266, ⟨Lc266, hQ266, l266, y266, z266⟩, st266⟩ := X264.virtualBack hx (y := (⟨"com/example/reticule/reticule/engine/ActivationRuns", "isEmpty", "()Z"⟩ : MethodName)) (z := (⟨"com/example/reticule/reticule/engine/ActivationRuns", "isEmpty", "()Z"⟩ : MethodName)) hown (mvT hZ (hw _ (List.mem_of_getElem? (i := 103) rfl))) (mvT hZ (hw _ (List.mem_of_getElem? (i := 104) rfl))) (notFace_of_selects (args := #[]) (mvT hZ (hw _ (List.mem_of_getElem? (i := 106) rfl)))) (mvT hZ (hw _ (List.mem_of_getElem? (i := 106) rfl))) (mvT hZ (hw _ (List.mem_of_getElem? (i := 105) rfl))) (by decide) (backOf (W := 0) (rmE1 l Z a0 hw [] b256 (T263.heap) n0 ZN263 u263_4) hZ (hw _ (List.mem_of_getElem? (i := 107) rfl)) (hw _ (List.mem_of_getElem? (i := 72) rfl)) (by decide) (by decide)) q266a q266c (g := (mkF m 201 #[.val (.int p1), .val (.int p2), .val (.int p3), .val (.ref b249), .val (.ref b251), .val (.ref b252), .val (.ref b254), .val (.ref b256), .val (.int (1 : Int32)), .val (.int (1 : Int32)), .val (.int (0 : Int32)), .val (.int (0 : Int32)), .val (.int (0 : Int32)), .unset] [(.ref b256)])) rfl (by rw [hml]; rfl) (Steps.refl _) (argsL := []) (rest := []) (lenOf pd_0_4 rfl) rfl (by show 2 * 0 + _ ≤ _; exact Nat.le_of_eq rfl) (hb hby at_201) (fun _ _ => ⟨rfl, e264, (by decide : 15 + 0 ≤ _), (by decide : 161 + 0 ≤ _)⟩)
        dsimp only [Pt.U, Pt.locs, Pt.cells, Pt.slots] at X266 l266 y266 z266 st266 hQ266
        subst l266 y266 z266
        obtain ⟨rfl, N266q, e266⟩ := hQ266
        have N266 := Fr.app N264 N266q
        refine goT st266 ?_
        show Go _ p e below s _ _ _ (T266.setTop (mkF m 204 #[.val (.int p1), .val (.int p2), .val (.int p3), .val (.ref b249), .val (.ref b251), .val (.ref b252), .val (.ref b254), .val (.ref b256), .val (.int (1 : Int32)), .val (.int (1 : Int32)), .val (.int (0 : Int32)), .val (.int (0 : Int32)), .val (.int (0 : Int32)), .unset] [(.int (0 : Int32))]))
        refine go (fun _ => XS.istore X266.here hx rfl (hb hby at_204) rfl (l' := #[.val (.int p1), .val (.int p2), .val (.int p3), .val (.ref b249), .val (.ref b251), .val (.ref b252), .val (.ref b254), .val (.ref b256), .val (.int (1 : Int32)), .val (.int (1 : Int32)), .val (.int (0 : Int32)), .val (.int (0 : Int32)), .val (.int (0 : Int32)), .val (.int (0 : Int32))]) rfl) ?_
        show Go _ p e below s _ _ _ (T266.setTop (mkF m 206 #[.val (.int p1), .val (.int p2), .val (.int p3), .val (.ref b249), .val (.ref b251), .val (.ref b252), .val (.ref b254), .val (.ref b256), .val (.int (1 : Int32)), .val (.int (1 : Int32)), .val (.int (0 : Int32)), .val (.int (0 : Int32)), .val (.int (0 : Int32)), .val (.int (0 : Int32))] []))
        refine go (fun _ => XS.iload X266.here hx rfl (hb hby at_206) rfl) ?_
        show Go _ p e below s _ _ _ (T266.setTop (mkF m 208 #[.val (.int p1), .val (.int p2), .val (.int p3), .val (.ref b249), .val (.ref b251), .val (.ref b252), .val (.ref b254), .val (.ref b256), .val (.int (1 : Int32)), .val (.int (1 : Int32)), .val (.int (0 : Int32)), .val (.int (0 : Int32)), .val (.int (0 : Int32)), .val (.int (0 : Int32))] [(.int (1 : Int32))]))
        refine go (fun _ => XS.ifNo X266.here hx rfl (hb hby at_208) rfl ((if0 _ _).trans (feq (by decide : ¬ ((1 : Int32) = (0 : Int32)))).1)) ?_
        show Go _ p e below s _ _ _ (T266.setTop (mkF m 211 #[.val (.int p1), .val (.int p2), .val (.int p3), .val (.ref b249), .val (.ref b251), .val (.ref b252), .val (.ref b254), .val (.ref b256), .val (.int (1 : Int32)), .val (.int (1 : Int32)), .val (.int (0 : Int32)), .val (.int (0 : Int32)), .val (.int (0 : Int32)), .val (.int (0 : Int32))] []))
        refine go (fun _ => XS.iload X266.here hx rfl (hb hby at_211) rfl) ?_
        show Go _ p e below s _ _ _ (T266.setTop (mkF m 213 #[.val (.int p1), .val (.int p2), .val (.int p3), .val (.ref b249), .val (.ref b251), .val (.ref b252), .val (.ref b254), .val (.ref b256), .val (.int (1 : Int32)), .val (.int (1 : Int32)), .val (.int (0 : Int32)), .val (.int (0 : Int32)), .val (.int (0 : Int32)), .val (.int (0 : Int32))] [(.int (0 : Int32))]))
        refine go (fun _ => XS.iload X266.here hx rfl (hb hby at_213) rfl) ?_
        show Go _ p e below s _ _ _ (T266.setTop (mkF m 215 #[.val (.int p1), .val (.int p2), .val (.int p3), .val (.ref b249), .val (.ref b251), .val (.ref b252), .val (.ref b254), .val (.ref b256), .val (.int (1 : Int32)), .val (.int (1 : Int32)), .val (.int (0 : Int32)), .val (.int (0 : Int32)), .val (.int (0 : Int32)), .val (.int (0 : Int32))] [(.int (1 : Int32)), (.int (0 : Int32))]))
        refine go (fun _ => XS.ifYes X266.here hx rfl (pc0 := 215) (pc' := 222) rfl (hb hby at_215) rfl ((if0 _ _).trans (feq (by decide : ¬ ((1 : Int32) = (0 : Int32)))).2) (by decide) (by decide)) ?_
        show Go _ p e below s _ _ _ (T266.setTop (mkF m 222 #[.val (.int p1), .val (.int p2), .val (.int p3), .val (.ref b249), .val (.ref b251), .val (.ref b252), .val (.ref b254), .val (.ref b256), .val (.int (1 : Int32)), .val (.int (1 : Int32)), .val (.int (0 : Int32)), .val (.int (0 : Int32)), .val (.int (0 : Int32)), .val (.int (0 : Int32))] [(.int (0 : Int32))]))
        refine go (fun _ => XS.iconst X266.here hx rfl (hb hby at_222)) ?_
        show Go _ p e below s _ _ _ (T266.setTop (mkF m 223 #[.val (.int p1), .val (.int p2), .val (.int p3), .val (.ref b249), .val (.ref b251), .val (.ref b252), .val (.ref b254), .val (.ref b256), .val (.int (1 : Int32)), .val (.int (1 : Int32)), .val (.int (0 : Int32)), .val (.int (0 : Int32)), .val (.int (0 : Int32)), .val (.int (0 : Int32))] [(.int (0 : Int32)), (.int (0 : Int32))]))
        refine go (fun _ => XS.icmpNo X266.here hx rfl (hb hby at_223) rfl (teq (rfl : (0 : Int32) = (0 : Int32))).2) ?_
        show Go _ p e below s _ _ _ (T266.setTop (mkF m 226 #[.val (.int p1), .val (.int p2), .val (.int p3), .val (.ref b249), .val (.ref b251), .val (.ref b252), .val (.ref b254), .val (.ref b256), .val (.int (1 : Int32)), .val (.int (1 : Int32)), .val (.int (0 : Int32)), .val (.int (0 : Int32)), .val (.int (0 : Int32)), .val (.int (0 : Int32))] []))
        refine go (fun _ => XS.iload X266.here hx rfl (hb hby at_226) rfl) ?_
        show Go _ p e below s _ _ _ (T266.setTop (mkF m 228 #[.val (.int p1), .val (.int p2), .val (.int p3), .val (.ref b249), .val (.ref b251), .val (.ref b252), .val (.ref b254), .val (.ref b256), .val (.int (1 : Int32)), .val (.int (1 : Int32)), .val (.int (0 : Int32)), .val (.int (0 : Int32)), .val (.int (0 : Int32)), .val (.int (0 : Int32))] [(.int (0 : Int32))]))
        refine go (fun _ => XS.iload X266.here hx rfl (hb hby at_228) rfl) ?_
        show Go _ p e below s _ _ _ (T266.setTop (mkF m 230 #[.val (.int p1), .val (.int p2), .val (.int p3), .val (.ref b249), .val (.ref b251), .val (.ref b252), .val (.ref b254), .val (.ref b256), .val (.int (1 : Int32)), .val (.int (1 : Int32)), .val (.int (0 : Int32)), .val (.int (0 : Int32)), .val (.int (0 : Int32)), .val (.int (0 : Int32))] [(.int (0 : Int32)), (.int (0 : Int32))]))
        refine go (fun _ => XS.iload X266.here hx rfl (hb hby at_230) rfl) ?_
        show Go _ p e below s _ _ _ (T266.setTop (mkF m 232 #[.val (.int p1), .val (.int p2), .val (.int p3), .val (.ref b249), .val (.ref b251), .val (.ref b252), .val (.ref b254), .val (.ref b256), .val (.int (1 : Int32)), .val (.int (1 : Int32)), .val (.int (0 : Int32)), .val (.int (0 : Int32)), .val (.int (0 : Int32)), .val (.int (0 : Int32))] [(.int (1 : Int32)), (.int (0 : Int32)), (.int (0 : Int32))]))
        refine go (fun _ => XS.icmpYes X266.here hx rfl (pc0 := 232) (pc' := 239) rfl (hb hby at_232) rfl (feq (by decide : ¬ ((0 : Int32) = (1 : Int32)))).2 (by decide) (by decide)) ?_
        show Go _ p e below s _ _ _ (T266.setTop (mkF m 239 #[.val (.int p1), .val (.int p2), .val (.int p3), .val (.ref b249), .val (.ref b251), .val (.ref b252), .val (.ref b254), .val (.ref b256), .val (.int (1 : Int32)), .val (.int (1 : Int32)), .val (.int (0 : Int32)), .val (.int (0 : Int32)), .val (.int (0 : Int32)), .val (.int (0 : Int32))] [(.int (0 : Int32))]))
        refine go (fun _ => XS.iconst X266.here hx rfl (hb hby at_239)) ?_
        show Go _ p e below s _ _ _ (T266.setTop (mkF m 240 #[.val (.int p1), .val (.int p2), .val (.int p3), .val (.ref b249), .val (.ref b251), .val (.ref b252), .val (.ref b254), .val (.ref b256), .val (.int (1 : Int32)), .val (.int (1 : Int32)), .val (.int (0 : Int32)), .val (.int (0 : Int32)), .val (.int (0 : Int32)), .val (.int (0 : Int32))] [(.int (0 : Int32)), (.int (0 : Int32))]))
        refine go (fun _ => XS.icmpNo X266.here hx rfl (hb hby at_240) rfl (teq (rfl : (0 : Int32) = (0 : Int32))).2) ?_
        show Go _ p e below s _ _ _ (T266.setTop (mkF m 243 #[.val (.int p1), .val (.int p2), .val (.int p3), .val (.ref b249), .val (.ref b251), .val (.ref b252), .val (.ref b254), .val (.ref b256), .val (.int (1 : Int32)), .val (.int (1 : Int32)), .val (.int (0 : Int32)), .val (.int (0 : Int32)), .val (.int (0 : Int32)), .val (.int (0 : Int32))] []))
        refine go (fun _ => XS.iconst X266.here hx rfl (hb hby at_243)) ?_
        show Go _ p e below s _ _ _ (T266.setTop (mkF m 244 #[.val (.int p1), .val (.int p2), .val (.int p3), .val (.ref b249), .val (.ref b251), .val (.ref b252), .val (.ref b254), .val (.ref b256), .val (.int (1 : Int32)), .val (.int (1 : Int32)), .val (.int (0 : Int32)), .val (.int (0 : Int32)), .val (.int (0 : Int32)), .val (.int (0 : Int32))] [(.int (1 : Int32))]))
        refine go (fun _ => XS.goto X266.here hx rfl (pc0 := 244) (pc' := 248) rfl (hb hby at_244) (by decide) (by decide)) ?_
        show Go _ p e below s _ _ _ (T266.setTop (mkF m 248 #[.val (.int p1), .val (.int p2), .val (.int p3), .val (.ref b249), .val (.ref b251), .val (.ref b252), .val (.ref b254), .val (.ref b256), .val (.int (1 : Int32)), .val (.int (1 : Int32)), .val (.int (0 : Int32)), .val (.int (0 : Int32)), .val (.int (0 : Int32)), .val (.int (0 : Int32))] [(.int (1 : Int32))]))
        refine goRetW X266 hS255 (by rw [e266]; exact HK263) hx Bd.notSynchronized Bd.returns rfl (Or.inl ⟨rfl, Or.inr (Or.inl rfl), _, rfl⟩) (hb hby at_248) (by decide) (by decide) (by rw [e266]; refine ⟨rfl, N266⟩)
      · refine go (fun _ => XS.ifNo X264.here hx rfl (hb hby at_113) rfl ((if0 _ _).trans (feq hc113_265).1)) ?_
        show Go _ p e below s _ _ _ (T264.setTop (mkF m 116 #[.val (.int p1), .val (.int p2), .val (.int p3), .val (.ref b249), .val (.ref b251), .val (.ref b252), .val (.ref b254), .val (.ref b256), .val (.int (1 : Int32)), .val (.int (1 : Int32)), .val (.int (0 : Int32)), .val (.int (0 : Int32)), .unset, .unset] []))
        refine go (fun _ => XS.iconst X264.here hx rfl (hb hby at_116)) ?_
        show Go _ p e below s _ _ _ (T264.setTop (mkF m 117 #[.val (.int p1), .val (.int p2), .val (.int p3), .val (.ref b249), .val (.ref b251), .val (.ref b252), .val (.ref b254), .val (.ref b256), .val (.int (1 : Int32)), .val (.int (1 : Int32)), .val (.int (0 : Int32)), .val (.int (0 : Int32)), .unset, .unset] [(.int (1 : Int32))]))
        refine go (fun _ => XS.goto X264.here hx rfl (pc0 := 117) (pc' := 121) rfl (hb hby at_117) (by decide) (by decide)) ?_
        show Go _ p e below s _ _ _ (T264.setTop (mkF m 121 #[.val (.int p1), .val (.int p2), .val (.int p3), .val (.ref b249), .val (.ref b251), .val (.ref b252), .val (.ref b254), .val (.ref b256), .val (.int (1 : Int32)), .val (.int (1 : Int32)), .val (.int (0 : Int32)), .val (.int (0 : Int32)), .unset, .unset] [(.int (1 : Int32))]))
        refine go (fun _ => XS.istore X264.here hx rfl (hb hby at_121) rfl (l' := #[.val (.int p1), .val (.int p2), .val (.int p3), .val (.ref b249), .val (.ref b251), .val (.ref b252), .val (.ref b254), .val (.ref b256), .val (.int (1 : Int32)), .val (.int (1 : Int32)), .val (.int (0 : Int32)), .val (.int (0 : Int32)), .val (.int (1 : Int32)), .unset]) rfl) ?_
        show Go _ p e below s _ _ _ (T264.setTop (mkF m 123 #[.val (.int p1), .val (.int p2), .val (.int p3), .val (.ref b249), .val (.ref b251), .val (.ref b252), .val (.ref b254), .val (.ref b256), .val (.int (1 : Int32)), .val (.int (1 : Int32)), .val (.int (0 : Int32)), .val (.int (0 : Int32)), .val (.int (1 : Int32)), .unset] []))
        refine go (fun _ => XS.iload X264.here hx rfl (hb hby at_123) rfl) ?_
        show Go _ p e below s _ _ _ (T264.setTop (mkF m 125 #[.val (.int p1), .val (.int p2), .val (.int p3), .val (.ref b249), .val (.ref b251), .val (.ref b252), .val (.ref b254), .val (.ref b256), .val (.int (1 : Int32)), .val (.int (1 : Int32)), .val (.int (0 : Int32)), .val (.int (0 : Int32)), .val (.int (1 : Int32)), .unset] [(.int (0 : Int32))]))
        refine go (fun _ => XS.iconst X264.here hx rfl (hb hby at_125)) ?_
        show Go _ p e below s _ _ _ (T264.setTop (mkF m 126 #[.val (.int p1), .val (.int p2), .val (.int p3), .val (.ref b249), .val (.ref b251), .val (.ref b252), .val (.ref b254), .val (.ref b256), .val (.int (1 : Int32)), .val (.int (1 : Int32)), .val (.int (0 : Int32)), .val (.int (0 : Int32)), .val (.int (1 : Int32)), .unset] [(.int (1 : Int32)), (.int (0 : Int32))]))
        refine go (fun _ => XS.icmpYes X264.here hx rfl (pc0 := 126) (pc' := 157) rfl (hb hby at_126) rfl (feq (by decide : ¬ ((0 : Int32) = (1 : Int32)))).2 (by decide) (by decide)) ?_
        show Go _ p e below s _ _ _ (T264.setTop (mkF m 157 #[.val (.int p1), .val (.int p2), .val (.int p3), .val (.ref b249), .val (.ref b251), .val (.ref b252), .val (.ref b254), .val (.ref b256), .val (.int (1 : Int32)), .val (.int (1 : Int32)), .val (.int (0 : Int32)), .val (.int (0 : Int32)), .val (.int (1 : Int32)), .unset] []))
        refine go (fun _ => XS.iload X264.here hx rfl (hb hby at_157) rfl) ?_
        show Go _ p e below s _ _ _ (T264.setTop (mkF m 159 #[.val (.int p1), .val (.int p2), .val (.int p3), .val (.ref b249), .val (.ref b251), .val (.ref b252), .val (.ref b254), .val (.ref b256), .val (.int (1 : Int32)), .val (.int (1 : Int32)), .val (.int (0 : Int32)), .val (.int (0 : Int32)), .val (.int (1 : Int32)), .unset] [(.int (0 : Int32))]))
        refine go (fun _ => XS.iconst X264.here hx rfl (hb hby at_159)) ?_
        show Go _ p e below s _ _ _ (T264.setTop (mkF m 160 #[.val (.int p1), .val (.int p2), .val (.int p3), .val (.ref b249), .val (.ref b251), .val (.ref b252), .val (.ref b254), .val (.ref b256), .val (.int (1 : Int32)), .val (.int (1 : Int32)), .val (.int (0 : Int32)), .val (.int (0 : Int32)), .val (.int (1 : Int32)), .unset] [(.int (2 : Int32)), (.int (0 : Int32))]))
        refine go (fun _ => XS.icmpYes X264.here hx rfl (pc0 := 160) (pc' := 199) rfl (hb hby at_160) rfl (feq (by decide : ¬ ((0 : Int32) = (2 : Int32)))).2 (by decide) (by decide)) ?_
        show Go _ p e below s _ _ _ (T264.setTop (mkF m 199 #[.val (.int p1), .val (.int p2), .val (.int p3), .val (.ref b249), .val (.ref b251), .val (.ref b252), .val (.ref b254), .val (.ref b256), .val (.int (1 : Int32)), .val (.int (1 : Int32)), .val (.int (0 : Int32)), .val (.int (0 : Int32)), .val (.int (1 : Int32)), .unset] []))
        refine go (fun _ => XS.aload X264.here hx rfl (hb hby at_199) rfl rfl) ?_
        show Go _ p e below s _ _ _ (T264.setTop (mkF m 201 #[.val (.int p1), .val (.int p2), .val (.int p3), .val (.ref b249), .val (.ref b251), .val (.ref b252), .val (.ref b254), .val (.ref b256), .val (.int (1 : Int32)), .val (.int (1 : Int32)), .val (.int (0 : Int32)), .val (.int (0 : Int32)), .val (.int (1 : Int32)), .unset] [(.ref b256)]))
        obtain ⟨cq267, kq267, q267a, q267b, q267c⟩ := isOf hZ e264 c263_5
        obtain ⟨_, _, ⟨T267, L267, k267, n267⟩, -, X267, ⟨Lc267, hQ267, l267, y267, z267⟩, st267⟩ := X264.virtualBack hx (y := (⟨"com/example/reticule/reticule/engine/ActivationRuns", "isEmpty", "()Z"⟩ : MethodName)) (z := (⟨"com/example/reticule/reticule/engine/ActivationRuns", "isEmpty", "()Z"⟩ : MethodName)) hown (mvT hZ (hw _ (List.mem_of_getElem? (i := 103) rfl))) (mvT hZ (hw _ (List.mem_of_getElem? (i := 104) rfl))) (notFace_of_selects (args := #[]) (mvT hZ (hw _ (List.mem_of_getElem? (i := 106) rfl)))) (mvT hZ (hw _ (List.mem_of_getElem? (i := 106) rfl))) (mvT hZ (hw _ (List.mem_of_getElem? (i := 105) rfl))) (by decide) (backOf (W := 0) (rmE1 l Z a0 hw [] b256 (T263.heap) n0 ZN263 u263_4) hZ (hw _ (List.mem_of_getElem? (i := 107) rfl)) (hw _ (List.mem_of_getElem? (i := 72) rfl)) (by decide) (by decide)) q267a q267c (g := (mkF m 201 #[.val (.int p1), .val (.int p2), .val (.int p3), .val (.ref b249), .val (.ref b251), .val (.ref b252), .val (.ref b254), .val (.ref b256), .val (.int (1 : Int32)), .val (.int (1 : Int32)), .val (.int (0 : Int32)), .val (.int (0 : Int32)), .val (.int (1 : Int32)), .unset] [(.ref b256)])) rfl (by rw [hml]; rfl) (Steps.refl _) (argsL := []) (rest := []) (lenOf pd_0_4 rfl) rfl (by show 2 * 0 + _ ≤ _; exact Nat.le_of_eq rfl) (hb hby at_201) (fun _ _ => ⟨rfl, e264, (by decide : 15 + 0 ≤ _), (by decide : 161 + 0 ≤ _)⟩)
        dsimp only [Pt.U, Pt.locs, Pt.cells, Pt.slots] at X267 l267 y267 z267 st267 hQ267
        subst l267 y267 z267
        obtain ⟨rfl, N267q, e267⟩ := hQ267
        have N267 := Fr.app N264 N267q
        refine goT st267 ?_
        show Go _ p e below s _ _ _ (T267.setTop (mkF m 204 #[.val (.int p1), .val (.int p2), .val (.int p3), .val (.ref b249), .val (.ref b251), .val (.ref b252), .val (.ref b254), .val (.ref b256), .val (.int (1 : Int32)), .val (.int (1 : Int32)), .val (.int (0 : Int32)), .val (.int (0 : Int32)), .val (.int (1 : Int32)), .unset] [(.int (0 : Int32))]))
        refine go (fun _ => XS.istore X267.here hx rfl (hb hby at_204) rfl (l' := #[.val (.int p1), .val (.int p2), .val (.int p3), .val (.ref b249), .val (.ref b251), .val (.ref b252), .val (.ref b254), .val (.ref b256), .val (.int (1 : Int32)), .val (.int (1 : Int32)), .val (.int (0 : Int32)), .val (.int (0 : Int32)), .val (.int (1 : Int32)), .val (.int (0 : Int32))]) rfl) ?_
        show Go _ p e below s _ _ _ (T267.setTop (mkF m 206 #[.val (.int p1), .val (.int p2), .val (.int p3), .val (.ref b249), .val (.ref b251), .val (.ref b252), .val (.ref b254), .val (.ref b256), .val (.int (1 : Int32)), .val (.int (1 : Int32)), .val (.int (0 : Int32)), .val (.int (0 : Int32)), .val (.int (1 : Int32)), .val (.int (0 : Int32))] []))
        refine go (fun _ => XS.iload X267.here hx rfl (hb hby at_206) rfl) ?_
        show Go _ p e below s _ _ _ (T267.setTop (mkF m 208 #[.val (.int p1), .val (.int p2), .val (.int p3), .val (.ref b249), .val (.ref b251), .val (.ref b252), .val (.ref b254), .val (.ref b256), .val (.int (1 : Int32)), .val (.int (1 : Int32)), .val (.int (0 : Int32)), .val (.int (0 : Int32)), .val (.int (1 : Int32)), .val (.int (0 : Int32))] [(.int (1 : Int32))]))
        refine go (fun _ => XS.ifNo X267.here hx rfl (hb hby at_208) rfl ((if0 _ _).trans (feq (by decide : ¬ ((1 : Int32) = (0 : Int32)))).1)) ?_
        show Go _ p e below s _ _ _ (T267.setTop (mkF m 211 #[.val (.int p1), .val (.int p2), .val (.int p3), .val (.ref b249), .val (.ref b251), .val (.ref b252), .val (.ref b254), .val (.ref b256), .val (.int (1 : Int32)), .val (.int (1 : Int32)), .val (.int (0 : Int32)), .val (.int (0 : Int32)), .val (.int (1 : Int32)), .val (.int (0 : Int32))] []))
        refine go (fun _ => XS.iload X267.here hx rfl (hb hby at_211) rfl) ?_
        show Go _ p e below s _ _ _ (T267.setTop (mkF m 213 #[.val (.int p1), .val (.int p2), .val (.int p3), .val (.ref b249), .val (.ref b251), .val (.ref b252), .val (.ref b254), .val (.ref b256), .val (.int (1 : Int32)), .val (.int (1 : Int32)), .val (.int (0 : Int32)), .val (.int (0 : Int32)), .val (.int (1 : Int32)), .val (.int (0 : Int32))] [(.int (0 : Int32))]))
        refine go (fun _ => XS.iload X267.here hx rfl (hb hby at_213) rfl) ?_
        show Go _ p e below s _ _ _ (T267.setTop (mkF m 215 #[.val (.int p1), .val (.int p2), .val (.int p3), .val (.ref b249), .val (.ref b251), .val (.ref b252), .val (.ref b254), .val (.ref b256), .val (.int (1 : Int32)), .val (.int (1 : Int32)), .val (.int (0 : Int32)), .val (.int (0 : Int32)), .val (.int (1 : Int32)), .val (.int (0 : Int32))] [(.int (1 : Int32)), (.int (0 : Int32))]))
        refine go (fun _ => XS.ifYes X267.here hx rfl (pc0 := 215) (pc' := 222) rfl (hb hby at_215) rfl ((if0 _ _).trans (feq (by decide : ¬ ((1 : Int32) = (0 : Int32)))).2) (by decide) (by decide)) ?_
        show Go _ p e below s _ _ _ (T267.setTop (mkF m 222 #[.val (.int p1), .val (.int p2), .val (.int p3), .val (.ref b249), .val (.ref b251), .val (.ref b252), .val (.ref b254), .val (.ref b256), .val (.int (1 : Int32)), .val (.int (1 : Int32)), .val (.int (0 : Int32)), .val (.int (0 : Int32)), .val (.int (1 : Int32)), .val (.int (0 : Int32))] [(.int (0 : Int32))]))
        refine go (fun _ => XS.iconst X267.here hx rfl (hb hby at_222)) ?_
        show Go _ p e below s _ _ _ (T267.setTop (mkF m 223 #[.val (.int p1), .val (.int p2), .val (.int p3), .val (.ref b249), .val (.ref b251), .val (.ref b252), .val (.ref b254), .val (.ref b256), .val (.int (1 : Int32)), .val (.int (1 : Int32)), .val (.int (0 : Int32)), .val (.int (0 : Int32)), .val (.int (1 : Int32)), .val (.int (0 : Int32))] [(.int (0 : Int32)), (.int (0 : Int32))]))
        refine go (fun _ => XS.icmpNo X267.here hx rfl (hb hby at_223) rfl (teq (rfl : (0 : Int32) = (0 : Int32))).2) ?_
        show Go _ p e below s _ _ _ (T267.setTop (mkF m 226 #[.val (.int p1), .val (.int p2), .val (.int p3), .val (.ref b249), .val (.ref b251), .val (.ref b252), .val (.ref b254), .val (.ref b256), .val (.int (1 : Int32)), .val (.int (1 : Int32)), .val (.int (0 : Int32)), .val (.int (0 : Int32)), .val (.int (1 : Int32)), .val (.int (0 : Int32))] []))
        refine go (fun _ => XS.iload X267.here hx rfl (hb hby at_226) rfl) ?_
        show Go _ p e below s _ _ _ (T267.setTop (mkF m 228 #[.val (.int p1), .val (.int p2), .val (.int p3), .val (.ref b249), .val (.ref b251), .val (.ref b252), .val (.ref b254), .val (.ref b256), .val (.int (1 : Int32)), .val (.int (1 : Int32)), .val (.int (0 : Int32)), .val (.int (0 : Int32)), .val (.int (1 : Int32)), .val (.int (0 : Int32))] [(.int (0 : Int32))]))
        refine go (fun _ => XS.iload X267.here hx rfl (hb hby at_228) rfl) ?_
        show Go _ p e below s _ _ _ (T267.setTop (mkF m 230 #[.val (.int p1), .val (.int p2), .val (.int p3), .val (.ref b249), .val (.ref b251), .val (.ref b252), .val (.ref b254), .val (.ref b256), .val (.int (1 : Int32)), .val (.int (1 : Int32)), .val (.int (0 : Int32)), .val (.int (0 : Int32)), .val (.int (1 : Int32)), .val (.int (0 : Int32))] [(.int (0 : Int32)), (.int (0 : Int32))]))
        refine go (fun _ => XS.iload X267.here hx rfl (hb hby at_230) rfl) ?_
        show Go _ p e below s _ _ _ (T267.setTop (mkF m 232 #[.val (.int p1), .val (.int p2), .val (.int p3), .val (.ref b249), .val (.ref b251), .val (.ref b252), .val (.ref b254), .val (.ref b256), .val (.int (1 : Int32)), .val (.int (1 : Int32)), .val (.int (0 : Int32)), .val (.int (0 : Int32)), .val (.int (1 : Int32)), .val (.int (0 : Int32))] [(.int (1 : Int32)), (.int (0 : Int32)), (.int (0 : Int32))]))
        refine go (fun _ => XS.icmpYes X267.here hx rfl (pc0 := 232) (pc' := 239) rfl (hb hby at_232) rfl (feq (by decide : ¬ ((0 : Int32) = (1 : Int32)))).2 (by decide) (by decide)) ?_
        show Go _ p e below s _ _ _ (T267.setTop (mkF m 239 #[.val (.int p1), .val (.int p2), .val (.int p3), .val (.ref b249), .val (.ref b251), .val (.ref b252), .val (.ref b254), .val (.ref b256), .val (.int (1 : Int32)), .val (.int (1 : Int32)), .val (.int (0 : Int32)), .val (.int (0 : Int32)), .val (.int (1 : Int32)), .val (.int (0 : Int32))] [(.int (0 : Int32))]))
        refine go (fun _ => XS.iconst X267.here hx rfl (hb hby at_239)) ?_
        show Go _ p e below s _ _ _ (T267.setTop (mkF m 240 #[.val (.int p1), .val (.int p2), .val (.int p3), .val (.ref b249), .val (.ref b251), .val (.ref b252), .val (.ref b254), .val (.ref b256), .val (.int (1 : Int32)), .val (.int (1 : Int32)), .val (.int (0 : Int32)), .val (.int (0 : Int32)), .val (.int (1 : Int32)), .val (.int (0 : Int32))] [(.int (0 : Int32)), (.int (0 : Int32))]))
        refine go (fun _ => XS.icmpNo X267.here hx rfl (hb hby at_240) rfl (teq (rfl : (0 : Int32) = (0 : Int32))).2) ?_
        show Go _ p e below s _ _ _ (T267.setTop (mkF m 243 #[.val (.int p1), .val (.int p2), .val (.int p3), .val (.ref b249), .val (.ref b251), .val (.ref b252), .val (.ref b254), .val (.ref b256), .val (.int (1 : Int32)), .val (.int (1 : Int32)), .val (.int (0 : Int32)), .val (.int (0 : Int32)), .val (.int (1 : Int32)), .val (.int (0 : Int32))] []))
        refine go (fun _ => XS.iconst X267.here hx rfl (hb hby at_243)) ?_
        show Go _ p e below s _ _ _ (T267.setTop (mkF m 244 #[.val (.int p1), .val (.int p2), .val (.int p3), .val (.ref b249), .val (.ref b251), .val (.ref b252), .val (.ref b254), .val (.ref b256), .val (.int (1 : Int32)), .val (.int (1 : Int32)), .val (.int (0 : Int32)), .val (.int (0 : Int32)), .val (.int (1 : Int32)), .val (.int (0 : Int32))] [(.int (1 : Int32))]))
        refine go (fun _ => XS.goto X267.here hx rfl (pc0 := 244) (pc' := 248) rfl (hb hby at_244) (by decide) (by decide)) ?_
        show Go _ p e below s _ _ _ (T267.setTop (mkF m 248 #[.val (.int p1), .val (.int p2), .val (.int p3), .val (.ref b249), .val (.ref b251), .val (.ref b252), .val (.ref b254), .val (.ref b256), .val (.int (1 : Int32)), .val (.int (1 : Int32)), .val (.int (0 : Int32)), .val (.int (0 : Int32)), .val (.int (1 : Int32)), .val (.int (0 : Int32))] [(.int (1 : Int32))]))
        refine goRetW X267 hS255 (by rw [e267]; exact HK263) hx Bd.notSynchronized Bd.returns rfl (Or.inl ⟨rfl, Or.inr (Or.inl rfl), _, rfl⟩) (hb hby at_248) (by decide) (by decide) (by rw [e267]; refine ⟨rfl, N267⟩)
    · show Go _ p e below s _ _ _ (T264.setTop (mkF m 110 #[.val (.int p1), .val (.int p2), .val (.int p3), .val (.ref b249), .val (.ref b251), .val (.ref b252), .val (.ref b254), .val (.ref b256), .val (.int (1 : Int32)), .val (.int (1 : Int32)), .val (.int (0 : Int32)), .val (.int (1 : Int32)), .unset, .unset] []))
      refine go (fun _ => XS.iloadN X264.here hx rfl (hb hby at_110) rfl) ?_
      show Go _ p e below s _ _ _ (T264.setTop (mkF m 111 #[.val (.int p1), .val (.int p2), .val (.int p3), .val (.ref b249), .val (.ref b251), .val (.ref b252), .val (.ref b254), .val (.ref b256), .val (.int (1 : Int32)), .val (.int (1 : Int32)), .val (.int (0 : Int32)), .val (.int (1 : Int32)), .unset, .unset] [(.int p3)]))
      refine go (fun _ => XS.iconst X264.here hx rfl (hb hby at_111)) ?_
      show Go _ p e below s _ _ _ (T264.setTop (mkF m 112 #[.val (.int p1), .val (.int p2), .val (.int p3), .val (.ref b249), .val (.ref b251), .val (.ref b252), .val (.ref b254), .val (.ref b256), .val (.int (1 : Int32)), .val (.int (1 : Int32)), .val (.int (0 : Int32)), .val (.int (1 : Int32)), .unset, .unset] [(.int (1 : Int32)), (.int p3)]))
      refine go (fun _ => XS.iand X264.here hx rfl (hb hby at_112) rfl) ?_
      show Go _ p e below s _ _ _ (T264.setTop (mkF m 113 #[.val (.int p1), .val (.int p2), .val (.int p3), .val (.ref b249), .val (.ref b251), .val (.ref b252), .val (.ref b254), .val (.ref b256), .val (.int (1 : Int32)), .val (.int (1 : Int32)), .val (.int (0 : Int32)), .val (.int (1 : Int32)), .unset, .unset] [(.int (p3 &&& (1 : Int32)))]))
      by_cases hc113_268 : (p3 &&& (1 : Int32)) = (0 : Int32)
      · refine go (fun _ => XS.ifYes X264.here hx rfl (pc0 := 113) (pc' := 120) rfl (hb hby at_113) rfl ((if0 _ _).trans (teq hc113_268).1) (by decide) (by decide)) ?_
        show Go _ p e below s _ _ _ (T264.setTop (mkF m 120 #[.val (.int p1), .val (.int p2), .val (.int p3), .val (.ref b249), .val (.ref b251), .val (.ref b252), .val (.ref b254), .val (.ref b256), .val (.int (1 : Int32)), .val (.int (1 : Int32)), .val (.int (0 : Int32)), .val (.int (1 : Int32)), .unset, .unset] []))
        refine go (fun _ => XS.iconst X264.here hx rfl (hb hby at_120)) ?_
        show Go _ p e below s _ _ _ (T264.setTop (mkF m 121 #[.val (.int p1), .val (.int p2), .val (.int p3), .val (.ref b249), .val (.ref b251), .val (.ref b252), .val (.ref b254), .val (.ref b256), .val (.int (1 : Int32)), .val (.int (1 : Int32)), .val (.int (0 : Int32)), .val (.int (1 : Int32)), .unset, .unset] [(.int (0 : Int32))]))
        refine go (fun _ => XS.istore X264.here hx rfl (hb hby at_121) rfl (l' := #[.val (.int p1), .val (.int p2), .val (.int p3), .val (.ref b249), .val (.ref b251), .val (.ref b252), .val (.ref b254), .val (.ref b256), .val (.int (1 : Int32)), .val (.int (1 : Int32)), .val (.int (0 : Int32)), .val (.int (1 : Int32)), .val (.int (0 : Int32)), .unset]) rfl) ?_
        show Go _ p e below s _ _ _ (T264.setTop (mkF m 123 #[.val (.int p1), .val (.int p2), .val (.int p3), .val (.ref b249), .val (.ref b251), .val (.ref b252), .val (.ref b254), .val (.ref b256), .val (.int (1 : Int32)), .val (.int (1 : Int32)), .val (.int (0 : Int32)), .val (.int (1 : Int32)), .val (.int (0 : Int32)), .unset] []))
        refine go (fun _ => XS.iload X264.here hx rfl (hb hby at_123) rfl) ?_
        show Go _ p e below s _ _ _ (T264.setTop (mkF m 125 #[.val (.int p1), .val (.int p2), .val (.int p3), .val (.ref b249), .val (.ref b251), .val (.ref b252), .val (.ref b254), .val (.ref b256), .val (.int (1 : Int32)), .val (.int (1 : Int32)), .val (.int (0 : Int32)), .val (.int (1 : Int32)), .val (.int (0 : Int32)), .unset] [(.int (1 : Int32))]))
        refine go (fun _ => XS.iconst X264.here hx rfl (hb hby at_125)) ?_
        show Go _ p e below s _ _ _ (T264.setTop (mkF m 126 #[.val (.int p1), .val (.int p2), .val (.int p3), .val (.ref b249), .val (.ref b251), .val (.ref b252), .val (.ref b254), .val (.ref b256), .val (.int (1 : Int32)), .val (.int (1 : Int32)), .val (.int (0 : Int32)), .val (.int (1 : Int32)), .val (.int (0 : Int32)), .unset] [(.int (1 : Int32)), (.int (1 : Int32))]))
        refine go (fun _ => XS.icmpNo X264.here hx rfl (hb hby at_126) rfl (teq (rfl : (1 : Int32) = (1 : Int32))).2) ?_
        show Go _ p e below s _ _ _ (T264.setTop (mkF m 129 #[.val (.int p1), .val (.int p2), .val (.int p3), .val (.ref b249), .val (.ref b251), .val (.ref b252), .val (.ref b254), .val (.ref b256), .val (.int (1 : Int32)), .val (.int (1 : Int32)), .val (.int (0 : Int32)), .val (.int (1 : Int32)), .val (.int (0 : Int32)), .unset] []))
        refine go (fun _ => XS.iload X264.here hx rfl (hb hby at_129) rfl) ?_
        show Go _ p e below s _ _ _ (T264.setTop (mkF m 131 #[.val (.int p1), .val (.int p2), .val (.int p3), .val (.ref b249), .val (.ref b251), .val (.ref b252), .val (.ref b254), .val (.ref b256), .val (.int (1 : Int32)), .val (.int (1 : Int32)), .val (.int (0 : Int32)), .val (.int (1 : Int32)), .val (.int (0 : Int32)), .unset] [(.int (1 : Int32))]))
        refine go (fun _ => XS.iconst X264.here hx rfl (hb hby at_131)) ?_
        show Go _ p e below s _ _ _ (T264.setTop (mkF m 132 #[.val (.int p1), .val (.int p2), .val (.int p3), .val (.ref b249), .val (.ref b251), .val (.ref b252), .val (.ref b254), .val (.ref b256), .val (.int (1 : Int32)), .val (.int (1 : Int32)), .val (.int (0 : Int32)), .val (.int (1 : Int32)), .val (.int (0 : Int32)), .unset] [(.int (2 : Int32)), (.int (1 : Int32))]))
        refine go (fun _ => XS.icmpYes X264.here hx rfl (pc0 := 132) (pc' := 150) rfl (hb hby at_132) rfl (feq (by decide : ¬ ((1 : Int32) = (2 : Int32)))).2 (by decide) (by decide)) ?_
        show Go _ p e below s _ _ _ (T264.setTop (mkF m 150 #[.val (.int p1), .val (.int p2), .val (.int p3), .val (.ref b249), .val (.ref b251), .val (.ref b252), .val (.ref b254), .val (.ref b256), .val (.int (1 : Int32)), .val (.int (1 : Int32)), .val (.int (0 : Int32)), .val (.int (1 : Int32)), .val (.int (0 : Int32)), .unset] []))
        refine go (fun _ => XS.aload X264.here hx rfl (hb hby at_150) rfl rfl) ?_
        show Go _ p e below s _ _ _ (T264.setTop (mkF m 152 #[.val (.int p1), .val (.int p2), .val (.int p3), .val (.ref b249), .val (.ref b251), .val (.ref b252), .val (.ref b254), .val (.ref b256), .val (.int (1 : Int32)), .val (.int (1 : Int32)), .val (.int (0 : Int32)), .val (.int (1 : Int32)), .val (.int (0 : Int32)), .unset] [(.ref b256)]))
        refine go (fun _ => XS.aload X264.here hx rfl (hb hby at_152) rfl rfl) ?_
        show Go _ p e below s _ _ _ (T264.setTop (mkF m 154 #[.val (.int p1), .val (.int p2), .val (.int p3), .val (.ref b249), .val (.ref b251), .val (.ref b252), .val (.ref b254), .val (.ref b256), .val (.int (1 : Int32)), .val (.int (1 : Int32)), .val (.int (0 : Int32)), .val (.int (1 : Int32)), .val (.int (0 : Int32)), .unset] [(.ref b252), (.ref b256)]))
        obtain ⟨cq269, kq269, q269a, q269b, q269c⟩ := isOf hZ e264 c263_5
        obtain ⟨_, _, ⟨T269, L269, k269, n269⟩, -, X269, ⟨Lc269, hQ269, l269, y269, z269⟩, st269⟩ := X264.virtualBack hx (y := (⟨"com/example/reticule/reticule/engine/ActivationRuns", "remove", "(Lcom/example/reticule/reticule/engine/Activation;)V"⟩ : MethodName)) (z := (⟨"com/example/reticule/reticule/engine/ActivationRuns", "remove", "(Lcom/example/reticule/reticule/engine/Activation;)V"⟩ : MethodName)) hown (mvT hZ (hw _ (List.mem_of_getElem? (i := 161) rfl))) (mvT hZ (hw _ (List.mem_of_getElem? (i := 162) rfl))) (notFace_of_selects (args := #[]) (mvT hZ (hw _ (List.mem_of_getElem? (i := 164) rfl)))) (mvT hZ (hw _ (List.mem_of_getElem? (i := 164) rfl))) (mvT hZ (hw _ (List.mem_of_getElem? (i := 163) rfl))) (by decide) (backOf (W := 0) (rmRM0_1_1 l Z a0 hw [] b256 b252 b257 b263 k263 b252 (T263.heap) n0 ZN263 u263_3 u263_4 u263_8 c263_5 G_b256 u263_1 c263_6 u263_7 u263_5 u263_9 u263_10 u263_11 (Ne.symm (Nat.ne_of_lt lt256_b252_b256)) (Nat.ne_of_lt lt257_b256_b257) (Nat.ne_of_lt lt263_b256_b263) (Nat.ne_of_lt lt257_b252_b257) (Nat.ne_of_lt lt263_b252_b263) (Nat.ne_of_lt lt263_b257_b263)) hZ (hw _ (List.mem_of_getElem? (i := 165) rfl)) (hw _ (List.mem_of_getElem? (i := 72) rfl)) (by decide) (by decide)) q269a q269c (g := (mkF m 154 #[.val (.int p1), .val (.int p2), .val (.int p3), .val (.ref b249), .val (.ref b251), .val (.ref b252), .val (.ref b254), .val (.ref b256), .val (.int (1 : Int32)), .val (.int (1 : Int32)), .val (.int (0 : Int32)), .val (.int (1 : Int32)), .val (.int (0 : Int32)), .unset] [(.ref b252), (.ref b256)])) rfl (by rw [hml]; rfl) (Steps.refl _) (argsL := [(.ref b252)]) (rest := []) (lenOf pd_0_5 rfl) rfl (by show 2 * 0 + _ ≤ _; exact Nat.le_of_eq rfl) (hb hby at_154) (fun _ _ => ⟨rfl, e264, (by decide : 15 + 0 ≤ _), (by decide : 161 + 0 ≤ _)⟩)
        dsimp only [Pt.U, Pt.locs, Pt.cells, Pt.slots] at X269 l269 y269 z269 st269 hQ269
        subst l269 y269 z269
        obtain ⟨rfl, N269q, K269, u269_1, u269_2, u269_3, u269_4, u269_5⟩ := hQ269
        have N269 := Fr.app N264 N269q
        have c269_2 := c263_2.keep K269
        have c269_3 := c263_3.keep K269
        have c269_4 := c263_4.keep K269 (ninS (Nat.ne_of_lt lt256_b254_b256) (ninS (Nat.ne_of_lt lt263_b254_b263) nin0))
        have c269_5 := c263_5.keep K269
        have c269_6 := c263_6.keep K269
        have c269_7 := u263_5.keep K269 (ninS (Nat.ne_of_lt lt256_b252_b256) (ninS (Nat.ne_of_lt lt263_b252_b263) nin0))
        have c269_8 := u263_6.keep K269 (ninS (Ne.symm (Nat.ne_of_lt lt257_b256_b257)) (ninS (Nat.ne_of_lt lt263_b257_b263) nin0))
        have c269_9 := u263_7.keep K269 (ninS (Ne.symm (Nat.ne_of_lt lt257_b256_b257)) (ninS (Nat.ne_of_lt lt263_b257_b263) nin0))
        have c269_10 := u263_8.keep K269 (ninS (Ne.symm (Nat.ne_of_lt lt257_b256_b257)) (ninS (Nat.ne_of_lt lt263_b257_b263) nin0))
        have c269_11 := u263_9.keep K269
        have KK269 : Keep h0 T269.heap [] := KK263.trans K269 (allS (P := fun x => x ∈ [] ∨ h0.size ≤ x) (Or.inr SZ_b256) (allS (P := fun x => x ∈ [] ∨ h0.size ≤ x) (Or.inr SZ_b263) all0))
        have ZN269 : n0 ≤ T269.heap.size := Nat.le_trans ZN263 K269.1
        have HK269 : T255.heap.size ≤ T269.heap.size := Nat.le_trans HK263 K269.1
        have OL269 := OL263.keep K269 (allS G_b256 (allS u263_1 all0))
        refine goT st269 ?_
        show Go _ p e below s _ _ _ (T269.setTop (mkF m 157 #[.val (.int p1), .val (.int p2), .val (.int p3), .val (.ref b249), .val (.ref b251), .val (.ref b252), .val (.ref b254), .val (.ref b256), .val (.int (1 : Int32)), .val (.int (1 : Int32)), .val (.int (0 : Int32)), .val (.int (1 : Int32)), .val (.int (0 : Int32)), .unset] []))
        refine go (fun _ => XS.iload X269.here hx rfl (hb hby at_157) rfl) ?_
        show Go _ p e below s _ _ _ (T269.setTop (mkF m 159 #[.val (.int p1), .val (.int p2), .val (.int p3), .val (.ref b249), .val (.ref b251), .val (.ref b252), .val (.ref b254), .val (.ref b256), .val (.int (1 : Int32)), .val (.int (1 : Int32)), .val (.int (0 : Int32)), .val (.int (1 : Int32)), .val (.int (0 : Int32)), .unset] [(.int (1 : Int32))]))
        refine go (fun _ => XS.iconst X269.here hx rfl (hb hby at_159)) ?_
        show Go _ p e below s _ _ _ (T269.setTop (mkF m 160 #[.val (.int p1), .val (.int p2), .val (.int p3), .val (.ref b249), .val (.ref b251), .val (.ref b252), .val (.ref b254), .val (.ref b256), .val (.int (1 : Int32)), .val (.int (1 : Int32)), .val (.int (0 : Int32)), .val (.int (1 : Int32)), .val (.int (0 : Int32)), .unset] [(.int (2 : Int32)), (.int (1 : Int32))]))
        refine go (fun _ => XS.icmpYes X269.here hx rfl (pc0 := 160) (pc' := 199) rfl (hb hby at_160) rfl (feq (by decide : ¬ ((1 : Int32) = (2 : Int32)))).2 (by decide) (by decide)) ?_
        show Go _ p e below s _ _ _ (T269.setTop (mkF m 199 #[.val (.int p1), .val (.int p2), .val (.int p3), .val (.ref b249), .val (.ref b251), .val (.ref b252), .val (.ref b254), .val (.ref b256), .val (.int (1 : Int32)), .val (.int (1 : Int32)), .val (.int (0 : Int32)), .val (.int (1 : Int32)), .val (.int (0 : Int32)), .unset] []))
        refine go (fun _ => XS.aload X269.here hx rfl (hb hby at_199) rfl rfl) ?_
        show Go _ p e below s _ _ _ (T269.setTop (mkF m 201 #[.val (.int p1), .val (.int p2), .val (.int p3), .val (.ref b249), .val (.ref b251), .val (.ref b252), .val (.ref b254), .val (.ref b256), .val (.int (1 : Int32)), .val (.int (1 : Int32)), .val (.int (0 : Int32)), .val (.int (1 : Int32)), .val (.int (0 : Int32)), .unset] [(.ref b256)]))
        obtain ⟨cq270, kq270, q270a, q270b, q270c⟩ := isOf hZ rfl c269_5
        obtain ⟨_, _, ⟨T270, L270, k270, n270⟩, -, X270, ⟨Lc270, hQ270, l270, y270, z270⟩, st270⟩ := X269.virtualBack hx (y := (⟨"com/example/reticule/reticule/engine/ActivationRuns", "isEmpty", "()Z"⟩ : MethodName)) (z := (⟨"com/example/reticule/reticule/engine/ActivationRuns", "isEmpty", "()Z"⟩ : MethodName)) hown (mvT hZ (hw _ (List.mem_of_getElem? (i := 103) rfl))) (mvT hZ (hw _ (List.mem_of_getElem? (i := 104) rfl))) (notFace_of_selects (args := #[]) (mvT hZ (hw _ (List.mem_of_getElem? (i := 106) rfl)))) (mvT hZ (hw _ (List.mem_of_getElem? (i := 106) rfl))) (mvT hZ (hw _ (List.mem_of_getElem? (i := 105) rfl))) (by decide) (backOf (W := 0) (rmE0 l Z a0 hw [] b256 (T269.heap) n0 ZN269 u269_2) hZ (hw _ (List.mem_of_getElem? (i := 107) rfl)) (hw _ (List.mem_of_getElem? (i := 72) rfl)) (by decide) (by decide)) q270a q270c (g := (mkF m 201 #[.val (.int p1), .val (.int p2), .val (.int p3), .val (.ref b249), .val (.ref b251), .val (.ref b252), .val (.ref b254), .val (.ref b256), .val (.int (1 : Int32)), .val (.int (1 : Int32)), .val (.int (0 : Int32)), .val (.int (1 : Int32)), .val (.int (0 : Int32)), .unset] [(.ref b256)])) rfl (by rw [hml]; rfl) (Steps.refl _) (argsL := []) (rest := []) (lenOf pd_0_4 rfl) rfl (by show 2 * 0 + _ ≤ _; exact Nat.le_of_eq rfl) (hb hby at_201) (fun _ _ => ⟨rfl, rfl, (by decide : 15 + 0 ≤ _), (by decide : 161 + 0 ≤ _)⟩)
        dsimp only [Pt.U, Pt.locs, Pt.cells, Pt.slots] at X270 l270 y270 z270 st270 hQ270
        subst l270 y270 z270
        obtain ⟨rfl, N270q, e270⟩ := hQ270
        have N270 := Fr.app N269 N270q
        refine goT st270 ?_
        show Go _ p e below s _ _ _ (T270.setTop (mkF m 204 #[.val (.int p1), .val (.int p2), .val (.int p3), .val (.ref b249), .val (.ref b251), .val (.ref b252), .val (.ref b254), .val (.ref b256), .val (.int (1 : Int32)), .val (.int (1 : Int32)), .val (.int (0 : Int32)), .val (.int (1 : Int32)), .val (.int (0 : Int32)), .unset] [(.int (1 : Int32))]))
        refine go (fun _ => XS.istore X270.here hx rfl (hb hby at_204) rfl (l' := #[.val (.int p1), .val (.int p2), .val (.int p3), .val (.ref b249), .val (.ref b251), .val (.ref b252), .val (.ref b254), .val (.ref b256), .val (.int (1 : Int32)), .val (.int (1 : Int32)), .val (.int (0 : Int32)), .val (.int (1 : Int32)), .val (.int (0 : Int32)), .val (.int (1 : Int32))]) rfl) ?_
        show Go _ p e below s _ _ _ (T270.setTop (mkF m 206 #[.val (.int p1), .val (.int p2), .val (.int p3), .val (.ref b249), .val (.ref b251), .val (.ref b252), .val (.ref b254), .val (.ref b256), .val (.int (1 : Int32)), .val (.int (1 : Int32)), .val (.int (0 : Int32)), .val (.int (1 : Int32)), .val (.int (0 : Int32)), .val (.int (1 : Int32))] []))
        refine go (fun _ => XS.iload X270.here hx rfl (hb hby at_206) rfl) ?_
        show Go _ p e below s _ _ _ (T270.setTop (mkF m 208 #[.val (.int p1), .val (.int p2), .val (.int p3), .val (.ref b249), .val (.ref b251), .val (.ref b252), .val (.ref b254), .val (.ref b256), .val (.int (1 : Int32)), .val (.int (1 : Int32)), .val (.int (0 : Int32)), .val (.int (1 : Int32)), .val (.int (0 : Int32)), .val (.int (1 : Int32))] [(.int (1 : Int32))]))
        refine go (fun _ => XS.ifNo X270.here hx rfl (hb hby at_208) rfl ((if0 _ _).trans (feq (by decide : ¬ ((1 : Int32) = (0 : Int32)))).1)) ?_
        show Go _ p e below s _ _ _ (T270.setTop (mkF m 211 #[.val (.int p1), .val (.int p2), .val (.int p3), .val (.ref b249), .val (.ref b251), .val (.ref b252), .val (.ref b254), .val (.ref b256), .val (.int (1 : Int32)), .val (.int (1 : Int32)), .val (.int (0 : Int32)), .val (.int (1 : Int32)), .val (.int (0 : Int32)), .val (.int (1 : Int32))] []))
        refine go (fun _ => XS.iload X270.here hx rfl (hb hby at_211) rfl) ?_
        show Go _ p e below s _ _ _ (T270.setTop (mkF m 213 #[.val (.int p1), .val (.int p2), .val (.int p3), .val (.ref b249), .val (.ref b251), .val (.ref b252), .val (.ref b254), .val (.ref b256), .val (.int (1 : Int32)), .val (.int (1 : Int32)), .val (.int (0 : Int32)), .val (.int (1 : Int32)), .val (.int (0 : Int32)), .val (.int (1 : Int32))] [(.int (0 : Int32))]))
        refine go (fun _ => XS.iload X270.here hx rfl (hb hby at_213) rfl) ?_
        show Go _ p e below s _ _ _ (T270.setTop (mkF m 215 #[.val (.int p1), .val (.int p2), .val (.int p3), .val (.ref b249), .val (.ref b251), .val (.ref b252), .val (.ref b254), .val (.ref b256), .val (.int (1 : Int32)), .val (.int (1 : Int32)), .val (.int (0 : Int32)), .val (.int (1 : Int32)), .val (.int (0 : Int32)), .val (.int (1 : Int32))] [(.int (1 : Int32)), (.int (0 : Int32))]))
        refine go (fun _ => XS.ifYes X270.here hx rfl (pc0 := 215) (pc' := 222) rfl (hb hby at_215) rfl ((if0 _ _).trans (feq (by decide : ¬ ((1 : Int32) = (0 : Int32)))).2) (by decide) (by decide)) ?_
        show Go _ p e below s _ _ _ (T270.setTop (mkF m 222 #[.val (.int p1), .val (.int p2), .val (.int p3), .val (.ref b249), .val (.ref b251), .val (.ref b252), .val (.ref b254), .val (.ref b256), .val (.int (1 : Int32)), .val (.int (1 : Int32)), .val (.int (0 : Int32)), .val (.int (1 : Int32)), .val (.int (0 : Int32)), .val (.int (1 : Int32))] [(.int (0 : Int32))]))
        refine go (fun _ => XS.iconst X270.here hx rfl (hb hby at_222)) ?_
        show Go _ p e below s _ _ _ (T270.setTop (mkF m 223 #[.val (.int p1), .val (.int p2), .val (.int p3), .val (.ref b249), .val (.ref b251), .val (.ref b252), .val (.ref b254), .val (.ref b256), .val (.int (1 : Int32)), .val (.int (1 : Int32)), .val (.int (0 : Int32)), .val (.int (1 : Int32)), .val (.int (0 : Int32)), .val (.int (1 : Int32))] [(.int (0 : Int32)), (.int (0 : Int32))]))
        refine go (fun _ => XS.icmpNo X270.here hx rfl (hb hby at_223) rfl (teq (rfl : (0 : Int32) = (0 : Int32))).2) ?_
        show Go _ p e below s _ _ _ (T270.setTop (mkF m 226 #[.val (.int p1), .val (.int p2), .val (.int p3), .val (.ref b249), .val (.ref b251), .val (.ref b252), .val (.ref b254), .val (.ref b256), .val (.int (1 : Int32)), .val (.int (1 : Int32)), .val (.int (0 : Int32)), .val (.int (1 : Int32)), .val (.int (0 : Int32)), .val (.int (1 : Int32))] []))
        refine go (fun _ => XS.iload X270.here hx rfl (hb hby at_226) rfl) ?_
        show Go _ p e below s _ _ _ (T270.setTop (mkF m 228 #[.val (.int p1), .val (.int p2), .val (.int p3), .val (.ref b249), .val (.ref b251), .val (.ref b252), .val (.ref b254), .val (.ref b256), .val (.int (1 : Int32)), .val (.int (1 : Int32)), .val (.int (0 : Int32)), .val (.int (1 : Int32)), .val (.int (0 : Int32)), .val (.int (1 : Int32))] [(.int (1 : Int32))]))
        refine go (fun _ => XS.iload X270.here hx rfl (hb hby at_228) rfl) ?_
        show Go _ p e below s _ _ _ (T270.setTop (mkF m 230 #[.val (.int p1), .val (.int p2), .val (.int p3), .val (.ref b249), .val (.ref b251), .val (.ref b252), .val (.ref b254), .val (.ref b256), .val (.int (1 : Int32)), .val (.int (1 : Int32)), .val (.int (0 : Int32)), .val (.int (1 : Int32)), .val (.int (0 : Int32)), .val (.int (1 : Int32))] [(.int (1 : Int32)), (.int (1 : Int32))]))
        refine go (fun _ => XS.iload X270.here hx rfl (hb hby at_230) rfl) ?_
        show Go _ p e below s _ _ _ (T270.setTop (mkF m 232 #[.val (.int p1), .val (.int p2), .val (.int p3), .val (.ref b249), .val (.ref b251), .val (.ref b252), .val (.ref b254), .val (.ref b256), .val (.int (1 : Int32)), .val (.int (1 : Int32)), .val (.int (0 : Int32)), .val (.int (1 : Int32)), .val (.int (0 : Int32)), .val (.int (1 : Int32))] [(.int (1 : Int32)), (.int (1 : Int32)), (.int (1 : Int32))]))
        refine go (fun _ => XS.icmpNo X270.here hx rfl (hb hby at_232) rfl (teq (rfl : (1 : Int32) = (1 : Int32))).2) ?_
        show Go _ p e below s _ _ _ (T270.setTop (mkF m 235 #[.val (.int p1), .val (.int p2), .val (.int p3), .val (.ref b249), .val (.ref b251), .val (.ref b252), .val (.ref b254), .val (.ref b256), .val (.int (1 : Int32)), .val (.int (1 : Int32)), .val (.int (0 : Int32)), .val (.int (1 : Int32)), .val (.int (0 : Int32)), .val (.int (1 : Int32))] [(.int (1 : Int32))]))
        refine go (fun _ => XS.iconst X270.here hx rfl (hb hby at_235)) ?_
        show Go _ p e below s _ _ _ (T270.setTop (mkF m 236 #[.val (.int p1), .val (.int p2), .val (.int p3), .val (.ref b249), .val (.ref b251), .val (.ref b252), .val (.ref b254), .val (.ref b256), .val (.int (1 : Int32)), .val (.int (1 : Int32)), .val (.int (0 : Int32)), .val (.int (1 : Int32)), .val (.int (0 : Int32)), .val (.int (1 : Int32))] [(.int (1 : Int32)), (.int (1 : Int32))]))
        refine go (fun _ => XS.goto X270.here hx rfl (pc0 := 236) (pc' := 240) rfl (hb hby at_236) (by decide) (by decide)) ?_
        show Go _ p e below s _ _ _ (T270.setTop (mkF m 240 #[.val (.int p1), .val (.int p2), .val (.int p3), .val (.ref b249), .val (.ref b251), .val (.ref b252), .val (.ref b254), .val (.ref b256), .val (.int (1 : Int32)), .val (.int (1 : Int32)), .val (.int (0 : Int32)), .val (.int (1 : Int32)), .val (.int (0 : Int32)), .val (.int (1 : Int32))] [(.int (1 : Int32)), (.int (1 : Int32))]))
        refine go (fun _ => XS.icmpNo X270.here hx rfl (hb hby at_240) rfl (teq (rfl : (1 : Int32) = (1 : Int32))).2) ?_
        show Go _ p e below s _ _ _ (T270.setTop (mkF m 243 #[.val (.int p1), .val (.int p2), .val (.int p3), .val (.ref b249), .val (.ref b251), .val (.ref b252), .val (.ref b254), .val (.ref b256), .val (.int (1 : Int32)), .val (.int (1 : Int32)), .val (.int (0 : Int32)), .val (.int (1 : Int32)), .val (.int (0 : Int32)), .val (.int (1 : Int32))] []))
        refine go (fun _ => XS.iconst X270.here hx rfl (hb hby at_243)) ?_
        show Go _ p e below s _ _ _ (T270.setTop (mkF m 244 #[.val (.int p1), .val (.int p2), .val (.int p3), .val (.ref b249), .val (.ref b251), .val (.ref b252), .val (.ref b254), .val (.ref b256), .val (.int (1 : Int32)), .val (.int (1 : Int32)), .val (.int (0 : Int32)), .val (.int (1 : Int32)), .val (.int (0 : Int32)), .val (.int (1 : Int32))] [(.int (1 : Int32))]))
        refine go (fun _ => XS.goto X270.here hx rfl (pc0 := 244) (pc' := 248) rfl (hb hby at_244) (by decide) (by decide)) ?_
        show Go _ p e below s _ _ _ (T270.setTop (mkF m 248 #[.val (.int p1), .val (.int p2), .val (.int p3), .val (.ref b249), .val (.ref b251), .val (.ref b252), .val (.ref b254), .val (.ref b256), .val (.int (1 : Int32)), .val (.int (1 : Int32)), .val (.int (0 : Int32)), .val (.int (1 : Int32)), .val (.int (0 : Int32)), .val (.int (1 : Int32))] [(.int (1 : Int32))]))
        refine goRetW X270 hS255 (by rw [e270]; exact HK269) hx Bd.notSynchronized Bd.returns rfl (Or.inl ⟨rfl, Or.inr (Or.inl rfl), _, rfl⟩) (hb hby at_248) (by decide) (by decide) (by rw [e270]; refine ⟨rfl, N270⟩)
      · refine go (fun _ => XS.ifNo X264.here hx rfl (hb hby at_113) rfl ((if0 _ _).trans (feq hc113_268).1)) ?_
        show Go _ p e below s _ _ _ (T264.setTop (mkF m 116 #[.val (.int p1), .val (.int p2), .val (.int p3), .val (.ref b249), .val (.ref b251), .val (.ref b252), .val (.ref b254), .val (.ref b256), .val (.int (1 : Int32)), .val (.int (1 : Int32)), .val (.int (0 : Int32)), .val (.int (1 : Int32)), .unset, .unset] []))
        refine go (fun _ => XS.iconst X264.here hx rfl (hb hby at_116)) ?_
        show Go _ p e below s _ _ _ (T264.setTop (mkF m 117 #[.val (.int p1), .val (.int p2), .val (.int p3), .val (.ref b249), .val (.ref b251), .val (.ref b252), .val (.ref b254), .val (.ref b256), .val (.int (1 : Int32)), .val (.int (1 : Int32)), .val (.int (0 : Int32)), .val (.int (1 : Int32)), .unset, .unset] [(.int (1 : Int32))]))
        refine go (fun _ => XS.goto X264.here hx rfl (pc0 := 117) (pc' := 121) rfl (hb hby at_117) (by decide) (by decide)) ?_
        show Go _ p e below s _ _ _ (T264.setTop (mkF m 121 #[.val (.int p1), .val (.int p2), .val (.int p3), .val (.ref b249), .val (.ref b251), .val (.ref b252), .val (.ref b254), .val (.ref b256), .val (.int (1 : Int32)), .val (.int (1 : Int32)), .val (.int (0 : Int32)), .val (.int (1 : Int32)), .unset, .unset] [(.int (1 : Int32))]))
        refine go (fun _ => XS.istore X264.here hx rfl (hb hby at_121) rfl (l' := #[.val (.int p1), .val (.int p2), .val (.int p3), .val (.ref b249), .val (.ref b251), .val (.ref b252), .val (.ref b254), .val (.ref b256), .val (.int (1 : Int32)), .val (.int (1 : Int32)), .val (.int (0 : Int32)), .val (.int (1 : Int32)), .val (.int (1 : Int32)), .unset]) rfl) ?_
        show Go _ p e below s _ _ _ (T264.setTop (mkF m 123 #[.val (.int p1), .val (.int p2), .val (.int p3), .val (.ref b249), .val (.ref b251), .val (.ref b252), .val (.ref b254), .val (.ref b256), .val (.int (1 : Int32)), .val (.int (1 : Int32)), .val (.int (0 : Int32)), .val (.int (1 : Int32)), .val (.int (1 : Int32)), .unset] []))
        refine go (fun _ => XS.iload X264.here hx rfl (hb hby at_123) rfl) ?_
        show Go _ p e below s _ _ _ (T264.setTop (mkF m 125 #[.val (.int p1), .val (.int p2), .val (.int p3), .val (.ref b249), .val (.ref b251), .val (.ref b252), .val (.ref b254), .val (.ref b256), .val (.int (1 : Int32)), .val (.int (1 : Int32)), .val (.int (0 : Int32)), .val (.int (1 : Int32)), .val (.int (1 : Int32)), .unset] [(.int (1 : Int32))]))
        refine go (fun _ => XS.iconst X264.here hx rfl (hb hby at_125)) ?_
        show Go _ p e below s _ _ _ (T264.setTop (mkF m 126 #[.val (.int p1), .val (.int p2), .val (.int p3), .val (.ref b249), .val (.ref b251), .val (.ref b252), .val (.ref b254), .val (.ref b256), .val (.int (1 : Int32)), .val (.int (1 : Int32)), .val (.int (0 : Int32)), .val (.int (1 : Int32)), .val (.int (1 : Int32)), .unset] [(.int (1 : Int32)), (.int (1 : Int32))]))
        refine go (fun _ => XS.icmpNo X264.here hx rfl (hb hby at_126) rfl (teq (rfl : (1 : Int32) = (1 : Int32))).2) ?_
        show Go _ p e below s _ _ _ (T264.setTop (mkF m 129 #[.val (.int p1), .val (.int p2), .val (.int p3), .val (.ref b249), .val (.ref b251), .val (.ref b252), .val (.ref b254), .val (.ref b256), .val (.int (1 : Int32)), .val (.int (1 : Int32)), .val (.int (0 : Int32)), .val (.int (1 : Int32)), .val (.int (1 : Int32)), .unset] []))
        refine go (fun _ => XS.iload X264.here hx rfl (hb hby at_129) rfl) ?_
        show Go _ p e below s _ _ _ (T264.setTop (mkF m 131 #[.val (.int p1), .val (.int p2), .val (.int p3), .val (.ref b249), .val (.ref b251), .val (.ref b252), .val (.ref b254), .val (.ref b256), .val (.int (1 : Int32)), .val (.int (1 : Int32)), .val (.int (0 : Int32)), .val (.int (1 : Int32)), .val (.int (1 : Int32)), .unset] [(.int (1 : Int32))]))
        refine go (fun _ => XS.iconst X264.here hx rfl (hb hby at_131)) ?_
        show Go _ p e below s _ _ _ (T264.setTop (mkF m 132 #[.val (.int p1), .val (.int p2), .val (.int p3), .val (.ref b249), .val (.ref b251), .val (.ref b252), .val (.ref b254), .val (.ref b256), .val (.int (1 : Int32)), .val (.int (1 : Int32)), .val (.int (0 : Int32)), .val (.int (1 : Int32)), .val (.int (1 : Int32)), .unset] [(.int (2 : Int32)), (.int (1 : Int32))]))
        refine go (fun _ => XS.icmpYes X264.here hx rfl (pc0 := 132) (pc' := 150) rfl (hb hby at_132) rfl (feq (by decide : ¬ ((1 : Int32) = (2 : Int32)))).2 (by decide) (by decide)) ?_
        show Go _ p e below s _ _ _ (T264.setTop (mkF m 150 #[.val (.int p1), .val (.int p2), .val (.int p3), .val (.ref b249), .val (.ref b251), .val (.ref b252), .val (.ref b254), .val (.ref b256), .val (.int (1 : Int32)), .val (.int (1 : Int32)), .val (.int (0 : Int32)), .val (.int (1 : Int32)), .val (.int (1 : Int32)), .unset] []))
        refine go (fun _ => XS.aload X264.here hx rfl (hb hby at_150) rfl rfl) ?_
        show Go _ p e below s _ _ _ (T264.setTop (mkF m 152 #[.val (.int p1), .val (.int p2), .val (.int p3), .val (.ref b249), .val (.ref b251), .val (.ref b252), .val (.ref b254), .val (.ref b256), .val (.int (1 : Int32)), .val (.int (1 : Int32)), .val (.int (0 : Int32)), .val (.int (1 : Int32)), .val (.int (1 : Int32)), .unset] [(.ref b256)]))
        refine go (fun _ => XS.aload X264.here hx rfl (hb hby at_152) rfl rfl) ?_
        show Go _ p e below s _ _ _ (T264.setTop (mkF m 154 #[.val (.int p1), .val (.int p2), .val (.int p3), .val (.ref b249), .val (.ref b251), .val (.ref b252), .val (.ref b254), .val (.ref b256), .val (.int (1 : Int32)), .val (.int (1 : Int32)), .val (.int (0 : Int32)), .val (.int (1 : Int32)), .val (.int (1 : Int32)), .unset] [(.ref b252), (.ref b256)]))
        obtain ⟨cq271, kq271, q271a, q271b, q271c⟩ := isOf hZ e264 c263_5
        obtain ⟨_, _, ⟨T271, L271, k271, n271⟩, -, X271, ⟨Lc271, hQ271, l271, y271, z271⟩, st271⟩ := X264.virtualBack hx (y := (⟨"com/example/reticule/reticule/engine/ActivationRuns", "remove", "(Lcom/example/reticule/reticule/engine/Activation;)V"⟩ : MethodName)) (z := (⟨"com/example/reticule/reticule/engine/ActivationRuns", "remove", "(Lcom/example/reticule/reticule/engine/Activation;)V"⟩ : MethodName)) hown (mvT hZ (hw _ (List.mem_of_getElem? (i := 161) rfl))) (mvT hZ (hw _ (List.mem_of_getElem? (i := 162) rfl))) (notFace_of_selects (args := #[]) (mvT hZ (hw _ (List.mem_of_getElem? (i := 164) rfl)))) (mvT hZ (hw _ (List.mem_of_getElem? (i := 164) rfl))) (mvT hZ (hw _ (List.mem_of_getElem? (i := 163) rfl))) (by decide) (backOf (W := 0) (rmRM0_1_1 l Z a0 hw [] b256 b252 b257 b263 k263 b252 (T263.heap) n0 ZN263 u263_3 u263_4 u263_8 c263_5 G_b256 u263_1 c263_6 u263_7 u263_5 u263_9 u263_10 u263_11 (Ne.symm (Nat.ne_of_lt lt256_b252_b256)) (Nat.ne_of_lt lt257_b256_b257) (Nat.ne_of_lt lt263_b256_b263) (Nat.ne_of_lt lt257_b252_b257) (Nat.ne_of_lt lt263_b252_b263) (Nat.ne_of_lt lt263_b257_b263)) hZ (hw _ (List.mem_of_getElem? (i := 165) rfl)) (hw _ (List.mem_of_getElem? (i := 72) rfl)) (by decide) (by decide)) q271a q271c (g := (mkF m 154 #[.val (.int p1), .val (.int p2), .val (.int p3), .val (.ref b249), .val (.ref b251), .val (.ref b252), .val (.ref b254), .val (.ref b256), .val (.int (1 : Int32)), .val (.int (1 : Int32)), .val (.int (0 : Int32)), .val (.int (1 : Int32)), .val (.int (1 : Int32)), .unset] [(.ref b252), (.ref b256)])) rfl (by rw [hml]; rfl) (Steps.refl _) (argsL := [(.ref b252)]) (rest := []) (lenOf pd_0_5 rfl) rfl (by show 2 * 0 + _ ≤ _; exact Nat.le_of_eq rfl) (hb hby at_154) (fun _ _ => ⟨rfl, e264, (by decide : 15 + 0 ≤ _), (by decide : 161 + 0 ≤ _)⟩)
        dsimp only [Pt.U, Pt.locs, Pt.cells, Pt.slots] at X271 l271 y271 z271 st271 hQ271
        subst l271 y271 z271
        obtain ⟨rfl, N271q, K271, u271_1, u271_2, u271_3, u271_4, u271_5⟩ := hQ271
        have N271 := Fr.app N264 N271q
        have c271_2 := c263_2.keep K271
        have c271_3 := c263_3.keep K271
        have c271_4 := c263_4.keep K271 (ninS (Nat.ne_of_lt lt256_b254_b256) (ninS (Nat.ne_of_lt lt263_b254_b263) nin0))
        have c271_5 := c263_5.keep K271
        have c271_6 := c263_6.keep K271
        have c271_7 := u263_5.keep K271 (ninS (Nat.ne_of_lt lt256_b252_b256) (ninS (Nat.ne_of_lt lt263_b252_b263) nin0))
        have c271_8 := u263_6.keep K271 (ninS (Ne.symm (Nat.ne_of_lt lt257_b256_b257)) (ninS (Nat.ne_of_lt lt263_b257_b263) nin0))
        have c271_9 := u263_7.keep K271 (ninS (Ne.symm (Nat.ne_of_lt lt257_b256_b257)) (ninS (Nat.ne_of_lt lt263_b257_b263) nin0))
        have c271_10 := u263_8.keep K271 (ninS (Ne.symm (Nat.ne_of_lt lt257_b256_b257)) (ninS (Nat.ne_of_lt lt263_b257_b263) nin0))
        have c271_11 := u263_9.keep K271
        have KK271 : Keep h0 T271.heap [] := KK263.trans K271 (allS (P := fun x => x ∈ [] ∨ h0.size ≤ x) (Or.inr SZ_b256) (allS (P := fun x => x ∈ [] ∨ h0.size ≤ x) (Or.inr SZ_b263) all0))
        have ZN271 : n0 ≤ T271.heap.size := Nat.le_trans ZN263 K271.1
        have HK271 : T255.heap.size ≤ T271.heap.size := Nat.le_trans HK263 K271.1
        have OL271 := OL263.keep K271 (allS G_b256 (allS u263_1 all0))
        refine goT st271 ?_
        show Go _ p e below s _ _ _ (T271.setTop (mkF m 157 #[.val (.int p1), .val (.int p2), .val (.int p3), .val (.ref b249), .val (.ref b251), .val (.ref b252), .val (.ref b254), .val (.ref b256), .val (.int (1 : Int32)), .val (.int (1 : Int32)), .val (.int (0 : Int32)), .val (.int (1 : Int32)), .val (.int (1 : Int32)), .unset] []))
        refine go (fun _ => XS.iload X271.here hx rfl (hb hby at_157) rfl) ?_
        show Go _ p e below s _ _ _ (T271.setTop (mkF m 159 #[.val (.int p1), .val (.int p2), .val (.int p3), .val (.ref b249), .val (.ref b251), .val (.ref b252), .val (.ref b254), .val (.ref b256), .val (.int (1 : Int32)), .val (.int (1 : Int32)), .val (.int (0 : Int32)), .val (.int (1 : Int32)), .val (.int (1 : Int32)), .unset] [(.int (1 : Int32))]))
        refine go (fun _ => XS.iconst X271.here hx rfl (hb hby at_159)) ?_
        show Go _ p e below s _ _ _ (T271.setTop (mkF m 160 #[.val (.int p1), .val (.int p2), .val (.int p3), .val (.ref b249), .val (.ref b251), .val (.ref b252), .val (.ref b254), .val (.ref b256), .val (.int (1 : Int32)), .val (.int (1 : Int32)), .val (.int (0 : Int32)), .val (.int (1 : Int32)), .val (.int (1 : Int32)), .unset] [(.int (2 : Int32)), (.int (1 : Int32))]))
        refine go (fun _ => XS.icmpYes X271.here hx rfl (pc0 := 160) (pc' := 199) rfl (hb hby at_160) rfl (feq (by decide : ¬ ((1 : Int32) = (2 : Int32)))).2 (by decide) (by decide)) ?_
        show Go _ p e below s _ _ _ (T271.setTop (mkF m 199 #[.val (.int p1), .val (.int p2), .val (.int p3), .val (.ref b249), .val (.ref b251), .val (.ref b252), .val (.ref b254), .val (.ref b256), .val (.int (1 : Int32)), .val (.int (1 : Int32)), .val (.int (0 : Int32)), .val (.int (1 : Int32)), .val (.int (1 : Int32)), .unset] []))
        refine go (fun _ => XS.aload X271.here hx rfl (hb hby at_199) rfl rfl) ?_
        show Go _ p e below s _ _ _ (T271.setTop (mkF m 201 #[.val (.int p1), .val (.int p2), .val (.int p3), .val (.ref b249), .val (.ref b251), .val (.ref b252), .val (.ref b254), .val (.ref b256), .val (.int (1 : Int32)), .val (.int (1 : Int32)), .val (.int (0 : Int32)), .val (.int (1 : Int32)), .val (.int (1 : Int32)), .unset] [(.ref b256)]))
        obtain ⟨cq272, kq272, q272a, q272b, q272c⟩ := isOf hZ rfl c271_5
        obtain ⟨_, _, ⟨T272, L272, k272, n272⟩, -, X272, ⟨Lc272, hQ272, l272, y272, z272⟩, st272⟩ := X271.virtualBack hx (y := (⟨"com/example/reticule/reticule/engine/ActivationRuns", "isEmpty", "()Z"⟩ : MethodName)) (z := (⟨"com/example/reticule/reticule/engine/ActivationRuns", "isEmpty", "()Z"⟩ : MethodName)) hown (mvT hZ (hw _ (List.mem_of_getElem? (i := 103) rfl))) (mvT hZ (hw _ (List.mem_of_getElem? (i := 104) rfl))) (notFace_of_selects (args := #[]) (mvT hZ (hw _ (List.mem_of_getElem? (i := 106) rfl)))) (mvT hZ (hw _ (List.mem_of_getElem? (i := 106) rfl))) (mvT hZ (hw _ (List.mem_of_getElem? (i := 105) rfl))) (by decide) (backOf (W := 0) (rmE0 l Z a0 hw [] b256 (T271.heap) n0 ZN271 u271_2) hZ (hw _ (List.mem_of_getElem? (i := 107) rfl)) (hw _ (List.mem_of_getElem? (i := 72) rfl)) (by decide) (by decide)) q272a q272c (g := (mkF m 201 #[.val (.int p1), .val (.int p2), .val (.int p3), .val (.ref b249), .val (.ref b251), .val (.ref b252), .val (.ref b254), .val (.ref b256), .val (.int (1 : Int32)), .val (.int (1 : Int32)), .val (.int (0 : Int32)), .val (.int (1 : Int32)), .val (.int (1 : Int32)), .unset] [(.ref b256)])) rfl (by rw [hml]; rfl) (Steps.refl _) (argsL := []) (rest := []) (lenOf pd_0_4 rfl) rfl (by show 2 * 0 + _ ≤ _; exact Nat.le_of_eq rfl) (hb hby at_201) (fun _ _ => ⟨rfl, rfl, (by decide : 15 + 0 ≤ _), (by decide : 161 + 0 ≤ _)⟩)
        dsimp only [Pt.U, Pt.locs, Pt.cells, Pt.slots] at X272 l272 y272 z272 st272 hQ272
        subst l272 y272 z272
        obtain ⟨rfl, N272q, e272⟩ := hQ272
        have N272 := Fr.app N271 N272q
        refine goT st272 ?_
        show Go _ p e below s _ _ _ (T272.setTop (mkF m 204 #[.val (.int p1), .val (.int p2), .val (.int p3), .val (.ref b249), .val (.ref b251), .val (.ref b252), .val (.ref b254), .val (.ref b256), .val (.int (1 : Int32)), .val (.int (1 : Int32)), .val (.int (0 : Int32)), .val (.int (1 : Int32)), .val (.int (1 : Int32)), .unset] [(.int (1 : Int32))]))
        refine go (fun _ => XS.istore X272.here hx rfl (hb hby at_204) rfl (l' := #[.val (.int p1), .val (.int p2), .val (.int p3), .val (.ref b249), .val (.ref b251), .val (.ref b252), .val (.ref b254), .val (.ref b256), .val (.int (1 : Int32)), .val (.int (1 : Int32)), .val (.int (0 : Int32)), .val (.int (1 : Int32)), .val (.int (1 : Int32)), .val (.int (1 : Int32))]) rfl) ?_
        show Go _ p e below s _ _ _ (T272.setTop (mkF m 206 #[.val (.int p1), .val (.int p2), .val (.int p3), .val (.ref b249), .val (.ref b251), .val (.ref b252), .val (.ref b254), .val (.ref b256), .val (.int (1 : Int32)), .val (.int (1 : Int32)), .val (.int (0 : Int32)), .val (.int (1 : Int32)), .val (.int (1 : Int32)), .val (.int (1 : Int32))] []))
        refine go (fun _ => XS.iload X272.here hx rfl (hb hby at_206) rfl) ?_
        show Go _ p e below s _ _ _ (T272.setTop (mkF m 208 #[.val (.int p1), .val (.int p2), .val (.int p3), .val (.ref b249), .val (.ref b251), .val (.ref b252), .val (.ref b254), .val (.ref b256), .val (.int (1 : Int32)), .val (.int (1 : Int32)), .val (.int (0 : Int32)), .val (.int (1 : Int32)), .val (.int (1 : Int32)), .val (.int (1 : Int32))] [(.int (1 : Int32))]))
        refine go (fun _ => XS.ifNo X272.here hx rfl (hb hby at_208) rfl ((if0 _ _).trans (feq (by decide : ¬ ((1 : Int32) = (0 : Int32)))).1)) ?_
        show Go _ p e below s _ _ _ (T272.setTop (mkF m 211 #[.val (.int p1), .val (.int p2), .val (.int p3), .val (.ref b249), .val (.ref b251), .val (.ref b252), .val (.ref b254), .val (.ref b256), .val (.int (1 : Int32)), .val (.int (1 : Int32)), .val (.int (0 : Int32)), .val (.int (1 : Int32)), .val (.int (1 : Int32)), .val (.int (1 : Int32))] []))
        refine go (fun _ => XS.iload X272.here hx rfl (hb hby at_211) rfl) ?_
        show Go _ p e below s _ _ _ (T272.setTop (mkF m 213 #[.val (.int p1), .val (.int p2), .val (.int p3), .val (.ref b249), .val (.ref b251), .val (.ref b252), .val (.ref b254), .val (.ref b256), .val (.int (1 : Int32)), .val (.int (1 : Int32)), .val (.int (0 : Int32)), .val (.int (1 : Int32)), .val (.int (1 : Int32)), .val (.int (1 : Int32))] [(.int (0 : Int32))]))
        refine go (fun _ => XS.iload X272.here hx rfl (hb hby at_213) rfl) ?_
        show Go _ p e below s _ _ _ (T272.setTop (mkF m 215 #[.val (.int p1), .val (.int p2), .val (.int p3), .val (.ref b249), .val (.ref b251), .val (.ref b252), .val (.ref b254), .val (.ref b256), .val (.int (1 : Int32)), .val (.int (1 : Int32)), .val (.int (0 : Int32)), .val (.int (1 : Int32)), .val (.int (1 : Int32)), .val (.int (1 : Int32))] [(.int (1 : Int32)), (.int (0 : Int32))]))
        refine go (fun _ => XS.ifYes X272.here hx rfl (pc0 := 215) (pc' := 222) rfl (hb hby at_215) rfl ((if0 _ _).trans (feq (by decide : ¬ ((1 : Int32) = (0 : Int32)))).2) (by decide) (by decide)) ?_
        show Go _ p e below s _ _ _ (T272.setTop (mkF m 222 #[.val (.int p1), .val (.int p2), .val (.int p3), .val (.ref b249), .val (.ref b251), .val (.ref b252), .val (.ref b254), .val (.ref b256), .val (.int (1 : Int32)), .val (.int (1 : Int32)), .val (.int (0 : Int32)), .val (.int (1 : Int32)), .val (.int (1 : Int32)), .val (.int (1 : Int32))] [(.int (0 : Int32))]))
        refine go (fun _ => XS.iconst X272.here hx rfl (hb hby at_222)) ?_
        show Go _ p e below s _ _ _ (T272.setTop (mkF m 223 #[.val (.int p1), .val (.int p2), .val (.int p3), .val (.ref b249), .val (.ref b251), .val (.ref b252), .val (.ref b254), .val (.ref b256), .val (.int (1 : Int32)), .val (.int (1 : Int32)), .val (.int (0 : Int32)), .val (.int (1 : Int32)), .val (.int (1 : Int32)), .val (.int (1 : Int32))] [(.int (0 : Int32)), (.int (0 : Int32))]))
        refine go (fun _ => XS.icmpNo X272.here hx rfl (hb hby at_223) rfl (teq (rfl : (0 : Int32) = (0 : Int32))).2) ?_
        show Go _ p e below s _ _ _ (T272.setTop (mkF m 226 #[.val (.int p1), .val (.int p2), .val (.int p3), .val (.ref b249), .val (.ref b251), .val (.ref b252), .val (.ref b254), .val (.ref b256), .val (.int (1 : Int32)), .val (.int (1 : Int32)), .val (.int (0 : Int32)), .val (.int (1 : Int32)), .val (.int (1 : Int32)), .val (.int (1 : Int32))] []))
        refine go (fun _ => XS.iload X272.here hx rfl (hb hby at_226) rfl) ?_
        show Go _ p e below s _ _ _ (T272.setTop (mkF m 228 #[.val (.int p1), .val (.int p2), .val (.int p3), .val (.ref b249), .val (.ref b251), .val (.ref b252), .val (.ref b254), .val (.ref b256), .val (.int (1 : Int32)), .val (.int (1 : Int32)), .val (.int (0 : Int32)), .val (.int (1 : Int32)), .val (.int (1 : Int32)), .val (.int (1 : Int32))] [(.int (1 : Int32))]))
        refine go (fun _ => XS.iload X272.here hx rfl (hb hby at_228) rfl) ?_
        show Go _ p e below s _ _ _ (T272.setTop (mkF m 230 #[.val (.int p1), .val (.int p2), .val (.int p3), .val (.ref b249), .val (.ref b251), .val (.ref b252), .val (.ref b254), .val (.ref b256), .val (.int (1 : Int32)), .val (.int (1 : Int32)), .val (.int (0 : Int32)), .val (.int (1 : Int32)), .val (.int (1 : Int32)), .val (.int (1 : Int32))] [(.int (1 : Int32)), (.int (1 : Int32))]))
        refine go (fun _ => XS.iload X272.here hx rfl (hb hby at_230) rfl) ?_
        show Go _ p e below s _ _ _ (T272.setTop (mkF m 232 #[.val (.int p1), .val (.int p2), .val (.int p3), .val (.ref b249), .val (.ref b251), .val (.ref b252), .val (.ref b254), .val (.ref b256), .val (.int (1 : Int32)), .val (.int (1 : Int32)), .val (.int (0 : Int32)), .val (.int (1 : Int32)), .val (.int (1 : Int32)), .val (.int (1 : Int32))] [(.int (1 : Int32)), (.int (1 : Int32)), (.int (1 : Int32))]))
        refine go (fun _ => XS.icmpNo X272.here hx rfl (hb hby at_232) rfl (teq (rfl : (1 : Int32) = (1 : Int32))).2) ?_
        show Go _ p e below s _ _ _ (T272.setTop (mkF m 235 #[.val (.int p1), .val (.int p2), .val (.int p3), .val (.ref b249), .val (.ref b251), .val (.ref b252), .val (.ref b254), .val (.ref b256), .val (.int (1 : Int32)), .val (.int (1 : Int32)), .val (.int (0 : Int32)), .val (.int (1 : Int32)), .val (.int (1 : Int32)), .val (.int (1 : Int32))] [(.int (1 : Int32))]))
        refine go (fun _ => XS.iconst X272.here hx rfl (hb hby at_235)) ?_
        show Go _ p e below s _ _ _ (T272.setTop (mkF m 236 #[.val (.int p1), .val (.int p2), .val (.int p3), .val (.ref b249), .val (.ref b251), .val (.ref b252), .val (.ref b254), .val (.ref b256), .val (.int (1 : Int32)), .val (.int (1 : Int32)), .val (.int (0 : Int32)), .val (.int (1 : Int32)), .val (.int (1 : Int32)), .val (.int (1 : Int32))] [(.int (1 : Int32)), (.int (1 : Int32))]))
        refine go (fun _ => XS.goto X272.here hx rfl (pc0 := 236) (pc' := 240) rfl (hb hby at_236) (by decide) (by decide)) ?_
        show Go _ p e below s _ _ _ (T272.setTop (mkF m 240 #[.val (.int p1), .val (.int p2), .val (.int p3), .val (.ref b249), .val (.ref b251), .val (.ref b252), .val (.ref b254), .val (.ref b256), .val (.int (1 : Int32)), .val (.int (1 : Int32)), .val (.int (0 : Int32)), .val (.int (1 : Int32)), .val (.int (1 : Int32)), .val (.int (1 : Int32))] [(.int (1 : Int32)), (.int (1 : Int32))]))
        refine go (fun _ => XS.icmpNo X272.here hx rfl (hb hby at_240) rfl (teq (rfl : (1 : Int32) = (1 : Int32))).2) ?_
        show Go _ p e below s _ _ _ (T272.setTop (mkF m 243 #[.val (.int p1), .val (.int p2), .val (.int p3), .val (.ref b249), .val (.ref b251), .val (.ref b252), .val (.ref b254), .val (.ref b256), .val (.int (1 : Int32)), .val (.int (1 : Int32)), .val (.int (0 : Int32)), .val (.int (1 : Int32)), .val (.int (1 : Int32)), .val (.int (1 : Int32))] []))
        refine go (fun _ => XS.iconst X272.here hx rfl (hb hby at_243)) ?_
        show Go _ p e below s _ _ _ (T272.setTop (mkF m 244 #[.val (.int p1), .val (.int p2), .val (.int p3), .val (.ref b249), .val (.ref b251), .val (.ref b252), .val (.ref b254), .val (.ref b256), .val (.int (1 : Int32)), .val (.int (1 : Int32)), .val (.int (0 : Int32)), .val (.int (1 : Int32)), .val (.int (1 : Int32)), .val (.int (1 : Int32))] [(.int (1 : Int32))]))
        refine go (fun _ => XS.goto X272.here hx rfl (pc0 := 244) (pc' := 248) rfl (hb hby at_244) (by decide) (by decide)) ?_
        show Go _ p e below s _ _ _ (T272.setTop (mkF m 248 #[.val (.int p1), .val (.int p2), .val (.int p3), .val (.ref b249), .val (.ref b251), .val (.ref b252), .val (.ref b254), .val (.ref b256), .val (.int (1 : Int32)), .val (.int (1 : Int32)), .val (.int (0 : Int32)), .val (.int (1 : Int32)), .val (.int (1 : Int32)), .val (.int (1 : Int32))] [(.int (1 : Int32))]))
        refine goRetW X272 hS255 (by rw [e272]; exact HK271) hx Bd.notSynchronized Bd.returns rfl (Or.inl ⟨rfl, Or.inr (Or.inl rfl), _, rfl⟩) (hb hby at_248) (by decide) (by decide) (by rw [e272]; refine ⟨rfl, N272⟩)
  · show Go _ p e below s _ _ _ (T258.setTop (mkF m 66 #[.val (.int p1), .val (.int p2), .val (.int p3), .val (.ref b249), .val (.ref b251), .val (.ref b252), .val (.ref b254), .val (.ref b256), .val (.int (1 : Int32)), .val (.int (2 : Int32)), .unset, .unset, .unset, .unset] []))
    refine go (fun _ => XS.iload X258.here hx rfl (hb hby at_66) rfl) ?_
    show Go _ p e below s _ _ _ (T258.setTop (mkF m 68 #[.val (.int p1), .val (.int p2), .val (.int p3), .val (.ref b249), .val (.ref b251), .val (.ref b252), .val (.ref b254), .val (.ref b256), .val (.int (1 : Int32)), .val (.int (2 : Int32)), .unset, .unset, .unset, .unset] [(.int (2 : Int32))]))
    refine go (fun _ => XS.iconst X258.here hx rfl (hb hby at_68)) ?_
    show Go _ p e below s _ _ _ (T258.setTop (mkF m 69 #[.val (.int p1), .val (.int p2), .val (.int p3), .val (.ref b249), .val (.ref b251), .val (.ref b252), .val (.ref b254), .val (.ref b256), .val (.int (1 : Int32)), .val (.int (2 : Int32)), .unset, .unset, .unset, .unset] [(.int (1 : Int32)), (.int (2 : Int32))]))
    refine go (fun _ => XS.icmpNo X258.here hx rfl (hb hby at_69) rfl (flt (by decide : ¬ ((2 : Int32) < (1 : Int32)))).1) ?_
    show Go _ p e below s _ _ _ (T258.setTop (mkF m 72 #[.val (.int p1), .val (.int p2), .val (.int p3), .val (.ref b249), .val (.ref b251), .val (.ref b252), .val (.ref b254), .val (.ref b256), .val (.int (1 : Int32)), .val (.int (2 : Int32)), .unset, .unset, .unset, .unset] []))
    refine go (fun _ => XS.aload X258.here hx rfl (hb hby at_72) rfl rfl) ?_
    show Go _ p e below s _ _ _ (T258.setTop (mkF m 74 #[.val (.int p1), .val (.int p2), .val (.int p3), .val (.ref b249), .val (.ref b251), .val (.ref b252), .val (.ref b254), .val (.ref b256), .val (.int (1 : Int32)), .val (.int (2 : Int32)), .unset, .unset, .unset, .unset] [(.ref b256)]))
    refine go (fun _ => XS.aload X258.here hx rfl (hb hby at_74) rfl rfl) ?_
    show Go _ p e below s _ _ _ (T258.setTop (mkF m 76 #[.val (.int p1), .val (.int p2), .val (.int p3), .val (.ref b249), .val (.ref b251), .val (.ref b252), .val (.ref b254), .val (.ref b256), .val (.int (1 : Int32)), .val (.int (2 : Int32)), .unset, .unset, .unset, .unset] [(.ref b252), (.ref b256)]))
    obtain ⟨cq273, kq273, q273a, q273b, q273c⟩ := isOf hZ e258 c257_8
    obtain ⟨_, _, ⟨T273, L273, k273, n273⟩, -, X273, ⟨Lc273, hQ273, l273, y273, z273⟩, st273⟩ := X258.virtualBack hx (y := (⟨"com/example/reticule/reticule/engine/ActivationRuns", "add", "(Lcom/example/reticule/reticule/engine/Activation;)V"⟩ : MethodName)) (z := (⟨"com/example/reticule/reticule/engine/ActivationRuns", "add", "(Lcom/example/reticule/reticule/engine/Activation;)V"⟩ : MethodName)) hown (mvT hZ (hw _ (List.mem_of_getElem? (i := 111) rfl))) (mvT hZ (hw _ (List.mem_of_getElem? (i := 112) rfl))) (notFace_of_selects (args := #[]) (mvT hZ (hw _ (List.mem_of_getElem? (i := 114) rfl)))) (mvT hZ (hw _ (List.mem_of_getElem? (i := 114) rfl))) (mvT hZ (hw _ (List.mem_of_getElem? (i := 113) rfl))) (by decide) (backOf (W := 0) (rmRA l Z a0 hw [] b256 b252 b257 (.int (0 : Int32)) d0 kd (T257.heap) n0 ZN257 P0 OL257 u257_7 u257_8 P2 c257_8 G_b256 c257_4 G_b252 u257_3 u257_1 c257_5 (Ne.symm (Nat.ne_of_lt lt256_b252_b256)) (Nat.ne_of_lt lt257_b256_b257) (Nat.ne_of_lt lt257_b252_b257) u257_4 u257_5 u257_6) hZ (hw _ (List.mem_of_getElem? (i := 115) rfl)) (hw _ (List.mem_of_getElem? (i := 72) rfl)) (by decide) (by decide)) q273a q273c (g := (mkF m 76 #[.val (.int p1), .val (.int p2), .val (.int p3), .val (.ref b249), .val (.ref b251), .val (.ref b252), .val (.ref b254), .val (.ref b256), .val (.int (1 : Int32)), .val (.int (2 : Int32)), .unset, .unset, .unset, .unset] [(.ref b252), (.ref b256)])) rfl (by rw [hml]; rfl) (Steps.refl _) (argsL := [(.ref b252)]) (rest := []) (lenOf pd_0_5 rfl) rfl (by show 2 * 0 + _ ≤ _; exact Nat.le_of_eq rfl) (hb hby at_76) (fun _ _ => ⟨rfl, e258, (by decide : 14 + 1 ≤ _), (by decide : 151 + 10 ≤ _)⟩)
    dsimp only [Pt.U, Pt.locs, Pt.cells, Pt.slots] at X273 l273 y273 z273 st273 hQ273
    subst l273 y273 z273
    obtain ⟨b273, k273, rfl, N273q, u273_0, u273_1, K273, u273_3, u273_4, u273_5, u273_6, u273_7, u273_8, u273_9, u273_10, u273_11⟩ := hQ273
    have N273 := Fr.app N258 N273q
    have lt273_b252_b273 : b252 < b273 := Nat.lt_of_lt_of_le c257_4.lt u273_0
    have lt273_b254_b273 : b254 < b273 := Nat.lt_of_lt_of_le c257_6.lt u273_0
    have lt273_b256_b273 : b256 < b273 := Nat.lt_of_lt_of_le c257_8.lt u273_0
    have lt273_b257_b273 : b257 < b273 := Nat.lt_of_lt_of_le u257_3.lt u273_0
    have G_b273 : n0 ≤ b273 := Nat.le_trans ZN257 u273_0
    have SZ_b273 : h0.size ≤ b273 := Nat.le_trans KK257.1 u273_0
    have c273_2 := c257_4.keep K273
    have c273_3 := c257_6.keep K273
    have c273_4 := c257_7.keep K273 (ninS (Nat.ne_of_lt lt256_b254_b256) (ninS (Ne.symm (Nat.ne_of_lt lt254_b252_b254)) (ninS (Nat.ne_of_lt lt257_b254_b257) nin0)))
    have c273_5 := c257_8.keep K273
    have c273_6 := u257_3.keep K273
    have KK273 : Keep h0 T273.heap [] := KK257.trans K273 (allS (P := fun x => x ∈ [] ∨ h0.size ≤ x) (Or.inr SZ_b256) (allS (P := fun x => x ∈ [] ∨ h0.size ≤ x) (Or.inr SZ_b252) (allS (P := fun x => x ∈ [] ∨ h0.size ≤ x) (Or.inr SZ_b257) all0)))
    have ZN273 : n0 ≤ T273.heap.size := Nat.le_trans ZN257 K273.1
    have HK273 : T255.heap.size ≤ T273.heap.size := Nat.le_trans HK257 K273.1
    have OL273 := OL257.keep K273 (allS G_b256 (allS G_b252 (allS u257_1 all0)))
    refine goT st273 ?_
    show Go _ p e below s _ _ _ (T273.setTop (mkF m 79 #[.val (.int p1), .val (.int p2), .val (.int p3), .val (.ref b249), .val (.ref b251), .val (.ref b252), .val (.ref b254), .val (.ref b256), .val (.int (1 : Int32)), .val (.int (2 : Int32)), .unset, .unset, .unset, .unset] []))
    refine go (fun _ => XS.iload X273.here hx rfl (hb hby at_79) rfl) ?_
    show Go _ p e below s _ _ _ (T273.setTop (mkF m 81 #[.val (.int p1), .val (.int p2), .val (.int p3), .val (.ref b249), .val (.ref b251), .val (.ref b252), .val (.ref b254), .val (.ref b256), .val (.int (1 : Int32)), .val (.int (2 : Int32)), .unset, .unset, .unset, .unset] [(.int (2 : Int32))]))
    refine go (fun _ => XS.iconst X273.here hx rfl (hb hby at_81)) ?_
    show Go _ p e below s _ _ _ (T273.setTop (mkF m 82 #[.val (.int p1), .val (.int p2), .val (.int p3), .val (.ref b249), .val (.ref b251), .val (.ref b252), .val (.ref b254), .val (.ref b256), .val (.int (1 : Int32)), .val (.int (2 : Int32)), .unset, .unset, .unset, .unset] [(.int (2 : Int32)), (.int (2 : Int32))]))
    refine go (fun _ => XS.icmpNo X273.here hx rfl (hb hby at_82) rfl (flt (by decide : ¬ ((2 : Int32) < (2 : Int32)))).1) ?_
    show Go _ p e below s _ _ _ (T273.setTop (mkF m 85 #[.val (.int p1), .val (.int p2), .val (.int p3), .val (.ref b249), .val (.ref b251), .val (.ref b252), .val (.ref b254), .val (.ref b256), .val (.int (1 : Int32)), .val (.int (2 : Int32)), .unset, .unset, .unset, .unset] []))
    refine go (fun _ => XS.aload X273.here hx rfl (hb hby at_85) rfl rfl) ?_
    show Go _ p e below s _ _ _ (T273.setTop (mkF m 87 #[.val (.int p1), .val (.int p2), .val (.int p3), .val (.ref b249), .val (.ref b251), .val (.ref b252), .val (.ref b254), .val (.ref b256), .val (.int (1 : Int32)), .val (.int (2 : Int32)), .unset, .unset, .unset, .unset] [(.ref b256)]))
    refine go (fun _ => XS.aload X273.here hx rfl (hb hby at_87) rfl rfl) ?_
    show Go _ p e below s _ _ _ (T273.setTop (mkF m 89 #[.val (.int p1), .val (.int p2), .val (.int p3), .val (.ref b249), .val (.ref b251), .val (.ref b252), .val (.ref b254), .val (.ref b256), .val (.int (1 : Int32)), .val (.int (2 : Int32)), .unset, .unset, .unset, .unset] [(.ref b254), (.ref b256)]))
    obtain ⟨cq274, kq274, q274a, q274b, q274c⟩ := isOf hZ rfl c273_5
    obtain ⟨_, _, ⟨T274, L274, k274, n274⟩, -, X274, ⟨Lc274, hQ274, l274, y274, z274⟩, st274⟩ := X273.virtualBack hx (y := (⟨"com/example/reticule/reticule/engine/ActivationRuns", "add", "(Lcom/example/reticule/reticule/engine/Activation;)V"⟩ : MethodName)) (z := (⟨"com/example/reticule/reticule/engine/ActivationRuns", "add", "(Lcom/example/reticule/reticule/engine/Activation;)V"⟩ : MethodName)) hown (mvT hZ (hw _ (List.mem_of_getElem? (i := 111) rfl))) (mvT hZ (hw _ (List.mem_of_getElem? (i := 112) rfl))) (notFace_of_selects (args := #[]) (mvT hZ (hw _ (List.mem_of_getElem? (i := 114) rfl)))) (mvT hZ (hw _ (List.mem_of_getElem? (i := 114) rfl))) (mvT hZ (hw _ (List.mem_of_getElem? (i := 113) rfl))) (by decide) (backOf (W := 0) (rmRB l Z a0 hw [] b256 b254 b257 (.int (0 : Int32)) b273 k273 b252 (T273.heap) n0 ZN273 u273_3 u273_4 u273_6 u273_7 u273_8 c273_5 G_b256 c273_3 G_b254 c273_6 u257_1 u273_1 c273_4 (Ne.symm (Nat.ne_of_lt lt256_b254_b256)) (Nat.ne_of_lt lt257_b256_b257) (Nat.ne_of_lt lt273_b256_b273) (Nat.ne_of_lt lt257_b254_b257) (Nat.ne_of_lt lt273_b254_b273) (Nat.ne_of_lt lt273_b257_b273) u273_9 u273_10 u273_11) hZ (hw _ (List.mem_of_getElem? (i := 115) rfl)) (hw _ (List.mem_of_getElem? (i := 72) rfl)) (by decide) (by decide)) q274a q274c (g := (mkF m 89 #[.val (.int p1), .val (.int p2), .val (.int p3), .val (.ref b249), .val (.ref b251), .val (.ref b252), .val (.ref b254), .val (.ref b256), .val (.int (1 : Int32)), .val (.int (2 : Int32)), .unset, .unset, .unset, .unset] [(.ref b254), (.ref b256)])) rfl (by rw [hml]; rfl) (Steps.refl _) (argsL := [(.ref b254)]) (rest := []) (lenOf pd_0_5 rfl) rfl (by show 2 * 0 + _ ≤ _; exact Nat.le_of_eq rfl) (hb hby at_89) (fun _ _ => ⟨rfl, rfl, (by decide : 15 + 0 ≤ _), (by decide : 161 + 0 ≤ _)⟩)
    dsimp only [Pt.U, Pt.locs, Pt.cells, Pt.slots] at X274 l274 y274 z274 st274 hQ274
    subst l274 y274 z274
    obtain ⟨rfl, N274q, K274, u274_1, u274_2, u274_3, u274_4, u274_5, u274_6, u274_7, u274_8, u274_9⟩ := hQ274
    have N274 := Fr.app N273 N274q
    have c274_2 := c273_2.keep K274
    have c274_3 := c273_3.keep K274
    have c274_4 := c273_5.keep K274
    have c274_5 := c273_6.keep K274
    have c274_6 := u273_5.keep K274 (ninS (Nat.ne_of_lt lt256_b252_b256) (ninS (Nat.ne_of_lt lt254_b252_b254) (ninS (Nat.ne_of_lt lt257_b252_b257) (ninS (Nat.ne_of_lt lt273_b252_b273) nin0))))
    have c274_7 := u273_9.keep K274
    have KK274 : Keep h0 T274.heap [] := KK273.trans K274 (allS (P := fun x => x ∈ [] ∨ h0.size ≤ x) (Or.inr SZ_b256) (allS (P := fun x => x ∈ [] ∨ h0.size ≤ x) (Or.inr SZ_b254) (allS (P := fun x => x ∈ [] ∨ h0.size ≤ x) (Or.inr SZ_b257) (allS (P := fun x => x ∈ [] ∨ h0.size ≤ x) (Or.inr SZ_b273) all0))))
    have ZN274 : n0 ≤ T274.heap.size := Nat.le_trans ZN273 K274.1
    have HK274 : T255.heap.size ≤ T274.heap.size := Nat.le_trans HK273 K274.1
    have OL274 := OL273.keep K274 (allS G_b256 (allS G_b254 (allS u257_1 (allS u273_1 all0))))
    refine goT st274 ?_
    show Go _ p e below s _ _ _ (T274.setTop (mkF m 92 #[.val (.int p1), .val (.int p2), .val (.int p3), .val (.ref b249), .val (.ref b251), .val (.ref b252), .val (.ref b254), .val (.ref b256), .val (.int (1 : Int32)), .val (.int (2 : Int32)), .unset, .unset, .unset, .unset] []))
    refine go (fun _ => XS.aload X274.here hx rfl (hb hby at_92) rfl rfl) ?_
    show Go _ p e below s _ _ _ (T274.setTop (mkF m 94 #[.val (.int p1), .val (.int p2), .val (.int p3), .val (.ref b249), .val (.ref b251), .val (.ref b252), .val (.ref b254), .val (.ref b256), .val (.int (1 : Int32)), .val (.int (2 : Int32)), .unset, .unset, .unset, .unset] [(.ref b256)]))
    obtain ⟨cq275, kq275, q275a, q275b, q275c⟩ := isOf hZ rfl c274_4
    obtain ⟨_, _, ⟨T275, L275, k275, n275⟩, -, X275, ⟨Lc275, hQ275, l275, y275, z275⟩, st275⟩ := X274.virtualBack hx (y := (⟨"com/example/reticule/reticule/engine/ActivationRuns", "isEmpty", "()Z"⟩ : MethodName)) (z := (⟨"com/example/reticule/reticule/engine/ActivationRuns", "isEmpty", "()Z"⟩ : MethodName)) hown (mvT hZ (hw _ (List.mem_of_getElem? (i := 103) rfl))) (mvT hZ (hw _ (List.mem_of_getElem? (i := 104) rfl))) (notFace_of_selects (args := #[]) (mvT hZ (hw _ (List.mem_of_getElem? (i := 106) rfl)))) (mvT hZ (hw _ (List.mem_of_getElem? (i := 106) rfl))) (mvT hZ (hw _ (List.mem_of_getElem? (i := 105) rfl))) (by decide) (backOf (W := 0) (rmE2 l Z a0 hw [] b256 (T274.heap) n0 ZN274 u274_2) hZ (hw _ (List.mem_of_getElem? (i := 107) rfl)) (hw _ (List.mem_of_getElem? (i := 72) rfl)) (by decide) (by decide)) q275a q275c (g := (mkF m 94 #[.val (.int p1), .val (.int p2), .val (.int p3), .val (.ref b249), .val (.ref b251), .val (.ref b252), .val (.ref b254), .val (.ref b256), .val (.int (1 : Int32)), .val (.int (2 : Int32)), .unset, .unset, .unset, .unset] [(.ref b256)])) rfl (by rw [hml]; rfl) (Steps.refl _) (argsL := []) (rest := []) (lenOf pd_0_4 rfl) rfl (by show 2 * 0 + _ ≤ _; exact Nat.le_of_eq rfl) (hb hby at_94) (fun _ _ => ⟨rfl, rfl, (by decide : 15 + 0 ≤ _), (by decide : 161 + 0 ≤ _)⟩)
    dsimp only [Pt.U, Pt.locs, Pt.cells, Pt.slots] at X275 l275 y275 z275 st275 hQ275
    subst l275 y275 z275
    obtain ⟨rfl, N275q, e275⟩ := hQ275
    have N275 := Fr.app N274 N275q
    refine goT st275 ?_
    show Go _ p e below s _ _ _ (T275.setTop (mkF m 97 #[.val (.int p1), .val (.int p2), .val (.int p3), .val (.ref b249), .val (.ref b251), .val (.ref b252), .val (.ref b254), .val (.ref b256), .val (.int (1 : Int32)), .val (.int (2 : Int32)), .unset, .unset, .unset, .unset] [(.int (0 : Int32))]))
    refine go (fun _ => XS.istore X275.here hx rfl (hb hby at_97) rfl (l' := #[.val (.int p1), .val (.int p2), .val (.int p3), .val (.ref b249), .val (.ref b251), .val (.ref b252), .val (.ref b254), .val (.ref b256), .val (.int (1 : Int32)), .val (.int (2 : Int32)), .val (.int (0 : Int32)), .unset, .unset, .unset]) rfl) ?_
    show Go _ p e below s _ _ _ (T275.setTop (mkF m 99 #[.val (.int p1), .val (.int p2), .val (.int p3), .val (.ref b249), .val (.ref b251), .val (.ref b252), .val (.ref b254), .val (.ref b256), .val (.int (1 : Int32)), .val (.int (2 : Int32)), .val (.int (0 : Int32)), .unset, .unset, .unset] []))
    refine go (fun _ => XS.iloadN X275.here hx rfl (hb hby at_99) rfl) ?_
    show Go _ p e below s _ _ _ (T275.setTop (mkF m 100 #[.val (.int p1), .val (.int p2), .val (.int p3), .val (.ref b249), .val (.ref b251), .val (.ref b252), .val (.ref b254), .val (.ref b256), .val (.int (1 : Int32)), .val (.int (2 : Int32)), .val (.int (0 : Int32)), .unset, .unset, .unset] [(.int p2)]))
    refine go (X275.ldcInt hx hown (mvT hZ (hw _ (List.mem_of_getElem? (i := 110) rfl))) (g := (mkF m 100 #[.val (.int p1), .val (.int p2), .val (.int p3), .val (.ref b249), .val (.ref b251), .val (.ref b252), .val (.ref b254), .val (.ref b256), .val (.int (1 : Int32)), .val (.int (2 : Int32)), .val (.int (0 : Int32)), .unset, .unset, .unset] [(.int p2)])) rfl (hb hby at_100)) ?_
    show Go _ p e below s _ _ _ (T275.setTop (mkF m 102 #[.val (.int p1), .val (.int p2), .val (.int p3), .val (.ref b249), .val (.ref b251), .val (.ref b252), .val (.ref b254), .val (.ref b256), .val (.int (1 : Int32)), .val (.int (2 : Int32)), .val (.int (0 : Int32)), .unset, .unset, .unset] [(.int (2147483647 : Int32)), (.int p2)]))
    refine go (fun _ => XS.iand X275.here hx rfl (hb hby at_102) rfl) ?_
    show Go _ p e below s _ _ _ (T275.setTop (mkF m 103 #[.val (.int p1), .val (.int p2), .val (.int p3), .val (.ref b249), .val (.ref b251), .val (.ref b252), .val (.ref b254), .val (.ref b256), .val (.int (1 : Int32)), .val (.int (2 : Int32)), .val (.int (0 : Int32)), .unset, .unset, .unset] [(.int (p2 &&& (2147483647 : Int32)))]))
    refine go (fun _ => XS.iload X275.here hx rfl (hb hby at_103) rfl) ?_
    show Go _ p e below s _ _ _ (T275.setTop (mkF m 105 #[.val (.int p1), .val (.int p2), .val (.int p3), .val (.ref b249), .val (.ref b251), .val (.ref b252), .val (.ref b254), .val (.ref b256), .val (.int (1 : Int32)), .val (.int (2 : Int32)), .val (.int (0 : Int32)), .unset, .unset, .unset] [(.int (2 : Int32)), (.int (p2 &&& (2147483647 : Int32)))]))
    refine go (fun _ => XS.iconst X275.here hx rfl (hb hby at_105)) ?_
    show Go _ p e below s _ _ _ (T275.setTop (mkF m 106 #[.val (.int p1), .val (.int p2), .val (.int p3), .val (.ref b249), .val (.ref b251), .val (.ref b252), .val (.ref b254), .val (.ref b256), .val (.int (1 : Int32)), .val (.int (2 : Int32)), .val (.int (0 : Int32)), .unset, .unset, .unset] [(.int (1 : Int32)), (.int (2 : Int32)), (.int (p2 &&& (2147483647 : Int32)))]))
    refine go (fun _ => XS.iadd X275.here hx rfl (hb hby at_106) rfl) ?_
    show Go _ p e below s _ _ _ (T275.setTop (mkF m 107 #[.val (.int p1), .val (.int p2), .val (.int p3), .val (.ref b249), .val (.ref b251), .val (.ref b252), .val (.ref b254), .val (.ref b256), .val (.int (1 : Int32)), .val (.int (2 : Int32)), .val (.int (0 : Int32)), .unset, .unset, .unset] [(.int (3 : Int32)), (.int (p2 &&& (2147483647 : Int32)))]))
    refine go (fun _ => iremM X275 hx rfl (hb hby at_107) rfl (by decide)) ?_
    show Go _ p e below s _ _ _ (T275.setTop (mkF m 108 #[.val (.int p1), .val (.int p2), .val (.int p3), .val (.ref b249), .val (.ref b251), .val (.ref b252), .val (.ref b254), .val (.ref b256), .val (.int (1 : Int32)), .val (.int (2 : Int32)), .val (.int (0 : Int32)), .unset, .unset, .unset] [(.int ((p2 &&& (2147483647 : Int32)) % (3 : Int32)))]))
    refine go (fun _ => XS.istore X275.here hx rfl (hb hby at_108) rfl (l' := #[.val (.int p1), .val (.int p2), .val (.int p3), .val (.ref b249), .val (.ref b251), .val (.ref b252), .val (.ref b254), .val (.ref b256), .val (.int (1 : Int32)), .val (.int (2 : Int32)), .val (.int (0 : Int32)), .val (.int ((p2 &&& (2147483647 : Int32)) % (3 : Int32))), .unset, .unset]) rfl) ?_
    show Go _ p e below s _ _ _ (T275.setTop (mkF m 110 #[.val (.int p1), .val (.int p2), .val (.int p3), .val (.ref b249), .val (.ref b251), .val (.ref b252), .val (.ref b254), .val (.ref b256), .val (.int (1 : Int32)), .val (.int (2 : Int32)), .val (.int (0 : Int32)), .val (.int ((p2 &&& (2147483647 : Int32)) % (3 : Int32))), .unset, .unset] []))
    have hm := own_mod3 p2
    generalize ((p2 &&& (2147483647 : Int32)) % (3 : Int32)) = mm at hm ⊢
    rcases hm with rfl | rfl | rfl
    · show Go _ p e below s _ _ _ (T275.setTop (mkF m 110 #[.val (.int p1), .val (.int p2), .val (.int p3), .val (.ref b249), .val (.ref b251), .val (.ref b252), .val (.ref b254), .val (.ref b256), .val (.int (1 : Int32)), .val (.int (2 : Int32)), .val (.int (0 : Int32)), .val (.int (0 : Int32)), .unset, .unset] []))
      refine go (fun _ => XS.iloadN X275.here hx rfl (hb hby at_110) rfl) ?_
      show Go _ p e below s _ _ _ (T275.setTop (mkF m 111 #[.val (.int p1), .val (.int p2), .val (.int p3), .val (.ref b249), .val (.ref b251), .val (.ref b252), .val (.ref b254), .val (.ref b256), .val (.int (1 : Int32)), .val (.int (2 : Int32)), .val (.int (0 : Int32)), .val (.int (0 : Int32)), .unset, .unset] [(.int p3)]))
      refine go (fun _ => XS.iconst X275.here hx rfl (hb hby at_111)) ?_
      show Go _ p e below s _ _ _ (T275.setTop (mkF m 112 #[.val (.int p1), .val (.int p2), .val (.int p3), .val (.ref b249), .val (.ref b251), .val (.ref b252), .val (.ref b254), .val (.ref b256), .val (.int (1 : Int32)), .val (.int (2 : Int32)), .val (.int (0 : Int32)), .val (.int (0 : Int32)), .unset, .unset] [(.int (1 : Int32)), (.int p3)]))
      refine go (fun _ => XS.iand X275.here hx rfl (hb hby at_112) rfl) ?_
      show Go _ p e below s _ _ _ (T275.setTop (mkF m 113 #[.val (.int p1), .val (.int p2), .val (.int p3), .val (.ref b249), .val (.ref b251), .val (.ref b252), .val (.ref b254), .val (.ref b256), .val (.int (1 : Int32)), .val (.int (2 : Int32)), .val (.int (0 : Int32)), .val (.int (0 : Int32)), .unset, .unset] [(.int (p3 &&& (1 : Int32)))]))
      by_cases hc113_276 : (p3 &&& (1 : Int32)) = (0 : Int32)
      · refine go (fun _ => XS.ifYes X275.here hx rfl (pc0 := 113) (pc' := 120) rfl (hb hby at_113) rfl ((if0 _ _).trans (teq hc113_276).1) (by decide) (by decide)) ?_
        show Go _ p e below s _ _ _ (T275.setTop (mkF m 120 #[.val (.int p1), .val (.int p2), .val (.int p3), .val (.ref b249), .val (.ref b251), .val (.ref b252), .val (.ref b254), .val (.ref b256), .val (.int (1 : Int32)), .val (.int (2 : Int32)), .val (.int (0 : Int32)), .val (.int (0 : Int32)), .unset, .unset] []))
        refine go (fun _ => XS.iconst X275.here hx rfl (hb hby at_120)) ?_
        show Go _ p e below s _ _ _ (T275.setTop (mkF m 121 #[.val (.int p1), .val (.int p2), .val (.int p3), .val (.ref b249), .val (.ref b251), .val (.ref b252), .val (.ref b254), .val (.ref b256), .val (.int (1 : Int32)), .val (.int (2 : Int32)), .val (.int (0 : Int32)), .val (.int (0 : Int32)), .unset, .unset] [(.int (0 : Int32))]))
        refine go (fun _ => XS.istore X275.here hx rfl (hb hby at_121) rfl (l' := #[.val (.int p1), .val (.int p2), .val (.int p3), .val (.ref b249), .val (.ref b251), .val (.ref b252), .val (.ref b254), .val (.ref b256), .val (.int (1 : Int32)), .val (.int (2 : Int32)), .val (.int (0 : Int32)), .val (.int (0 : Int32)), .val (.int (0 : Int32)), .unset]) rfl) ?_
        show Go _ p e below s _ _ _ (T275.setTop (mkF m 123 #[.val (.int p1), .val (.int p2), .val (.int p3), .val (.ref b249), .val (.ref b251), .val (.ref b252), .val (.ref b254), .val (.ref b256), .val (.int (1 : Int32)), .val (.int (2 : Int32)), .val (.int (0 : Int32)), .val (.int (0 : Int32)), .val (.int (0 : Int32)), .unset] []))
        refine go (fun _ => XS.iload X275.here hx rfl (hb hby at_123) rfl) ?_
        show Go _ p e below s _ _ _ (T275.setTop (mkF m 125 #[.val (.int p1), .val (.int p2), .val (.int p3), .val (.ref b249), .val (.ref b251), .val (.ref b252), .val (.ref b254), .val (.ref b256), .val (.int (1 : Int32)), .val (.int (2 : Int32)), .val (.int (0 : Int32)), .val (.int (0 : Int32)), .val (.int (0 : Int32)), .unset] [(.int (0 : Int32))]))
        refine go (fun _ => XS.iconst X275.here hx rfl (hb hby at_125)) ?_
        show Go _ p e below s _ _ _ (T275.setTop (mkF m 126 #[.val (.int p1), .val (.int p2), .val (.int p3), .val (.ref b249), .val (.ref b251), .val (.ref b252), .val (.ref b254), .val (.ref b256), .val (.int (1 : Int32)), .val (.int (2 : Int32)), .val (.int (0 : Int32)), .val (.int (0 : Int32)), .val (.int (0 : Int32)), .unset] [(.int (1 : Int32)), (.int (0 : Int32))]))
        refine go (fun _ => XS.icmpYes X275.here hx rfl (pc0 := 126) (pc' := 157) rfl (hb hby at_126) rfl (feq (by decide : ¬ ((0 : Int32) = (1 : Int32)))).2 (by decide) (by decide)) ?_
        show Go _ p e below s _ _ _ (T275.setTop (mkF m 157 #[.val (.int p1), .val (.int p2), .val (.int p3), .val (.ref b249), .val (.ref b251), .val (.ref b252), .val (.ref b254), .val (.ref b256), .val (.int (1 : Int32)), .val (.int (2 : Int32)), .val (.int (0 : Int32)), .val (.int (0 : Int32)), .val (.int (0 : Int32)), .unset] []))
        refine go (fun _ => XS.iload X275.here hx rfl (hb hby at_157) rfl) ?_
        show Go _ p e below s _ _ _ (T275.setTop (mkF m 159 #[.val (.int p1), .val (.int p2), .val (.int p3), .val (.ref b249), .val (.ref b251), .val (.ref b252), .val (.ref b254), .val (.ref b256), .val (.int (1 : Int32)), .val (.int (2 : Int32)), .val (.int (0 : Int32)), .val (.int (0 : Int32)), .val (.int (0 : Int32)), .unset] [(.int (0 : Int32))]))
        refine go (fun _ => XS.iconst X275.here hx rfl (hb hby at_159)) ?_
        show Go _ p e below s _ _ _ (T275.setTop (mkF m 160 #[.val (.int p1), .val (.int p2), .val (.int p3), .val (.ref b249), .val (.ref b251), .val (.ref b252), .val (.ref b254), .val (.ref b256), .val (.int (1 : Int32)), .val (.int (2 : Int32)), .val (.int (0 : Int32)), .val (.int (0 : Int32)), .val (.int (0 : Int32)), .unset] [(.int (2 : Int32)), (.int (0 : Int32))]))
        refine go (fun _ => XS.icmpYes X275.here hx rfl (pc0 := 160) (pc' := 199) rfl (hb hby at_160) rfl (feq (by decide : ¬ ((0 : Int32) = (2 : Int32)))).2 (by decide) (by decide)) ?_
        show Go _ p e below s _ _ _ (T275.setTop (mkF m 199 #[.val (.int p1), .val (.int p2), .val (.int p3), .val (.ref b249), .val (.ref b251), .val (.ref b252), .val (.ref b254), .val (.ref b256), .val (.int (1 : Int32)), .val (.int (2 : Int32)), .val (.int (0 : Int32)), .val (.int (0 : Int32)), .val (.int (0 : Int32)), .unset] []))
        refine go (fun _ => XS.aload X275.here hx rfl (hb hby at_199) rfl rfl) ?_
        show Go _ p e below s _ _ _ (T275.setTop (mkF m 201 #[.val (.int p1), .val (.int p2), .val (.int p3), .val (.ref b249), .val (.ref b251), .val (.ref b252), .val (.ref b254), .val (.ref b256), .val (.int (1 : Int32)), .val (.int (2 : Int32)), .val (.int (0 : Int32)), .val (.int (0 : Int32)), .val (.int (0 : Int32)), .unset] [(.ref b256)]))
        obtain ⟨cq277, kq277, q277a, q277b, q277c⟩ := isOf hZ e275 c274_4
        obtain ⟨_, _, ⟨T277, L277, k277, n277⟩, -, X277, ⟨Lc277, hQ277, l277, y277, z277⟩, st277⟩ := X275.virtualBack hx (y := (⟨"com/example/reticule/reticule/engine/ActivationRuns", "isEmpty", "()Z"⟩ : MethodName)) (z := (⟨"com/example/reticule/reticule/engine/ActivationRuns", "isEmpty", "()Z"⟩ : MethodName)) hown (mvT hZ (hw _ (List.mem_of_getElem? (i := 103) rfl))) (mvT hZ (hw _ (List.mem_of_getElem? (i := 104) rfl))) (notFace_of_selects (args := #[]) (mvT hZ (hw _ (List.mem_of_getElem? (i := 106) rfl)))) (mvT hZ (hw _ (List.mem_of_getElem? (i := 106) rfl))) (mvT hZ (hw _ (List.mem_of_getElem? (i := 105) rfl))) (by decide) (backOf (W := 0) (rmE2 l Z a0 hw [] b256 (T274.heap) n0 ZN274 u274_2) hZ (hw _ (List.mem_of_getElem? (i := 107) rfl)) (hw _ (List.mem_of_getElem? (i := 72) rfl)) (by decide) (by decide)) q277a q277c (g := (mkF m 201 #[.val (.int p1), .val (.int p2), .val (.int p3), .val (.ref b249), .val (.ref b251), .val (.ref b252), .val (.ref b254), .val (.ref b256), .val (.int (1 : Int32)), .val (.int (2 : Int32)), .val (.int (0 : Int32)), .val (.int (0 : Int32)), .val (.int (0 : Int32)), .unset] [(.ref b256)])) rfl (by rw [hml]; rfl) (Steps.refl _) (argsL := []) (rest := []) (lenOf pd_0_4 rfl) rfl (by show 2 * 0 + _ ≤ _; exact Nat.le_of_eq rfl) (hb hby at_201) (fun _ _ => ⟨rfl, e275, (by decide : 15 + 0 ≤ _), (by decide : 161 + 0 ≤ _)⟩)
        dsimp only [Pt.U, Pt.locs, Pt.cells, Pt.slots] at X277 l277 y277 z277 st277 hQ277
        subst l277 y277 z277
        obtain ⟨rfl, N277q, e277⟩ := hQ277
        have N277 := Fr.app N275 N277q
        refine goT st277 ?_
        show Go _ p e below s _ _ _ (T277.setTop (mkF m 204 #[.val (.int p1), .val (.int p2), .val (.int p3), .val (.ref b249), .val (.ref b251), .val (.ref b252), .val (.ref b254), .val (.ref b256), .val (.int (1 : Int32)), .val (.int (2 : Int32)), .val (.int (0 : Int32)), .val (.int (0 : Int32)), .val (.int (0 : Int32)), .unset] [(.int (0 : Int32))]))
        refine go (fun _ => XS.istore X277.here hx rfl (hb hby at_204) rfl (l' := #[.val (.int p1), .val (.int p2), .val (.int p3), .val (.ref b249), .val (.ref b251), .val (.ref b252), .val (.ref b254), .val (.ref b256), .val (.int (1 : Int32)), .val (.int (2 : Int32)), .val (.int (0 : Int32)), .val (.int (0 : Int32)), .val (.int (0 : Int32)), .val (.int (0 : Int32))]) rfl) ?_
        show Go _ p e below s _ _ _ (T277.setTop (mkF m 206 #[.val (.int p1), .val (.int p2), .val (.int p3), .val (.ref b249), .val (.ref b251), .val (.ref b252), .val (.ref b254), .val (.ref b256), .val (.int (1 : Int32)), .val (.int (2 : Int32)), .val (.int (0 : Int32)), .val (.int (0 : Int32)), .val (.int (0 : Int32)), .val (.int (0 : Int32))] []))
        refine go (fun _ => XS.iload X277.here hx rfl (hb hby at_206) rfl) ?_
        show Go _ p e below s _ _ _ (T277.setTop (mkF m 208 #[.val (.int p1), .val (.int p2), .val (.int p3), .val (.ref b249), .val (.ref b251), .val (.ref b252), .val (.ref b254), .val (.ref b256), .val (.int (1 : Int32)), .val (.int (2 : Int32)), .val (.int (0 : Int32)), .val (.int (0 : Int32)), .val (.int (0 : Int32)), .val (.int (0 : Int32))] [(.int (1 : Int32))]))
        refine go (fun _ => XS.ifNo X277.here hx rfl (hb hby at_208) rfl ((if0 _ _).trans (feq (by decide : ¬ ((1 : Int32) = (0 : Int32)))).1)) ?_
        show Go _ p e below s _ _ _ (T277.setTop (mkF m 211 #[.val (.int p1), .val (.int p2), .val (.int p3), .val (.ref b249), .val (.ref b251), .val (.ref b252), .val (.ref b254), .val (.ref b256), .val (.int (1 : Int32)), .val (.int (2 : Int32)), .val (.int (0 : Int32)), .val (.int (0 : Int32)), .val (.int (0 : Int32)), .val (.int (0 : Int32))] []))
        refine go (fun _ => XS.iload X277.here hx rfl (hb hby at_211) rfl) ?_
        show Go _ p e below s _ _ _ (T277.setTop (mkF m 213 #[.val (.int p1), .val (.int p2), .val (.int p3), .val (.ref b249), .val (.ref b251), .val (.ref b252), .val (.ref b254), .val (.ref b256), .val (.int (1 : Int32)), .val (.int (2 : Int32)), .val (.int (0 : Int32)), .val (.int (0 : Int32)), .val (.int (0 : Int32)), .val (.int (0 : Int32))] [(.int (0 : Int32))]))
        refine go (fun _ => XS.iload X277.here hx rfl (hb hby at_213) rfl) ?_
        show Go _ p e below s _ _ _ (T277.setTop (mkF m 215 #[.val (.int p1), .val (.int p2), .val (.int p3), .val (.ref b249), .val (.ref b251), .val (.ref b252), .val (.ref b254), .val (.ref b256), .val (.int (1 : Int32)), .val (.int (2 : Int32)), .val (.int (0 : Int32)), .val (.int (0 : Int32)), .val (.int (0 : Int32)), .val (.int (0 : Int32))] [(.int (2 : Int32)), (.int (0 : Int32))]))
        refine go (fun _ => XS.ifYes X277.here hx rfl (pc0 := 215) (pc' := 222) rfl (hb hby at_215) rfl ((if0 _ _).trans (feq (by decide : ¬ ((2 : Int32) = (0 : Int32)))).2) (by decide) (by decide)) ?_
        show Go _ p e below s _ _ _ (T277.setTop (mkF m 222 #[.val (.int p1), .val (.int p2), .val (.int p3), .val (.ref b249), .val (.ref b251), .val (.ref b252), .val (.ref b254), .val (.ref b256), .val (.int (1 : Int32)), .val (.int (2 : Int32)), .val (.int (0 : Int32)), .val (.int (0 : Int32)), .val (.int (0 : Int32)), .val (.int (0 : Int32))] [(.int (0 : Int32))]))
        refine go (fun _ => XS.iconst X277.here hx rfl (hb hby at_222)) ?_
        show Go _ p e below s _ _ _ (T277.setTop (mkF m 223 #[.val (.int p1), .val (.int p2), .val (.int p3), .val (.ref b249), .val (.ref b251), .val (.ref b252), .val (.ref b254), .val (.ref b256), .val (.int (1 : Int32)), .val (.int (2 : Int32)), .val (.int (0 : Int32)), .val (.int (0 : Int32)), .val (.int (0 : Int32)), .val (.int (0 : Int32))] [(.int (0 : Int32)), (.int (0 : Int32))]))
        refine go (fun _ => XS.icmpNo X277.here hx rfl (hb hby at_223) rfl (teq (rfl : (0 : Int32) = (0 : Int32))).2) ?_
        show Go _ p e below s _ _ _ (T277.setTop (mkF m 226 #[.val (.int p1), .val (.int p2), .val (.int p3), .val (.ref b249), .val (.ref b251), .val (.ref b252), .val (.ref b254), .val (.ref b256), .val (.int (1 : Int32)), .val (.int (2 : Int32)), .val (.int (0 : Int32)), .val (.int (0 : Int32)), .val (.int (0 : Int32)), .val (.int (0 : Int32))] []))
        refine go (fun _ => XS.iload X277.here hx rfl (hb hby at_226) rfl) ?_
        show Go _ p e below s _ _ _ (T277.setTop (mkF m 228 #[.val (.int p1), .val (.int p2), .val (.int p3), .val (.ref b249), .val (.ref b251), .val (.ref b252), .val (.ref b254), .val (.ref b256), .val (.int (1 : Int32)), .val (.int (2 : Int32)), .val (.int (0 : Int32)), .val (.int (0 : Int32)), .val (.int (0 : Int32)), .val (.int (0 : Int32))] [(.int (0 : Int32))]))
        refine go (fun _ => XS.iload X277.here hx rfl (hb hby at_228) rfl) ?_
        show Go _ p e below s _ _ _ (T277.setTop (mkF m 230 #[.val (.int p1), .val (.int p2), .val (.int p3), .val (.ref b249), .val (.ref b251), .val (.ref b252), .val (.ref b254), .val (.ref b256), .val (.int (1 : Int32)), .val (.int (2 : Int32)), .val (.int (0 : Int32)), .val (.int (0 : Int32)), .val (.int (0 : Int32)), .val (.int (0 : Int32))] [(.int (0 : Int32)), (.int (0 : Int32))]))
        refine go (fun _ => XS.iload X277.here hx rfl (hb hby at_230) rfl) ?_
        show Go _ p e below s _ _ _ (T277.setTop (mkF m 232 #[.val (.int p1), .val (.int p2), .val (.int p3), .val (.ref b249), .val (.ref b251), .val (.ref b252), .val (.ref b254), .val (.ref b256), .val (.int (1 : Int32)), .val (.int (2 : Int32)), .val (.int (0 : Int32)), .val (.int (0 : Int32)), .val (.int (0 : Int32)), .val (.int (0 : Int32))] [(.int (2 : Int32)), (.int (0 : Int32)), (.int (0 : Int32))]))
        refine go (fun _ => XS.icmpYes X277.here hx rfl (pc0 := 232) (pc' := 239) rfl (hb hby at_232) rfl (feq (by decide : ¬ ((0 : Int32) = (2 : Int32)))).2 (by decide) (by decide)) ?_
        show Go _ p e below s _ _ _ (T277.setTop (mkF m 239 #[.val (.int p1), .val (.int p2), .val (.int p3), .val (.ref b249), .val (.ref b251), .val (.ref b252), .val (.ref b254), .val (.ref b256), .val (.int (1 : Int32)), .val (.int (2 : Int32)), .val (.int (0 : Int32)), .val (.int (0 : Int32)), .val (.int (0 : Int32)), .val (.int (0 : Int32))] [(.int (0 : Int32))]))
        refine go (fun _ => XS.iconst X277.here hx rfl (hb hby at_239)) ?_
        show Go _ p e below s _ _ _ (T277.setTop (mkF m 240 #[.val (.int p1), .val (.int p2), .val (.int p3), .val (.ref b249), .val (.ref b251), .val (.ref b252), .val (.ref b254), .val (.ref b256), .val (.int (1 : Int32)), .val (.int (2 : Int32)), .val (.int (0 : Int32)), .val (.int (0 : Int32)), .val (.int (0 : Int32)), .val (.int (0 : Int32))] [(.int (0 : Int32)), (.int (0 : Int32))]))
        refine go (fun _ => XS.icmpNo X277.here hx rfl (hb hby at_240) rfl (teq (rfl : (0 : Int32) = (0 : Int32))).2) ?_
        show Go _ p e below s _ _ _ (T277.setTop (mkF m 243 #[.val (.int p1), .val (.int p2), .val (.int p3), .val (.ref b249), .val (.ref b251), .val (.ref b252), .val (.ref b254), .val (.ref b256), .val (.int (1 : Int32)), .val (.int (2 : Int32)), .val (.int (0 : Int32)), .val (.int (0 : Int32)), .val (.int (0 : Int32)), .val (.int (0 : Int32))] []))
        refine go (fun _ => XS.iconst X277.here hx rfl (hb hby at_243)) ?_
        show Go _ p e below s _ _ _ (T277.setTop (mkF m 244 #[.val (.int p1), .val (.int p2), .val (.int p3), .val (.ref b249), .val (.ref b251), .val (.ref b252), .val (.ref b254), .val (.ref b256), .val (.int (1 : Int32)), .val (.int (2 : Int32)), .val (.int (0 : Int32)), .val (.int (0 : Int32)), .val (.int (0 : Int32)), .val (.int (0 : Int32))] [(.int (1 : Int32))]))
        refine go (fun _ => XS.goto X277.here hx rfl (pc0 := 244) (pc' := 248) rfl (hb hby at_244) (by decide) (by decide)) ?_
        show Go _ p e below s _ _ _ (T277.setTop (mkF m 248 #[.val (.int p1), .val (.int p2), .val (.int p3), .val (.ref b249), .val (.ref b251), .val (.ref b252), .val (.ref b254), .val (.ref b256), .val (.int (1 : Int32)), .val (.int (2 : Int32)), .val (.int (0 : Int32)), .val (.int (0 : Int32)), .val (.int (0 : Int32)), .val (.int (0 : Int32))] [(.int (1 : Int32))]))
        refine goRetW X277 hS255 (by rw [e277]; exact HK274) hx Bd.notSynchronized Bd.returns rfl (Or.inl ⟨rfl, Or.inr (Or.inl rfl), _, rfl⟩) (hb hby at_248) (by decide) (by decide) (by rw [e277]; refine ⟨rfl, N277⟩)
      · refine go (fun _ => XS.ifNo X275.here hx rfl (hb hby at_113) rfl ((if0 _ _).trans (feq hc113_276).1)) ?_
        show Go _ p e below s _ _ _ (T275.setTop (mkF m 116 #[.val (.int p1), .val (.int p2), .val (.int p3), .val (.ref b249), .val (.ref b251), .val (.ref b252), .val (.ref b254), .val (.ref b256), .val (.int (1 : Int32)), .val (.int (2 : Int32)), .val (.int (0 : Int32)), .val (.int (0 : Int32)), .unset, .unset] []))
        refine go (fun _ => XS.iconst X275.here hx rfl (hb hby at_116)) ?_
        show Go _ p e below s _ _ _ (T275.setTop (mkF m 117 #[.val (.int p1), .val (.int p2), .val (.int p3), .val (.ref b249), .val (.ref b251), .val (.ref b252), .val (.ref b254), .val (.ref b256), .val (.int (1 : Int32)), .val (.int (2 : Int32)), .val (.int (0 : Int32)), .val (.int (0 : Int32)), .unset, .unset] [(.int (1 : Int32))]))
        refine go (fun _ => XS.goto X275.here hx rfl (pc0 := 117) (pc' := 121) rfl (hb hby at_117) (by decide) (by decide)) ?_
        show Go _ p e below s _ _ _ (T275.setTop (mkF m 121 #[.val (.int p1), .val (.int p2), .val (.int p3), .val (.ref b249), .val (.ref b251), .val (.ref b252), .val (.ref b254), .val (.ref b256), .val (.int (1 : Int32)), .val (.int (2 : Int32)), .val (.int (0 : Int32)), .val (.int (0 : Int32)), .unset, .unset] [(.int (1 : Int32))]))
        refine go (fun _ => XS.istore X275.here hx rfl (hb hby at_121) rfl (l' := #[.val (.int p1), .val (.int p2), .val (.int p3), .val (.ref b249), .val (.ref b251), .val (.ref b252), .val (.ref b254), .val (.ref b256), .val (.int (1 : Int32)), .val (.int (2 : Int32)), .val (.int (0 : Int32)), .val (.int (0 : Int32)), .val (.int (1 : Int32)), .unset]) rfl) ?_
        show Go _ p e below s _ _ _ (T275.setTop (mkF m 123 #[.val (.int p1), .val (.int p2), .val (.int p3), .val (.ref b249), .val (.ref b251), .val (.ref b252), .val (.ref b254), .val (.ref b256), .val (.int (1 : Int32)), .val (.int (2 : Int32)), .val (.int (0 : Int32)), .val (.int (0 : Int32)), .val (.int (1 : Int32)), .unset] []))
        refine go (fun _ => XS.iload X275.here hx rfl (hb hby at_123) rfl) ?_
        show Go _ p e below s _ _ _ (T275.setTop (mkF m 125 #[.val (.int p1), .val (.int p2), .val (.int p3), .val (.ref b249), .val (.ref b251), .val (.ref b252), .val (.ref b254), .val (.ref b256), .val (.int (1 : Int32)), .val (.int (2 : Int32)), .val (.int (0 : Int32)), .val (.int (0 : Int32)), .val (.int (1 : Int32)), .unset] [(.int (0 : Int32))]))
        refine go (fun _ => XS.iconst X275.here hx rfl (hb hby at_125)) ?_
        show Go _ p e below s _ _ _ (T275.setTop (mkF m 126 #[.val (.int p1), .val (.int p2), .val (.int p3), .val (.ref b249), .val (.ref b251), .val (.ref b252), .val (.ref b254), .val (.ref b256), .val (.int (1 : Int32)), .val (.int (2 : Int32)), .val (.int (0 : Int32)), .val (.int (0 : Int32)), .val (.int (1 : Int32)), .unset] [(.int (1 : Int32)), (.int (0 : Int32))]))
        refine go (fun _ => XS.icmpYes X275.here hx rfl (pc0 := 126) (pc' := 157) rfl (hb hby at_126) rfl (feq (by decide : ¬ ((0 : Int32) = (1 : Int32)))).2 (by decide) (by decide)) ?_
        show Go _ p e below s _ _ _ (T275.setTop (mkF m 157 #[.val (.int p1), .val (.int p2), .val (.int p3), .val (.ref b249), .val (.ref b251), .val (.ref b252), .val (.ref b254), .val (.ref b256), .val (.int (1 : Int32)), .val (.int (2 : Int32)), .val (.int (0 : Int32)), .val (.int (0 : Int32)), .val (.int (1 : Int32)), .unset] []))
        refine go (fun _ => XS.iload X275.here hx rfl (hb hby at_157) rfl) ?_
        show Go _ p e below s _ _ _ (T275.setTop (mkF m 159 #[.val (.int p1), .val (.int p2), .val (.int p3), .val (.ref b249), .val (.ref b251), .val (.ref b252), .val (.ref b254), .val (.ref b256), .val (.int (1 : Int32)), .val (.int (2 : Int32)), .val (.int (0 : Int32)), .val (.int (0 : Int32)), .val (.int (1 : Int32)), .unset] [(.int (0 : Int32))]))
        refine go (fun _ => XS.iconst X275.here hx rfl (hb hby at_159)) ?_
        show Go _ p e below s _ _ _ (T275.setTop (mkF m 160 #[.val (.int p1), .val (.int p2), .val (.int p3), .val (.ref b249), .val (.ref b251), .val (.ref b252), .val (.ref b254), .val (.ref b256), .val (.int (1 : Int32)), .val (.int (2 : Int32)), .val (.int (0 : Int32)), .val (.int (0 : Int32)), .val (.int (1 : Int32)), .unset] [(.int (2 : Int32)), (.int (0 : Int32))]))
        refine go (fun _ => XS.icmpYes X275.here hx rfl (pc0 := 160) (pc' := 199) rfl (hb hby at_160) rfl (feq (by decide : ¬ ((0 : Int32) = (2 : Int32)))).2 (by decide) (by decide)) ?_
        show Go _ p e below s _ _ _ (T275.setTop (mkF m 199 #[.val (.int p1), .val (.int p2), .val (.int p3), .val (.ref b249), .val (.ref b251), .val (.ref b252), .val (.ref b254), .val (.ref b256), .val (.int (1 : Int32)), .val (.int (2 : Int32)), .val (.int (0 : Int32)), .val (.int (0 : Int32)), .val (.int (1 : Int32)), .unset] []))
        refine go (fun _ => XS.aload X275.here hx rfl (hb hby at_199) rfl rfl) ?_
        show Go _ p e below s _ _ _ (T275.setTop (mkF m 201 #[.val (.int p1), .val (.int p2), .val (.int p3), .val (.ref b249), .val (.ref b251), .val (.ref b252), .val (.ref b254), .val (.ref b256), .val (.int (1 : Int32)), .val (.int (2 : Int32)), .val (.int (0 : Int32)), .val (.int (0 : Int32)), .val (.int (1 : Int32)), .unset] [(.ref b256)]))
        obtain ⟨cq278, kq278, q278a, q278b, q278c⟩ := isOf hZ e275 c274_4
        obtain ⟨_, _, ⟨T278, L278, k278, n278⟩, -, X278, ⟨Lc278, hQ278, l278, y278, z278⟩, st278⟩ := X275.virtualBack hx (y := (⟨"com/example/reticule/reticule/engine/ActivationRuns", "isEmpty", "()Z"⟩ : MethodName)) (z := (⟨"com/example/reticule/reticule/engine/ActivationRuns", "isEmpty", "()Z"⟩ : MethodName)) hown (mvT hZ (hw _ (List.mem_of_getElem? (i := 103) rfl))) (mvT hZ (hw _ (List.mem_of_getElem? (i := 104) rfl))) (notFace_of_selects (args := #[]) (mvT hZ (hw _ (List.mem_of_getElem? (i := 106) rfl)))) (mvT hZ (hw _ (List.mem_of_getElem? (i := 106) rfl))) (mvT hZ (hw _ (List.mem_of_getElem? (i := 105) rfl))) (by decide) (backOf (W := 0) (rmE2 l Z a0 hw [] b256 (T274.heap) n0 ZN274 u274_2) hZ (hw _ (List.mem_of_getElem? (i := 107) rfl)) (hw _ (List.mem_of_getElem? (i := 72) rfl)) (by decide) (by decide)) q278a q278c (g := (mkF m 201 #[.val (.int p1), .val (.int p2), .val (.int p3), .val (.ref b249), .val (.ref b251), .val (.ref b252), .val (.ref b254), .val (.ref b256), .val (.int (1 : Int32)), .val (.int (2 : Int32)), .val (.int (0 : Int32)), .val (.int (0 : Int32)), .val (.int (1 : Int32)), .unset] [(.ref b256)])) rfl (by rw [hml]; rfl) (Steps.refl _) (argsL := []) (rest := []) (lenOf pd_0_4 rfl) rfl (by show 2 * 0 + _ ≤ _; exact Nat.le_of_eq rfl) (hb hby at_201) (fun _ _ => ⟨rfl, e275, (by decide : 15 + 0 ≤ _), (by decide : 161 + 0 ≤ _)⟩)
        dsimp only [Pt.U, Pt.locs, Pt.cells, Pt.slots] at X278 l278 y278 z278 st278 hQ278
        subst l278 y278 z278
        obtain ⟨rfl, N278q, e278⟩ := hQ278
        have N278 := Fr.app N275 N278q
        refine goT st278 ?_
        show Go _ p e below s _ _ _ (T278.setTop (mkF m 204 #[.val (.int p1), .val (.int p2), .val (.int p3), .val (.ref b249), .val (.ref b251), .val (.ref b252), .val (.ref b254), .val (.ref b256), .val (.int (1 : Int32)), .val (.int (2 : Int32)), .val (.int (0 : Int32)), .val (.int (0 : Int32)), .val (.int (1 : Int32)), .unset] [(.int (0 : Int32))]))
        refine go (fun _ => XS.istore X278.here hx rfl (hb hby at_204) rfl (l' := #[.val (.int p1), .val (.int p2), .val (.int p3), .val (.ref b249), .val (.ref b251), .val (.ref b252), .val (.ref b254), .val (.ref b256), .val (.int (1 : Int32)), .val (.int (2 : Int32)), .val (.int (0 : Int32)), .val (.int (0 : Int32)), .val (.int (1 : Int32)), .val (.int (0 : Int32))]) rfl) ?_
        show Go _ p e below s _ _ _ (T278.setTop (mkF m 206 #[.val (.int p1), .val (.int p2), .val (.int p3), .val (.ref b249), .val (.ref b251), .val (.ref b252), .val (.ref b254), .val (.ref b256), .val (.int (1 : Int32)), .val (.int (2 : Int32)), .val (.int (0 : Int32)), .val (.int (0 : Int32)), .val (.int (1 : Int32)), .val (.int (0 : Int32))] []))
        refine go (fun _ => XS.iload X278.here hx rfl (hb hby at_206) rfl) ?_
        show Go _ p e below s _ _ _ (T278.setTop (mkF m 208 #[.val (.int p1), .val (.int p2), .val (.int p3), .val (.ref b249), .val (.ref b251), .val (.ref b252), .val (.ref b254), .val (.ref b256), .val (.int (1 : Int32)), .val (.int (2 : Int32)), .val (.int (0 : Int32)), .val (.int (0 : Int32)), .val (.int (1 : Int32)), .val (.int (0 : Int32))] [(.int (1 : Int32))]))
        refine go (fun _ => XS.ifNo X278.here hx rfl (hb hby at_208) rfl ((if0 _ _).trans (feq (by decide : ¬ ((1 : Int32) = (0 : Int32)))).1)) ?_
        show Go _ p e below s _ _ _ (T278.setTop (mkF m 211 #[.val (.int p1), .val (.int p2), .val (.int p3), .val (.ref b249), .val (.ref b251), .val (.ref b252), .val (.ref b254), .val (.ref b256), .val (.int (1 : Int32)), .val (.int (2 : Int32)), .val (.int (0 : Int32)), .val (.int (0 : Int32)), .val (.int (1 : Int32)), .val (.int (0 : Int32))] []))
        refine go (fun _ => XS.iload X278.here hx rfl (hb hby at_211) rfl) ?_
        show Go _ p e below s _ _ _ (T278.setTop (mkF m 213 #[.val (.int p1), .val (.int p2), .val (.int p3), .val (.ref b249), .val (.ref b251), .val (.ref b252), .val (.ref b254), .val (.ref b256), .val (.int (1 : Int32)), .val (.int (2 : Int32)), .val (.int (0 : Int32)), .val (.int (0 : Int32)), .val (.int (1 : Int32)), .val (.int (0 : Int32))] [(.int (0 : Int32))]))
        refine go (fun _ => XS.iload X278.here hx rfl (hb hby at_213) rfl) ?_
        show Go _ p e below s _ _ _ (T278.setTop (mkF m 215 #[.val (.int p1), .val (.int p2), .val (.int p3), .val (.ref b249), .val (.ref b251), .val (.ref b252), .val (.ref b254), .val (.ref b256), .val (.int (1 : Int32)), .val (.int (2 : Int32)), .val (.int (0 : Int32)), .val (.int (0 : Int32)), .val (.int (1 : Int32)), .val (.int (0 : Int32))] [(.int (2 : Int32)), (.int (0 : Int32))]))
        refine go (fun _ => XS.ifYes X278.here hx rfl (pc0 := 215) (pc' := 222) rfl (hb hby at_215) rfl ((if0 _ _).trans (feq (by decide : ¬ ((2 : Int32) = (0 : Int32)))).2) (by decide) (by decide)) ?_
        show Go _ p e below s _ _ _ (T278.setTop (mkF m 222 #[.val (.int p1), .val (.int p2), .val (.int p3), .val (.ref b249), .val (.ref b251), .val (.ref b252), .val (.ref b254), .val (.ref b256), .val (.int (1 : Int32)), .val (.int (2 : Int32)), .val (.int (0 : Int32)), .val (.int (0 : Int32)), .val (.int (1 : Int32)), .val (.int (0 : Int32))] [(.int (0 : Int32))]))
        refine go (fun _ => XS.iconst X278.here hx rfl (hb hby at_222)) ?_
        show Go _ p e below s _ _ _ (T278.setTop (mkF m 223 #[.val (.int p1), .val (.int p2), .val (.int p3), .val (.ref b249), .val (.ref b251), .val (.ref b252), .val (.ref b254), .val (.ref b256), .val (.int (1 : Int32)), .val (.int (2 : Int32)), .val (.int (0 : Int32)), .val (.int (0 : Int32)), .val (.int (1 : Int32)), .val (.int (0 : Int32))] [(.int (0 : Int32)), (.int (0 : Int32))]))
        refine go (fun _ => XS.icmpNo X278.here hx rfl (hb hby at_223) rfl (teq (rfl : (0 : Int32) = (0 : Int32))).2) ?_
        show Go _ p e below s _ _ _ (T278.setTop (mkF m 226 #[.val (.int p1), .val (.int p2), .val (.int p3), .val (.ref b249), .val (.ref b251), .val (.ref b252), .val (.ref b254), .val (.ref b256), .val (.int (1 : Int32)), .val (.int (2 : Int32)), .val (.int (0 : Int32)), .val (.int (0 : Int32)), .val (.int (1 : Int32)), .val (.int (0 : Int32))] []))
        refine go (fun _ => XS.iload X278.here hx rfl (hb hby at_226) rfl) ?_
        show Go _ p e below s _ _ _ (T278.setTop (mkF m 228 #[.val (.int p1), .val (.int p2), .val (.int p3), .val (.ref b249), .val (.ref b251), .val (.ref b252), .val (.ref b254), .val (.ref b256), .val (.int (1 : Int32)), .val (.int (2 : Int32)), .val (.int (0 : Int32)), .val (.int (0 : Int32)), .val (.int (1 : Int32)), .val (.int (0 : Int32))] [(.int (0 : Int32))]))
        refine go (fun _ => XS.iload X278.here hx rfl (hb hby at_228) rfl) ?_
        show Go _ p e below s _ _ _ (T278.setTop (mkF m 230 #[.val (.int p1), .val (.int p2), .val (.int p3), .val (.ref b249), .val (.ref b251), .val (.ref b252), .val (.ref b254), .val (.ref b256), .val (.int (1 : Int32)), .val (.int (2 : Int32)), .val (.int (0 : Int32)), .val (.int (0 : Int32)), .val (.int (1 : Int32)), .val (.int (0 : Int32))] [(.int (0 : Int32)), (.int (0 : Int32))]))
        refine go (fun _ => XS.iload X278.here hx rfl (hb hby at_230) rfl) ?_
        show Go _ p e below s _ _ _ (T278.setTop (mkF m 232 #[.val (.int p1), .val (.int p2), .val (.int p3), .val (.ref b249), .val (.ref b251), .val (.ref b252), .val (.ref b254), .val (.ref b256), .val (.int (1 : Int32)), .val (.int (2 : Int32)), .val (.int (0 : Int32)), .val (.int (0 : Int32)), .val (.int (1 : Int32)), .val (.int (0 : Int32))] [(.int (2 : Int32)), (.int (0 : Int32)), (.int (0 : Int32))]))
        refine go (fun _ => XS.icmpYes X278.here hx rfl (pc0 := 232) (pc' := 239) rfl (hb hby at_232) rfl (feq (by decide : ¬ ((0 : Int32) = (2 : Int32)))).2 (by decide) (by decide)) ?_
        show Go _ p e below s _ _ _ (T278.setTop (mkF m 239 #[.val (.int p1), .val (.int p2), .val (.int p3), .val (.ref b249), .val (.ref b251), .val (.ref b252), .val (.ref b254), .val (.ref b256), .val (.int (1 : Int32)), .val (.int (2 : Int32)), .val (.int (0 : Int32)), .val (.int (0 : Int32)), .val (.int (1 : Int32)), .val (.int (0 : Int32))] [(.int (0 : Int32))]))
        refine go (fun _ => XS.iconst X278.here hx rfl (hb hby at_239)) ?_
        show Go _ p e below s _ _ _ (T278.setTop (mkF m 240 #[.val (.int p1), .val (.int p2), .val (.int p3), .val (.ref b249), .val (.ref b251), .val (.ref b252), .val (.ref b254), .val (.ref b256), .val (.int (1 : Int32)), .val (.int (2 : Int32)), .val (.int (0 : Int32)), .val (.int (0 : Int32)), .val (.int (1 : Int32)), .val (.int (0 : Int32))] [(.int (0 : Int32)), (.int (0 : Int32))]))
        refine go (fun _ => XS.icmpNo X278.here hx rfl (hb hby at_240) rfl (teq (rfl : (0 : Int32) = (0 : Int32))).2) ?_
        show Go _ p e below s _ _ _ (T278.setTop (mkF m 243 #[.val (.int p1), .val (.int p2), .val (.int p3), .val (.ref b249), .val (.ref b251), .val (.ref b252), .val (.ref b254), .val (.ref b256), .val (.int (1 : Int32)), .val (.int (2 : Int32)), .val (.int (0 : Int32)), .val (.int (0 : Int32)), .val (.int (1 : Int32)), .val (.int (0 : Int32))] []))
        refine go (fun _ => XS.iconst X278.here hx rfl (hb hby at_243)) ?_
        show Go _ p e below s _ _ _ (T278.setTop (mkF m 244 #[.val (.int p1), .val (.int p2), .val (.int p3), .val (.ref b249), .val (.ref b251), .val (.ref b252), .val (.ref b254), .val (.ref b256), .val (.int (1 : Int32)), .val (.int (2 : Int32)), .val (.int (0 : Int32)), .val (.int (0 : Int32)), .val (.int (1 : Int32)), .val (.int (0 : Int32))] [(.int (1 : Int32))]))
        refine go (fun _ => XS.goto X278.here hx rfl (pc0 := 244) (pc' := 248) rfl (hb hby at_244) (by decide) (by decide)) ?_
        show Go _ p e below s _ _ _ (T278.setTop (mkF m 248 #[.val (.int p1), .val (.int p2), .val (.int p3), .val (.ref b249), .val (.ref b251), .val (.ref b252), .val (.ref b254), .val (.ref b256), .val (.int (1 : Int32)), .val (.int (2 : Int32)), .val (.int (0 : Int32)), .val (.int (0 : Int32)), .val (.int (1 : Int32)), .val (.int (0 : Int32))] [(.int (1 : Int32))]))
        refine goRetW X278 hS255 (by rw [e278]; exact HK274) hx Bd.notSynchronized Bd.returns rfl (Or.inl ⟨rfl, Or.inr (Or.inl rfl), _, rfl⟩) (hb hby at_248) (by decide) (by decide) (by rw [e278]; refine ⟨rfl, N278⟩)
    · show Go _ p e below s _ _ _ (T275.setTop (mkF m 110 #[.val (.int p1), .val (.int p2), .val (.int p3), .val (.ref b249), .val (.ref b251), .val (.ref b252), .val (.ref b254), .val (.ref b256), .val (.int (1 : Int32)), .val (.int (2 : Int32)), .val (.int (0 : Int32)), .val (.int (1 : Int32)), .unset, .unset] []))
      refine go (fun _ => XS.iloadN X275.here hx rfl (hb hby at_110) rfl) ?_
      show Go _ p e below s _ _ _ (T275.setTop (mkF m 111 #[.val (.int p1), .val (.int p2), .val (.int p3), .val (.ref b249), .val (.ref b251), .val (.ref b252), .val (.ref b254), .val (.ref b256), .val (.int (1 : Int32)), .val (.int (2 : Int32)), .val (.int (0 : Int32)), .val (.int (1 : Int32)), .unset, .unset] [(.int p3)]))
      refine go (fun _ => XS.iconst X275.here hx rfl (hb hby at_111)) ?_
      show Go _ p e below s _ _ _ (T275.setTop (mkF m 112 #[.val (.int p1), .val (.int p2), .val (.int p3), .val (.ref b249), .val (.ref b251), .val (.ref b252), .val (.ref b254), .val (.ref b256), .val (.int (1 : Int32)), .val (.int (2 : Int32)), .val (.int (0 : Int32)), .val (.int (1 : Int32)), .unset, .unset] [(.int (1 : Int32)), (.int p3)]))
      refine go (fun _ => XS.iand X275.here hx rfl (hb hby at_112) rfl) ?_
      show Go _ p e below s _ _ _ (T275.setTop (mkF m 113 #[.val (.int p1), .val (.int p2), .val (.int p3), .val (.ref b249), .val (.ref b251), .val (.ref b252), .val (.ref b254), .val (.ref b256), .val (.int (1 : Int32)), .val (.int (2 : Int32)), .val (.int (0 : Int32)), .val (.int (1 : Int32)), .unset, .unset] [(.int (p3 &&& (1 : Int32)))]))
      by_cases hc113_279 : (p3 &&& (1 : Int32)) = (0 : Int32)
      · refine go (fun _ => XS.ifYes X275.here hx rfl (pc0 := 113) (pc' := 120) rfl (hb hby at_113) rfl ((if0 _ _).trans (teq hc113_279).1) (by decide) (by decide)) ?_
        show Go _ p e below s _ _ _ (T275.setTop (mkF m 120 #[.val (.int p1), .val (.int p2), .val (.int p3), .val (.ref b249), .val (.ref b251), .val (.ref b252), .val (.ref b254), .val (.ref b256), .val (.int (1 : Int32)), .val (.int (2 : Int32)), .val (.int (0 : Int32)), .val (.int (1 : Int32)), .unset, .unset] []))
        refine go (fun _ => XS.iconst X275.here hx rfl (hb hby at_120)) ?_
        show Go _ p e below s _ _ _ (T275.setTop (mkF m 121 #[.val (.int p1), .val (.int p2), .val (.int p3), .val (.ref b249), .val (.ref b251), .val (.ref b252), .val (.ref b254), .val (.ref b256), .val (.int (1 : Int32)), .val (.int (2 : Int32)), .val (.int (0 : Int32)), .val (.int (1 : Int32)), .unset, .unset] [(.int (0 : Int32))]))
        refine go (fun _ => XS.istore X275.here hx rfl (hb hby at_121) rfl (l' := #[.val (.int p1), .val (.int p2), .val (.int p3), .val (.ref b249), .val (.ref b251), .val (.ref b252), .val (.ref b254), .val (.ref b256), .val (.int (1 : Int32)), .val (.int (2 : Int32)), .val (.int (0 : Int32)), .val (.int (1 : Int32)), .val (.int (0 : Int32)), .unset]) rfl) ?_
        show Go _ p e below s _ _ _ (T275.setTop (mkF m 123 #[.val (.int p1), .val (.int p2), .val (.int p3), .val (.ref b249), .val (.ref b251), .val (.ref b252), .val (.ref b254), .val (.ref b256), .val (.int (1 : Int32)), .val (.int (2 : Int32)), .val (.int (0 : Int32)), .val (.int (1 : Int32)), .val (.int (0 : Int32)), .unset] []))
        refine go (fun _ => XS.iload X275.here hx rfl (hb hby at_123) rfl) ?_
        show Go _ p e below s _ _ _ (T275.setTop (mkF m 125 #[.val (.int p1), .val (.int p2), .val (.int p3), .val (.ref b249), .val (.ref b251), .val (.ref b252), .val (.ref b254), .val (.ref b256), .val (.int (1 : Int32)), .val (.int (2 : Int32)), .val (.int (0 : Int32)), .val (.int (1 : Int32)), .val (.int (0 : Int32)), .unset] [(.int (1 : Int32))]))
        refine go (fun _ => XS.iconst X275.here hx rfl (hb hby at_125)) ?_
        show Go _ p e below s _ _ _ (T275.setTop (mkF m 126 #[.val (.int p1), .val (.int p2), .val (.int p3), .val (.ref b249), .val (.ref b251), .val (.ref b252), .val (.ref b254), .val (.ref b256), .val (.int (1 : Int32)), .val (.int (2 : Int32)), .val (.int (0 : Int32)), .val (.int (1 : Int32)), .val (.int (0 : Int32)), .unset] [(.int (1 : Int32)), (.int (1 : Int32))]))
        refine go (fun _ => XS.icmpNo X275.here hx rfl (hb hby at_126) rfl (teq (rfl : (1 : Int32) = (1 : Int32))).2) ?_
        show Go _ p e below s _ _ _ (T275.setTop (mkF m 129 #[.val (.int p1), .val (.int p2), .val (.int p3), .val (.ref b249), .val (.ref b251), .val (.ref b252), .val (.ref b254), .val (.ref b256), .val (.int (1 : Int32)), .val (.int (2 : Int32)), .val (.int (0 : Int32)), .val (.int (1 : Int32)), .val (.int (0 : Int32)), .unset] []))
        refine go (fun _ => XS.iload X275.here hx rfl (hb hby at_129) rfl) ?_
        show Go _ p e below s _ _ _ (T275.setTop (mkF m 131 #[.val (.int p1), .val (.int p2), .val (.int p3), .val (.ref b249), .val (.ref b251), .val (.ref b252), .val (.ref b254), .val (.ref b256), .val (.int (1 : Int32)), .val (.int (2 : Int32)), .val (.int (0 : Int32)), .val (.int (1 : Int32)), .val (.int (0 : Int32)), .unset] [(.int (2 : Int32))]))
        refine go (fun _ => XS.iconst X275.here hx rfl (hb hby at_131)) ?_
        show Go _ p e below s _ _ _ (T275.setTop (mkF m 132 #[.val (.int p1), .val (.int p2), .val (.int p3), .val (.ref b249), .val (.ref b251), .val (.ref b252), .val (.ref b254), .val (.ref b256), .val (.int (1 : Int32)), .val (.int (2 : Int32)), .val (.int (0 : Int32)), .val (.int (1 : Int32)), .val (.int (0 : Int32)), .unset] [(.int (2 : Int32)), (.int (2 : Int32))]))
        refine go (fun _ => XS.icmpNo X275.here hx rfl (hb hby at_132) rfl (teq (rfl : (2 : Int32) = (2 : Int32))).2) ?_
        show Go _ p e below s _ _ _ (T275.setTop (mkF m 135 #[.val (.int p1), .val (.int p2), .val (.int p3), .val (.ref b249), .val (.ref b251), .val (.ref b252), .val (.ref b254), .val (.ref b256), .val (.int (1 : Int32)), .val (.int (2 : Int32)), .val (.int (0 : Int32)), .val (.int (1 : Int32)), .val (.int (0 : Int32)), .unset] []))
        refine go (fun _ => XS.iload X275.here hx rfl (hb hby at_135) rfl) ?_
        show Go _ p e below s _ _ _ (T275.setTop (mkF m 137 #[.val (.int p1), .val (.int p2), .val (.int p3), .val (.ref b249), .val (.ref b251), .val (.ref b252), .val (.ref b254), .val (.ref b256), .val (.int (1 : Int32)), .val (.int (2 : Int32)), .val (.int (0 : Int32)), .val (.int (1 : Int32)), .val (.int (0 : Int32)), .unset] [(.int (0 : Int32))]))
        refine go (fun _ => XS.ifYes X275.here hx rfl (pc0 := 137) (pc' := 150) rfl (hb hby at_137) rfl ((if0 _ _).trans (teq (rfl : (0 : Int32) = (0 : Int32))).1) (by decide) (by decide)) ?_
        show Go _ p e below s _ _ _ (T275.setTop (mkF m 150 #[.val (.int p1), .val (.int p2), .val (.int p3), .val (.ref b249), .val (.ref b251), .val (.ref b252), .val (.ref b254), .val (.ref b256), .val (.int (1 : Int32)), .val (.int (2 : Int32)), .val (.int (0 : Int32)), .val (.int (1 : Int32)), .val (.int (0 : Int32)), .unset] []))
        refine go (fun _ => XS.aload X275.here hx rfl (hb hby at_150) rfl rfl) ?_
        show Go _ p e below s _ _ _ (T275.setTop (mkF m 152 #[.val (.int p1), .val (.int p2), .val (.int p3), .val (.ref b249), .val (.ref b251), .val (.ref b252), .val (.ref b254), .val (.ref b256), .val (.int (1 : Int32)), .val (.int (2 : Int32)), .val (.int (0 : Int32)), .val (.int (1 : Int32)), .val (.int (0 : Int32)), .unset] [(.ref b256)]))
        refine go (fun _ => XS.aload X275.here hx rfl (hb hby at_152) rfl rfl) ?_
        show Go _ p e below s _ _ _ (T275.setTop (mkF m 154 #[.val (.int p1), .val (.int p2), .val (.int p3), .val (.ref b249), .val (.ref b251), .val (.ref b252), .val (.ref b254), .val (.ref b256), .val (.int (1 : Int32)), .val (.int (2 : Int32)), .val (.int (0 : Int32)), .val (.int (1 : Int32)), .val (.int (0 : Int32)), .unset] [(.ref b252), (.ref b256)]))
        obtain ⟨cq280, kq280, q280a, q280b, q280c⟩ := isOf hZ e275 c274_4
        obtain ⟨_, _, ⟨T280, L280, k280, n280⟩, -, X280, ⟨Lc280, hQ280, l280, y280, z280⟩, st280⟩ := X275.virtualBack hx (y := (⟨"com/example/reticule/reticule/engine/ActivationRuns", "remove", "(Lcom/example/reticule/reticule/engine/Activation;)V"⟩ : MethodName)) (z := (⟨"com/example/reticule/reticule/engine/ActivationRuns", "remove", "(Lcom/example/reticule/reticule/engine/Activation;)V"⟩ : MethodName)) hown (mvT hZ (hw _ (List.mem_of_getElem? (i := 161) rfl))) (mvT hZ (hw _ (List.mem_of_getElem? (i := 162) rfl))) (notFace_of_selects (args := #[]) (mvT hZ (hw _ (List.mem_of_getElem? (i := 164) rfl)))) (mvT hZ (hw _ (List.mem_of_getElem? (i := 164) rfl))) (mvT hZ (hw _ (List.mem_of_getElem? (i := 163) rfl))) (by decide) (backOf (W := 0) (rmRM0_2_2 l Z a0 hw [] b256 b252 b257 b273 k273 b252 (.ref b254) (T274.heap) n0 ZN274 u274_1 u274_2 u274_6 c274_4 G_b256 u273_1 c274_5 u274_5 c274_6 u274_7 u274_8 u274_9 (Ne.symm (Nat.ne_of_lt lt256_b252_b256)) (Nat.ne_of_lt lt257_b256_b257) (Nat.ne_of_lt lt273_b256_b273) (Nat.ne_of_lt lt257_b252_b257) (Nat.ne_of_lt lt273_b252_b273) (Nat.ne_of_lt lt273_b257_b273)) hZ (hw _ (List.mem_of_getElem? (i := 165) rfl)) (hw _ (List.mem_of_getElem? (i := 72) rfl)) (by decide) (by decide)) q280a q280c (g := (mkF m 154 #[.val (.int p1), .val (.int p2), .val (.int p3), .val (.ref b249), .val (.ref b251), .val (.ref b252), .val (.ref b254), .val (.ref b256), .val (.int (1 : Int32)), .val (.int (2 : Int32)), .val (.int (0 : Int32)), .val (.int (1 : Int32)), .val (.int (0 : Int32)), .unset] [(.ref b252), (.ref b256)])) rfl (by rw [hml]; rfl) (Steps.refl _) (argsL := [(.ref b252)]) (rest := []) (lenOf pd_0_5 rfl) rfl (by show 2 * 0 + _ ≤ _; exact Nat.le_of_eq rfl) (hb hby at_154) (fun _ _ => ⟨rfl, e275, (by decide : 15 + 0 ≤ _), (by decide : 161 + 0 ≤ _)⟩)
        dsimp only [Pt.U, Pt.locs, Pt.cells, Pt.slots] at X280 l280 y280 z280 st280 hQ280
        subst l280 y280 z280
        obtain ⟨rfl, N280q, K280, u280_1, u280_2, u280_3, u280_4, u280_5⟩ := hQ280
        have N280 := Fr.app N275 N280q
        have c280_2 := c274_2.keep K280
        have c280_3 := c274_3.keep K280
        have c280_4 := c274_4.keep K280
        have c280_5 := c274_5.keep K280
        have c280_6 := c274_6.keep K280 (ninS (Nat.ne_of_lt lt256_b252_b256) (ninS (Nat.ne_of_lt lt273_b252_b273) nin0))
        have c280_7 := u274_7.keep K280
        have c280_8 := u274_3.keep K280 (ninS (Nat.ne_of_lt lt256_b254_b256) (ninS (Nat.ne_of_lt lt273_b254_b273) nin0))
        have c280_9 := u274_4.keep K280 (ninS (Ne.symm (Nat.ne_of_lt lt257_b256_b257)) (ninS (Nat.ne_of_lt lt273_b257_b273) nin0))
        have c280_10 := u274_5.keep K280 (ninS (Ne.symm (Nat.ne_of_lt lt257_b256_b257)) (ninS (Nat.ne_of_lt lt273_b257_b273) nin0))
        have c280_11 := u274_6.keep K280 (ninS (Ne.symm (Nat.ne_of_lt lt257_b256_b257)) (ninS (Nat.ne_of_lt lt273_b257_b273) nin0))
        have KK280 : Keep h0 T280.heap [] := KK274.trans K280 (allS (P := fun x => x ∈ [] ∨ h0.size ≤ x) (Or.inr SZ_b256) (allS (P := fun x => x ∈ [] ∨ h0.size ≤ x) (Or.inr SZ_b273) all0))
        have ZN280 : n0 ≤ T280.heap.size := Nat.le_trans ZN274 K280.1
        have HK280 : T255.heap.size ≤ T280.heap.size := Nat.le_trans HK274 K280.1
        have OL280 := OL274.keep K280 (allS G_b256 (allS u273_1 all0))
        refine goT st280 ?_
        show Go _ p e below s _ _ _ (T280.setTop (mkF m 157 #[.val (.int p1), .val (.int p2), .val (.int p3), .val (.ref b249), .val (.ref b251), .val (.ref b252), .val (.ref b254), .val (.ref b256), .val (.int (1 : Int32)), .val (.int (2 : Int32)), .val (.int (0 : Int32)), .val (.int (1 : Int32)), .val (.int (0 : Int32)), .unset] []))
        refine go (fun _ => XS.iload X280.here hx rfl (hb hby at_157) rfl) ?_
        show Go _ p e below s _ _ _ (T280.setTop (mkF m 159 #[.val (.int p1), .val (.int p2), .val (.int p3), .val (.ref b249), .val (.ref b251), .val (.ref b252), .val (.ref b254), .val (.ref b256), .val (.int (1 : Int32)), .val (.int (2 : Int32)), .val (.int (0 : Int32)), .val (.int (1 : Int32)), .val (.int (0 : Int32)), .unset] [(.int (1 : Int32))]))
        refine go (fun _ => XS.iconst X280.here hx rfl (hb hby at_159)) ?_
        show Go _ p e below s _ _ _ (T280.setTop (mkF m 160 #[.val (.int p1), .val (.int p2), .val (.int p3), .val (.ref b249), .val (.ref b251), .val (.ref b252), .val (.ref b254), .val (.ref b256), .val (.int (1 : Int32)), .val (.int (2 : Int32)), .val (.int (0 : Int32)), .val (.int (1 : Int32)), .val (.int (0 : Int32)), .unset] [(.int (2 : Int32)), (.int (1 : Int32))]))
        refine go (fun _ => XS.icmpYes X280.here hx rfl (pc0 := 160) (pc' := 199) rfl (hb hby at_160) rfl (feq (by decide : ¬ ((1 : Int32) = (2 : Int32)))).2 (by decide) (by decide)) ?_
        show Go _ p e below s _ _ _ (T280.setTop (mkF m 199 #[.val (.int p1), .val (.int p2), .val (.int p3), .val (.ref b249), .val (.ref b251), .val (.ref b252), .val (.ref b254), .val (.ref b256), .val (.int (1 : Int32)), .val (.int (2 : Int32)), .val (.int (0 : Int32)), .val (.int (1 : Int32)), .val (.int (0 : Int32)), .unset] []))
        refine go (fun _ => XS.aload X280.here hx rfl (hb hby at_199) rfl rfl) ?_
        show Go _ p e below s _ _ _ (T280.setTop (mkF m 201 #[.val (.int p1), .val (.int p2), .val (.int p3), .val (.ref b249), .val (.ref b251), .val (.ref b252), .val (.ref b254), .val (.ref b256), .val (.int (1 : Int32)), .val (.int (2 : Int32)), .val (.int (0 : Int32)), .val (.int (1 : Int32)), .val (.int (0 : Int32)), .unset] [(.ref b256)]))
        obtain ⟨cq281, kq281, q281a, q281b, q281c⟩ := isOf hZ rfl c280_4
        obtain ⟨_, _, ⟨T281, L281, k281, n281⟩, -, X281, ⟨Lc281, hQ281, l281, y281, z281⟩, st281⟩ := X280.virtualBack hx (y := (⟨"com/example/reticule/reticule/engine/ActivationRuns", "isEmpty", "()Z"⟩ : MethodName)) (z := (⟨"com/example/reticule/reticule/engine/ActivationRuns", "isEmpty", "()Z"⟩ : MethodName)) hown (mvT hZ (hw _ (List.mem_of_getElem? (i := 103) rfl))) (mvT hZ (hw _ (List.mem_of_getElem? (i := 104) rfl))) (notFace_of_selects (args := #[]) (mvT hZ (hw _ (List.mem_of_getElem? (i := 106) rfl)))) (mvT hZ (hw _ (List.mem_of_getElem? (i := 106) rfl))) (mvT hZ (hw _ (List.mem_of_getElem? (i := 105) rfl))) (by decide) (backOf (W := 0) (rmE1 l Z a0 hw [] b256 (T280.heap) n0 ZN280 u280_2) hZ (hw _ (List.mem_of_getElem? (i := 107) rfl)) (hw _ (List.mem_of_getElem? (i := 72) rfl)) (by decide) (by decide)) q281a q281c (g := (mkF m 201 #[.val (.int p1), .val (.int p2), .val (.int p3), .val (.ref b249), .val (.ref b251), .val (.ref b252), .val (.ref b254), .val (.ref b256), .val (.int (1 : Int32)), .val (.int (2 : Int32)), .val (.int (0 : Int32)), .val (.int (1 : Int32)), .val (.int (0 : Int32)), .unset] [(.ref b256)])) rfl (by rw [hml]; rfl) (Steps.refl _) (argsL := []) (rest := []) (lenOf pd_0_4 rfl) rfl (by show 2 * 0 + _ ≤ _; exact Nat.le_of_eq rfl) (hb hby at_201) (fun _ _ => ⟨rfl, rfl, (by decide : 15 + 0 ≤ _), (by decide : 161 + 0 ≤ _)⟩)
        dsimp only [Pt.U, Pt.locs, Pt.cells, Pt.slots] at X281 l281 y281 z281 st281 hQ281
        subst l281 y281 z281
        obtain ⟨rfl, N281q, e281⟩ := hQ281
        have N281 := Fr.app N280 N281q
        refine goT st281 ?_
        show Go _ p e below s _ _ _ (T281.setTop (mkF m 204 #[.val (.int p1), .val (.int p2), .val (.int p3), .val (.ref b249), .val (.ref b251), .val (.ref b252), .val (.ref b254), .val (.ref b256), .val (.int (1 : Int32)), .val (.int (2 : Int32)), .val (.int (0 : Int32)), .val (.int (1 : Int32)), .val (.int (0 : Int32)), .unset] [(.int (0 : Int32))]))
        refine go (fun _ => XS.istore X281.here hx rfl (hb hby at_204) rfl (l' := #[.val (.int p1), .val (.int p2), .val (.int p3), .val (.ref b249), .val (.ref b251), .val (.ref b252), .val (.ref b254), .val (.ref b256), .val (.int (1 : Int32)), .val (.int (2 : Int32)), .val (.int (0 : Int32)), .val (.int (1 : Int32)), .val (.int (0 : Int32)), .val (.int (0 : Int32))]) rfl) ?_
        show Go _ p e below s _ _ _ (T281.setTop (mkF m 206 #[.val (.int p1), .val (.int p2), .val (.int p3), .val (.ref b249), .val (.ref b251), .val (.ref b252), .val (.ref b254), .val (.ref b256), .val (.int (1 : Int32)), .val (.int (2 : Int32)), .val (.int (0 : Int32)), .val (.int (1 : Int32)), .val (.int (0 : Int32)), .val (.int (0 : Int32))] []))
        refine go (fun _ => XS.iload X281.here hx rfl (hb hby at_206) rfl) ?_
        show Go _ p e below s _ _ _ (T281.setTop (mkF m 208 #[.val (.int p1), .val (.int p2), .val (.int p3), .val (.ref b249), .val (.ref b251), .val (.ref b252), .val (.ref b254), .val (.ref b256), .val (.int (1 : Int32)), .val (.int (2 : Int32)), .val (.int (0 : Int32)), .val (.int (1 : Int32)), .val (.int (0 : Int32)), .val (.int (0 : Int32))] [(.int (1 : Int32))]))
        refine go (fun _ => XS.ifNo X281.here hx rfl (hb hby at_208) rfl ((if0 _ _).trans (feq (by decide : ¬ ((1 : Int32) = (0 : Int32)))).1)) ?_
        show Go _ p e below s _ _ _ (T281.setTop (mkF m 211 #[.val (.int p1), .val (.int p2), .val (.int p3), .val (.ref b249), .val (.ref b251), .val (.ref b252), .val (.ref b254), .val (.ref b256), .val (.int (1 : Int32)), .val (.int (2 : Int32)), .val (.int (0 : Int32)), .val (.int (1 : Int32)), .val (.int (0 : Int32)), .val (.int (0 : Int32))] []))
        refine go (fun _ => XS.iload X281.here hx rfl (hb hby at_211) rfl) ?_
        show Go _ p e below s _ _ _ (T281.setTop (mkF m 213 #[.val (.int p1), .val (.int p2), .val (.int p3), .val (.ref b249), .val (.ref b251), .val (.ref b252), .val (.ref b254), .val (.ref b256), .val (.int (1 : Int32)), .val (.int (2 : Int32)), .val (.int (0 : Int32)), .val (.int (1 : Int32)), .val (.int (0 : Int32)), .val (.int (0 : Int32))] [(.int (0 : Int32))]))
        refine go (fun _ => XS.iload X281.here hx rfl (hb hby at_213) rfl) ?_
        show Go _ p e below s _ _ _ (T281.setTop (mkF m 215 #[.val (.int p1), .val (.int p2), .val (.int p3), .val (.ref b249), .val (.ref b251), .val (.ref b252), .val (.ref b254), .val (.ref b256), .val (.int (1 : Int32)), .val (.int (2 : Int32)), .val (.int (0 : Int32)), .val (.int (1 : Int32)), .val (.int (0 : Int32)), .val (.int (0 : Int32))] [(.int (2 : Int32)), (.int (0 : Int32))]))
        refine go (fun _ => XS.ifYes X281.here hx rfl (pc0 := 215) (pc' := 222) rfl (hb hby at_215) rfl ((if0 _ _).trans (feq (by decide : ¬ ((2 : Int32) = (0 : Int32)))).2) (by decide) (by decide)) ?_
        show Go _ p e below s _ _ _ (T281.setTop (mkF m 222 #[.val (.int p1), .val (.int p2), .val (.int p3), .val (.ref b249), .val (.ref b251), .val (.ref b252), .val (.ref b254), .val (.ref b256), .val (.int (1 : Int32)), .val (.int (2 : Int32)), .val (.int (0 : Int32)), .val (.int (1 : Int32)), .val (.int (0 : Int32)), .val (.int (0 : Int32))] [(.int (0 : Int32))]))
        refine go (fun _ => XS.iconst X281.here hx rfl (hb hby at_222)) ?_
        show Go _ p e below s _ _ _ (T281.setTop (mkF m 223 #[.val (.int p1), .val (.int p2), .val (.int p3), .val (.ref b249), .val (.ref b251), .val (.ref b252), .val (.ref b254), .val (.ref b256), .val (.int (1 : Int32)), .val (.int (2 : Int32)), .val (.int (0 : Int32)), .val (.int (1 : Int32)), .val (.int (0 : Int32)), .val (.int (0 : Int32))] [(.int (0 : Int32)), (.int (0 : Int32))]))
        refine go (fun _ => XS.icmpNo X281.here hx rfl (hb hby at_223) rfl (teq (rfl : (0 : Int32) = (0 : Int32))).2) ?_
        show Go _ p e below s _ _ _ (T281.setTop (mkF m 226 #[.val (.int p1), .val (.int p2), .val (.int p3), .val (.ref b249), .val (.ref b251), .val (.ref b252), .val (.ref b254), .val (.ref b256), .val (.int (1 : Int32)), .val (.int (2 : Int32)), .val (.int (0 : Int32)), .val (.int (1 : Int32)), .val (.int (0 : Int32)), .val (.int (0 : Int32))] []))
        refine go (fun _ => XS.iload X281.here hx rfl (hb hby at_226) rfl) ?_
        show Go _ p e below s _ _ _ (T281.setTop (mkF m 228 #[.val (.int p1), .val (.int p2), .val (.int p3), .val (.ref b249), .val (.ref b251), .val (.ref b252), .val (.ref b254), .val (.ref b256), .val (.int (1 : Int32)), .val (.int (2 : Int32)), .val (.int (0 : Int32)), .val (.int (1 : Int32)), .val (.int (0 : Int32)), .val (.int (0 : Int32))] [(.int (0 : Int32))]))
        refine go (fun _ => XS.iload X281.here hx rfl (hb hby at_228) rfl) ?_
        show Go _ p e below s _ _ _ (T281.setTop (mkF m 230 #[.val (.int p1), .val (.int p2), .val (.int p3), .val (.ref b249), .val (.ref b251), .val (.ref b252), .val (.ref b254), .val (.ref b256), .val (.int (1 : Int32)), .val (.int (2 : Int32)), .val (.int (0 : Int32)), .val (.int (1 : Int32)), .val (.int (0 : Int32)), .val (.int (0 : Int32))] [(.int (1 : Int32)), (.int (0 : Int32))]))
        refine go (fun _ => XS.iload X281.here hx rfl (hb hby at_230) rfl) ?_
        show Go _ p e below s _ _ _ (T281.setTop (mkF m 232 #[.val (.int p1), .val (.int p2), .val (.int p3), .val (.ref b249), .val (.ref b251), .val (.ref b252), .val (.ref b254), .val (.ref b256), .val (.int (1 : Int32)), .val (.int (2 : Int32)), .val (.int (0 : Int32)), .val (.int (1 : Int32)), .val (.int (0 : Int32)), .val (.int (0 : Int32))] [(.int (2 : Int32)), (.int (1 : Int32)), (.int (0 : Int32))]))
        refine go (fun _ => XS.icmpYes X281.here hx rfl (pc0 := 232) (pc' := 239) rfl (hb hby at_232) rfl (feq (by decide : ¬ ((1 : Int32) = (2 : Int32)))).2 (by decide) (by decide)) ?_
        show Go _ p e below s _ _ _ (T281.setTop (mkF m 239 #[.val (.int p1), .val (.int p2), .val (.int p3), .val (.ref b249), .val (.ref b251), .val (.ref b252), .val (.ref b254), .val (.ref b256), .val (.int (1 : Int32)), .val (.int (2 : Int32)), .val (.int (0 : Int32)), .val (.int (1 : Int32)), .val (.int (0 : Int32)), .val (.int (0 : Int32))] [(.int (0 : Int32))]))
        refine go (fun _ => XS.iconst X281.here hx rfl (hb hby at_239)) ?_
        show Go _ p e below s _ _ _ (T281.setTop (mkF m 240 #[.val (.int p1), .val (.int p2), .val (.int p3), .val (.ref b249), .val (.ref b251), .val (.ref b252), .val (.ref b254), .val (.ref b256), .val (.int (1 : Int32)), .val (.int (2 : Int32)), .val (.int (0 : Int32)), .val (.int (1 : Int32)), .val (.int (0 : Int32)), .val (.int (0 : Int32))] [(.int (0 : Int32)), (.int (0 : Int32))]))
        refine go (fun _ => XS.icmpNo X281.here hx rfl (hb hby at_240) rfl (teq (rfl : (0 : Int32) = (0 : Int32))).2) ?_
        show Go _ p e below s _ _ _ (T281.setTop (mkF m 243 #[.val (.int p1), .val (.int p2), .val (.int p3), .val (.ref b249), .val (.ref b251), .val (.ref b252), .val (.ref b254), .val (.ref b256), .val (.int (1 : Int32)), .val (.int (2 : Int32)), .val (.int (0 : Int32)), .val (.int (1 : Int32)), .val (.int (0 : Int32)), .val (.int (0 : Int32))] []))
        refine go (fun _ => XS.iconst X281.here hx rfl (hb hby at_243)) ?_
        show Go _ p e below s _ _ _ (T281.setTop (mkF m 244 #[.val (.int p1), .val (.int p2), .val (.int p3), .val (.ref b249), .val (.ref b251), .val (.ref b252), .val (.ref b254), .val (.ref b256), .val (.int (1 : Int32)), .val (.int (2 : Int32)), .val (.int (0 : Int32)), .val (.int (1 : Int32)), .val (.int (0 : Int32)), .val (.int (0 : Int32))] [(.int (1 : Int32))]))
        refine go (fun _ => XS.goto X281.here hx rfl (pc0 := 244) (pc' := 248) rfl (hb hby at_244) (by decide) (by decide)) ?_
        show Go _ p e below s _ _ _ (T281.setTop (mkF m 248 #[.val (.int p1), .val (.int p2), .val (.int p3), .val (.ref b249), .val (.ref b251), .val (.ref b252), .val (.ref b254), .val (.ref b256), .val (.int (1 : Int32)), .val (.int (2 : Int32)), .val (.int (0 : Int32)), .val (.int (1 : Int32)), .val (.int (0 : Int32)), .val (.int (0 : Int32))] [(.int (1 : Int32))]))
        refine goRetW X281 hS255 (by rw [e281]; exact HK280) hx Bd.notSynchronized Bd.returns rfl (Or.inl ⟨rfl, Or.inr (Or.inl rfl), _, rfl⟩) (hb hby at_248) (by decide) (by decide) (by rw [e281]; refine ⟨rfl, N281⟩)
      · refine go (fun _ => XS.ifNo X275.here hx rfl (hb hby at_113) rfl ((if0 _ _).trans (feq hc113_279).1)) ?_
        show Go _ p e below s _ _ _ (T275.setTop (mkF m 116 #[.val (.int p1), .val (.int p2), .val (.int p3), .val (.ref b249), .val (.ref b251), .val (.ref b252), .val (.ref b254), .val (.ref b256), .val (.int (1 : Int32)), .val (.int (2 : Int32)), .val (.int (0 : Int32)), .val (.int (1 : Int32)), .unset, .unset] []))
        refine go (fun _ => XS.iconst X275.here hx rfl (hb hby at_116)) ?_
        show Go _ p e below s _ _ _ (T275.setTop (mkF m 117 #[.val (.int p1), .val (.int p2), .val (.int p3), .val (.ref b249), .val (.ref b251), .val (.ref b252), .val (.ref b254), .val (.ref b256), .val (.int (1 : Int32)), .val (.int (2 : Int32)), .val (.int (0 : Int32)), .val (.int (1 : Int32)), .unset, .unset] [(.int (1 : Int32))]))
        refine go (fun _ => XS.goto X275.here hx rfl (pc0 := 117) (pc' := 121) rfl (hb hby at_117) (by decide) (by decide)) ?_
        show Go _ p e below s _ _ _ (T275.setTop (mkF m 121 #[.val (.int p1), .val (.int p2), .val (.int p3), .val (.ref b249), .val (.ref b251), .val (.ref b252), .val (.ref b254), .val (.ref b256), .val (.int (1 : Int32)), .val (.int (2 : Int32)), .val (.int (0 : Int32)), .val (.int (1 : Int32)), .unset, .unset] [(.int (1 : Int32))]))
        refine go (fun _ => XS.istore X275.here hx rfl (hb hby at_121) rfl (l' := #[.val (.int p1), .val (.int p2), .val (.int p3), .val (.ref b249), .val (.ref b251), .val (.ref b252), .val (.ref b254), .val (.ref b256), .val (.int (1 : Int32)), .val (.int (2 : Int32)), .val (.int (0 : Int32)), .val (.int (1 : Int32)), .val (.int (1 : Int32)), .unset]) rfl) ?_
        show Go _ p e below s _ _ _ (T275.setTop (mkF m 123 #[.val (.int p1), .val (.int p2), .val (.int p3), .val (.ref b249), .val (.ref b251), .val (.ref b252), .val (.ref b254), .val (.ref b256), .val (.int (1 : Int32)), .val (.int (2 : Int32)), .val (.int (0 : Int32)), .val (.int (1 : Int32)), .val (.int (1 : Int32)), .unset] []))
        refine go (fun _ => XS.iload X275.here hx rfl (hb hby at_123) rfl) ?_
        show Go _ p e below s _ _ _ (T275.setTop (mkF m 125 #[.val (.int p1), .val (.int p2), .val (.int p3), .val (.ref b249), .val (.ref b251), .val (.ref b252), .val (.ref b254), .val (.ref b256), .val (.int (1 : Int32)), .val (.int (2 : Int32)), .val (.int (0 : Int32)), .val (.int (1 : Int32)), .val (.int (1 : Int32)), .unset] [(.int (1 : Int32))]))
        refine go (fun _ => XS.iconst X275.here hx rfl (hb hby at_125)) ?_
        show Go _ p e below s _ _ _ (T275.setTop (mkF m 126 #[.val (.int p1), .val (.int p2), .val (.int p3), .val (.ref b249), .val (.ref b251), .val (.ref b252), .val (.ref b254), .val (.ref b256), .val (.int (1 : Int32)), .val (.int (2 : Int32)), .val (.int (0 : Int32)), .val (.int (1 : Int32)), .val (.int (1 : Int32)), .unset] [(.int (1 : Int32)), (.int (1 : Int32))]))
        refine go (fun _ => XS.icmpNo X275.here hx rfl (hb hby at_126) rfl (teq (rfl : (1 : Int32) = (1 : Int32))).2) ?_
        show Go _ p e below s _ _ _ (T275.setTop (mkF m 129 #[.val (.int p1), .val (.int p2), .val (.int p3), .val (.ref b249), .val (.ref b251), .val (.ref b252), .val (.ref b254), .val (.ref b256), .val (.int (1 : Int32)), .val (.int (2 : Int32)), .val (.int (0 : Int32)), .val (.int (1 : Int32)), .val (.int (1 : Int32)), .unset] []))
        refine go (fun _ => XS.iload X275.here hx rfl (hb hby at_129) rfl) ?_
        show Go _ p e below s _ _ _ (T275.setTop (mkF m 131 #[.val (.int p1), .val (.int p2), .val (.int p3), .val (.ref b249), .val (.ref b251), .val (.ref b252), .val (.ref b254), .val (.ref b256), .val (.int (1 : Int32)), .val (.int (2 : Int32)), .val (.int (0 : Int32)), .val (.int (1 : Int32)), .val (.int (1 : Int32)), .unset] [(.int (2 : Int32))]))
        refine go (fun _ => XS.iconst X275.here hx rfl (hb hby at_131)) ?_
        show Go _ p e below s _ _ _ (T275.setTop (mkF m 132 #[.val (.int p1), .val (.int p2), .val (.int p3), .val (.ref b249), .val (.ref b251), .val (.ref b252), .val (.ref b254), .val (.ref b256), .val (.int (1 : Int32)), .val (.int (2 : Int32)), .val (.int (0 : Int32)), .val (.int (1 : Int32)), .val (.int (1 : Int32)), .unset] [(.int (2 : Int32)), (.int (2 : Int32))]))
        refine go (fun _ => XS.icmpNo X275.here hx rfl (hb hby at_132) rfl (teq (rfl : (2 : Int32) = (2 : Int32))).2) ?_
        show Go _ p e below s _ _ _ (T275.setTop (mkF m 135 #[.val (.int p1), .val (.int p2), .val (.int p3), .val (.ref b249), .val (.ref b251), .val (.ref b252), .val (.ref b254), .val (.ref b256), .val (.int (1 : Int32)), .val (.int (2 : Int32)), .val (.int (0 : Int32)), .val (.int (1 : Int32)), .val (.int (1 : Int32)), .unset] []))
        refine go (fun _ => XS.iload X275.here hx rfl (hb hby at_135) rfl) ?_
        show Go _ p e below s _ _ _ (T275.setTop (mkF m 137 #[.val (.int p1), .val (.int p2), .val (.int p3), .val (.ref b249), .val (.ref b251), .val (.ref b252), .val (.ref b254), .val (.ref b256), .val (.int (1 : Int32)), .val (.int (2 : Int32)), .val (.int (0 : Int32)), .val (.int (1 : Int32)), .val (.int (1 : Int32)), .unset] [(.int (1 : Int32))]))
        refine go (fun _ => XS.ifNo X275.here hx rfl (hb hby at_137) rfl ((if0 _ _).trans (feq (by decide : ¬ ((1 : Int32) = (0 : Int32)))).1)) ?_
        show Go _ p e below s _ _ _ (T275.setTop (mkF m 140 #[.val (.int p1), .val (.int p2), .val (.int p3), .val (.ref b249), .val (.ref b251), .val (.ref b252), .val (.ref b254), .val (.ref b256), .val (.int (1 : Int32)), .val (.int (2 : Int32)), .val (.int (0 : Int32)), .val (.int (1 : Int32)), .val (.int (1 : Int32)), .unset] []))
        refine go (fun _ => XS.aload X275.here hx rfl (hb hby at_140) rfl rfl) ?_
        show Go _ p e below s _ _ _ (T275.setTop (mkF m 142 #[.val (.int p1), .val (.int p2), .val (.int p3), .val (.ref b249), .val (.ref b251), .val (.ref b252), .val (.ref b254), .val (.ref b256), .val (.int (1 : Int32)), .val (.int (2 : Int32)), .val (.int (0 : Int32)), .val (.int (1 : Int32)), .val (.int (1 : Int32)), .unset] [(.ref b256)]))
        refine go (fun _ => XS.aload X275.here hx rfl (hb hby at_142) rfl rfl) ?_
        show Go _ p e below s _ _ _ (T275.setTop (mkF m 144 #[.val (.int p1), .val (.int p2), .val (.int p3), .val (.ref b249), .val (.ref b251), .val (.ref b252), .val (.ref b254), .val (.ref b256), .val (.int (1 : Int32)), .val (.int (2 : Int32)), .val (.int (0 : Int32)), .val (.int (1 : Int32)), .val (.int (1 : Int32)), .unset] [(.ref b254), (.ref b256)]))
        obtain ⟨cq282, kq282, q282a, q282b, q282c⟩ := isOf hZ e275 c274_4
        obtain ⟨_, _, ⟨T282, L282, k282, n282⟩, -, X282, ⟨Lc282, hQ282, l282, y282, z282⟩, st282⟩ := X275.virtualBack hx (y := (⟨"com/example/reticule/reticule/engine/ActivationRuns", "remove", "(Lcom/example/reticule/reticule/engine/Activation;)V"⟩ : MethodName)) (z := (⟨"com/example/reticule/reticule/engine/ActivationRuns", "remove", "(Lcom/example/reticule/reticule/engine/Activation;)V"⟩ : MethodName)) hown (mvT hZ (hw _ (List.mem_of_getElem? (i := 161) rfl))) (mvT hZ (hw _ (List.mem_of_getElem? (i := 162) rfl))) (notFace_of_selects (args := #[]) (mvT hZ (hw _ (List.mem_of_getElem? (i := 164) rfl)))) (mvT hZ (hw _ (List.mem_of_getElem? (i := 164) rfl))) (mvT hZ (hw _ (List.mem_of_getElem? (i := 163) rfl))) (by decide) (backOf (W := 0) (rmRM1_2_2 l Z a0 hw [] b256 b254 b257 b273 k273 (.ref b252) b254 (T274.heap) n0 ZN274 u274_1 u274_2 u274_6 c274_4 G_b256 u273_1 c274_5 u274_5 u274_3 u274_7 u274_8 u274_9 (Ne.symm (Nat.ne_of_lt lt256_b254_b256)) (Nat.ne_of_lt lt257_b256_b257) (Nat.ne_of_lt lt273_b256_b273) (Nat.ne_of_lt lt257_b254_b257) (Nat.ne_of_lt lt273_b254_b273) (Nat.ne_of_lt lt273_b257_b273)) hZ (hw _ (List.mem_of_getElem? (i := 165) rfl)) (hw _ (List.mem_of_getElem? (i := 72) rfl)) (by decide) (by decide)) q282a q282c (g := (mkF m 144 #[.val (.int p1), .val (.int p2), .val (.int p3), .val (.ref b249), .val (.ref b251), .val (.ref b252), .val (.ref b254), .val (.ref b256), .val (.int (1 : Int32)), .val (.int (2 : Int32)), .val (.int (0 : Int32)), .val (.int (1 : Int32)), .val (.int (1 : Int32)), .unset] [(.ref b254), (.ref b256)])) rfl (by rw [hml]; rfl) (Steps.refl _) (argsL := [(.ref b254)]) (rest := []) (lenOf pd_0_5 rfl) rfl (by show 2 * 0 + _ ≤ _; exact Nat.le_of_eq rfl) (hb hby at_144) (fun _ _ => ⟨rfl, e275, (by decide : 15 + 0 ≤ _), (by decide : 161 + 0 ≤ _)⟩)
        dsimp only [Pt.U, Pt.locs, Pt.cells, Pt.slots] at X282 l282 y282 z282 st282 hQ282
        subst l282 y282 z282
        obtain ⟨rfl, N282q, K282, u282_1, u282_2, u282_3, u282_4, u282_5⟩ := hQ282
        have N282 := Fr.app N275 N282q
        have c282_2 := c274_2.keep K282
        have c282_3 := c274_3.keep K282
        have c282_4 := c274_4.keep K282
        have c282_5 := c274_5.keep K282
        have c282_6 := c274_6.keep K282 (ninS (Nat.ne_of_lt lt256_b252_b256) (ninS (Nat.ne_of_lt lt273_b252_b273) nin0))
        have c282_7 := u274_7.keep K282
        have c282_8 := u274_3.keep K282 (ninS (Nat.ne_of_lt lt256_b254_b256) (ninS (Nat.ne_of_lt lt273_b254_b273) nin0))
        have c282_9 := u274_4.keep K282 (ninS (Ne.symm (Nat.ne_of_lt lt257_b256_b257)) (ninS (Nat.ne_of_lt lt273_b257_b273) nin0))
        have c282_10 := u274_5.keep K282 (ninS (Ne.symm (Nat.ne_of_lt lt257_b256_b257)) (ninS (Nat.ne_of_lt lt273_b257_b273) nin0))
        have c282_11 := u274_6.keep K282 (ninS (Ne.symm (Nat.ne_of_lt lt257_b256_b257)) (ninS (Nat.ne_of_lt lt273_b257_b273) nin0))
        have KK282 : Keep h0 T282.heap [] := KK274.trans K282 (allS (P := fun x => x ∈ [] ∨ h0.size ≤ x) (Or.inr SZ_b256) (allS (P := fun x => x ∈ [] ∨ h0.size ≤ x) (Or.inr SZ_b273) all0))
        have ZN282 : n0 ≤ T282.heap.size := Nat.le_trans ZN274 K282.1
        have HK282 : T255.heap.size ≤ T282.heap.size := Nat.le_trans HK274 K282.1
        have OL282 := OL274.keep K282 (allS G_b256 (allS u273_1 all0))
        refine goT st282 ?_
        show Go _ p e below s _ _ _ (T282.setTop (mkF m 147 #[.val (.int p1), .val (.int p2), .val (.int p3), .val (.ref b249), .val (.ref b251), .val (.ref b252), .val (.ref b254), .val (.ref b256), .val (.int (1 : Int32)), .val (.int (2 : Int32)), .val (.int (0 : Int32)), .val (.int (1 : Int32)), .val (.int (1 : Int32)), .unset] []))
        refine go (fun _ => XS.goto X282.here hx rfl (pc0 := 147) (pc' := 157) rfl (hb hby at_147) (by decide) (by decide)) ?_
        show Go _ p e below s _ _ _ (T282.setTop (mkF m 157 #[.val (.int p1), .val (.int p2), .val (.int p3), .val (.ref b249), .val (.ref b251), .val (.ref b252), .val (.ref b254), .val (.ref b256), .val (.int (1 : Int32)), .val (.int (2 : Int32)), .val (.int (0 : Int32)), .val (.int (1 : Int32)), .val (.int (1 : Int32)), .unset] []))
        refine go (fun _ => XS.iload X282.here hx rfl (hb hby at_157) rfl) ?_
        show Go _ p e below s _ _ _ (T282.setTop (mkF m 159 #[.val (.int p1), .val (.int p2), .val (.int p3), .val (.ref b249), .val (.ref b251), .val (.ref b252), .val (.ref b254), .val (.ref b256), .val (.int (1 : Int32)), .val (.int (2 : Int32)), .val (.int (0 : Int32)), .val (.int (1 : Int32)), .val (.int (1 : Int32)), .unset] [(.int (1 : Int32))]))
        refine go (fun _ => XS.iconst X282.here hx rfl (hb hby at_159)) ?_
        show Go _ p e below s _ _ _ (T282.setTop (mkF m 160 #[.val (.int p1), .val (.int p2), .val (.int p3), .val (.ref b249), .val (.ref b251), .val (.ref b252), .val (.ref b254), .val (.ref b256), .val (.int (1 : Int32)), .val (.int (2 : Int32)), .val (.int (0 : Int32)), .val (.int (1 : Int32)), .val (.int (1 : Int32)), .unset] [(.int (2 : Int32)), (.int (1 : Int32))]))
        refine go (fun _ => XS.icmpYes X282.here hx rfl (pc0 := 160) (pc' := 199) rfl (hb hby at_160) rfl (feq (by decide : ¬ ((1 : Int32) = (2 : Int32)))).2 (by decide) (by decide)) ?_
        show Go _ p e below s _ _ _ (T282.setTop (mkF m 199 #[.val (.int p1), .val (.int p2), .val (.int p3), .val (.ref b249), .val (.ref b251), .val (.ref b252), .val (.ref b254), .val (.ref b256), .val (.int (1 : Int32)), .val (.int (2 : Int32)), .val (.int (0 : Int32)), .val (.int (1 : Int32)), .val (.int (1 : Int32)), .unset] []))
        refine go (fun _ => XS.aload X282.here hx rfl (hb hby at_199) rfl rfl) ?_
        show Go _ p e below s _ _ _ (T282.setTop (mkF m 201 #[.val (.int p1), .val (.int p2), .val (.int p3), .val (.ref b249), .val (.ref b251), .val (.ref b252), .val (.ref b254), .val (.ref b256), .val (.int (1 : Int32)), .val (.int (2 : Int32)), .val (.int (0 : Int32)), .val (.int (1 : Int32)), .val (.int (1 : Int32)), .unset] [(.ref b256)]))
        obtain ⟨cq283, kq283, q283a, q283b, q283c⟩ := isOf hZ rfl c282_4
        obtain ⟨_, _, ⟨T283, L283, k283, n283⟩, -, X283, ⟨Lc283, hQ283, l283, y283, z283⟩, st283⟩ := X282.virtualBack hx (y := (⟨"com/example/reticule/reticule/engine/ActivationRuns", "isEmpty", "()Z"⟩ : MethodName)) (z := (⟨"com/example/reticule/reticule/engine/ActivationRuns", "isEmpty", "()Z"⟩ : MethodName)) hown (mvT hZ (hw _ (List.mem_of_getElem? (i := 103) rfl))) (mvT hZ (hw _ (List.mem_of_getElem? (i := 104) rfl))) (notFace_of_selects (args := #[]) (mvT hZ (hw _ (List.mem_of_getElem? (i := 106) rfl)))) (mvT hZ (hw _ (List.mem_of_getElem? (i := 106) rfl))) (mvT hZ (hw _ (List.mem_of_getElem? (i := 105) rfl))) (by decide) (backOf (W := 0) (rmE1 l Z a0 hw [] b256 (T282.heap) n0 ZN282 u282_2) hZ (hw _ (List.mem_of_getElem? (i := 107) rfl)) (hw _ (List.mem_of_getElem? (i := 72) rfl)) (by decide) (by decide)) q283a q283c (g := (mkF m 201 #[.val (.int p1), .val (.int p2), .val (.int p3), .val (.ref b249), .val (.ref b251), .val (.ref b252), .val (.ref b254), .val (.ref b256), .val (.int (1 : Int32)), .val (.int (2 : Int32)), .val (.int (0 : Int32)), .val (.int (1 : Int32)), .val (.int (1 : Int32)), .unset] [(.ref b256)])) rfl (by rw [hml]; rfl) (Steps.refl _) (argsL := []) (rest := []) (lenOf pd_0_4 rfl) rfl (by show 2 * 0 + _ ≤ _; exact Nat.le_of_eq rfl) (hb hby at_201) (fun _ _ => ⟨rfl, rfl, (by decide : 15 + 0 ≤ _), (by decide : 161 + 0 ≤ _)⟩)
        dsimp only [Pt.U, Pt.locs, Pt.cells, Pt.slots] at X283 l283 y283 z283 st283 hQ283
        subst l283 y283 z283
        obtain ⟨rfl, N283q, e283⟩ := hQ283
        have N283 := Fr.app N282 N283q
        refine goT st283 ?_
        show Go _ p e below s _ _ _ (T283.setTop (mkF m 204 #[.val (.int p1), .val (.int p2), .val (.int p3), .val (.ref b249), .val (.ref b251), .val (.ref b252), .val (.ref b254), .val (.ref b256), .val (.int (1 : Int32)), .val (.int (2 : Int32)), .val (.int (0 : Int32)), .val (.int (1 : Int32)), .val (.int (1 : Int32)), .unset] [(.int (0 : Int32))]))
        refine go (fun _ => XS.istore X283.here hx rfl (hb hby at_204) rfl (l' := #[.val (.int p1), .val (.int p2), .val (.int p3), .val (.ref b249), .val (.ref b251), .val (.ref b252), .val (.ref b254), .val (.ref b256), .val (.int (1 : Int32)), .val (.int (2 : Int32)), .val (.int (0 : Int32)), .val (.int (1 : Int32)), .val (.int (1 : Int32)), .val (.int (0 : Int32))]) rfl) ?_
        show Go _ p e below s _ _ _ (T283.setTop (mkF m 206 #[.val (.int p1), .val (.int p2), .val (.int p3), .val (.ref b249), .val (.ref b251), .val (.ref b252), .val (.ref b254), .val (.ref b256), .val (.int (1 : Int32)), .val (.int (2 : Int32)), .val (.int (0 : Int32)), .val (.int (1 : Int32)), .val (.int (1 : Int32)), .val (.int (0 : Int32))] []))
        refine go (fun _ => XS.iload X283.here hx rfl (hb hby at_206) rfl) ?_
        show Go _ p e below s _ _ _ (T283.setTop (mkF m 208 #[.val (.int p1), .val (.int p2), .val (.int p3), .val (.ref b249), .val (.ref b251), .val (.ref b252), .val (.ref b254), .val (.ref b256), .val (.int (1 : Int32)), .val (.int (2 : Int32)), .val (.int (0 : Int32)), .val (.int (1 : Int32)), .val (.int (1 : Int32)), .val (.int (0 : Int32))] [(.int (1 : Int32))]))
        refine go (fun _ => XS.ifNo X283.here hx rfl (hb hby at_208) rfl ((if0 _ _).trans (feq (by decide : ¬ ((1 : Int32) = (0 : Int32)))).1)) ?_
        show Go _ p e below s _ _ _ (T283.setTop (mkF m 211 #[.val (.int p1), .val (.int p2), .val (.int p3), .val (.ref b249), .val (.ref b251), .val (.ref b252), .val (.ref b254), .val (.ref b256), .val (.int (1 : Int32)), .val (.int (2 : Int32)), .val (.int (0 : Int32)), .val (.int (1 : Int32)), .val (.int (1 : Int32)), .val (.int (0 : Int32))] []))
        refine go (fun _ => XS.iload X283.here hx rfl (hb hby at_211) rfl) ?_
        show Go _ p e below s _ _ _ (T283.setTop (mkF m 213 #[.val (.int p1), .val (.int p2), .val (.int p3), .val (.ref b249), .val (.ref b251), .val (.ref b252), .val (.ref b254), .val (.ref b256), .val (.int (1 : Int32)), .val (.int (2 : Int32)), .val (.int (0 : Int32)), .val (.int (1 : Int32)), .val (.int (1 : Int32)), .val (.int (0 : Int32))] [(.int (0 : Int32))]))
        refine go (fun _ => XS.iload X283.here hx rfl (hb hby at_213) rfl) ?_
        show Go _ p e below s _ _ _ (T283.setTop (mkF m 215 #[.val (.int p1), .val (.int p2), .val (.int p3), .val (.ref b249), .val (.ref b251), .val (.ref b252), .val (.ref b254), .val (.ref b256), .val (.int (1 : Int32)), .val (.int (2 : Int32)), .val (.int (0 : Int32)), .val (.int (1 : Int32)), .val (.int (1 : Int32)), .val (.int (0 : Int32))] [(.int (2 : Int32)), (.int (0 : Int32))]))
        refine go (fun _ => XS.ifYes X283.here hx rfl (pc0 := 215) (pc' := 222) rfl (hb hby at_215) rfl ((if0 _ _).trans (feq (by decide : ¬ ((2 : Int32) = (0 : Int32)))).2) (by decide) (by decide)) ?_
        show Go _ p e below s _ _ _ (T283.setTop (mkF m 222 #[.val (.int p1), .val (.int p2), .val (.int p3), .val (.ref b249), .val (.ref b251), .val (.ref b252), .val (.ref b254), .val (.ref b256), .val (.int (1 : Int32)), .val (.int (2 : Int32)), .val (.int (0 : Int32)), .val (.int (1 : Int32)), .val (.int (1 : Int32)), .val (.int (0 : Int32))] [(.int (0 : Int32))]))
        refine go (fun _ => XS.iconst X283.here hx rfl (hb hby at_222)) ?_
        show Go _ p e below s _ _ _ (T283.setTop (mkF m 223 #[.val (.int p1), .val (.int p2), .val (.int p3), .val (.ref b249), .val (.ref b251), .val (.ref b252), .val (.ref b254), .val (.ref b256), .val (.int (1 : Int32)), .val (.int (2 : Int32)), .val (.int (0 : Int32)), .val (.int (1 : Int32)), .val (.int (1 : Int32)), .val (.int (0 : Int32))] [(.int (0 : Int32)), (.int (0 : Int32))]))
        refine go (fun _ => XS.icmpNo X283.here hx rfl (hb hby at_223) rfl (teq (rfl : (0 : Int32) = (0 : Int32))).2) ?_
        show Go _ p e below s _ _ _ (T283.setTop (mkF m 226 #[.val (.int p1), .val (.int p2), .val (.int p3), .val (.ref b249), .val (.ref b251), .val (.ref b252), .val (.ref b254), .val (.ref b256), .val (.int (1 : Int32)), .val (.int (2 : Int32)), .val (.int (0 : Int32)), .val (.int (1 : Int32)), .val (.int (1 : Int32)), .val (.int (0 : Int32))] []))
        refine go (fun _ => XS.iload X283.here hx rfl (hb hby at_226) rfl) ?_
        show Go _ p e below s _ _ _ (T283.setTop (mkF m 228 #[.val (.int p1), .val (.int p2), .val (.int p3), .val (.ref b249), .val (.ref b251), .val (.ref b252), .val (.ref b254), .val (.ref b256), .val (.int (1 : Int32)), .val (.int (2 : Int32)), .val (.int (0 : Int32)), .val (.int (1 : Int32)), .val (.int (1 : Int32)), .val (.int (0 : Int32))] [(.int (0 : Int32))]))
        refine go (fun _ => XS.iload X283.here hx rfl (hb hby at_228) rfl) ?_
        show Go _ p e below s _ _ _ (T283.setTop (mkF m 230 #[.val (.int p1), .val (.int p2), .val (.int p3), .val (.ref b249), .val (.ref b251), .val (.ref b252), .val (.ref b254), .val (.ref b256), .val (.int (1 : Int32)), .val (.int (2 : Int32)), .val (.int (0 : Int32)), .val (.int (1 : Int32)), .val (.int (1 : Int32)), .val (.int (0 : Int32))] [(.int (1 : Int32)), (.int (0 : Int32))]))
        refine go (fun _ => XS.iload X283.here hx rfl (hb hby at_230) rfl) ?_
        show Go _ p e below s _ _ _ (T283.setTop (mkF m 232 #[.val (.int p1), .val (.int p2), .val (.int p3), .val (.ref b249), .val (.ref b251), .val (.ref b252), .val (.ref b254), .val (.ref b256), .val (.int (1 : Int32)), .val (.int (2 : Int32)), .val (.int (0 : Int32)), .val (.int (1 : Int32)), .val (.int (1 : Int32)), .val (.int (0 : Int32))] [(.int (2 : Int32)), (.int (1 : Int32)), (.int (0 : Int32))]))
        refine go (fun _ => XS.icmpYes X283.here hx rfl (pc0 := 232) (pc' := 239) rfl (hb hby at_232) rfl (feq (by decide : ¬ ((1 : Int32) = (2 : Int32)))).2 (by decide) (by decide)) ?_
        show Go _ p e below s _ _ _ (T283.setTop (mkF m 239 #[.val (.int p1), .val (.int p2), .val (.int p3), .val (.ref b249), .val (.ref b251), .val (.ref b252), .val (.ref b254), .val (.ref b256), .val (.int (1 : Int32)), .val (.int (2 : Int32)), .val (.int (0 : Int32)), .val (.int (1 : Int32)), .val (.int (1 : Int32)), .val (.int (0 : Int32))] [(.int (0 : Int32))]))
        refine go (fun _ => XS.iconst X283.here hx rfl (hb hby at_239)) ?_
        show Go _ p e below s _ _ _ (T283.setTop (mkF m 240 #[.val (.int p1), .val (.int p2), .val (.int p3), .val (.ref b249), .val (.ref b251), .val (.ref b252), .val (.ref b254), .val (.ref b256), .val (.int (1 : Int32)), .val (.int (2 : Int32)), .val (.int (0 : Int32)), .val (.int (1 : Int32)), .val (.int (1 : Int32)), .val (.int (0 : Int32))] [(.int (0 : Int32)), (.int (0 : Int32))]))
        refine go (fun _ => XS.icmpNo X283.here hx rfl (hb hby at_240) rfl (teq (rfl : (0 : Int32) = (0 : Int32))).2) ?_
        show Go _ p e below s _ _ _ (T283.setTop (mkF m 243 #[.val (.int p1), .val (.int p2), .val (.int p3), .val (.ref b249), .val (.ref b251), .val (.ref b252), .val (.ref b254), .val (.ref b256), .val (.int (1 : Int32)), .val (.int (2 : Int32)), .val (.int (0 : Int32)), .val (.int (1 : Int32)), .val (.int (1 : Int32)), .val (.int (0 : Int32))] []))
        refine go (fun _ => XS.iconst X283.here hx rfl (hb hby at_243)) ?_
        show Go _ p e below s _ _ _ (T283.setTop (mkF m 244 #[.val (.int p1), .val (.int p2), .val (.int p3), .val (.ref b249), .val (.ref b251), .val (.ref b252), .val (.ref b254), .val (.ref b256), .val (.int (1 : Int32)), .val (.int (2 : Int32)), .val (.int (0 : Int32)), .val (.int (1 : Int32)), .val (.int (1 : Int32)), .val (.int (0 : Int32))] [(.int (1 : Int32))]))
        refine go (fun _ => XS.goto X283.here hx rfl (pc0 := 244) (pc' := 248) rfl (hb hby at_244) (by decide) (by decide)) ?_
        show Go _ p e below s _ _ _ (T283.setTop (mkF m 248 #[.val (.int p1), .val (.int p2), .val (.int p3), .val (.ref b249), .val (.ref b251), .val (.ref b252), .val (.ref b254), .val (.ref b256), .val (.int (1 : Int32)), .val (.int (2 : Int32)), .val (.int (0 : Int32)), .val (.int (1 : Int32)), .val (.int (1 : Int32)), .val (.int (0 : Int32))] [(.int (1 : Int32))]))
        refine goRetW X283 hS255 (by rw [e283]; exact HK282) hx Bd.notSynchronized Bd.returns rfl (Or.inl ⟨rfl, Or.inr (Or.inl rfl), _, rfl⟩) (hb hby at_248) (by decide) (by decide) (by rw [e283]; refine ⟨rfl, N283⟩)
    · show Go _ p e below s _ _ _ (T275.setTop (mkF m 110 #[.val (.int p1), .val (.int p2), .val (.int p3), .val (.ref b249), .val (.ref b251), .val (.ref b252), .val (.ref b254), .val (.ref b256), .val (.int (1 : Int32)), .val (.int (2 : Int32)), .val (.int (0 : Int32)), .val (.int (2 : Int32)), .unset, .unset] []))
      refine go (fun _ => XS.iloadN X275.here hx rfl (hb hby at_110) rfl) ?_
      show Go _ p e below s _ _ _ (T275.setTop (mkF m 111 #[.val (.int p1), .val (.int p2), .val (.int p3), .val (.ref b249), .val (.ref b251), .val (.ref b252), .val (.ref b254), .val (.ref b256), .val (.int (1 : Int32)), .val (.int (2 : Int32)), .val (.int (0 : Int32)), .val (.int (2 : Int32)), .unset, .unset] [(.int p3)]))
      refine go (fun _ => XS.iconst X275.here hx rfl (hb hby at_111)) ?_
      show Go _ p e below s _ _ _ (T275.setTop (mkF m 112 #[.val (.int p1), .val (.int p2), .val (.int p3), .val (.ref b249), .val (.ref b251), .val (.ref b252), .val (.ref b254), .val (.ref b256), .val (.int (1 : Int32)), .val (.int (2 : Int32)), .val (.int (0 : Int32)), .val (.int (2 : Int32)), .unset, .unset] [(.int (1 : Int32)), (.int p3)]))
      refine go (fun _ => XS.iand X275.here hx rfl (hb hby at_112) rfl) ?_
      show Go _ p e below s _ _ _ (T275.setTop (mkF m 113 #[.val (.int p1), .val (.int p2), .val (.int p3), .val (.ref b249), .val (.ref b251), .val (.ref b252), .val (.ref b254), .val (.ref b256), .val (.int (1 : Int32)), .val (.int (2 : Int32)), .val (.int (0 : Int32)), .val (.int (2 : Int32)), .unset, .unset] [(.int (p3 &&& (1 : Int32)))]))
      by_cases hc113_284 : (p3 &&& (1 : Int32)) = (0 : Int32)
      · refine go (fun _ => XS.ifYes X275.here hx rfl (pc0 := 113) (pc' := 120) rfl (hb hby at_113) rfl ((if0 _ _).trans (teq hc113_284).1) (by decide) (by decide)) ?_
        show Go _ p e below s _ _ _ (T275.setTop (mkF m 120 #[.val (.int p1), .val (.int p2), .val (.int p3), .val (.ref b249), .val (.ref b251), .val (.ref b252), .val (.ref b254), .val (.ref b256), .val (.int (1 : Int32)), .val (.int (2 : Int32)), .val (.int (0 : Int32)), .val (.int (2 : Int32)), .unset, .unset] []))
        refine go (fun _ => XS.iconst X275.here hx rfl (hb hby at_120)) ?_
        show Go _ p e below s _ _ _ (T275.setTop (mkF m 121 #[.val (.int p1), .val (.int p2), .val (.int p3), .val (.ref b249), .val (.ref b251), .val (.ref b252), .val (.ref b254), .val (.ref b256), .val (.int (1 : Int32)), .val (.int (2 : Int32)), .val (.int (0 : Int32)), .val (.int (2 : Int32)), .unset, .unset] [(.int (0 : Int32))]))
        refine go (fun _ => XS.istore X275.here hx rfl (hb hby at_121) rfl (l' := #[.val (.int p1), .val (.int p2), .val (.int p3), .val (.ref b249), .val (.ref b251), .val (.ref b252), .val (.ref b254), .val (.ref b256), .val (.int (1 : Int32)), .val (.int (2 : Int32)), .val (.int (0 : Int32)), .val (.int (2 : Int32)), .val (.int (0 : Int32)), .unset]) rfl) ?_
        show Go _ p e below s _ _ _ (T275.setTop (mkF m 123 #[.val (.int p1), .val (.int p2), .val (.int p3), .val (.ref b249), .val (.ref b251), .val (.ref b252), .val (.ref b254), .val (.ref b256), .val (.int (1 : Int32)), .val (.int (2 : Int32)), .val (.int (0 : Int32)), .val (.int (2 : Int32)), .val (.int (0 : Int32)), .unset] []))
        refine go (fun _ => XS.iload X275.here hx rfl (hb hby at_123) rfl) ?_
        show Go _ p e below s _ _ _ (T275.setTop (mkF m 125 #[.val (.int p1), .val (.int p2), .val (.int p3), .val (.ref b249), .val (.ref b251), .val (.ref b252), .val (.ref b254), .val (.ref b256), .val (.int (1 : Int32)), .val (.int (2 : Int32)), .val (.int (0 : Int32)), .val (.int (2 : Int32)), .val (.int (0 : Int32)), .unset] [(.int (2 : Int32))]))
        refine go (fun _ => XS.iconst X275.here hx rfl (hb hby at_125)) ?_
        show Go _ p e below s _ _ _ (T275.setTop (mkF m 126 #[.val (.int p1), .val (.int p2), .val (.int p3), .val (.ref b249), .val (.ref b251), .val (.ref b252), .val (.ref b254), .val (.ref b256), .val (.int (1 : Int32)), .val (.int (2 : Int32)), .val (.int (0 : Int32)), .val (.int (2 : Int32)), .val (.int (0 : Int32)), .unset] [(.int (1 : Int32)), (.int (2 : Int32))]))
        refine go (fun _ => XS.icmpYes X275.here hx rfl (pc0 := 126) (pc' := 157) rfl (hb hby at_126) rfl (feq (by decide : ¬ ((2 : Int32) = (1 : Int32)))).2 (by decide) (by decide)) ?_
        show Go _ p e below s _ _ _ (T275.setTop (mkF m 157 #[.val (.int p1), .val (.int p2), .val (.int p3), .val (.ref b249), .val (.ref b251), .val (.ref b252), .val (.ref b254), .val (.ref b256), .val (.int (1 : Int32)), .val (.int (2 : Int32)), .val (.int (0 : Int32)), .val (.int (2 : Int32)), .val (.int (0 : Int32)), .unset] []))
        refine go (fun _ => XS.iload X275.here hx rfl (hb hby at_157) rfl) ?_
        show Go _ p e below s _ _ _ (T275.setTop (mkF m 159 #[.val (.int p1), .val (.int p2), .val (.int p3), .val (.ref b249), .val (.ref b251), .val (.ref b252), .val (.ref b254), .val (.ref b256), .val (.int (1 : Int32)), .val (.int (2 : Int32)), .val (.int (0 : Int32)), .val (.int (2 : Int32)), .val (.int (0 : Int32)), .unset] [(.int (2 : Int32))]))
        refine go (fun _ => XS.iconst X275.here hx rfl (hb hby at_159)) ?_
        show Go _ p e below s _ _ _ (T275.setTop (mkF m 160 #[.val (.int p1), .val (.int p2), .val (.int p3), .val (.ref b249), .val (.ref b251), .val (.ref b252), .val (.ref b254), .val (.ref b256), .val (.int (1 : Int32)), .val (.int (2 : Int32)), .val (.int (0 : Int32)), .val (.int (2 : Int32)), .val (.int (0 : Int32)), .unset] [(.int (2 : Int32)), (.int (2 : Int32))]))
        refine go (fun _ => XS.icmpNo X275.here hx rfl (hb hby at_160) rfl (teq (rfl : (2 : Int32) = (2 : Int32))).2) ?_
        show Go _ p e below s _ _ _ (T275.setTop (mkF m 163 #[.val (.int p1), .val (.int p2), .val (.int p3), .val (.ref b249), .val (.ref b251), .val (.ref b252), .val (.ref b254), .val (.ref b256), .val (.int (1 : Int32)), .val (.int (2 : Int32)), .val (.int (0 : Int32)), .val (.int (2 : Int32)), .val (.int (0 : Int32)), .unset] []))
        refine go (fun _ => XS.iload X275.here hx rfl (hb hby at_163) rfl) ?_
        show Go _ p e below s _ _ _ (T275.setTop (mkF m 165 #[.val (.int p1), .val (.int p2), .val (.int p3), .val (.ref b249), .val (.ref b251), .val (.ref b252), .val (.ref b254), .val (.ref b256), .val (.int (1 : Int32)), .val (.int (2 : Int32)), .val (.int (0 : Int32)), .val (.int (2 : Int32)), .val (.int (0 : Int32)), .unset] [(.int (0 : Int32))]))
        refine go (fun _ => XS.ifYes X275.here hx rfl (pc0 := 165) (pc' := 185) rfl (hb hby at_165) rfl ((if0 _ _).trans (teq (rfl : (0 : Int32) = (0 : Int32))).1) (by decide) (by decide)) ?_
        show Go _ p e below s _ _ _ (T275.setTop (mkF m 185 #[.val (.int p1), .val (.int p2), .val (.int p3), .val (.ref b249), .val (.ref b251), .val (.ref b252), .val (.ref b254), .val (.ref b256), .val (.int (1 : Int32)), .val (.int (2 : Int32)), .val (.int (0 : Int32)), .val (.int (2 : Int32)), .val (.int (0 : Int32)), .unset] []))
        refine go (fun _ => XS.aload X275.here hx rfl (hb hby at_185) rfl rfl) ?_
        show Go _ p e below s _ _ _ (T275.setTop (mkF m 187 #[.val (.int p1), .val (.int p2), .val (.int p3), .val (.ref b249), .val (.ref b251), .val (.ref b252), .val (.ref b254), .val (.ref b256), .val (.int (1 : Int32)), .val (.int (2 : Int32)), .val (.int (0 : Int32)), .val (.int (2 : Int32)), .val (.int (0 : Int32)), .unset] [(.ref b256)]))
        refine go (fun _ => XS.aload X275.here hx rfl (hb hby at_187) rfl rfl) ?_
        show Go _ p e below s _ _ _ (T275.setTop (mkF m 189 #[.val (.int p1), .val (.int p2), .val (.int p3), .val (.ref b249), .val (.ref b251), .val (.ref b252), .val (.ref b254), .val (.ref b256), .val (.int (1 : Int32)), .val (.int (2 : Int32)), .val (.int (0 : Int32)), .val (.int (2 : Int32)), .val (.int (0 : Int32)), .unset] [(.ref b252), (.ref b256)]))
        obtain ⟨cq285, kq285, q285a, q285b, q285c⟩ := isOf hZ e275 c274_4
        obtain ⟨_, _, ⟨T285, L285, k285, n285⟩, -, X285, ⟨Lc285, hQ285, l285, y285, z285⟩, st285⟩ := X275.virtualBack hx (y := (⟨"com/example/reticule/reticule/engine/ActivationRuns", "remove", "(Lcom/example/reticule/reticule/engine/Activation;)V"⟩ : MethodName)) (z := (⟨"com/example/reticule/reticule/engine/ActivationRuns", "remove", "(Lcom/example/reticule/reticule/engine/Activation;)V"⟩ : MethodName)) hown (mvT hZ (hw _ (List.mem_of_getElem? (i := 161) rfl))) (mvT hZ (hw _ (List.mem_of_getElem? (i := 162) rfl))) (notFace_of_selects (args := #[]) (mvT hZ (hw _ (List.mem_of_getElem? (i := 164) rfl)))) (mvT hZ (hw _ (List.mem_of_getElem? (i := 164) rfl))) (mvT hZ (hw _ (List.mem_of_getElem? (i := 163) rfl))) (by decide) (backOf (W := 0) (rmRM0_2_2 l Z a0 hw [] b256 b252 b257 b273 k273 b252 (.ref b254) (T274.heap) n0 ZN274 u274_1 u274_2 u274_6 c274_4 G_b256 u273_1 c274_5 u274_5 c274_6 u274_7 u274_8 u274_9 (Ne.symm (Nat.ne_of_lt lt256_b252_b256)) (Nat.ne_of_lt lt257_b256_b257) (Nat.ne_of_lt lt273_b256_b273) (Nat.ne_of_lt lt257_b252_b257) (Nat.ne_of_lt lt273_b252_b273) (Nat.ne_of_lt lt273_b257_b273)) hZ (hw _ (List.mem_of_getElem? (i := 165) rfl)) (hw _ (List.mem_of_getElem? (i := 72) rfl)) (by decide) (by decide)) q285a q285c (g := (mkF m 189 #[.val (.int p1), .val (.int p2), .val (.int p3), .val (.ref b249), .val (.ref b251), .val (.ref b252), .val (.ref b254), .val (.ref b256), .val (.int (1 : Int32)), .val (.int (2 : Int32)), .val (.int (0 : Int32)), .val (.int (2 : Int32)), .val (.int (0 : Int32)), .unset] [(.ref b252), (.ref b256)])) rfl (by rw [hml]; rfl) (Steps.refl _) (argsL := [(.ref b252)]) (rest := []) (lenOf pd_0_5 rfl) rfl (by show 2 * 0 + _ ≤ _; exact Nat.le_of_eq rfl) (hb hby at_189) (fun _ _ => ⟨rfl, e275, (by decide : 15 + 0 ≤ _), (by decide : 161 + 0 ≤ _)⟩)
        dsimp only [Pt.U, Pt.locs, Pt.cells, Pt.slots] at X285 l285 y285 z285 st285 hQ285
        subst l285 y285 z285
        obtain ⟨rfl, N285q, K285, u285_1, u285_2, u285_3, u285_4, u285_5⟩ := hQ285
        have N285 := Fr.app N275 N285q
        have c285_2 := c274_2.keep K285
        have c285_3 := c274_3.keep K285
        have c285_4 := c274_4.keep K285
        have c285_5 := c274_5.keep K285
        have c285_6 := c274_6.keep K285 (ninS (Nat.ne_of_lt lt256_b252_b256) (ninS (Nat.ne_of_lt lt273_b252_b273) nin0))
        have c285_7 := u274_7.keep K285
        have c285_8 := u274_3.keep K285 (ninS (Nat.ne_of_lt lt256_b254_b256) (ninS (Nat.ne_of_lt lt273_b254_b273) nin0))
        have c285_9 := u274_4.keep K285 (ninS (Ne.symm (Nat.ne_of_lt lt257_b256_b257)) (ninS (Nat.ne_of_lt lt273_b257_b273) nin0))
        have c285_10 := u274_5.keep K285 (ninS (Ne.symm (Nat.ne_of_lt lt257_b256_b257)) (ninS (Nat.ne_of_lt lt273_b257_b273) nin0))
        have c285_11 := u274_6.keep K285 (ninS (Ne.symm (Nat.ne_of_lt lt257_b256_b257)) (ninS (Nat.ne_of_lt lt273_b257_b273) nin0))
        have KK285 : Keep h0 T285.heap [] := KK274.trans K285 (allS (P := fun x => x ∈ [] ∨ h0.size ≤ x) (Or.inr SZ_b256) (allS (P := fun x => x ∈ [] ∨ h0.size ≤ x) (Or.inr SZ_b273) all0))
        have ZN285 : n0 ≤ T285.heap.size := Nat.le_trans ZN274 K285.1
        have HK285 : T255.heap.size ≤ T285.heap.size := Nat.le_trans HK274 K285.1
        have OL285 := OL274.keep K285 (allS G_b256 (allS u273_1 all0))
        refine goT st285 ?_
        show Go _ p e below s _ _ _ (T285.setTop (mkF m 192 #[.val (.int p1), .val (.int p2), .val (.int p3), .val (.ref b249), .val (.ref b251), .val (.ref b252), .val (.ref b254), .val (.ref b256), .val (.int (1 : Int32)), .val (.int (2 : Int32)), .val (.int (0 : Int32)), .val (.int (2 : Int32)), .val (.int (0 : Int32)), .unset] []))
        refine go (fun _ => XS.aload X285.here hx rfl (hb hby at_192) rfl rfl) ?_
        show Go _ p e below s _ _ _ (T285.setTop (mkF m 194 #[.val (.int p1), .val (.int p2), .val (.int p3), .val (.ref b249), .val (.ref b251), .val (.ref b252), .val (.ref b254), .val (.ref b256), .val (.int (1 : Int32)), .val (.int (2 : Int32)), .val (.int (0 : Int32)), .val (.int (2 : Int32)), .val (.int (0 : Int32)), .unset] [(.ref b256)]))
        refine go (fun _ => XS.aload X285.here hx rfl (hb hby at_194) rfl rfl) ?_
        show Go _ p e below s _ _ _ (T285.setTop (mkF m 196 #[.val (.int p1), .val (.int p2), .val (.int p3), .val (.ref b249), .val (.ref b251), .val (.ref b252), .val (.ref b254), .val (.ref b256), .val (.int (1 : Int32)), .val (.int (2 : Int32)), .val (.int (0 : Int32)), .val (.int (2 : Int32)), .val (.int (0 : Int32)), .unset] [(.ref b254), (.ref b256)]))
        obtain ⟨cq286, kq286, q286a, q286b, q286c⟩ := isOf hZ rfl c285_4
        obtain ⟨_, _, ⟨T286, L286, k286, n286⟩, -, X286, ⟨Lc286, hQ286, l286, y286, z286⟩, st286⟩ := X285.virtualBack hx (y := (⟨"com/example/reticule/reticule/engine/ActivationRuns", "remove", "(Lcom/example/reticule/reticule/engine/Activation;)V"⟩ : MethodName)) (z := (⟨"com/example/reticule/reticule/engine/ActivationRuns", "remove", "(Lcom/example/reticule/reticule/engine/Activation;)V"⟩ : MethodName)) hown (mvT hZ (hw _ (List.mem_of_getElem? (i := 161) rfl))) (mvT hZ (hw _ (List.mem_of_getElem? (i := 162) rfl))) (notFace_of_selects (args := #[]) (mvT hZ (hw _ (List.mem_of_getElem? (i := 164) rfl)))) (mvT hZ (hw _ (List.mem_of_getElem? (i := 164) rfl))) (mvT hZ (hw _ (List.mem_of_getElem? (i := 163) rfl))) (by decide) (backOf (W := 0) (rmRM1_2_1 l Z a0 hw [] b256 b254 b257 b273 k273 .null b254 (T285.heap) n0 ZN285 u285_1 u285_2 c285_11 c285_4 G_b256 u273_1 c285_5 c285_10 c285_8 u285_3 u285_4 u285_5 (Ne.symm (Nat.ne_of_lt lt256_b254_b256)) (Nat.ne_of_lt lt257_b256_b257) (Nat.ne_of_lt lt273_b256_b273) (Nat.ne_of_lt lt257_b254_b257) (Nat.ne_of_lt lt273_b254_b273) (Nat.ne_of_lt lt273_b257_b273)) hZ (hw _ (List.mem_of_getElem? (i := 165) rfl)) (hw _ (List.mem_of_getElem? (i := 72) rfl)) (by decide) (by decide)) q286a q286c (g := (mkF m 196 #[.val (.int p1), .val (.int p2), .val (.int p3), .val (.ref b249), .val (.ref b251), .val (.ref b252), .val (.ref b254), .val (.ref b256), .val (.int (1 : Int32)), .val (.int (2 : Int32)), .val (.int (0 : Int32)), .val (.int (2 : Int32)), .val (.int (0 : Int32)), .unset] [(.ref b254), (.ref b256)])) rfl (by rw [hml]; rfl) (Steps.refl _) (argsL := [(.ref b254)]) (rest := []) (lenOf pd_0_5 rfl) rfl (by show 2 * 0 + _ ≤ _; exact Nat.le_of_eq rfl) (hb hby at_196) (fun _ _ => ⟨rfl, rfl, (by decide : 15 + 0 ≤ _), (by decide : 161 + 0 ≤ _)⟩)
        dsimp only [Pt.U, Pt.locs, Pt.cells, Pt.slots] at X286 l286 y286 z286 st286 hQ286
        subst l286 y286 z286
        obtain ⟨rfl, N286q, K286, u286_1, u286_2, u286_3, u286_4, u286_5⟩ := hQ286
        have N286 := Fr.app N285 N286q
        have c286_2 := c285_2.keep K286
        have c286_3 := c285_3.keep K286
        have c286_4 := c285_4.keep K286
        have c286_5 := c285_5.keep K286
        have c286_6 := c285_6.keep K286 (ninS (Nat.ne_of_lt lt256_b252_b256) (ninS (Nat.ne_of_lt lt273_b252_b273) nin0))
        have c286_7 := u285_3.keep K286
        have c286_8 := c285_8.keep K286 (ninS (Nat.ne_of_lt lt256_b254_b256) (ninS (Nat.ne_of_lt lt273_b254_b273) nin0))
        have c286_9 := c285_9.keep K286 (ninS (Ne.symm (Nat.ne_of_lt lt257_b256_b257)) (ninS (Nat.ne_of_lt lt273_b257_b273) nin0))
        have c286_10 := c285_10.keep K286 (ninS (Ne.symm (Nat.ne_of_lt lt257_b256_b257)) (ninS (Nat.ne_of_lt lt273_b257_b273) nin0))
        have c286_11 := c285_11.keep K286 (ninS (Ne.symm (Nat.ne_of_lt lt257_b256_b257)) (ninS (Nat.ne_of_lt lt273_b257_b273) nin0))
        have KK286 : Keep h0 T286.heap [] := KK285.trans K286 (allS (P := fun x => x ∈ [] ∨ h0.size ≤ x) (Or.inr SZ_b256) (allS (P := fun x => x ∈ [] ∨ h0.size ≤ x) (Or.inr SZ_b273) all0))
        have ZN286 : n0 ≤ T286.heap.size := Nat.le_trans ZN285 K286.1
        have HK286 : T255.heap.size ≤ T286.heap.size := Nat.le_trans HK285 K286.1
        have OL286 := OL285.keep K286 (allS G_b256 (allS u273_1 all0))
        refine goT st286 ?_
        show Go _ p e below s _ _ _ (T286.setTop (mkF m 199 #[.val (.int p1), .val (.int p2), .val (.int p3), .val (.ref b249), .val (.ref b251), .val (.ref b252), .val (.ref b254), .val (.ref b256), .val (.int (1 : Int32)), .val (.int (2 : Int32)), .val (.int (0 : Int32)), .val (.int (2 : Int32)), .val (.int (0 : Int32)), .unset] []))
        refine go (fun _ => XS.aload X286.here hx rfl (hb hby at_199) rfl rfl) ?_
        show Go _ p e below s _ _ _ (T286.setTop (mkF m 201 #[.val (.int p1), .val (.int p2), .val (.int p3), .val (.ref b249), .val (.ref b251), .val (.ref b252), .val (.ref b254), .val (.ref b256), .val (.int (1 : Int32)), .val (.int (2 : Int32)), .val (.int (0 : Int32)), .val (.int (2 : Int32)), .val (.int (0 : Int32)), .unset] [(.ref b256)]))
        obtain ⟨cq287, kq287, q287a, q287b, q287c⟩ := isOf hZ rfl c286_4
        obtain ⟨_, _, ⟨T287, L287, k287, n287⟩, -, X287, ⟨Lc287, hQ287, l287, y287, z287⟩, st287⟩ := X286.virtualBack hx (y := (⟨"com/example/reticule/reticule/engine/ActivationRuns", "isEmpty", "()Z"⟩ : MethodName)) (z := (⟨"com/example/reticule/reticule/engine/ActivationRuns", "isEmpty", "()Z"⟩ : MethodName)) hown (mvT hZ (hw _ (List.mem_of_getElem? (i := 103) rfl))) (mvT hZ (hw _ (List.mem_of_getElem? (i := 104) rfl))) (notFace_of_selects (args := #[]) (mvT hZ (hw _ (List.mem_of_getElem? (i := 106) rfl)))) (mvT hZ (hw _ (List.mem_of_getElem? (i := 106) rfl))) (mvT hZ (hw _ (List.mem_of_getElem? (i := 105) rfl))) (by decide) (backOf (W := 0) (rmE0 l Z a0 hw [] b256 (T286.heap) n0 ZN286 u286_2) hZ (hw _ (List.mem_of_getElem? (i := 107) rfl)) (hw _ (List.mem_of_getElem? (i := 72) rfl)) (by decide) (by decide)) q287a q287c (g := (mkF m 201 #[.val (.int p1), .val (.int p2), .val (.int p3), .val (.ref b249), .val (.ref b251), .val (.ref b252), .val (.ref b254), .val (.ref b256), .val (.int (1 : Int32)), .val (.int (2 : Int32)), .val (.int (0 : Int32)), .val (.int (2 : Int32)), .val (.int (0 : Int32)), .unset] [(.ref b256)])) rfl (by rw [hml]; rfl) (Steps.refl _) (argsL := []) (rest := []) (lenOf pd_0_4 rfl) rfl (by show 2 * 0 + _ ≤ _; exact Nat.le_of_eq rfl) (hb hby at_201) (fun _ _ => ⟨rfl, rfl, (by decide : 15 + 0 ≤ _), (by decide : 161 + 0 ≤ _)⟩)
        dsimp only [Pt.U, Pt.locs, Pt.cells, Pt.slots] at X287 l287 y287 z287 st287 hQ287
        subst l287 y287 z287
        obtain ⟨rfl, N287q, e287⟩ := hQ287
        have N287 := Fr.app N286 N287q
        refine goT st287 ?_
        show Go _ p e below s _ _ _ (T287.setTop (mkF m 204 #[.val (.int p1), .val (.int p2), .val (.int p3), .val (.ref b249), .val (.ref b251), .val (.ref b252), .val (.ref b254), .val (.ref b256), .val (.int (1 : Int32)), .val (.int (2 : Int32)), .val (.int (0 : Int32)), .val (.int (2 : Int32)), .val (.int (0 : Int32)), .unset] [(.int (1 : Int32))]))
        refine go (fun _ => XS.istore X287.here hx rfl (hb hby at_204) rfl (l' := #[.val (.int p1), .val (.int p2), .val (.int p3), .val (.ref b249), .val (.ref b251), .val (.ref b252), .val (.ref b254), .val (.ref b256), .val (.int (1 : Int32)), .val (.int (2 : Int32)), .val (.int (0 : Int32)), .val (.int (2 : Int32)), .val (.int (0 : Int32)), .val (.int (1 : Int32))]) rfl) ?_
        show Go _ p e below s _ _ _ (T287.setTop (mkF m 206 #[.val (.int p1), .val (.int p2), .val (.int p3), .val (.ref b249), .val (.ref b251), .val (.ref b252), .val (.ref b254), .val (.ref b256), .val (.int (1 : Int32)), .val (.int (2 : Int32)), .val (.int (0 : Int32)), .val (.int (2 : Int32)), .val (.int (0 : Int32)), .val (.int (1 : Int32))] []))
        refine go (fun _ => XS.iload X287.here hx rfl (hb hby at_206) rfl) ?_
        show Go _ p e below s _ _ _ (T287.setTop (mkF m 208 #[.val (.int p1), .val (.int p2), .val (.int p3), .val (.ref b249), .val (.ref b251), .val (.ref b252), .val (.ref b254), .val (.ref b256), .val (.int (1 : Int32)), .val (.int (2 : Int32)), .val (.int (0 : Int32)), .val (.int (2 : Int32)), .val (.int (0 : Int32)), .val (.int (1 : Int32))] [(.int (1 : Int32))]))
        refine go (fun _ => XS.ifNo X287.here hx rfl (hb hby at_208) rfl ((if0 _ _).trans (feq (by decide : ¬ ((1 : Int32) = (0 : Int32)))).1)) ?_
        show Go _ p e below s _ _ _ (T287.setTop (mkF m 211 #[.val (.int p1), .val (.int p2), .val (.int p3), .val (.ref b249), .val (.ref b251), .val (.ref b252), .val (.ref b254), .val (.ref b256), .val (.int (1 : Int32)), .val (.int (2 : Int32)), .val (.int (0 : Int32)), .val (.int (2 : Int32)), .val (.int (0 : Int32)), .val (.int (1 : Int32))] []))
        refine go (fun _ => XS.iload X287.here hx rfl (hb hby at_211) rfl) ?_
        show Go _ p e below s _ _ _ (T287.setTop (mkF m 213 #[.val (.int p1), .val (.int p2), .val (.int p3), .val (.ref b249), .val (.ref b251), .val (.ref b252), .val (.ref b254), .val (.ref b256), .val (.int (1 : Int32)), .val (.int (2 : Int32)), .val (.int (0 : Int32)), .val (.int (2 : Int32)), .val (.int (0 : Int32)), .val (.int (1 : Int32))] [(.int (0 : Int32))]))
        refine go (fun _ => XS.iload X287.here hx rfl (hb hby at_213) rfl) ?_
        show Go _ p e below s _ _ _ (T287.setTop (mkF m 215 #[.val (.int p1), .val (.int p2), .val (.int p3), .val (.ref b249), .val (.ref b251), .val (.ref b252), .val (.ref b254), .val (.ref b256), .val (.int (1 : Int32)), .val (.int (2 : Int32)), .val (.int (0 : Int32)), .val (.int (2 : Int32)), .val (.int (0 : Int32)), .val (.int (1 : Int32))] [(.int (2 : Int32)), (.int (0 : Int32))]))
        refine go (fun _ => XS.ifYes X287.here hx rfl (pc0 := 215) (pc' := 222) rfl (hb hby at_215) rfl ((if0 _ _).trans (feq (by decide : ¬ ((2 : Int32) = (0 : Int32)))).2) (by decide) (by decide)) ?_
        show Go _ p e below s _ _ _ (T287.setTop (mkF m 222 #[.val (.int p1), .val (.int p2), .val (.int p3), .val (.ref b249), .val (.ref b251), .val (.ref b252), .val (.ref b254), .val (.ref b256), .val (.int (1 : Int32)), .val (.int (2 : Int32)), .val (.int (0 : Int32)), .val (.int (2 : Int32)), .val (.int (0 : Int32)), .val (.int (1 : Int32))] [(.int (0 : Int32))]))
        refine go (fun _ => XS.iconst X287.here hx rfl (hb hby at_222)) ?_
        show Go _ p e below s _ _ _ (T287.setTop (mkF m 223 #[.val (.int p1), .val (.int p2), .val (.int p3), .val (.ref b249), .val (.ref b251), .val (.ref b252), .val (.ref b254), .val (.ref b256), .val (.int (1 : Int32)), .val (.int (2 : Int32)), .val (.int (0 : Int32)), .val (.int (2 : Int32)), .val (.int (0 : Int32)), .val (.int (1 : Int32))] [(.int (0 : Int32)), (.int (0 : Int32))]))
        refine go (fun _ => XS.icmpNo X287.here hx rfl (hb hby at_223) rfl (teq (rfl : (0 : Int32) = (0 : Int32))).2) ?_
        show Go _ p e below s _ _ _ (T287.setTop (mkF m 226 #[.val (.int p1), .val (.int p2), .val (.int p3), .val (.ref b249), .val (.ref b251), .val (.ref b252), .val (.ref b254), .val (.ref b256), .val (.int (1 : Int32)), .val (.int (2 : Int32)), .val (.int (0 : Int32)), .val (.int (2 : Int32)), .val (.int (0 : Int32)), .val (.int (1 : Int32))] []))
        refine go (fun _ => XS.iload X287.here hx rfl (hb hby at_226) rfl) ?_
        show Go _ p e below s _ _ _ (T287.setTop (mkF m 228 #[.val (.int p1), .val (.int p2), .val (.int p3), .val (.ref b249), .val (.ref b251), .val (.ref b252), .val (.ref b254), .val (.ref b256), .val (.int (1 : Int32)), .val (.int (2 : Int32)), .val (.int (0 : Int32)), .val (.int (2 : Int32)), .val (.int (0 : Int32)), .val (.int (1 : Int32))] [(.int (1 : Int32))]))
        refine go (fun _ => XS.iload X287.here hx rfl (hb hby at_228) rfl) ?_
        show Go _ p e below s _ _ _ (T287.setTop (mkF m 230 #[.val (.int p1), .val (.int p2), .val (.int p3), .val (.ref b249), .val (.ref b251), .val (.ref b252), .val (.ref b254), .val (.ref b256), .val (.int (1 : Int32)), .val (.int (2 : Int32)), .val (.int (0 : Int32)), .val (.int (2 : Int32)), .val (.int (0 : Int32)), .val (.int (1 : Int32))] [(.int (2 : Int32)), (.int (1 : Int32))]))
        refine go (fun _ => XS.iload X287.here hx rfl (hb hby at_230) rfl) ?_
        show Go _ p e below s _ _ _ (T287.setTop (mkF m 232 #[.val (.int p1), .val (.int p2), .val (.int p3), .val (.ref b249), .val (.ref b251), .val (.ref b252), .val (.ref b254), .val (.ref b256), .val (.int (1 : Int32)), .val (.int (2 : Int32)), .val (.int (0 : Int32)), .val (.int (2 : Int32)), .val (.int (0 : Int32)), .val (.int (1 : Int32))] [(.int (2 : Int32)), (.int (2 : Int32)), (.int (1 : Int32))]))
        refine go (fun _ => XS.icmpNo X287.here hx rfl (hb hby at_232) rfl (teq (rfl : (2 : Int32) = (2 : Int32))).2) ?_
        show Go _ p e below s _ _ _ (T287.setTop (mkF m 235 #[.val (.int p1), .val (.int p2), .val (.int p3), .val (.ref b249), .val (.ref b251), .val (.ref b252), .val (.ref b254), .val (.ref b256), .val (.int (1 : Int32)), .val (.int (2 : Int32)), .val (.int (0 : Int32)), .val (.int (2 : Int32)), .val (.int (0 : Int32)), .val (.int (1 : Int32))] [(.int (1 : Int32))]))
        refine go (fun _ => XS.iconst X287.here hx rfl (hb hby at_235)) ?_
        show Go _ p e below s _ _ _ (T287.setTop (mkF m 236 #[.val (.int p1), .val (.int p2), .val (.int p3), .val (.ref b249), .val (.ref b251), .val (.ref b252), .val (.ref b254), .val (.ref b256), .val (.int (1 : Int32)), .val (.int (2 : Int32)), .val (.int (0 : Int32)), .val (.int (2 : Int32)), .val (.int (0 : Int32)), .val (.int (1 : Int32))] [(.int (1 : Int32)), (.int (1 : Int32))]))
        refine go (fun _ => XS.goto X287.here hx rfl (pc0 := 236) (pc' := 240) rfl (hb hby at_236) (by decide) (by decide)) ?_
        show Go _ p e below s _ _ _ (T287.setTop (mkF m 240 #[.val (.int p1), .val (.int p2), .val (.int p3), .val (.ref b249), .val (.ref b251), .val (.ref b252), .val (.ref b254), .val (.ref b256), .val (.int (1 : Int32)), .val (.int (2 : Int32)), .val (.int (0 : Int32)), .val (.int (2 : Int32)), .val (.int (0 : Int32)), .val (.int (1 : Int32))] [(.int (1 : Int32)), (.int (1 : Int32))]))
        refine go (fun _ => XS.icmpNo X287.here hx rfl (hb hby at_240) rfl (teq (rfl : (1 : Int32) = (1 : Int32))).2) ?_
        show Go _ p e below s _ _ _ (T287.setTop (mkF m 243 #[.val (.int p1), .val (.int p2), .val (.int p3), .val (.ref b249), .val (.ref b251), .val (.ref b252), .val (.ref b254), .val (.ref b256), .val (.int (1 : Int32)), .val (.int (2 : Int32)), .val (.int (0 : Int32)), .val (.int (2 : Int32)), .val (.int (0 : Int32)), .val (.int (1 : Int32))] []))
        refine go (fun _ => XS.iconst X287.here hx rfl (hb hby at_243)) ?_
        show Go _ p e below s _ _ _ (T287.setTop (mkF m 244 #[.val (.int p1), .val (.int p2), .val (.int p3), .val (.ref b249), .val (.ref b251), .val (.ref b252), .val (.ref b254), .val (.ref b256), .val (.int (1 : Int32)), .val (.int (2 : Int32)), .val (.int (0 : Int32)), .val (.int (2 : Int32)), .val (.int (0 : Int32)), .val (.int (1 : Int32))] [(.int (1 : Int32))]))
        refine go (fun _ => XS.goto X287.here hx rfl (pc0 := 244) (pc' := 248) rfl (hb hby at_244) (by decide) (by decide)) ?_
        show Go _ p e below s _ _ _ (T287.setTop (mkF m 248 #[.val (.int p1), .val (.int p2), .val (.int p3), .val (.ref b249), .val (.ref b251), .val (.ref b252), .val (.ref b254), .val (.ref b256), .val (.int (1 : Int32)), .val (.int (2 : Int32)), .val (.int (0 : Int32)), .val (.int (2 : Int32)), .val (.int (0 : Int32)), .val (.int (1 : Int32))] [(.int (1 : Int32))]))
        refine goRetW X287 hS255 (by rw [e287]; exact HK286) hx Bd.notSynchronized Bd.returns rfl (Or.inl ⟨rfl, Or.inr (Or.inl rfl), _, rfl⟩) (hb hby at_248) (by decide) (by decide) (by rw [e287]; refine ⟨rfl, N287⟩)
      · refine go (fun _ => XS.ifNo X275.here hx rfl (hb hby at_113) rfl ((if0 _ _).trans (feq hc113_284).1)) ?_
        show Go _ p e below s _ _ _ (T275.setTop (mkF m 116 #[.val (.int p1), .val (.int p2), .val (.int p3), .val (.ref b249), .val (.ref b251), .val (.ref b252), .val (.ref b254), .val (.ref b256), .val (.int (1 : Int32)), .val (.int (2 : Int32)), .val (.int (0 : Int32)), .val (.int (2 : Int32)), .unset, .unset] []))
        refine go (fun _ => XS.iconst X275.here hx rfl (hb hby at_116)) ?_
        show Go _ p e below s _ _ _ (T275.setTop (mkF m 117 #[.val (.int p1), .val (.int p2), .val (.int p3), .val (.ref b249), .val (.ref b251), .val (.ref b252), .val (.ref b254), .val (.ref b256), .val (.int (1 : Int32)), .val (.int (2 : Int32)), .val (.int (0 : Int32)), .val (.int (2 : Int32)), .unset, .unset] [(.int (1 : Int32))]))
        refine go (fun _ => XS.goto X275.here hx rfl (pc0 := 117) (pc' := 121) rfl (hb hby at_117) (by decide) (by decide)) ?_
        show Go _ p e below s _ _ _ (T275.setTop (mkF m 121 #[.val (.int p1), .val (.int p2), .val (.int p3), .val (.ref b249), .val (.ref b251), .val (.ref b252), .val (.ref b254), .val (.ref b256), .val (.int (1 : Int32)), .val (.int (2 : Int32)), .val (.int (0 : Int32)), .val (.int (2 : Int32)), .unset, .unset] [(.int (1 : Int32))]))
        refine go (fun _ => XS.istore X275.here hx rfl (hb hby at_121) rfl (l' := #[.val (.int p1), .val (.int p2), .val (.int p3), .val (.ref b249), .val (.ref b251), .val (.ref b252), .val (.ref b254), .val (.ref b256), .val (.int (1 : Int32)), .val (.int (2 : Int32)), .val (.int (0 : Int32)), .val (.int (2 : Int32)), .val (.int (1 : Int32)), .unset]) rfl) ?_
        show Go _ p e below s _ _ _ (T275.setTop (mkF m 123 #[.val (.int p1), .val (.int p2), .val (.int p3), .val (.ref b249), .val (.ref b251), .val (.ref b252), .val (.ref b254), .val (.ref b256), .val (.int (1 : Int32)), .val (.int (2 : Int32)), .val (.int (0 : Int32)), .val (.int (2 : Int32)), .val (.int (1 : Int32)), .unset] []))
        refine go (fun _ => XS.iload X275.here hx rfl (hb hby at_123) rfl) ?_
        show Go _ p e below s _ _ _ (T275.setTop (mkF m 125 #[.val (.int p1), .val (.int p2), .val (.int p3), .val (.ref b249), .val (.ref b251), .val (.ref b252), .val (.ref b254), .val (.ref b256), .val (.int (1 : Int32)), .val (.int (2 : Int32)), .val (.int (0 : Int32)), .val (.int (2 : Int32)), .val (.int (1 : Int32)), .unset] [(.int (2 : Int32))]))
        refine go (fun _ => XS.iconst X275.here hx rfl (hb hby at_125)) ?_
        show Go _ p e below s _ _ _ (T275.setTop (mkF m 126 #[.val (.int p1), .val (.int p2), .val (.int p3), .val (.ref b249), .val (.ref b251), .val (.ref b252), .val (.ref b254), .val (.ref b256), .val (.int (1 : Int32)), .val (.int (2 : Int32)), .val (.int (0 : Int32)), .val (.int (2 : Int32)), .val (.int (1 : Int32)), .unset] [(.int (1 : Int32)), (.int (2 : Int32))]))
        refine go (fun _ => XS.icmpYes X275.here hx rfl (pc0 := 126) (pc' := 157) rfl (hb hby at_126) rfl (feq (by decide : ¬ ((2 : Int32) = (1 : Int32)))).2 (by decide) (by decide)) ?_
        show Go _ p e below s _ _ _ (T275.setTop (mkF m 157 #[.val (.int p1), .val (.int p2), .val (.int p3), .val (.ref b249), .val (.ref b251), .val (.ref b252), .val (.ref b254), .val (.ref b256), .val (.int (1 : Int32)), .val (.int (2 : Int32)), .val (.int (0 : Int32)), .val (.int (2 : Int32)), .val (.int (1 : Int32)), .unset] []))
        refine go (fun _ => XS.iload X275.here hx rfl (hb hby at_157) rfl) ?_
        show Go _ p e below s _ _ _ (T275.setTop (mkF m 159 #[.val (.int p1), .val (.int p2), .val (.int p3), .val (.ref b249), .val (.ref b251), .val (.ref b252), .val (.ref b254), .val (.ref b256), .val (.int (1 : Int32)), .val (.int (2 : Int32)), .val (.int (0 : Int32)), .val (.int (2 : Int32)), .val (.int (1 : Int32)), .unset] [(.int (2 : Int32))]))
        refine go (fun _ => XS.iconst X275.here hx rfl (hb hby at_159)) ?_
        show Go _ p e below s _ _ _ (T275.setTop (mkF m 160 #[.val (.int p1), .val (.int p2), .val (.int p3), .val (.ref b249), .val (.ref b251), .val (.ref b252), .val (.ref b254), .val (.ref b256), .val (.int (1 : Int32)), .val (.int (2 : Int32)), .val (.int (0 : Int32)), .val (.int (2 : Int32)), .val (.int (1 : Int32)), .unset] [(.int (2 : Int32)), (.int (2 : Int32))]))
        refine go (fun _ => XS.icmpNo X275.here hx rfl (hb hby at_160) rfl (teq (rfl : (2 : Int32) = (2 : Int32))).2) ?_
        show Go _ p e below s _ _ _ (T275.setTop (mkF m 163 #[.val (.int p1), .val (.int p2), .val (.int p3), .val (.ref b249), .val (.ref b251), .val (.ref b252), .val (.ref b254), .val (.ref b256), .val (.int (1 : Int32)), .val (.int (2 : Int32)), .val (.int (0 : Int32)), .val (.int (2 : Int32)), .val (.int (1 : Int32)), .unset] []))
        refine go (fun _ => XS.iload X275.here hx rfl (hb hby at_163) rfl) ?_
        show Go _ p e below s _ _ _ (T275.setTop (mkF m 165 #[.val (.int p1), .val (.int p2), .val (.int p3), .val (.ref b249), .val (.ref b251), .val (.ref b252), .val (.ref b254), .val (.ref b256), .val (.int (1 : Int32)), .val (.int (2 : Int32)), .val (.int (0 : Int32)), .val (.int (2 : Int32)), .val (.int (1 : Int32)), .unset] [(.int (1 : Int32))]))
        refine go (fun _ => XS.ifNo X275.here hx rfl (hb hby at_165) rfl ((if0 _ _).trans (feq (by decide : ¬ ((1 : Int32) = (0 : Int32)))).1)) ?_
        show Go _ p e below s _ _ _ (T275.setTop (mkF m 168 #[.val (.int p1), .val (.int p2), .val (.int p3), .val (.ref b249), .val (.ref b251), .val (.ref b252), .val (.ref b254), .val (.ref b256), .val (.int (1 : Int32)), .val (.int (2 : Int32)), .val (.int (0 : Int32)), .val (.int (2 : Int32)), .val (.int (1 : Int32)), .unset] []))
        refine go (fun _ => XS.aload X275.here hx rfl (hb hby at_168) rfl rfl) ?_
        show Go _ p e below s _ _ _ (T275.setTop (mkF m 170 #[.val (.int p1), .val (.int p2), .val (.int p3), .val (.ref b249), .val (.ref b251), .val (.ref b252), .val (.ref b254), .val (.ref b256), .val (.int (1 : Int32)), .val (.int (2 : Int32)), .val (.int (0 : Int32)), .val (.int (2 : Int32)), .val (.int (1 : Int32)), .unset] [(.ref b256)]))
        refine go (fun _ => XS.aload X275.here hx rfl (hb hby at_170) rfl rfl) ?_
        show Go _ p e below s _ _ _ (T275.setTop (mkF m 172 #[.val (.int p1), .val (.int p2), .val (.int p3), .val (.ref b249), .val (.ref b251), .val (.ref b252), .val (.ref b254), .val (.ref b256), .val (.int (1 : Int32)), .val (.int (2 : Int32)), .val (.int (0 : Int32)), .val (.int (2 : Int32)), .val (.int (1 : Int32)), .unset] [(.ref b254), (.ref b256)]))
        obtain ⟨cq288, kq288, q288a, q288b, q288c⟩ := isOf hZ e275 c274_4
        obtain ⟨_, _, ⟨T288, L288, k288, n288⟩, -, X288, ⟨Lc288, hQ288, l288, y288, z288⟩, st288⟩ := X275.virtualBack hx (y := (⟨"com/example/reticule/reticule/engine/ActivationRuns", "remove", "(Lcom/example/reticule/reticule/engine/Activation;)V"⟩ : MethodName)) (z := (⟨"com/example/reticule/reticule/engine/ActivationRuns", "remove", "(Lcom/example/reticule/reticule/engine/Activation;)V"⟩ : MethodName)) hown (mvT hZ (hw _ (List.mem_of_getElem? (i := 161) rfl))) (mvT hZ (hw _ (List.mem_of_getElem? (i := 162) rfl))) (notFace_of_selects (args := #[]) (mvT hZ (hw _ (List.mem_of_getElem? (i := 164) rfl)))) (mvT hZ (hw _ (List.mem_of_getElem? (i := 164) rfl))) (mvT hZ (hw _ (List.mem_of_getElem? (i := 163) rfl))) (by decide) (backOf (W := 0) (rmRM1_2_2 l Z a0 hw [] b256 b254 b257 b273 k273 (.ref b252) b254 (T274.heap) n0 ZN274 u274_1 u274_2 u274_6 c274_4 G_b256 u273_1 c274_5 u274_5 u274_3 u274_7 u274_8 u274_9 (Ne.symm (Nat.ne_of_lt lt256_b254_b256)) (Nat.ne_of_lt lt257_b256_b257) (Nat.ne_of_lt lt273_b256_b273) (Nat.ne_of_lt lt257_b254_b257) (Nat.ne_of_lt lt273_b254_b273) (Nat.ne_of_lt lt273_b257_b273)) hZ (hw _ (List.mem_of_getElem? (i := 165) rfl)) (hw _ (List.mem_of_getElem? (i := 72) rfl)) (by decide) (by decide)) q288a q288c (g := (mkF m 172 #[.val (.int p1), .val (.int p2), .val (.int p3), .val (.ref b249), .val (.ref b251), .val (.ref b252), .val (.ref b254), .val (.ref b256), .val (.int (1 : Int32)), .val (.int (2 : Int32)), .val (.int (0 : Int32)), .val (.int (2 : Int32)), .val (.int (1 : Int32)), .unset] [(.ref b254), (.ref b256)])) rfl (by rw [hml]; rfl) (Steps.refl _) (argsL := [(.ref b254)]) (rest := []) (lenOf pd_0_5 rfl) rfl (by show 2 * 0 + _ ≤ _; exact Nat.le_of_eq rfl) (hb hby at_172) (fun _ _ => ⟨rfl, e275, (by decide : 15 + 0 ≤ _), (by decide : 161 + 0 ≤ _)⟩)
        dsimp only [Pt.U, Pt.locs, Pt.cells, Pt.slots] at X288 l288 y288 z288 st288 hQ288
        subst l288 y288 z288
        obtain ⟨rfl, N288q, K288, u288_1, u288_2, u288_3, u288_4, u288_5⟩ := hQ288
        have N288 := Fr.app N275 N288q
        have c288_2 := c274_2.keep K288
        have c288_3 := c274_3.keep K288
        have c288_4 := c274_4.keep K288
        have c288_5 := c274_5.keep K288
        have c288_6 := c274_6.keep K288 (ninS (Nat.ne_of_lt lt256_b252_b256) (ninS (Nat.ne_of_lt lt273_b252_b273) nin0))
        have c288_7 := u274_7.keep K288
        have c288_8 := u274_3.keep K288 (ninS (Nat.ne_of_lt lt256_b254_b256) (ninS (Nat.ne_of_lt lt273_b254_b273) nin0))
        have c288_9 := u274_4.keep K288 (ninS (Ne.symm (Nat.ne_of_lt lt257_b256_b257)) (ninS (Nat.ne_of_lt lt273_b257_b273) nin0))
        have c288_10 := u274_5.keep K288 (ninS (Ne.symm (Nat.ne_of_lt lt257_b256_b257)) (ninS (Nat.ne_of_lt lt273_b257_b273) nin0))
        have c288_11 := u274_6.keep K288 (ninS (Ne.symm (Nat.ne_of_lt lt257_b256_b257)) (ninS (Nat.ne_of_lt lt273_b257_b273) nin0))
        have KK288 : Keep h0 T288.heap [] := KK274.trans K288 (allS (P := fun x => x ∈ [] ∨ h0.size ≤ x) (Or.inr SZ_b256) (allS (P := fun x => x ∈ [] ∨ h0.size ≤ x) (Or.inr SZ_b273) all0))
        have ZN288 : n0 ≤ T288.heap.size := Nat.le_trans ZN274 K288.1
        have HK288 : T255.heap.size ≤ T288.heap.size := Nat.le_trans HK274 K288.1
        have OL288 := OL274.keep K288 (allS G_b256 (allS u273_1 all0))
        refine goT st288 ?_
        show Go _ p e below s _ _ _ (T288.setTop (mkF m 175 #[.val (.int p1), .val (.int p2), .val (.int p3), .val (.ref b249), .val (.ref b251), .val (.ref b252), .val (.ref b254), .val (.ref b256), .val (.int (1 : Int32)), .val (.int (2 : Int32)), .val (.int (0 : Int32)), .val (.int (2 : Int32)), .val (.int (1 : Int32)), .unset] []))
        refine go (fun _ => XS.aload X288.here hx rfl (hb hby at_175) rfl rfl) ?_
        show Go _ p e below s _ _ _ (T288.setTop (mkF m 177 #[.val (.int p1), .val (.int p2), .val (.int p3), .val (.ref b249), .val (.ref b251), .val (.ref b252), .val (.ref b254), .val (.ref b256), .val (.int (1 : Int32)), .val (.int (2 : Int32)), .val (.int (0 : Int32)), .val (.int (2 : Int32)), .val (.int (1 : Int32)), .unset] [(.ref b256)]))
        refine go (fun _ => XS.aload X288.here hx rfl (hb hby at_177) rfl rfl) ?_
        show Go _ p e below s _ _ _ (T288.setTop (mkF m 179 #[.val (.int p1), .val (.int p2), .val (.int p3), .val (.ref b249), .val (.ref b251), .val (.ref b252), .val (.ref b254), .val (.ref b256), .val (.int (1 : Int32)), .val (.int (2 : Int32)), .val (.int (0 : Int32)), .val (.int (2 : Int32)), .val (.int (1 : Int32)), .unset] [(.ref b252), (.ref b256)]))
        obtain ⟨cq289, kq289, q289a, q289b, q289c⟩ := isOf hZ rfl c288_4
        obtain ⟨_, _, ⟨T289, L289, k289, n289⟩, -, X289, ⟨Lc289, hQ289, l289, y289, z289⟩, st289⟩ := X288.virtualBack hx (y := (⟨"com/example/reticule/reticule/engine/ActivationRuns", "remove", "(Lcom/example/reticule/reticule/engine/Activation;)V"⟩ : MethodName)) (z := (⟨"com/example/reticule/reticule/engine/ActivationRuns", "remove", "(Lcom/example/reticule/reticule/engine/Activation;)V"⟩ : MethodName)) hown (mvT hZ (hw _ (List.mem_of_getElem? (i := 161) rfl))) (mvT hZ (hw _ (List.mem_of_getElem? (i := 162) rfl))) (notFace_of_selects (args := #[]) (mvT hZ (hw _ (List.mem_of_getElem? (i := 164) rfl)))) (mvT hZ (hw _ (List.mem_of_getElem? (i := 164) rfl))) (mvT hZ (hw _ (List.mem_of_getElem? (i := 163) rfl))) (by decide) (backOf (W := 0) (rmRM0_2_1 l Z a0 hw [] b256 b252 b257 b273 k273 b252 .null (T288.heap) n0 ZN288 u288_1 u288_2 c288_11 c288_4 G_b256 u273_1 c288_5 c288_10 c288_6 u288_3 u288_4 u288_5 (Ne.symm (Nat.ne_of_lt lt256_b252_b256)) (Nat.ne_of_lt lt257_b256_b257) (Nat.ne_of_lt lt273_b256_b273) (Nat.ne_of_lt lt257_b252_b257) (Nat.ne_of_lt lt273_b252_b273) (Nat.ne_of_lt lt273_b257_b273)) hZ (hw _ (List.mem_of_getElem? (i := 165) rfl)) (hw _ (List.mem_of_getElem? (i := 72) rfl)) (by decide) (by decide)) q289a q289c (g := (mkF m 179 #[.val (.int p1), .val (.int p2), .val (.int p3), .val (.ref b249), .val (.ref b251), .val (.ref b252), .val (.ref b254), .val (.ref b256), .val (.int (1 : Int32)), .val (.int (2 : Int32)), .val (.int (0 : Int32)), .val (.int (2 : Int32)), .val (.int (1 : Int32)), .unset] [(.ref b252), (.ref b256)])) rfl (by rw [hml]; rfl) (Steps.refl _) (argsL := [(.ref b252)]) (rest := []) (lenOf pd_0_5 rfl) rfl (by show 2 * 0 + _ ≤ _; exact Nat.le_of_eq rfl) (hb hby at_179) (fun _ _ => ⟨rfl, rfl, (by decide : 15 + 0 ≤ _), (by decide : 161 + 0 ≤ _)⟩)
        dsimp only [Pt.U, Pt.locs, Pt.cells, Pt.slots] at X289 l289 y289 z289 st289 hQ289
        subst l289 y289 z289
        obtain ⟨rfl, N289q, K289, u289_1, u289_2, u289_3, u289_4, u289_5⟩ := hQ289
        have N289 := Fr.app N288 N289q
        have c289_2 := c288_2.keep K289
        have c289_3 := c288_3.keep K289
        have c289_4 := c288_4.keep K289
        have c289_5 := c288_5.keep K289
        have c289_6 := c288_6.keep K289 (ninS (Nat.ne_of_lt lt256_b252_b256) (ninS (Nat.ne_of_lt lt273_b252_b273) nin0))
        have c289_7 := u288_3.keep K289
        have c289_8 := c288_8.keep K289 (ninS (Nat.ne_of_lt lt256_b254_b256) (ninS (Nat.ne_of_lt lt273_b254_b273) nin0))
        have c289_9 := c288_9.keep K289 (ninS (Ne.symm (Nat.ne_of_lt lt257_b256_b257)) (ninS (Nat.ne_of_lt lt273_b257_b273) nin0))
        have c289_10 := c288_10.keep K289 (ninS (Ne.symm (Nat.ne_of_lt lt257_b256_b257)) (ninS (Nat.ne_of_lt lt273_b257_b273) nin0))
        have c289_11 := c288_11.keep K289 (ninS (Ne.symm (Nat.ne_of_lt lt257_b256_b257)) (ninS (Nat.ne_of_lt lt273_b257_b273) nin0))
        have KK289 : Keep h0 T289.heap [] := KK288.trans K289 (allS (P := fun x => x ∈ [] ∨ h0.size ≤ x) (Or.inr SZ_b256) (allS (P := fun x => x ∈ [] ∨ h0.size ≤ x) (Or.inr SZ_b273) all0))
        have ZN289 : n0 ≤ T289.heap.size := Nat.le_trans ZN288 K289.1
        have HK289 : T255.heap.size ≤ T289.heap.size := Nat.le_trans HK288 K289.1
        have OL289 := OL288.keep K289 (allS G_b256 (allS u273_1 all0))
        refine goT st289 ?_
        show Go _ p e below s _ _ _ (T289.setTop (mkF m 182 #[.val (.int p1), .val (.int p2), .val (.int p3), .val (.ref b249), .val (.ref b251), .val (.ref b252), .val (.ref b254), .val (.ref b256), .val (.int (1 : Int32)), .val (.int (2 : Int32)), .val (.int (0 : Int32)), .val (.int (2 : Int32)), .val (.int (1 : Int32)), .unset] []))
        refine go (fun _ => XS.goto X289.here hx rfl (pc0 := 182) (pc' := 199) rfl (hb hby at_182) (by decide) (by decide)) ?_
        show Go _ p e below s _ _ _ (T289.setTop (mkF m 199 #[.val (.int p1), .val (.int p2), .val (.int p3), .val (.ref b249), .val (.ref b251), .val (.ref b252), .val (.ref b254), .val (.ref b256), .val (.int (1 : Int32)), .val (.int (2 : Int32)), .val (.int (0 : Int32)), .val (.int (2 : Int32)), .val (.int (1 : Int32)), .unset] []))
        refine go (fun _ => XS.aload X289.here hx rfl (hb hby at_199) rfl rfl) ?_
        show Go _ p e below s _ _ _ (T289.setTop (mkF m 201 #[.val (.int p1), .val (.int p2), .val (.int p3), .val (.ref b249), .val (.ref b251), .val (.ref b252), .val (.ref b254), .val (.ref b256), .val (.int (1 : Int32)), .val (.int (2 : Int32)), .val (.int (0 : Int32)), .val (.int (2 : Int32)), .val (.int (1 : Int32)), .unset] [(.ref b256)]))
        obtain ⟨cq290, kq290, q290a, q290b, q290c⟩ := isOf hZ rfl c289_4
        obtain ⟨_, _, ⟨T290, L290, k290, n290⟩, -, X290, ⟨Lc290, hQ290, l290, y290, z290⟩, st290⟩ := X289.virtualBack hx (y := (⟨"com/example/reticule/reticule/engine/ActivationRuns", "isEmpty", "()Z"⟩ : MethodName)) (z := (⟨"com/example/reticule/reticule/engine/ActivationRuns", "isEmpty", "()Z"⟩ : MethodName)) hown (mvT hZ (hw _ (List.mem_of_getElem? (i := 103) rfl))) (mvT hZ (hw _ (List.mem_of_getElem? (i := 104) rfl))) (notFace_of_selects (args := #[]) (mvT hZ (hw _ (List.mem_of_getElem? (i := 106) rfl)))) (mvT hZ (hw _ (List.mem_of_getElem? (i := 106) rfl))) (mvT hZ (hw _ (List.mem_of_getElem? (i := 105) rfl))) (by decide) (backOf (W := 0) (rmE0 l Z a0 hw [] b256 (T289.heap) n0 ZN289 u289_2) hZ (hw _ (List.mem_of_getElem? (i := 107) rfl)) (hw _ (List.mem_of_getElem? (i := 72) rfl)) (by decide) (by decide)) q290a q290c (g := (mkF m 201 #[.val (.int p1), .val (.int p2), .val (.int p3), .val (.ref b249), .val (.ref b251), .val (.ref b252), .val (.ref b254), .val (.ref b256), .val (.int (1 : Int32)), .val (.int (2 : Int32)), .val (.int (0 : Int32)), .val (.int (2 : Int32)), .val (.int (1 : Int32)), .unset] [(.ref b256)])) rfl (by rw [hml]; rfl) (Steps.refl _) (argsL := []) (rest := []) (lenOf pd_0_4 rfl) rfl (by show 2 * 0 + _ ≤ _; exact Nat.le_of_eq rfl) (hb hby at_201) (fun _ _ => ⟨rfl, rfl, (by decide : 15 + 0 ≤ _), (by decide : 161 + 0 ≤ _)⟩)
        dsimp only [Pt.U, Pt.locs, Pt.cells, Pt.slots] at X290 l290 y290 z290 st290 hQ290
        subst l290 y290 z290
        obtain ⟨rfl, N290q, e290⟩ := hQ290
        have N290 := Fr.app N289 N290q
        refine goT st290 ?_
        show Go _ p e below s _ _ _ (T290.setTop (mkF m 204 #[.val (.int p1), .val (.int p2), .val (.int p3), .val (.ref b249), .val (.ref b251), .val (.ref b252), .val (.ref b254), .val (.ref b256), .val (.int (1 : Int32)), .val (.int (2 : Int32)), .val (.int (0 : Int32)), .val (.int (2 : Int32)), .val (.int (1 : Int32)), .unset] [(.int (1 : Int32))]))
        refine go (fun _ => XS.istore X290.here hx rfl (hb hby at_204) rfl (l' := #[.val (.int p1), .val (.int p2), .val (.int p3), .val (.ref b249), .val (.ref b251), .val (.ref b252), .val (.ref b254), .val (.ref b256), .val (.int (1 : Int32)), .val (.int (2 : Int32)), .val (.int (0 : Int32)), .val (.int (2 : Int32)), .val (.int (1 : Int32)), .val (.int (1 : Int32))]) rfl) ?_
        show Go _ p e below s _ _ _ (T290.setTop (mkF m 206 #[.val (.int p1), .val (.int p2), .val (.int p3), .val (.ref b249), .val (.ref b251), .val (.ref b252), .val (.ref b254), .val (.ref b256), .val (.int (1 : Int32)), .val (.int (2 : Int32)), .val (.int (0 : Int32)), .val (.int (2 : Int32)), .val (.int (1 : Int32)), .val (.int (1 : Int32))] []))
        refine go (fun _ => XS.iload X290.here hx rfl (hb hby at_206) rfl) ?_
        show Go _ p e below s _ _ _ (T290.setTop (mkF m 208 #[.val (.int p1), .val (.int p2), .val (.int p3), .val (.ref b249), .val (.ref b251), .val (.ref b252), .val (.ref b254), .val (.ref b256), .val (.int (1 : Int32)), .val (.int (2 : Int32)), .val (.int (0 : Int32)), .val (.int (2 : Int32)), .val (.int (1 : Int32)), .val (.int (1 : Int32))] [(.int (1 : Int32))]))
        refine go (fun _ => XS.ifNo X290.here hx rfl (hb hby at_208) rfl ((if0 _ _).trans (feq (by decide : ¬ ((1 : Int32) = (0 : Int32)))).1)) ?_
        show Go _ p e below s _ _ _ (T290.setTop (mkF m 211 #[.val (.int p1), .val (.int p2), .val (.int p3), .val (.ref b249), .val (.ref b251), .val (.ref b252), .val (.ref b254), .val (.ref b256), .val (.int (1 : Int32)), .val (.int (2 : Int32)), .val (.int (0 : Int32)), .val (.int (2 : Int32)), .val (.int (1 : Int32)), .val (.int (1 : Int32))] []))
        refine go (fun _ => XS.iload X290.here hx rfl (hb hby at_211) rfl) ?_
        show Go _ p e below s _ _ _ (T290.setTop (mkF m 213 #[.val (.int p1), .val (.int p2), .val (.int p3), .val (.ref b249), .val (.ref b251), .val (.ref b252), .val (.ref b254), .val (.ref b256), .val (.int (1 : Int32)), .val (.int (2 : Int32)), .val (.int (0 : Int32)), .val (.int (2 : Int32)), .val (.int (1 : Int32)), .val (.int (1 : Int32))] [(.int (0 : Int32))]))
        refine go (fun _ => XS.iload X290.here hx rfl (hb hby at_213) rfl) ?_
        show Go _ p e below s _ _ _ (T290.setTop (mkF m 215 #[.val (.int p1), .val (.int p2), .val (.int p3), .val (.ref b249), .val (.ref b251), .val (.ref b252), .val (.ref b254), .val (.ref b256), .val (.int (1 : Int32)), .val (.int (2 : Int32)), .val (.int (0 : Int32)), .val (.int (2 : Int32)), .val (.int (1 : Int32)), .val (.int (1 : Int32))] [(.int (2 : Int32)), (.int (0 : Int32))]))
        refine go (fun _ => XS.ifYes X290.here hx rfl (pc0 := 215) (pc' := 222) rfl (hb hby at_215) rfl ((if0 _ _).trans (feq (by decide : ¬ ((2 : Int32) = (0 : Int32)))).2) (by decide) (by decide)) ?_
        show Go _ p e below s _ _ _ (T290.setTop (mkF m 222 #[.val (.int p1), .val (.int p2), .val (.int p3), .val (.ref b249), .val (.ref b251), .val (.ref b252), .val (.ref b254), .val (.ref b256), .val (.int (1 : Int32)), .val (.int (2 : Int32)), .val (.int (0 : Int32)), .val (.int (2 : Int32)), .val (.int (1 : Int32)), .val (.int (1 : Int32))] [(.int (0 : Int32))]))
        refine go (fun _ => XS.iconst X290.here hx rfl (hb hby at_222)) ?_
        show Go _ p e below s _ _ _ (T290.setTop (mkF m 223 #[.val (.int p1), .val (.int p2), .val (.int p3), .val (.ref b249), .val (.ref b251), .val (.ref b252), .val (.ref b254), .val (.ref b256), .val (.int (1 : Int32)), .val (.int (2 : Int32)), .val (.int (0 : Int32)), .val (.int (2 : Int32)), .val (.int (1 : Int32)), .val (.int (1 : Int32))] [(.int (0 : Int32)), (.int (0 : Int32))]))
        refine go (fun _ => XS.icmpNo X290.here hx rfl (hb hby at_223) rfl (teq (rfl : (0 : Int32) = (0 : Int32))).2) ?_
        show Go _ p e below s _ _ _ (T290.setTop (mkF m 226 #[.val (.int p1), .val (.int p2), .val (.int p3), .val (.ref b249), .val (.ref b251), .val (.ref b252), .val (.ref b254), .val (.ref b256), .val (.int (1 : Int32)), .val (.int (2 : Int32)), .val (.int (0 : Int32)), .val (.int (2 : Int32)), .val (.int (1 : Int32)), .val (.int (1 : Int32))] []))
        refine go (fun _ => XS.iload X290.here hx rfl (hb hby at_226) rfl) ?_
        show Go _ p e below s _ _ _ (T290.setTop (mkF m 228 #[.val (.int p1), .val (.int p2), .val (.int p3), .val (.ref b249), .val (.ref b251), .val (.ref b252), .val (.ref b254), .val (.ref b256), .val (.int (1 : Int32)), .val (.int (2 : Int32)), .val (.int (0 : Int32)), .val (.int (2 : Int32)), .val (.int (1 : Int32)), .val (.int (1 : Int32))] [(.int (1 : Int32))]))
        refine go (fun _ => XS.iload X290.here hx rfl (hb hby at_228) rfl) ?_
        show Go _ p e below s _ _ _ (T290.setTop (mkF m 230 #[.val (.int p1), .val (.int p2), .val (.int p3), .val (.ref b249), .val (.ref b251), .val (.ref b252), .val (.ref b254), .val (.ref b256), .val (.int (1 : Int32)), .val (.int (2 : Int32)), .val (.int (0 : Int32)), .val (.int (2 : Int32)), .val (.int (1 : Int32)), .val (.int (1 : Int32))] [(.int (2 : Int32)), (.int (1 : Int32))]))
        refine go (fun _ => XS.iload X290.here hx rfl (hb hby at_230) rfl) ?_
        show Go _ p e below s _ _ _ (T290.setTop (mkF m 232 #[.val (.int p1), .val (.int p2), .val (.int p3), .val (.ref b249), .val (.ref b251), .val (.ref b252), .val (.ref b254), .val (.ref b256), .val (.int (1 : Int32)), .val (.int (2 : Int32)), .val (.int (0 : Int32)), .val (.int (2 : Int32)), .val (.int (1 : Int32)), .val (.int (1 : Int32))] [(.int (2 : Int32)), (.int (2 : Int32)), (.int (1 : Int32))]))
        refine go (fun _ => XS.icmpNo X290.here hx rfl (hb hby at_232) rfl (teq (rfl : (2 : Int32) = (2 : Int32))).2) ?_
        show Go _ p e below s _ _ _ (T290.setTop (mkF m 235 #[.val (.int p1), .val (.int p2), .val (.int p3), .val (.ref b249), .val (.ref b251), .val (.ref b252), .val (.ref b254), .val (.ref b256), .val (.int (1 : Int32)), .val (.int (2 : Int32)), .val (.int (0 : Int32)), .val (.int (2 : Int32)), .val (.int (1 : Int32)), .val (.int (1 : Int32))] [(.int (1 : Int32))]))
        refine go (fun _ => XS.iconst X290.here hx rfl (hb hby at_235)) ?_
        show Go _ p e below s _ _ _ (T290.setTop (mkF m 236 #[.val (.int p1), .val (.int p2), .val (.int p3), .val (.ref b249), .val (.ref b251), .val (.ref b252), .val (.ref b254), .val (.ref b256), .val (.int (1 : Int32)), .val (.int (2 : Int32)), .val (.int (0 : Int32)), .val (.int (2 : Int32)), .val (.int (1 : Int32)), .val (.int (1 : Int32))] [(.int (1 : Int32)), (.int (1 : Int32))]))
        refine go (fun _ => XS.goto X290.here hx rfl (pc0 := 236) (pc' := 240) rfl (hb hby at_236) (by decide) (by decide)) ?_
        show Go _ p e below s _ _ _ (T290.setTop (mkF m 240 #[.val (.int p1), .val (.int p2), .val (.int p3), .val (.ref b249), .val (.ref b251), .val (.ref b252), .val (.ref b254), .val (.ref b256), .val (.int (1 : Int32)), .val (.int (2 : Int32)), .val (.int (0 : Int32)), .val (.int (2 : Int32)), .val (.int (1 : Int32)), .val (.int (1 : Int32))] [(.int (1 : Int32)), (.int (1 : Int32))]))
        refine go (fun _ => XS.icmpNo X290.here hx rfl (hb hby at_240) rfl (teq (rfl : (1 : Int32) = (1 : Int32))).2) ?_
        show Go _ p e below s _ _ _ (T290.setTop (mkF m 243 #[.val (.int p1), .val (.int p2), .val (.int p3), .val (.ref b249), .val (.ref b251), .val (.ref b252), .val (.ref b254), .val (.ref b256), .val (.int (1 : Int32)), .val (.int (2 : Int32)), .val (.int (0 : Int32)), .val (.int (2 : Int32)), .val (.int (1 : Int32)), .val (.int (1 : Int32))] []))
        refine go (fun _ => XS.iconst X290.here hx rfl (hb hby at_243)) ?_
        show Go _ p e below s _ _ _ (T290.setTop (mkF m 244 #[.val (.int p1), .val (.int p2), .val (.int p3), .val (.ref b249), .val (.ref b251), .val (.ref b252), .val (.ref b254), .val (.ref b256), .val (.int (1 : Int32)), .val (.int (2 : Int32)), .val (.int (0 : Int32)), .val (.int (2 : Int32)), .val (.int (1 : Int32)), .val (.int (1 : Int32))] [(.int (1 : Int32))]))
        refine go (fun _ => XS.goto X290.here hx rfl (pc0 := 244) (pc' := 248) rfl (hb hby at_244) (by decide) (by decide)) ?_
        show Go _ p e below s _ _ _ (T290.setTop (mkF m 248 #[.val (.int p1), .val (.int p2), .val (.int p3), .val (.ref b249), .val (.ref b251), .val (.ref b252), .val (.ref b254), .val (.ref b256), .val (.int (1 : Int32)), .val (.int (2 : Int32)), .val (.int (0 : Int32)), .val (.int (2 : Int32)), .val (.int (1 : Int32)), .val (.int (1 : Int32))] [(.int (1 : Int32))]))
        refine goRetW X290 hS255 (by rw [e290]; exact HK289) hx Bd.notSynchronized Bd.returns rfl (Or.inl ⟨rfl, Or.inr (Or.inl rfl), _, rfl⟩) (hb hby at_248) (by decide) (by decide) (by rw [e290]; refine ⟨rfl, N290⟩)
set_option maxRecDepth 65536 in
set_option maxHeartbeats 40000000 in
theorem comes_1 {Post : Tables → Env → Array Value → State → Outcome → State → Prop} (hpost : ∀ tb e args s v u, (limb_1_1.after args s (.returned v) u = true ∧ limb_1_2.after args s (.returned v) u = true ∧ True) → ReturnedEndW s (.returned v) u (Jvm.fieldLocs frame_1_writes args s ++ Jvm.arrayLocs frame_1_arrays args s ++ Jvm.staticLocs frame_1_statics s) 32 2240 → Post tb e args s (.returned v) u) :
    ArmFor flags0 classFile x code maxLocals ret World_1 tables_1 room_1 Calls_1 rest_1 Pre_1 Post := by
  intro l hfl _ _ p e ha hc hk s m args below hf hA hF happ hP
  obtain ⟨hcalls, hrest, hpre⟩ := hP
  obtain ⟨-, -, -, hnamed, -, -, -, hat⟩ := (Spec.applies_iff hf).mp happ
  obtain ⟨hg, hn⟩ := and_e (Cond.before_iff.mp (show (Jvm.Cond.and given_1 narrow_1).before args s = true from hpre))
  obtain ⟨q0, r0⟩ := and_e hg
  obtain ⟨q1, r1⟩ := and_e r0
  obtain ⟨q2, r2⟩ := and_e r1
  obtain ⟨w0, w1, w2, rfl⟩ : ∃ w0 w1 w2 : Value, args = #[w0, w1, w2] := by
    have hs : args.size = 3 := by simpa [Cond.value, given_1] using q0
    obtain ⟨L⟩ := args
    match L, hs with
    | [w0, w1, w2], _ => exact ⟨w0, w1, w2, rfl⟩
  have hw := fun d (hd : d ∈ tables_1) => atoms_spec (ws := Jvm.Cond.code x code maxLocals ret :: tables_1) hat d (List.mem_cons_of_mem _ hd)
  have hfit : Fit s := fun {y c} hc i hi => by
    obtain ⟨ha, rfl⟩ := Array.getElem?_eq_some_iff.mp hc
    have q := List.all_eq_true.mp ((Array.all_eq_true_iff_forall_mem.mp hF) _ (Array.getElem_mem ha)) i (List.mem_range.mpr hi)
    simpa [Array.getElem?_eq_getElem hi] using q
  obtain ⟨hsets, hown0⟩ := atoms_of _ (rest_1_c_eq ▸ (show rest_1_c.before _ s = true from hrest))
  obtain ⟨i0, ei0⟩ := is_v q1
  obtain rfl : w0 = (.int i0) := Option.some.inj ei0
  obtain ⟨i1, ei1⟩ := is_v q2
  obtain rfl : w1 = (.int i1) := Option.some.inj ei1
  obtain ⟨i2, ei2⟩ := is_v r2
  obtain rfl : w2 = (.int i2) := Option.some.inj ei2
  obtain ⟨d0, vd⟩ := exa_v (Cond.before_iff.mp (hsets _ (List.mem_of_getElem? (i := 7) rfl)))
  obtain ⟨cd, Ad⟩ := Arr.start vd (Cond.before_iff.mp (hsets _ (List.mem_of_getElem? (i := 6) rfl)))
  obtain ⟨l1, l2⟩ := own_len vd Ad (Cond.before_iff.mp (hsets _ (List.mem_of_getElem? (i := 8) rfl)))
  have S0 : Sta s s.heap "java/util/ArrayList" "DEFAULTCAPACITY_EMPTY_ELEMENTDATA" "[Ljava/lang/Object;" (.ref d0) := Sta.start vd (Or.inr ⟨hw _ (List.mem_of_getElem? (i := 79) rfl), hsets _ (List.mem_of_getElem? (i := 2) rfl)⟩)
  have V0 : Arv s s.heap d0 cd.cls (.object "java/lang/Object") (0 : Int32) [] .null := Arv.start hfit Ad l1 l2 (by decide) (by decide) trivial
  obtain ⟨n, o, h1, h2, h3, _, L, rfl, ⟨rfl, N⟩, hq⟩ := rm0 l s _ hw tables_1 i0 i1 i2 d0 cd.cls s.heap s.heap.size (Nat.le_refl _) S0 (Old.start s) V0 p e ha hc hk s m _ below hf ((Spec.applies_iff_loose hf).mp happ).1 ⟨rfl, State.Warmed39.refl s, rfl⟩ trivial
  refine ⟨n, _, h1, h2, h3, hpost _ _ _ _ _ _ ⟨Cond.after_iff.mpr rfl, Cond.after_iff.mpr (eq_i res_at (Term.int_eval (1)) rfl), trivial⟩ ⟨hq.1, hq.2.1, hq.2.2.1, (hq.2.2.2.sift fun y hy => Or.inr (N y hy)).mono (by decide) (by decide)⟩⟩
theorem main_1_1 : Claimed_1_1 := comes_1 fun _ _ _ _ _ _ h hF => ⟨h.1, hF⟩
theorem main_1_2 : Claimed_1_2 := comes_1 fun _ _ _ _ _ _ h hF => ⟨h.2.1, hF⟩
end Jvm.Pilot.@@N@@
namespace Jvm.Pilot.@@N@@
open Jvm Jvm.ClassFile Sem Op Lib Jvm.Free Jvm.Stand Jvm.Pilot.@@N@@.Jvm.D
/-! MADE BY PROGRAM (witnessworld.py) out of the Statement's table words and the real class files: 32 classes; the members and pool entries that the words name. The judged class is class 1, her method 1. -/
namespace start1
open Jvm.ClassFile
def u (s : String) : CpInfo := .utf8 (stringToUtf16 s)
/-- a pool by its gaps: so many unusable entries, then the entry; so many at the end -/
def gap : Nat → List CpInfo → List CpInfo
  | 0, r => r
  | n + 1, r => .unusable :: gap n r
def poolList (es : List (Nat × CpInfo)) (last : Nat) : List CpInfo := es.foldr (fun e r => gap e.1 (e.2 :: r)) (gap last [])
def pool (es : List (Nat × CpInfo)) (last : Nat) : Array CpInfo := ⟨poolList es last⟩
def fileOf (pool : Array CpInfo) (this : Nat) (attrs : Array Attribute := #[]) (ms : Array MethodInfo := #[]) (fl : Nat := 33) (sup : Nat := 0) (ifs : Array Nat := #[]) (fds : Array FieldInfo := #[]) : ClassFile where
  minorVersion := 0
  majorVersion := 65
  constantPool := pool
  accessFlags := fl
  thisClass := this
  superClass := sup
  interfaces := ifs
  fields := fds
  methods := ms
  attributes := attrs
def plain (name : String) (sup : Option ClassId) : Class where
  name := name
  kind := .ordinary
  loader := none
  accessFlags := 33
  super := sup
  interfaces := #[]
  cf := none
  fields := #[]
  methods := #[]
  instanceTypes := #[]
  staticTypes := #[]
  resolved := #[]
  callSites := []
  init := .initialized
  statics := none
  mirror := none

def pool0 : Array CpInfo := pool [(5, u "<init>"), (0, u "()V"), (1, .class_ 10), (1, u "java/lang/Object")] 113

def k0c0 : Code := { maxStack := 0, maxLocals := 1, code := object_method_1_code, exceptionTable := #[], attributes := #[] }
def k0m0 : Method := { name := "<init>", desc := "()V", sig := { parameters := [], returnType := none }, accessFlags := 1, code := some k0c0 }
/-- java/lang/Object -/
def k0 : Class := { plain "java/lang/Object" none with
  accessFlags := 33
  interfaces := #[]
  cf := some (fileOf pool0 8 #[] #[{ accessFlags := 1, nameIndex := 5, descriptorIndex := 6, attributes := #[] }] 33 0 #[] #[])
  fields := #[]
  methods := #[k0m0]
  instanceTypes := #[]
  staticTypes := #[]
  resolved := Array.replicate 124 none
  statics := none }

def pool1 : Array CpInfo := pool [(2, .class_ 4), (0, .nameAndType 5 6), (0, u "java/lang/Object"), (0, u "<init>"), (0, u "()V"), (0, .class_ 8), (0, u "com/example/reticule/reticule/engine/TerminalNode"), (0, .methodref 7 10), (0, .nameAndType 5 11), (0, u "(IILcom/example/reticule/reticule/engine/Expression;Lcom/example/reticule/reticule/engine/Agenda;)V"), (0, .methodref 13 14), (0, .class_ 15), (0, .nameAndType 16 17), (0, u "com/example/reticule/reticule/engine/Token"), (0, u "start"), (0, u "(Lcom/example/reticule/reticule/engine/ParentNode;)Lcom/example/reticule/reticule/engine/Token;"), (0, .class_ 19), (0, u "com/example/reticule/reticule/engine/Activation"), (0, .methodref 18 21), (0, .nameAndType 5 22), (0, u "(Lcom/example/reticule/reticule/engine/TerminalNode;Lcom/example/reticule/reticule/engine/Token;)V"), (0, .class_ 24), (0, u "com/example/reticule/reticule/engine/ActivationRuns"), (0, .methodref 23 3), (0, .methodref 23 27), (0, .nameAndType 28 29), (0, u "isEmpty"), (0, u "()Z"), (0, .integer 2147483647), (0, .methodref 23 32), (0, .nameAndType 33 34), (0, u "add"), (0, u "(Lcom/example/reticule/reticule/engine/Activation;)V"), (0, .methodref 23 36), (0, .nameAndType 37 34), (0, u "remove"), (0, .class_ 39), (0, u "com/example/reticule/reticule/engine/ActivationRunsIsEmptyPinLaw"), (2, u "law"), (0, u "(III)Z")] 3

def k1m0 : Method := { name := "<init>", desc := "()V", sig := { parameters := [], returnType := none }, accessFlags := 1, code := none }
def k1c1 : Code := { maxStack := 6, maxLocals := 14, code := code, exceptionTable := #[], attributes := #[] }
def k1m1 : Method := { name := "law", desc := "(III)Z", sig := { parameters := [.int, .int, .int], returnType := some .boolean }, accessFlags := 9, code := some k1c1 }
/-- com/example/reticule/reticule/engine/ActivationRunsIsEmptyPinLaw -/
def k1 : Class := { plain "com/example/reticule/reticule/engine/ActivationRunsIsEmptyPinLaw" (some 0) with
  accessFlags := 49
  interfaces := #[]
  cf := some (fileOf pool1 38 #[] #[{ accessFlags := 1, nameIndex := 5, descriptorIndex := 6, attributes := #[] }, { accessFlags := 9, nameIndex := 42, descriptorIndex := 43, attributes := #[] }] 49 2 #[] #[])
  fields := #[]
  methods := #[k1m0, k1m1]
  instanceTypes := #[]
  staticTypes := #[]
  resolved := Array.replicate 47 none
  statics := none }

def pool2 : Array CpInfo := pool [(1, .class_ 2), (0, u "com/example/reticule/reticule/engine/BetaNode"), (0, .class_ 4), (0, u "java/lang/Object")] 11

/-- com/example/reticule/reticule/engine/BetaNode -/
def k2 : Class := { plain "com/example/reticule/reticule/engine/BetaNode" (some 0) with
  accessFlags := 1536
  interfaces := #[]
  cf := some (fileOf pool2 1 #[] #[] 1536 3 #[] #[])
  fields := #[]
  methods := #[]
  instanceTypes := #[]
  staticTypes := #[]
  resolved := Array.replicate 16 none
  statics := none }

def pool3 : Array CpInfo := pool [(1, .methodref 2 3), (0, .class_ 4), (0, .nameAndType 5 6), (0, u "java/lang/Object"), (0, u "<init>"), (0, u "()V"), (0, .fieldref 8 9), (0, .class_ 10), (0, .nameAndType 11 12), (0, u "com/example/reticule/reticule/engine/TerminalNode"), (0, u "ruleIndex"), (0, u "I"), (0, .fieldref 8 14), (0, .nameAndType 15 12), (0, u "salience"), (0, .fieldref 8 17), (0, .nameAndType 18 19), (0, u "actions"), (0, u "Lcom/example/reticule/reticule/engine/Expression;"), (0, .fieldref 8 21), (0, .nameAndType 22 23), (0, u "agenda"), (0, u "Lcom/example/reticule/reticule/engine/Agenda;"), (43, .class_ 68), (0, u "com/example/reticule/reticule/engine/BetaNode"), (0, u "(IILcom/example/reticule/reticule/engine/Expression;Lcom/example/reticule/reticule/engine/Agenda;)V")] 14

def k3c0 : Code := { maxStack := 2, maxLocals := 5, code := prog_185_method_1_code, exceptionTable := #[], attributes := #[] }
def k3m0 : Method := { name := "<init>", desc := "(IILcom/example/reticule/reticule/engine/Expression;Lcom/example/reticule/reticule/engine/Agenda;)V", sig := { parameters := [.int, .int, (.object "com/example/reticule/reticule/engine/Expression"), (.object "com/example/reticule/reticule/engine/Agenda")], returnType := none }, accessFlags := 0, code := some k3c0 }
/-- com/example/reticule/reticule/engine/TerminalNode -/
def k3 : Class := { plain "com/example/reticule/reticule/engine/TerminalNode" (some 0) with
  accessFlags := 48
  interfaces := #[2]
  cf := some (fileOf pool3 8 #[] #[{ accessFlags := 0, nameIndex := 5, descriptorIndex := 69, attributes := #[] }] 48 2 #[67] #[{ accessFlags := 18, nameIndex := 11, descriptorIndex := 12, attributes := #[] }, { accessFlags := 18, nameIndex := 15, descriptorIndex := 12, attributes := #[] }, { accessFlags := 18, nameIndex := 18, descriptorIndex := 19, attributes := #[] }, { accessFlags := 18, nameIndex := 22, descriptorIndex := 23, attributes := #[] }])
  fields := #[{ name := "ruleIndex", type := .int, accessFlags := 18, slot := 0, constantValue := 0 }, { name := "salience", type := .int, accessFlags := 18, slot := 1, constantValue := 0 }, { name := "actions", type := (.object "com/example/reticule/reticule/engine/Expression"), accessFlags := 18, slot := 2, constantValue := 0 }, { name := "agenda", type := (.object "com/example/reticule/reticule/engine/Agenda"), accessFlags := 18, slot := 3, constantValue := 0 }]
  methods := #[k3m0]
  instanceTypes := #[.int, .int, (.object "com/example/reticule/reticule/engine/Expression"), (.object "com/example/reticule/reticule/engine/Agenda")]
  staticTypes := #[]
  resolved := Array.replicate 84 none
  statics := none }

def pool4 : Array CpInfo := pool [(1, .methodref 2 3), (0, .class_ 4), (0, .nameAndType 5 6), (0, u "java/lang/Object"), (0, u "<init>"), (0, u "()V"), (0, .fieldref 8 9), (0, .class_ 10), (0, .nameAndType 11 12), (0, u "com/example/reticule/reticule/engine/Made"), (0, u "maker"), (0, u "Ljava/lang/Object;"), (0, u "(Ljava/lang/Object;)V")] 5

def k4c0 : Code := { maxStack := 2, maxLocals := 2, code := prog_123_method_1_code, exceptionTable := #[], attributes := #[] }
def k4m0 : Method := { name := "<init>", desc := "(Ljava/lang/Object;)V", sig := { parameters := [(.object "java/lang/Object")], returnType := none }, accessFlags := 0, code := some k4c0 }
/-- com/example/reticule/reticule/engine/Made -/
def k4 : Class := { plain "com/example/reticule/reticule/engine/Made" (some 0) with
  accessFlags := 1056
  interfaces := #[]
  cf := some (fileOf pool4 8 #[] #[{ accessFlags := 0, nameIndex := 5, descriptorIndex := 13, attributes := #[] }] 1056 2 #[] #[{ accessFlags := 18, nameIndex := 11, descriptorIndex := 12, attributes := #[] }])
  fields := #[{ name := "maker", type := (.object "java/lang/Object"), accessFlags := 18, slot := 0, constantValue := 0 }]
  methods := #[k4m0]
  instanceTypes := #[(.object "java/lang/Object")]
  staticTypes := #[]
  resolved := Array.replicate 19 none
  statics := none }

def pool5 : Array CpInfo := pool [(1, .methodref 2 3), (0, .class_ 4), (0, .nameAndType 5 6), (0, u "com/example/reticule/reticule/engine/Made"), (0, u "<init>"), (0, u "(Ljava/lang/Object;)V"), (1, .class_ 10), (1, u "com/example/reticule/reticule/engine/Source"), (0, u "first"), (0, u "Lcom/example/reticule/reticule/engine/Made;"), (6, u "second"), (2, u "others"), (0, u "Ljava/lang/Object;"), (0, .class_ 25), (0, u "com/example/reticule/reticule/engine/Source$Firsts")] 49

def k5c0 : Code := { maxStack := 2, maxLocals := 2, code := prog_167_method_1_code, exceptionTable := #[], attributes := #[] }
def k5m0 : Method := { name := "<init>", desc := "(Ljava/lang/Object;)V", sig := { parameters := [(.object "java/lang/Object")], returnType := none }, accessFlags := 0, code := some k5c0 }
/-- com/example/reticule/reticule/engine/Source -/
def k5 : Class := { plain "com/example/reticule/reticule/engine/Source" (some 4) with
  accessFlags := 1056
  interfaces := #[]
  cf := some (fileOf pool5 8 #[.nestMembers #[24]] #[{ accessFlags := 0, nameIndex := 5, descriptorIndex := 6, attributes := #[] }] 1056 2 #[] #[{ accessFlags := 2, nameIndex := 11, descriptorIndex := 12, attributes := #[] }, { accessFlags := 2, nameIndex := 19, descriptorIndex := 12, attributes := #[] }, { accessFlags := 2, nameIndex := 22, descriptorIndex := 23, attributes := #[] }])
  fields := #[{ name := "first", type := (.object "com/example/reticule/reticule/engine/Made"), accessFlags := 2, slot := 1, constantValue := 0 }, { name := "second", type := (.object "com/example/reticule/reticule/engine/Made"), accessFlags := 2, slot := 2, constantValue := 0 }, { name := "others", type := (.object "java/lang/Object"), accessFlags := 2, slot := 3, constantValue := 0 }]
  methods := #[k5m0]
  instanceTypes := #[(.object "java/lang/Object"), (.object "com/example/reticule/reticule/engine/Made"), (.object "com/example/reticule/reticule/engine/Made"), (.object "java/lang/Object")]
  staticTypes := #[]
  resolved := Array.replicate 75 none
  statics := none }

def pool6 : Array CpInfo := pool [(1, .methodref 2 3), (0, .class_ 4), (0, .nameAndType 5 6), (0, u "com/example/reticule/reticule/engine/Source"), (0, u "<init>"), (0, u "(Ljava/lang/Object;)V"), (0, .fieldref 8 9), (0, .class_ 10), (0, .nameAndType 11 12), (0, u "com/example/reticule/reticule/engine/Token"), (0, u "parent"), (0, u "Lcom/example/reticule/reticule/engine/Token;"), (0, .fieldref 8 14), (0, .nameAndType 15 16), (0, u "last"), (0, u "Lcom/example/reticule/reticule/engine/FactEntry;"), (0, .fieldref 8 18), (0, .nameAndType 19 20), (0, u "size"), (0, u "I"), (0, .methodref 8 22), (0, .nameAndType 5 23), (0, u "(Lcom/example/reticule/reticule/engine/Token;Lcom/example/reticule/reticule/engine/FactEntry;Lcom/example/reticule/reticule/engine/ParentNode;)V"), (10, u "nextExtension"), (2, u "previousExtension"), (5, u "nextOfLast"), (2, u "previousOfLast"), (66, u "start"), (0, u "(Lcom/example/reticule/reticule/engine/ParentNode;)Lcom/example/reticule/reticule/engine/Token;")] 27

def k6c0 : Code := { maxStack := 3, maxLocals := 4, code := prog_187_method_1_code, exceptionTable := #[], attributes := #[] }
def k6m0 : Method := { name := "<init>", desc := "(Lcom/example/reticule/reticule/engine/Token;Lcom/example/reticule/reticule/engine/FactEntry;Lcom/example/reticule/reticule/engine/ParentNode;)V", sig := { parameters := [(.object "com/example/reticule/reticule/engine/Token"), (.object "com/example/reticule/reticule/engine/FactEntry"), (.object "com/example/reticule/reticule/engine/ParentNode")], returnType := none }, accessFlags := 2, code := some k6c0 }
def k6c1 : Code := { maxStack := 5, maxLocals := 1, code := prog_187_method_2_code, exceptionTable := #[], attributes := #[] }
def k6m1 : Method := { name := "start", desc := "(Lcom/example/reticule/reticule/engine/ParentNode;)Lcom/example/reticule/reticule/engine/Token;", sig := { parameters := [(.object "com/example/reticule/reticule/engine/ParentNode")], returnType := some (.object "com/example/reticule/reticule/engine/Token") }, accessFlags := 8, code := some k6c1 }
/-- com/example/reticule/reticule/engine/Token -/
def k6 : Class := { plain "com/example/reticule/reticule/engine/Token" (some 5) with
  accessFlags := 48
  interfaces := #[]
  cf := some (fileOf pool6 8 #[] #[{ accessFlags := 2, nameIndex := 5, descriptorIndex := 23, attributes := #[] }, { accessFlags := 8, nameIndex := 113, descriptorIndex := 114, attributes := #[] }] 48 2 #[] #[{ accessFlags := 18, nameIndex := 11, descriptorIndex := 12, attributes := #[] }, { accessFlags := 18, nameIndex := 15, descriptorIndex := 16, attributes := #[] }, { accessFlags := 18, nameIndex := 19, descriptorIndex := 20, attributes := #[] }, { accessFlags := 2, nameIndex := 37, descriptorIndex := 12, attributes := #[] }, { accessFlags := 2, nameIndex := 34, descriptorIndex := 12, attributes := #[] }, { accessFlags := 2, nameIndex := 46, descriptorIndex := 12, attributes := #[] }, { accessFlags := 2, nameIndex := 43, descriptorIndex := 12, attributes := #[] }])
  fields := #[{ name := "parent", type := (.object "com/example/reticule/reticule/engine/Token"), accessFlags := 18, slot := 4, constantValue := 0 }, { name := "last", type := (.object "com/example/reticule/reticule/engine/FactEntry"), accessFlags := 18, slot := 5, constantValue := 0 }, { name := "size", type := .int, accessFlags := 18, slot := 6, constantValue := 0 }, { name := "previousExtension", type := (.object "com/example/reticule/reticule/engine/Token"), accessFlags := 2, slot := 7, constantValue := 0 }, { name := "nextExtension", type := (.object "com/example/reticule/reticule/engine/Token"), accessFlags := 2, slot := 8, constantValue := 0 }, { name := "previousOfLast", type := (.object "com/example/reticule/reticule/engine/Token"), accessFlags := 2, slot := 9, constantValue := 0 }, { name := "nextOfLast", type := (.object "com/example/reticule/reticule/engine/Token"), accessFlags := 2, slot := 10, constantValue := 0 }]
  methods := #[k6m0, k6m1]
  instanceTypes := #[(.object "java/lang/Object"), (.object "com/example/reticule/reticule/engine/Made"), (.object "com/example/reticule/reticule/engine/Made"), (.object "java/lang/Object"), (.object "com/example/reticule/reticule/engine/Token"), (.object "com/example/reticule/reticule/engine/FactEntry"), .int, (.object "com/example/reticule/reticule/engine/Token"), (.object "com/example/reticule/reticule/engine/Token"), (.object "com/example/reticule/reticule/engine/Token"), (.object "com/example/reticule/reticule/engine/Token")]
  staticTypes := #[]
  resolved := Array.replicate 142 none
  statics := none }

def pool7 : Array CpInfo := pool [(1, .string 2), (0, u "terminal"), (0, .methodref 4 5), (0, .class_ 6), (0, .nameAndType 7 8), (0, u "java/util/Objects"), (0, u "requireNonNull"), (0, u "(Ljava/lang/Object;Ljava/lang/String;)Ljava/lang/Object;"), (0, .methodref 10 11), (0, .class_ 12), (0, .nameAndType 13 14), (0, u "com/example/reticule/reticule/engine/Made"), (0, u "<init>"), (0, u "(Ljava/lang/Object;)V"), (0, .string 16), (0, u "token"), (0, .class_ 18), (0, u "com/example/reticule/reticule/engine/Token"), (0, .fieldref 20 21), (0, .class_ 22), (0, .nameAndType 16 23), (0, u "com/example/reticule/reticule/engine/Activation"), (0, u "Lcom/example/reticule/reticule/engine/Token;"), (6, u "batch"), (0, u "Lcom/example/reticule/reticule/engine/Agenda$Batch;"), (0, u "place"), (0, u "I"), (0, u "endOf"), (0, u "Lcom/example/reticule/reticule/engine/Deferred;"), (0, u "(Lcom/example/reticule/reticule/engine/TerminalNode;Lcom/example/reticule/reticule/engine/Token;)V")] 12

def k7c0 : Code := { maxStack := 3, maxLocals := 3, code := prog_10_method_1_code, exceptionTable := #[], attributes := #[] }
def k7m0 : Method := { name := "<init>", desc := "(Lcom/example/reticule/reticule/engine/TerminalNode;Lcom/example/reticule/reticule/engine/Token;)V", sig := { parameters := [(.object "com/example/reticule/reticule/engine/TerminalNode"), (.object "com/example/reticule/reticule/engine/Token")], returnType := none }, accessFlags := 0, code := some k7c0 }
/-- com/example/reticule/reticule/engine/Activation -/
def k7 : Class := { plain "com/example/reticule/reticule/engine/Activation" (some 4) with
  accessFlags := 48
  interfaces := #[]
  cf := some (fileOf pool7 20 #[] #[{ accessFlags := 0, nameIndex := 13, descriptorIndex := 36, attributes := #[] }] 48 10 #[] #[{ accessFlags := 18, nameIndex := 16, descriptorIndex := 23, attributes := #[] }, { accessFlags := 0, nameIndex := 30, descriptorIndex := 31, attributes := #[] }, { accessFlags := 0, nameIndex := 32, descriptorIndex := 33, attributes := #[] }, { accessFlags := 0, nameIndex := 34, descriptorIndex := 35, attributes := #[] }])
  fields := #[{ name := "token", type := (.object "com/example/reticule/reticule/engine/Token"), accessFlags := 18, slot := 1, constantValue := 0 }, { name := "batch", type := (.object "com/example/reticule/reticule/engine/Agenda$Batch"), accessFlags := 0, slot := 2, constantValue := 0 }, { name := "place", type := .int, accessFlags := 0, slot := 3, constantValue := 0 }, { name := "endOf", type := (.object "com/example/reticule/reticule/engine/Deferred"), accessFlags := 0, slot := 4, constantValue := 0 }]
  methods := #[k7m0]
  instanceTypes := #[(.object "java/lang/Object"), (.object "com/example/reticule/reticule/engine/Token"), (.object "com/example/reticule/reticule/engine/Agenda$Batch"), .int, (.object "com/example/reticule/reticule/engine/Deferred")]
  staticTypes := #[]
  resolved := Array.replicate 49 none
  statics := none }

def pool8 : Array CpInfo := pool [(1, .class_ 2), (0, u "java/io/Serializable"), (0, .class_ 4), (0, u "java/lang/Object")] 2

/-- java/io/Serializable -/
def k8 : Class := { plain "java/io/Serializable" (some 0) with
  accessFlags := 1537
  interfaces := #[]
  cf := some (fileOf pool8 1 #[] #[] 1537 3 #[] #[])
  fields := #[]
  methods := #[]
  instanceTypes := #[]
  staticTypes := #[]
  resolved := Array.replicate 7 none
  statics := none }

def pool9 : Array CpInfo := pool [(1, .class_ 2), (0, u "java/lang/Comparable"), (0, .class_ 4), (0, u "java/lang/Object")] 7

/-- java/lang/Comparable -/
def k9 : Class := { plain "java/lang/Comparable" (some 0) with
  accessFlags := 1537
  interfaces := #[]
  cf := some (fileOf pool9 1 #[] #[] 1537 3 #[] #[])
  fields := #[]
  methods := #[]
  instanceTypes := #[]
  staticTypes := #[]
  resolved := Array.replicate 12 none
  statics := none }

def pool10 : Array CpInfo := pool [(2, .class_ 4), (1, u "java/lang/CharSequence"), (42, .class_ 48), (0, u "java/lang/CharSequence$1CodePointIterator"), (10, .class_ 60), (0, u "java/lang/CharSequence$1CharIterator"), (5, .class_ 67), (0, u "java/lang/Object")] 63

/-- java/lang/CharSequence -/
def k10 : Class := { plain "java/lang/CharSequence" (some 0) with
  accessFlags := 1537
  interfaces := #[]
  cf := some (fileOf pool10 2 #[.nestMembers #[47, 59]] #[] 1537 66 #[] #[])
  fields := #[]
  methods := #[]
  instanceTypes := #[]
  staticTypes := #[]
  resolved := Array.replicate 131 none
  statics := none }

def pool11 : Array CpInfo := pool [(1, .class_ 2), (0, u "java/lang/constant/Constable"), (0, .class_ 4), (0, u "java/lang/Object")] 6

/-- java/lang/constant/Constable -/
def k11 : Class := { plain "java/lang/constant/Constable" (some 0) with
  accessFlags := 1537
  interfaces := #[]
  cf := some (fileOf pool11 1 #[] #[] 1537 3 #[] #[])
  fields := #[]
  methods := #[]
  instanceTypes := #[]
  staticTypes := #[]
  resolved := Array.replicate 11 none
  statics := none }

def pool12 : Array CpInfo := pool [(1, .class_ 2), (0, u "java/lang/constant/ConstantDesc"), (0, .class_ 4), (0, u "java/lang/Object")] 32

/-- java/lang/constant/ConstantDesc -/
def k12 : Class := { plain "java/lang/constant/ConstantDesc" (some 0) with
  accessFlags := 1537
  interfaces := #[]
  cf := some (fileOf pool12 1 #[] #[] 1537 3 #[] #[])
  fields := #[]
  methods := #[]
  instanceTypes := #[]
  staticTypes := #[]
  resolved := Array.replicate 37 none
  statics := none }

def pool13 : Array CpInfo := pool [(2, .class_ 4), (1, u "java/lang/Object"), (0, u "<init>"), (0, u "()V"), (3, .class_ 12), (1, u "java/lang/String"), (0, u "value"), (0, u "[B"), (2, u "coder"), (0, u "B"), (2, u "hash"), (0, u "I"), (2, u "hashIsZero"), (0, u "Z"), (13, u "COMPACT_STRINGS"), (534, .class_ 576), (0, u "java/lang/CharSequence"), (22, u "CASE_INSENSITIVE_ORDER"), (0, u "Ljava/util/Comparator;"), (500, u "serialPersistentFields"), (0, u "[Ljava/io/ObjectStreamField;"), (0, .class_ 1104), (0, u "java/lang/String$CaseInsensitiveComparator"), (1, .class_ 1107), (0, u "java/io/Serializable"), (0, .class_ 1109), (0, u "java/lang/Comparable"), (0, .class_ 1111), (0, u "java/lang/constant/Constable"), (0, .class_ 1113), (0, u "java/lang/constant/ConstantDesc"), (2, u "serialVersionUID"), (0, u "J"), (3, u "REPL"), (0, u "C"), (2, u "LATIN1"), (1, u "UTF16")] 323

def k13m0 : Method := { name := "<init>", desc := "()V", sig := { parameters := [], returnType := none }, accessFlags := 1, code := none }
/-- java/lang/String -/
def k13 : Class := { plain "java/lang/String" (some 0) with
  accessFlags := 49
  interfaces := #[8, 9, 10, 11, 12]
  cf := some (fileOf pool13 10 #[.nestMembers #[1103]] #[{ accessFlags := 1, nameIndex := 5, descriptorIndex := 6, attributes := #[] }] 49 2 #[1106, 1108, 575, 1110, 1112] #[{ accessFlags := 18, nameIndex := 13, descriptorIndex := 14, attributes := #[] }, { accessFlags := 18, nameIndex := 17, descriptorIndex := 18, attributes := #[] }, { accessFlags := 2, nameIndex := 21, descriptorIndex := 22, attributes := #[] }, { accessFlags := 2, nameIndex := 25, descriptorIndex := 26, attributes := #[] }, { accessFlags := 26, nameIndex := 1116, descriptorIndex := 1117, attributes := #[] }, { accessFlags := 24, nameIndex := 40, descriptorIndex := 26, attributes := #[] }, { accessFlags := 26, nameIndex := 1101, descriptorIndex := 1102, attributes := #[] }, { accessFlags := 26, nameIndex := 1121, descriptorIndex := 1122, attributes := #[] }, { accessFlags := 25, nameIndex := 599, descriptorIndex := 600, attributes := #[] }, { accessFlags := 24, nameIndex := 1125, descriptorIndex := 18, attributes := #[] }, { accessFlags := 24, nameIndex := 1127, descriptorIndex := 18, attributes := #[] }])
  fields := #[{ name := "value", type := (.array .byte), accessFlags := 18, slot := 0, constantValue := 0 }, { name := "coder", type := .byte, accessFlags := 18, slot := 1, constantValue := 0 }, { name := "hash", type := .int, accessFlags := 2, slot := 2, constantValue := 0 }, { name := "hashIsZero", type := .boolean, accessFlags := 2, slot := 3, constantValue := 0 }, { name := "serialVersionUID", type := .long, accessFlags := 26, slot := 0, constantValue := 0 }, { name := "COMPACT_STRINGS", type := .boolean, accessFlags := 24, slot := 1, constantValue := 0 }, { name := "serialPersistentFields", type := (.array (.object "java/io/ObjectStreamField")), accessFlags := 26, slot := 2, constantValue := 0 }, { name := "REPL", type := .char, accessFlags := 26, slot := 3, constantValue := 0 }, { name := "CASE_INSENSITIVE_ORDER", type := (.object "java/util/Comparator"), accessFlags := 25, slot := 4, constantValue := 0 }, { name := "LATIN1", type := .byte, accessFlags := 24, slot := 5, constantValue := 0 }, { name := "UTF16", type := .byte, accessFlags := 24, slot := 6, constantValue := 0 }]
  methods := #[k13m0]
  instanceTypes := #[(.array .byte), .byte, .int, .boolean]
  staticTypes := #[.long, .boolean, (.array (.object "java/io/ObjectStreamField")), .char, (.object "java/util/Comparator"), .byte, .byte]
  resolved := Array.replicate 1451 none
  statics := none }

def pool14 : Array CpInfo := pool [(2, .class_ 4), (1, u "java/lang/Object"), (0, u "<init>"), (0, u "()V"), (35, .class_ 44), (1, u "java/util/Objects"), (0, u "requireNonNull"), (48, u "(Ljava/lang/Object;Ljava/lang/String;)Ljava/lang/Object;"), (10, .methodref 106 107), (0, .class_ 108), (0, .nameAndType 109 110), (0, u "jdk/internal/util/Preconditions"), (0, u "checkIndex"), (0, u "(IILjava/util/function/BiFunction;)I"), (60, u "(II)I")] 12

def k14m0 : Method := { name := "<init>", desc := "()V", sig := { parameters := [], returnType := none }, accessFlags := 2, code := none }
def k14c1 : Code := { maxStack := 3, maxLocals := 2, code := jdk_31_method_11_code, exceptionTable := #[], attributes := #[] }
def k14m1 : Method := { name := "requireNonNull", desc := "(Ljava/lang/Object;Ljava/lang/String;)Ljava/lang/Object;", sig := { parameters := [(.object "java/lang/Object"), (.object "java/lang/String")], returnType := some (.object "java/lang/Object") }, accessFlags := 9, code := some k14c1 }
def k14c2 : Code := { maxStack := 3, maxLocals := 2, code := jdk_31_method_17_code, exceptionTable := #[], attributes := #[] }
def k14m2 : Method := { name := "checkIndex", desc := "(II)I", sig := { parameters := [.int, .int], returnType := some .int }, accessFlags := 9, code := some k14c2 }
/-- java/util/Objects -/
def k14 : Class := { plain "java/util/Objects" (some 0) with
  accessFlags := 49
  interfaces := #[]
  cf := some (fileOf pool14 42 #[] #[{ accessFlags := 2, nameIndex := 5, descriptorIndex := 6, attributes := #[] }, { accessFlags := 9, nameIndex := 45, descriptorIndex := 94, attributes := #[] }, { accessFlags := 9, nameIndex := 109, descriptorIndex := 171, attributes := #[] }] 49 2 #[] #[])
  fields := #[]
  methods := #[k14m0, k14m1, k14m2]
  instanceTypes := #[]
  staticTypes := #[]
  resolved := Array.replicate 184 none
  statics := none }

def pool15 : Array CpInfo := pool [(1, .methodref 2 3), (0, .class_ 4), (0, .nameAndType 5 6), (0, u "java/lang/Object"), (0, u "<init>"), (0, u "()V"), (0, .class_ 8), (0, u "java/util/ArrayList"), (0, .methodref 7 3), (0, .fieldref 11 12), (0, .class_ 13), (0, .nameAndType 14 15), (0, u "com/example/reticule/reticule/engine/ActivationRuns"), (0, u "entries"), (0, u "Ljava/util/List;"), (0, .interfaceMethodref 17 18), (0, .class_ 19), (0, .nameAndType 20 21), (0, u "java/util/List"), (0, u "size"), (0, u "()I"), (0, .fieldref 23 24), (0, .class_ 25), (0, .nameAndType 26 27), (0, u "com/example/reticule/reticule/engine/Activation"), (0, u "place"), (0, u "I"), (0, .interfaceMethodref 17 29), (0, .nameAndType 30 31), (0, u "add"), (0, u "(Ljava/lang/Object;)Z"), (0, .fieldref 11 33), (0, .nameAndType 34 27), (0, u "count"), (0, .interfaceMethodref 17 36), (0, .nameAndType 37 38), (0, u "set"), (0, u "(ILjava/lang/Object;)Ljava/lang/Object;"), (9, u "runs"), (9, u "()Z"), (4, .class_ 64), (0, u "com/example/reticule/reticule/engine/ActivationRuns$Run"), (13, u "isEmpty"), (8, u "remove"), (72, u "(Lcom/example/reticule/reticule/engine/Activation;)V")] 25

def k15c0 : Code := { maxStack := 3, maxLocals := 1, code := prog_11_method_1_code, exceptionTable := #[], attributes := #[] }
def k15m0 : Method := { name := "<init>", desc := "()V", sig := { parameters := [], returnType := none }, accessFlags := 0, code := some k15c0 }
def k15c1 : Code := { maxStack := 3, maxLocals := 2, code := prog_11_method_2_code, exceptionTable := #[], attributes := #[] }
def k15m1 : Method := { name := "add", desc := "(Lcom/example/reticule/reticule/engine/Activation;)V", sig := { parameters := [(.object "com/example/reticule/reticule/engine/Activation")], returnType := none }, accessFlags := 0, code := some k15c1 }
def k15c2 : Code := { maxStack := 3, maxLocals := 2, code := prog_11_method_3_code, exceptionTable := #[], attributes := #[] }
def k15m2 : Method := { name := "remove", desc := "(Lcom/example/reticule/reticule/engine/Activation;)V", sig := { parameters := [(.object "com/example/reticule/reticule/engine/Activation")], returnType := none }, accessFlags := 0, code := some k15c2 }
def k15c3 : Code := { maxStack := 1, maxLocals := 1, code := prog_11_method_4_code, exceptionTable := #[], attributes := #[] }
def k15m3 : Method := { name := "isEmpty", desc := "()Z", sig := { parameters := [], returnType := some .boolean }, accessFlags := 0, code := some k15c3 }
/-- com/example/reticule/reticule/engine/ActivationRuns -/
def k15 : Class := { plain "com/example/reticule/reticule/engine/ActivationRuns" (some 0) with
  accessFlags := 48
  interfaces := #[]
  cf := some (fileOf pool15 11 #[.nestMembers #[63]] #[{ accessFlags := 0, nameIndex := 5, descriptorIndex := 6, attributes := #[] }, { accessFlags := 0, nameIndex := 30, descriptorIndex := 160, attributes := #[] }, { accessFlags := 0, nameIndex := 87, descriptorIndex := 160, attributes := #[] }, { accessFlags := 0, nameIndex := 78, descriptorIndex := 58, attributes := #[] }] 48 2 #[] #[{ accessFlags := 18, nameIndex := 14, descriptorIndex := 15, attributes := #[] }, { accessFlags := 2, nameIndex := 48, descriptorIndex := 15, attributes := #[] }, { accessFlags := 2, nameIndex := 34, descriptorIndex := 27, attributes := #[] }])
  fields := #[{ name := "entries", type := (.object "java/util/List"), accessFlags := 18, slot := 0, constantValue := 0 }, { name := "runs", type := (.object "java/util/List"), accessFlags := 2, slot := 1, constantValue := 0 }, { name := "count", type := .int, accessFlags := 2, slot := 2, constantValue := 0 }]
  methods := #[k15m0, k15m1, k15m2, k15m3]
  instanceTypes := #[(.object "java/util/List"), (.object "java/util/List"), .int]
  staticTypes := #[]
  resolved := Array.replicate 186 none
  statics := none }

def pool16 : Array CpInfo := pool [(8, .class_ 10), (1, u "java/lang/Iterable"), (24, .class_ 36), (0, u "java/lang/Object")] 25

/-- java/lang/Iterable -/
def k16 : Class := { plain "java/lang/Iterable" (some 0) with
  accessFlags := 1537
  interfaces := #[]
  cf := some (fileOf pool16 8 #[] #[] 1537 35 #[] #[])
  fields := #[]
  methods := #[]
  instanceTypes := #[]
  staticTypes := #[]
  resolved := Array.replicate 62 none
  statics := none }

def pool17 : Array CpInfo := pool [(10, .class_ 12), (1, u "java/util/Collection"), (47, .class_ 61), (0, u "java/lang/Object"), (0, .class_ 63), (0, u "java/lang/Iterable")] 51

/-- java/util/Collection -/
def k17 : Class := { plain "java/util/Collection" (some 0) with
  accessFlags := 1537
  interfaces := #[16]
  cf := some (fileOf pool17 10 #[] #[] 1537 60 #[62] #[])
  fields := #[]
  methods := #[]
  instanceTypes := #[]
  staticTypes := #[]
  resolved := Array.replicate 115 none
  statics := none }

def pool18 : Array CpInfo := pool [(1, .methodref 2 3), (0, .class_ 4), (0, .nameAndType 5 6), (0, u "java/lang/Object"), (0, u "<init>"), (0, u "()V"), (1, .class_ 10), (1, u "java/util/AbstractCollection"), (66, .class_ 78), (0, u "java/util/Collection")] 81

def k18c0 : Code := { maxStack := 1, maxLocals := 1, code := jdk_22_method_1_code, exceptionTable := #[], attributes := #[] }
def k18m0 : Method := { name := "<init>", desc := "()V", sig := { parameters := [], returnType := none }, accessFlags := 4, code := some k18c0 }
/-- java/util/AbstractCollection -/
def k18 : Class := { plain "java/util/AbstractCollection" (some 0) with
  accessFlags := 1057
  interfaces := #[17]
  cf := some (fileOf pool18 8 #[] #[{ accessFlags := 4, nameIndex := 5, descriptorIndex := 6, attributes := #[] }] 1057 2 #[77] #[])
  fields := #[]
  methods := #[k18m0]
  instanceTypes := #[]
  staticTypes := #[]
  resolved := Array.replicate 160 none
  statics := none }

def pool19 : Array CpInfo := pool [(8, .class_ 10), (1, u "java/util/SequencedCollection"), (15, .class_ 27), (0, u "java/lang/Object"), (0, .class_ 29), (0, u "java/util/Collection")] 27

/-- java/util/SequencedCollection -/
def k19 : Class := { plain "java/util/SequencedCollection" (some 0) with
  accessFlags := 1537
  interfaces := #[17]
  cf := some (fileOf pool19 8 #[] #[] 1537 26 #[28] #[])
  fields := #[]
  methods := #[]
  instanceTypes := #[]
  staticTypes := #[]
  resolved := Array.replicate 57 none
  statics := none }

def pool20 : Array CpInfo := pool [(8, .class_ 10), (1, u "java/util/List"), (19, u "set"), (29, u "add"), (3, u "(Ljava/lang/Object;)Z"), (14, u "size"), (0, u "()I"), (22, .class_ 104), (0, u "java/lang/Object"), (15, .class_ 121), (0, u "java/util/SequencedCollection"), (51, u "(ILjava/lang/Object;)Ljava/lang/Object;")] 77

def k20m0 : Method := { name := "size", desc := "()I", sig := { parameters := [], returnType := some .int }, accessFlags := 1025, code := none }
def k20m1 : Method := { name := "add", desc := "(Ljava/lang/Object;)Z", sig := { parameters := [(.object "java/lang/Object")], returnType := some .boolean }, accessFlags := 1025, code := none }
def k20m2 : Method := { name := "set", desc := "(ILjava/lang/Object;)Ljava/lang/Object;", sig := { parameters := [.int, (.object "java/lang/Object")], returnType := some (.object "java/lang/Object") }, accessFlags := 1025, code := none }
/-- java/util/List -/
def k20 : Class := { plain "java/util/List" (some 0) with
  accessFlags := 1537
  interfaces := #[19]
  cf := some (fileOf pool20 8 #[] #[{ accessFlags := 1025, nameIndex := 79, descriptorIndex := 80, attributes := #[] }, { accessFlags := 1025, nameIndex := 60, descriptorIndex := 64, attributes := #[] }, { accessFlags := 1025, nameIndex := 30, descriptorIndex := 173, attributes := #[] }] 1537 103 #[120] #[])
  fields := #[]
  methods := #[k20m0, k20m1, k20m2]
  instanceTypes := #[]
  staticTypes := #[]
  resolved := Array.replicate 251 none
  statics := none }

def pool21 : Array CpInfo := pool [(1, .methodref 2 3), (0, .class_ 4), (0, .nameAndType 5 6), (0, u "java/util/AbstractCollection"), (0, u "<init>"), (0, u "()V"), (0, .fieldref 8 9), (0, .class_ 10), (0, .nameAndType 11 12), (0, u "java/util/AbstractList"), (0, u "modCount"), (0, u "I"), (64, .class_ 78), (0, u "java/util/AbstractList$Itr"), (3, .class_ 83), (0, u "java/util/AbstractList$ListItr"), (9, .class_ 94), (0, u "java/util/AbstractList$RandomAccessSubList"), (3, .class_ 99), (0, u "java/util/AbstractList$SubList"), (33, .class_ 134), (0, u "java/util/List"), (73, .class_ 209), (0, u "java/util/AbstractList$SubList$1"), (0, .class_ 211), (0, u "java/util/AbstractList$RandomAccessSpliterator")] 6

def k21c0 : Code := { maxStack := 2, maxLocals := 1, code := jdk_39_method_1_code, exceptionTable := #[], attributes := #[] }
def k21m0 : Method := { name := "<init>", desc := "()V", sig := { parameters := [], returnType := none }, accessFlags := 4, code := some k21c0 }
/-- java/util/AbstractList -/
def k21 : Class := { plain "java/util/AbstractList" (some 18) with
  accessFlags := 1057
  interfaces := #[20]
  cf := some (fileOf pool21 8 #[.nestMembers #[93, 98, 208, 210, 82, 77]] #[{ accessFlags := 4, nameIndex := 5, descriptorIndex := 6, attributes := #[] }] 1057 2 #[133] #[{ accessFlags := 132, nameIndex := 11, descriptorIndex := 12, attributes := #[] }])
  fields := #[{ name := "modCount", type := .int, accessFlags := 132, slot := 0, constantValue := 0 }]
  methods := #[k21m0]
  instanceTypes := #[.int]
  staticTypes := #[]
  resolved := Array.replicate 218 none
  statics := none }

def pool22 : Array CpInfo := pool [(1, .class_ 2), (0, u "java/util/RandomAccess"), (0, .class_ 4), (0, u "java/lang/Object")] 2

/-- java/util/RandomAccess -/
def k22 : Class := { plain "java/util/RandomAccess" (some 0) with
  accessFlags := 1537
  interfaces := #[]
  cf := some (fileOf pool22 1 #[] #[] 1537 3 #[] #[])
  fields := #[]
  methods := #[]
  instanceTypes := #[]
  staticTypes := #[]
  resolved := Array.replicate 7 none
  statics := none }

def pool23 : Array CpInfo := pool [(1, .class_ 2), (0, u "java/lang/Cloneable"), (0, .class_ 4), (0, u "java/lang/Object")] 2

/-- java/lang/Cloneable -/
def k23 : Class := { plain "java/lang/Cloneable" (some 0) with
  accessFlags := 1537
  interfaces := #[]
  cf := some (fileOf pool23 1 #[] #[] 1537 3 #[] #[])
  fields := #[]
  methods := #[]
  instanceTypes := #[]
  staticTypes := #[]
  resolved := Array.replicate 7 none
  statics := none }

def pool24 : Array CpInfo := pool [(1, .methodref 2 3), (0, .class_ 4), (0, .nameAndType 5 6), (0, u "java/util/AbstractList"), (0, u "<init>"), (0, u "()V"), (0, .class_ 8), (0, u "java/lang/Object"), (0, .fieldref 10 11), (0, .class_ 12), (0, .nameAndType 13 14), (0, u "java/util/ArrayList"), (0, u "elementData"), (0, u "[Ljava/lang/Object;"), (2, u "EMPTY_ELEMENTDATA"), (21, .fieldref 10 40), (0, .nameAndType 41 14), (0, u "DEFAULTCAPACITY_EMPTY_ELEMENTDATA"), (5, u "()[Ljava/lang/Object;"), (0, .fieldref 10 49), (0, .nameAndType 50 51), (0, u "size"), (0, u "I"), (11, .fieldref 10 64), (0, .nameAndType 65 51), (0, u "modCount"), (3, .methodref 10 70), (0, .nameAndType 71 72), (0, u "grow"), (0, u "(I)[Ljava/lang/Object;"), (6, .methodref 80 81), (0, .class_ 82), (0, .nameAndType 83 84), (0, u "java/lang/Math"), (0, u "max"), (0, u "(II)I"), (11, u "(Ljava/lang/Object;)Z"), (21, .methodref 119 120), (0, .class_ 121), (0, .nameAndType 122 84), (0, u "java/util/Objects"), (0, u "checkIndex"), (0, .methodref 10 124), (0, .nameAndType 13 125), (0, u "(I)Ljava/lang/Object;"), (3, .methodref 10 130), (0, .nameAndType 71 47), (0, .methodref 10 132), (0, .nameAndType 133 134), (0, u "add"), (0, u "(Ljava/lang/Object;[Ljava/lang/Object;I)V"), (13, .class_ 149), (0, u "java/util/List"), (36, u "()I"), (75, .class_ 263), (0, u "java/util/ArrayList$ListItr"), (3, .class_ 268), (0, u "java/util/ArrayList$Itr"), (7, .class_ 277), (0, u "java/util/ArrayList$SubList"), (12, .class_ 291), (0, u "java/util/ArrayList$ArrayListSpliterator"), (37, .class_ 330), (0, u "java/util/RandomAccess"), (0, .class_ 332), (0, u "java/lang/Cloneable"), (0, .class_ 334), (0, u "java/io/Serializable"), (0, u "serialVersionUID"), (0, u "J"), (3, u "DEFAULT_CAPACITY"), (45, u "set"), (0, u "(ILjava/lang/Object;)Ljava/lang/Object;"), (112, .class_ 501), (0, u "java/util/ArrayList$SubList$2"), (0, .class_ 503), (0, u "java/util/ArrayList$SubList$1")] 5

def k24c0 : Code := { maxStack := 2, maxLocals := 1, code := jdk_38_method_2_code, exceptionTable := #[], attributes := #[] }
def k24m0 : Method := { name := "<init>", desc := "()V", sig := { parameters := [], returnType := none }, accessFlags := 1, code := some k24c0 }
def k24c1 : Code := { maxStack := 4, maxLocals := 4, code := jdk_38_method_6_code, exceptionTable := #[], attributes := #[] }
def k24m1 : Method := { name := "grow", desc := "(I)[Ljava/lang/Object;", sig := { parameters := [.int], returnType := some (.array (.object "java/lang/Object")) }, accessFlags := 2, code := some k24c1 }
def k24c2 : Code := { maxStack := 3, maxLocals := 1, code := jdk_38_method_7_code, exceptionTable := #[], attributes := #[] }
def k24m2 : Method := { name := "grow", desc := "()[Ljava/lang/Object;", sig := { parameters := [], returnType := some (.array (.object "java/lang/Object")) }, accessFlags := 2, code := some k24c2 }
def k24c3 : Code := { maxStack := 1, maxLocals := 1, code := jdk_38_method_8_code, exceptionTable := #[], attributes := #[] }
def k24m3 : Method := { name := "size", desc := "()I", sig := { parameters := [], returnType := some .int }, accessFlags := 1, code := some k24c3 }
def k24c4 : Code := { maxStack := 2, maxLocals := 2, code := jdk_38_method_18_code, exceptionTable := #[], attributes := #[] }
def k24m4 : Method := { name := "elementData", desc := "(I)Ljava/lang/Object;", sig := { parameters := [.int], returnType := some (.object "java/lang/Object") }, accessFlags := 0, code := some k24c4 }
def k24c5 : Code := { maxStack := 3, maxLocals := 4, code := jdk_38_method_23_code, exceptionTable := #[], attributes := #[] }
def k24m5 : Method := { name := "set", desc := "(ILjava/lang/Object;)Ljava/lang/Object;", sig := { parameters := [.int, (.object "java/lang/Object")], returnType := some (.object "java/lang/Object") }, accessFlags := 1, code := some k24c5 }
def k24c6 : Code := { maxStack := 3, maxLocals := 4, code := jdk_38_method_24_code, exceptionTable := #[], attributes := #[] }
def k24m6 : Method := { name := "add", desc := "(Ljava/lang/Object;[Ljava/lang/Object;I)V", sig := { parameters := [(.object "java/lang/Object"), (.array (.object "java/lang/Object")), .int], returnType := none }, accessFlags := 2, code := some k24c6 }
def k24c7 : Code := { maxStack := 4, maxLocals := 2, code := jdk_38_method_25_code, exceptionTable := #[], attributes := #[] }
def k24m7 : Method := { name := "add", desc := "(Ljava/lang/Object;)Z", sig := { parameters := [(.object "java/lang/Object")], returnType := some .boolean }, accessFlags := 1, code := some k24c7 }
/-- java/util/ArrayList -/
def k24 : Class := { plain "java/util/ArrayList" (some 21) with
  accessFlags := 33
  interfaces := #[20, 22, 23, 8]
  cf := some (fileOf pool24 10 #[.nestMembers #[290, 276, 500, 502, 262, 267]] #[{ accessFlags := 1, nameIndex := 5, descriptorIndex := 6, attributes := #[] }, { accessFlags := 2, nameIndex := 71, descriptorIndex := 72, attributes := #[] }, { accessFlags := 2, nameIndex := 71, descriptorIndex := 47, attributes := #[] }, { accessFlags := 1, nameIndex := 50, descriptorIndex := 186, attributes := #[] }, { accessFlags := 0, nameIndex := 13, descriptorIndex := 125, attributes := #[] }, { accessFlags := 1, nameIndex := 386, descriptorIndex := 387, attributes := #[] }, { accessFlags := 2, nameIndex := 133, descriptorIndex := 134, attributes := #[] }, { accessFlags := 1, nameIndex := 133, descriptorIndex := 96, attributes := #[] }] 33 2 #[148, 329, 331, 333] #[{ accessFlags := 26, nameIndex := 335, descriptorIndex := 336, attributes := #[] }, { accessFlags := 26, nameIndex := 340, descriptorIndex := 51, attributes := #[] }, { accessFlags := 26, nameIndex := 17, descriptorIndex := 14, attributes := #[] }, { accessFlags := 26, nameIndex := 41, descriptorIndex := 14, attributes := #[] }, { accessFlags := 128, nameIndex := 13, descriptorIndex := 14, attributes := #[] }, { accessFlags := 2, nameIndex := 50, descriptorIndex := 51, attributes := #[] }])
  fields := #[{ name := "serialVersionUID", type := .long, accessFlags := 26, slot := 0, constantValue := 0 }, { name := "DEFAULT_CAPACITY", type := .int, accessFlags := 26, slot := 1, constantValue := 0 }, { name := "EMPTY_ELEMENTDATA", type := (.array (.object "java/lang/Object")), accessFlags := 26, slot := 2, constantValue := 0 }, { name := "DEFAULTCAPACITY_EMPTY_ELEMENTDATA", type := (.array (.object "java/lang/Object")), accessFlags := 26, slot := 3, constantValue := 0 }, { name := "elementData", type := (.array (.object "java/lang/Object")), accessFlags := 128, slot := 1, constantValue := 0 }, { name := "size", type := .int, accessFlags := 2, slot := 2, constantValue := 0 }]
  methods := #[k24m0, k24m1, k24m2, k24m3, k24m4, k24m5, k24m6, k24m7]
  instanceTypes := #[.int, (.array (.object "java/lang/Object")), .int]
  staticTypes := #[.long, .int, (.array (.object "java/lang/Object")), (.array (.object "java/lang/Object"))]
  resolved := Array.replicate 509 none
  statics := some 0 }

def pool25 : Array CpInfo := pool [(1, .class_ 2), (0, u "java/lang/Math"), (1, .class_ 6), (1, u "java/lang/Object"), (0, u "<init>"), (0, u "()V"), (89, .class_ 100), (1, u "java/lang/Math$RandomNumberGeneratorHolder"), (71, u "negativeZeroFloatBits"), (0, u "J"), (2, u "negativeZeroDoubleBits"), (21, u "max"), (46, u "$assertionsDisabled"), (0, u "Z"), (88, u "(II)I"), (2, u "twoToTheDoubleScaleDown"), (0, u "D"), (4, u "twoToTheDoubleScaleUp"), (9, u "E"), (3, u "PI"), (2, u "TAU"), (2, u "DEGREES_TO_RADIANS"), (0, u "RADIANS_TO_DEGREES")] 94

def k25m0 : Method := { name := "<init>", desc := "()V", sig := { parameters := [], returnType := none }, accessFlags := 2, code := none }
def k25c1 : Code := { maxStack := 2, maxLocals := 2, code := jdk_29_method_65_code, exceptionTable := #[], attributes := #[] }
def k25m1 : Method := { name := "max", desc := "(II)I", sig := { parameters := [.int, .int], returnType := some .int }, accessFlags := 9, code := some k25c1 }
/-- java/lang/Math -/
def k25 : Class := { plain "java/lang/Math" (some 0) with
  accessFlags := 49
  interfaces := #[]
  cf := some (fileOf pool25 1 #[.nestMembers #[98]] #[{ accessFlags := 2, nameIndex := 7, descriptorIndex := 8, attributes := #[] }, { accessFlags := 9, nameIndex := 198, descriptorIndex := 335, attributes := #[] }] 49 4 #[] #[{ accessFlags := 25, nameIndex := 354, descriptorIndex := 339, attributes := #[] }, { accessFlags := 25, nameIndex := 358, descriptorIndex := 339, attributes := #[] }, { accessFlags := 25, nameIndex := 361, descriptorIndex := 339, attributes := #[] }, { accessFlags := 26, nameIndex := 364, descriptorIndex := 339, attributes := #[] }, { accessFlags := 26, nameIndex := 365, descriptorIndex := 339, attributes := #[] }, { accessFlags := 26, nameIndex := 172, descriptorIndex := 173, attributes := #[] }, { accessFlags := 26, nameIndex := 176, descriptorIndex := 173, attributes := #[] }, { accessFlags := 8, nameIndex := 344, descriptorIndex := 339, attributes := #[] }, { accessFlags := 8, nameIndex := 338, descriptorIndex := 339, attributes := #[] }, { accessFlags := 4120, nameIndex := 245, descriptorIndex := 246, attributes := #[] }])
  fields := #[{ name := "E", type := .double, accessFlags := 25, slot := 0, constantValue := 0 }, { name := "PI", type := .double, accessFlags := 25, slot := 1, constantValue := 0 }, { name := "TAU", type := .double, accessFlags := 25, slot := 2, constantValue := 0 }, { name := "DEGREES_TO_RADIANS", type := .double, accessFlags := 26, slot := 3, constantValue := 0 }, { name := "RADIANS_TO_DEGREES", type := .double, accessFlags := 26, slot := 4, constantValue := 0 }, { name := "negativeZeroFloatBits", type := .long, accessFlags := 26, slot := 5, constantValue := 0 }, { name := "negativeZeroDoubleBits", type := .long, accessFlags := 26, slot := 6, constantValue := 0 }, { name := "twoToTheDoubleScaleUp", type := .double, accessFlags := 8, slot := 7, constantValue := 0 }, { name := "twoToTheDoubleScaleDown", type := .double, accessFlags := 8, slot := 8, constantValue := 0 }, { name := "$assertionsDisabled", type := .boolean, accessFlags := 4120, slot := 9, constantValue := 0 }]
  methods := #[k25m0, k25m1]
  instanceTypes := #[]
  staticTypes := #[.double, .double, .double, .double, .double, .long, .long, .double, .double, .boolean]
  resolved := Array.replicate 460 none
  statics := none }

def pool26 : Array CpInfo := pool [(2, .class_ 4), (1, u "java/lang/Object"), (0, u "<init>"), (0, u "()V"), (17, .class_ 26), (1, u "jdk/internal/util/Preconditions"), (6, u "checkIndex"), (21, .class_ 56), (0, u "jdk/internal/util/Preconditions$4"), (57, .class_ 115), (0, u "jdk/internal/util/Preconditions$1"), (7, u "SIOOBE_FORMATTER"), (0, u "Ljava/util/function/BiFunction;"), (0, .class_ 126), (0, u "jdk/internal/util/Preconditions$2"), (3, u "AIOOBE_FORMATTER"), (0, .class_ 132), (0, u "jdk/internal/util/Preconditions$3"), (3, u "IOOBE_FORMATTER"), (41, u "(IILjava/util/function/BiFunction;)I")] 15

def k26m0 : Method := { name := "<init>", desc := "()V", sig := { parameters := [], returnType := none }, accessFlags := 1, code := none }
def k26c1 : Code := { maxStack := 3, maxLocals := 3, code := jdk_41_method_11_code, exceptionTable := #[], attributes := #[] }
def k26m1 : Method := { name := "checkIndex", desc := "(IILjava/util/function/BiFunction;)I", sig := { parameters := [.int, .int, (.object "java/util/function/BiFunction")], returnType := some .int }, accessFlags := 9, code := some k26c1 }
/-- jdk/internal/util/Preconditions -/
def k26 : Class := { plain "jdk/internal/util/Preconditions" (some 0) with
  accessFlags := 33
  interfaces := #[]
  cf := some (fileOf pool26 24 #[.nestMembers #[55, 131, 125, 114]] #[{ accessFlags := 1, nameIndex := 5, descriptorIndex := 6, attributes := #[] }, { accessFlags := 9, nameIndex := 33, descriptorIndex := 178, attributes := #[] }] 33 2 #[] #[{ accessFlags := 25, nameIndex := 123, descriptorIndex := 124, attributes := #[] }, { accessFlags := 25, nameIndex := 130, descriptorIndex := 124, attributes := #[] }, { accessFlags := 25, nameIndex := 136, descriptorIndex := 124, attributes := #[] }])
  fields := #[{ name := "SIOOBE_FORMATTER", type := (.object "java/util/function/BiFunction"), accessFlags := 25, slot := 0, constantValue := 0 }, { name := "AIOOBE_FORMATTER", type := (.object "java/util/function/BiFunction"), accessFlags := 25, slot := 1, constantValue := 0 }, { name := "IOOBE_FORMATTER", type := (.object "java/util/function/BiFunction"), accessFlags := 25, slot := 2, constantValue := 0 }]
  methods := #[k26m0, k26m1]
  instanceTypes := #[]
  staticTypes := #[(.object "java/util/function/BiFunction"), (.object "java/util/function/BiFunction"), (.object "java/util/function/BiFunction")]
  resolved := Array.replicate 194 none
  statics := none }

/-- the primitive byte -/
def k27 : Class := { plain "byte" none with kind := .primitive 'B', accessFlags := 0x411 }
/-- [B -/
def k28 : Class := { plain "[B" (some 0) with kind := .array 27 .byte, interfaces := #[23, 8], accessFlags := 1041 }

/-- the primitive int -/
def k29 : Class := { plain "int" none with kind := .primitive 'I', accessFlags := 0x411 }
/-- [I -/
def k30 : Class := { plain "[I" (some 0) with kind := .array 29 .int, interfaces := #[23, 8], accessFlags := 1041 }

/-- [Ljava/lang/Object; -/
def k31 : Class := { plain "[Ljava/lang/Object;" (some 0) with kind := .array 0 (.object "java/lang/Object"), interfaces := #[23, 8], accessFlags := 1041 }

def heap : Heap := #[{ cls := 24, slots := #[.long 0, .int 0, .ref 1, .ref 2], vm := .statics 24 },
  { cls := 31, slots := #[], vm := .none },
  { cls := 31, slots := #[], vm := .none }]
def classes : Array Class := #[k0, k1, k2, k3, k4, k5, k6, k7, k8, k9, k10, k11, k12, k13, k14, k15, k16, k17, k18, k19, k20, k21, k22, k23, k24, k25, k26, k27, k28, k29, k30, k31]
def interned : List (Array UInt16 × Addr) := []
def slotsUsed : Nat := 4
def theMethod : MethodId := ⟨1, 1⟩
def args0 : Array Value := #[.int 5, .int 7, .int 3]
def aboutOver (below : List Frame) : State where
  vm := { classes := classes, interned := interned.toArray }
  heap := heap
  slotsUsed := slotsUsed
  threads := #[{ frames := .invoking theMethod args0 :: below }]
def below0 : List Frame := [.native { method := ⟨0, 0⟩, args := #[] }]
def about1 : State := aboutOver below0
def p0 : Program := .bare "" "" ""
def e0 : Env := launch0.env 0 0 0
theorem w_frames : about1.frames = Frame.invoking theMethod args0 :: below0 := rfl
set_option maxRecDepth 65536 in
theorem w_args : argsFit about1.vm theMethod args0 = true := by decide +kernel
set_option maxRecDepth 65536 in
theorem w_heap : heapFits about1 = true := by decide +kernel
set_option maxRecDepth 65536 in
theorem w_runnable : about1.curStatus? = some .runnable := by decide +kernel
set_option maxRecDepth 65536 in
theorem w_alone : about1.alone = true := by decide +kernel
set_option maxRecDepth 65536 in
theorem w_named : about1.methodNamed? x = some theMethod := by decide +kernel
set_option maxRecDepth 65536 in
theorem w_hears : about1.hears theMethod below0 = true := by decide +kernel
set_option maxRecDepth 65536 in
theorem w_ripe : about1.ripe theMethod args0 below0 = true := by decide +kernel
theorem w_running : about1.status = .running := rfl
set_option maxRecDepth 65536 in
theorem w_room : about1.hasRoom e0.platform room_1 = true :=
  launch0.hasRoom_least _ room_1 (by decide +kernel) (by decide +kernel) (by decide +kernel) (by decide +kernel) (by decide +kernel) (by decide +kernel)
theorem allAtoms_all (ts : List Jvm.Cond) (a : Array Jvm.Value) (st : Jvm.State) : (allAtoms ts).before a st = ts.all (fun c => c.before a st) := by
  induction ts with
  | nil => rfl
  | cons c t ih =>
    show (Jvm.Cond.and c (allAtoms t)).before a st = _
    rw [Jvm.Cond.before_and, ih, List.all_cons]
def words1 : List Jvm.Cond := Jvm.Cond.code x code maxLocals ret :: tables_1
/-- a 'code' word, met by the world's own term for the bytes: nothing is compared byte by byte -/
theorem code_word {y : MethodName} {bytes : ByteArray} {mx : Nat} {rt : Option FieldType} {a : Array Value} {s : State} {m : MethodId} {meth : Method} {c : Code} (h1 : s.methodNamed? y = some m) (h2 : s.vm.method? m = some meth) (h3 : meth.code = some c) (h4 : c.code = bytes)
    (h5 : (c.maxLocals == mx && c.exceptionTable.isEmpty && decide (c.maxStack ≤ mostOperands) && decide (meth.sig.returnType = rt) && !meth.locks && decide (parseMethodDescriptor y.desc = some meth.sig)) = true) : (Jvm.Cond.code y bytes mx rt).before a s = true := by
  simp only [Bool.and_eq_true, beq_iff_eq, Bool.not_eq_true', decide_eq_true_eq] at h5
  obtain ⟨⟨⟨⟨⟨g1, g2⟩, g3⟩, g4⟩, g5⟩, g6⟩ := h5
  simp [Cond.before, Cond.holds, Cond.value, h1, h2, h3, h4, g1, g2, g3, g4, g5, g6]
def isCode : Jvm.Cond → Bool
  | .code _ _ _ _ => true
  | _ => false
theorem all_split {L : List Jvm.Cond} {P : Jvm.Cond → Bool} (h1 : L.all (fun c => isCode c || P c) = true) (h2 : ∀ c ∈ L.filter isCode, P c = true) : L.all P = true := by
  refine List.all_eq_true.mpr fun c hc => ?_
  have h := List.all_eq_true.mp h1 c hc
  rcases Bool.eq_false_or_eq_true (isCode c) with hi | hi
  · exact h2 c (List.mem_filter.mpr ⟨hc, hi⟩)
  · simpa [hi] using h
set_option maxRecDepth 65536 in
theorem w_c0 : (Jvm.Cond.code x code maxLocals ret).before args0 about1 = true := code_word (m := ⟨1, 1⟩) (meth := k1m1) (c := k1c1) (by decide +kernel) rfl rfl rfl (by decide +kernel)
set_option maxRecDepth 65536 in
theorem w_c1 : (Jvm.Cond.code ({ cls := "com/example/reticule/reticule/engine/TerminalNode", name := "<init>", desc := "(IILcom/example/reticule/reticule/engine/Expression;Lcom/example/reticule/reticule/engine/Agenda;)V" } : Jvm.MethodName) prog_185_method_1_code (5 : Nat) (Option.none : Option Jvm.ClassFile.FieldType)).before args0 about1 = true := code_word (m := ⟨3, 0⟩) (meth := k3m0) (c := k3c0) (by decide +kernel) rfl rfl rfl (by decide +kernel)
set_option maxRecDepth 65536 in
theorem w_c2 : (Jvm.Cond.code ({ cls := "java/lang/Object", name := "<init>", desc := "()V" } : Jvm.MethodName) object_method_1_code (1 : Nat) (Option.none : Option Jvm.ClassFile.FieldType)).before args0 about1 = true := code_word (m := ⟨0, 0⟩) (meth := k0m0) (c := k0c0) (by decide +kernel) rfl rfl rfl (by decide +kernel)
set_option maxRecDepth 65536 in
theorem w_c3 : (Jvm.Cond.code ({ cls := "com/example/reticule/reticule/engine/Token", name := "start", desc := "(Lcom/example/reticule/reticule/engine/ParentNode;)Lcom/example/reticule/reticule/engine/Token;" } : Jvm.MethodName) prog_187_method_2_code (1 : Nat) (Option.some (Jvm.ClassFile.FieldType.object "com/example/reticule/reticule/engine/Token"))).before args0 about1 = true := code_word (m := ⟨6, 1⟩) (meth := k6m1) (c := k6c1) (by decide +kernel) rfl rfl rfl (by decide +kernel)
set_option maxRecDepth 65536 in
theorem w_c4 : (Jvm.Cond.code ({ cls := "com/example/reticule/reticule/engine/Token", name := "<init>", desc := "(Lcom/example/reticule/reticule/engine/Token;Lcom/example/reticule/reticule/engine/FactEntry;Lcom/example/reticule/reticule/engine/ParentNode;)V" } : Jvm.MethodName) prog_187_method_1_code (4 : Nat) (Option.none : Option Jvm.ClassFile.FieldType)).before args0 about1 = true := code_word (m := ⟨6, 0⟩) (meth := k6m0) (c := k6c0) (by decide +kernel) rfl rfl rfl (by decide +kernel)
set_option maxRecDepth 65536 in
theorem w_c5 : (Jvm.Cond.code ({ cls := "com/example/reticule/reticule/engine/Source", name := "<init>", desc := "(Ljava/lang/Object;)V" } : Jvm.MethodName) prog_167_method_1_code (2 : Nat) (Option.none : Option Jvm.ClassFile.FieldType)).before args0 about1 = true := code_word (m := ⟨5, 0⟩) (meth := k5m0) (c := k5c0) (by decide +kernel) rfl rfl rfl (by decide +kernel)
set_option maxRecDepth 65536 in
theorem w_c6 : (Jvm.Cond.code ({ cls := "com/example/reticule/reticule/engine/Made", name := "<init>", desc := "(Ljava/lang/Object;)V" } : Jvm.MethodName) prog_123_method_1_code (2 : Nat) (Option.none : Option Jvm.ClassFile.FieldType)).before args0 about1 = true := code_word (m := ⟨4, 0⟩) (meth := k4m0) (c := k4c0) (by decide +kernel) rfl rfl rfl (by decide +kernel)
set_option maxRecDepth 65536 in
theorem w_c7 : (Jvm.Cond.code ({ cls := "com/example/reticule/reticule/engine/Activation", name := "<init>", desc := "(Lcom/example/reticule/reticule/engine/TerminalNode;Lcom/example/reticule/reticule/engine/Token;)V" } : Jvm.MethodName) prog_10_method_1_code (3 : Nat) (Option.none : Option Jvm.ClassFile.FieldType)).before args0 about1 = true := code_word (m := ⟨7, 0⟩) (meth := k7m0) (c := k7c0) (by decide +kernel) rfl rfl rfl (by decide +kernel)
set_option maxRecDepth 65536 in
theorem w_c8 : (Jvm.Cond.code ({ cls := "java/util/Objects", name := "requireNonNull", desc := "(Ljava/lang/Object;Ljava/lang/String;)Ljava/lang/Object;" } : Jvm.MethodName) jdk_31_method_11_code (2 : Nat) (Option.some (Jvm.ClassFile.FieldType.object "java/lang/Object"))).before args0 about1 = true := code_word (m := ⟨14, 1⟩) (meth := k14m1) (c := k14c1) (by decide +kernel) rfl rfl rfl (by decide +kernel)
set_option maxRecDepth 65536 in
theorem w_c9 : (Jvm.Cond.code ({ cls := "com/example/reticule/reticule/engine/ActivationRuns", name := "<init>", desc := "()V" } : Jvm.MethodName) prog_11_method_1_code (1 : Nat) (Option.none : Option Jvm.ClassFile.FieldType)).before args0 about1 = true := code_word (m := ⟨15, 0⟩) (meth := k15m0) (c := k15c0) (by decide +kernel) rfl rfl rfl (by decide +kernel)
set_option maxRecDepth 65536 in
theorem w_c10 : (Jvm.Cond.code ({ cls := "java/util/ArrayList", name := "<init>", desc := "()V" } : Jvm.MethodName) jdk_38_method_2_code (1 : Nat) (Option.none : Option Jvm.ClassFile.FieldType)).before args0 about1 = true := code_word (m := ⟨24, 0⟩) (meth := k24m0) (c := k24c0) (by decide +kernel) rfl rfl rfl (by decide +kernel)
set_option maxRecDepth 65536 in
theorem w_c11 : (Jvm.Cond.code ({ cls := "java/util/AbstractList", name := "<init>", desc := "()V" } : Jvm.MethodName) jdk_39_method_1_code (1 : Nat) (Option.none : Option Jvm.ClassFile.FieldType)).before args0 about1 = true := code_word (m := ⟨21, 0⟩) (meth := k21m0) (c := k21c0) (by decide +kernel) rfl rfl rfl (by decide +kernel)
set_option maxRecDepth 65536 in
theorem w_c12 : (Jvm.Cond.code ({ cls := "java/util/AbstractCollection", name := "<init>", desc := "()V" } : Jvm.MethodName) jdk_22_method_1_code (1 : Nat) (Option.none : Option Jvm.ClassFile.FieldType)).before args0 about1 = true := code_word (m := ⟨18, 0⟩) (meth := k18m0) (c := k18c0) (by decide +kernel) rfl rfl rfl (by decide +kernel)
set_option maxRecDepth 65536 in
theorem w_c13 : (Jvm.Cond.code ({ cls := "com/example/reticule/reticule/engine/ActivationRuns", name := "isEmpty", desc := "()Z" } : Jvm.MethodName) prog_11_method_4_code (1 : Nat) (Option.some Jvm.ClassFile.FieldType.boolean)).before args0 about1 = true := code_word (m := ⟨15, 3⟩) (meth := k15m3) (c := k15c3) (by decide +kernel) rfl rfl rfl (by decide +kernel)
set_option maxRecDepth 65536 in
theorem w_c14 : (Jvm.Cond.code ({ cls := "com/example/reticule/reticule/engine/ActivationRuns", name := "add", desc := "(Lcom/example/reticule/reticule/engine/Activation;)V" } : Jvm.MethodName) prog_11_method_2_code (2 : Nat) (Option.none : Option Jvm.ClassFile.FieldType)).before args0 about1 = true := code_word (m := ⟨15, 1⟩) (meth := k15m1) (c := k15c1) (by decide +kernel) rfl rfl rfl (by decide +kernel)
set_option maxRecDepth 65536 in
theorem w_c15 : (Jvm.Cond.code ({ cls := "java/util/ArrayList", name := "size", desc := "()I" } : Jvm.MethodName) jdk_38_method_8_code (1 : Nat) (Option.some Jvm.ClassFile.FieldType.int)).before args0 about1 = true := code_word (m := ⟨24, 3⟩) (meth := k24m3) (c := k24c3) (by decide +kernel) rfl rfl rfl (by decide +kernel)
set_option maxRecDepth 65536 in
theorem w_c16 : (Jvm.Cond.code ({ cls := "java/util/ArrayList", name := "add", desc := "(Ljava/lang/Object;)Z" } : Jvm.MethodName) jdk_38_method_25_code (2 : Nat) (Option.some Jvm.ClassFile.FieldType.boolean)).before args0 about1 = true := code_word (m := ⟨24, 7⟩) (meth := k24m7) (c := k24c7) (by decide +kernel) rfl rfl rfl (by decide +kernel)
set_option maxRecDepth 65536 in
theorem w_c17 : (Jvm.Cond.code ({ cls := "java/util/ArrayList", name := "add", desc := "(Ljava/lang/Object;[Ljava/lang/Object;I)V" } : Jvm.MethodName) jdk_38_method_24_code (4 : Nat) (Option.none : Option Jvm.ClassFile.FieldType)).before args0 about1 = true := code_word (m := ⟨24, 6⟩) (meth := k24m6) (c := k24c6) (by decide +kernel) rfl rfl rfl (by decide +kernel)
set_option maxRecDepth 65536 in
theorem w_c18 : (Jvm.Cond.code ({ cls := "java/util/ArrayList", name := "grow", desc := "()[Ljava/lang/Object;" } : Jvm.MethodName) jdk_38_method_7_code (1 : Nat) (Option.some (Jvm.ClassFile.FieldType.array (Jvm.ClassFile.FieldType.object "java/lang/Object")))).before args0 about1 = true := code_word (m := ⟨24, 2⟩) (meth := k24m2) (c := k24c2) (by decide +kernel) rfl rfl rfl (by decide +kernel)
set_option maxRecDepth 65536 in
theorem w_c19 : (Jvm.Cond.code ({ cls := "java/util/ArrayList", name := "grow", desc := "(I)[Ljava/lang/Object;" } : Jvm.MethodName) jdk_38_method_6_code (4 : Nat) (Option.some (Jvm.ClassFile.FieldType.array (Jvm.ClassFile.FieldType.object "java/lang/Object")))).before args0 about1 = true := code_word (m := ⟨24, 1⟩) (meth := k24m1) (c := k24c1) (by decide +kernel) rfl rfl rfl (by decide +kernel)
set_option maxRecDepth 65536 in
theorem w_c20 : (Jvm.Cond.code ({ cls := "java/lang/Math", name := "max", desc := "(II)I" } : Jvm.MethodName) jdk_29_method_65_code (2 : Nat) (Option.some Jvm.ClassFile.FieldType.int)).before args0 about1 = true := code_word (m := ⟨25, 1⟩) (meth := k25m1) (c := k25c1) (by decide +kernel) rfl rfl rfl (by decide +kernel)
set_option maxRecDepth 65536 in
theorem w_c21 : (Jvm.Cond.code ({ cls := "com/example/reticule/reticule/engine/ActivationRuns", name := "remove", desc := "(Lcom/example/reticule/reticule/engine/Activation;)V" } : Jvm.MethodName) prog_11_method_3_code (2 : Nat) (Option.none : Option Jvm.ClassFile.FieldType)).before args0 about1 = true := code_word (m := ⟨15, 2⟩) (meth := k15m2) (c := k15c2) (by decide +kernel) rfl rfl rfl (by decide +kernel)
set_option maxRecDepth 65536 in
theorem w_c22 : (Jvm.Cond.code ({ cls := "java/util/ArrayList", name := "set", desc := "(ILjava/lang/Object;)Ljava/lang/Object;" } : Jvm.MethodName) jdk_38_method_23_code (4 : Nat) (Option.some (Jvm.ClassFile.FieldType.object "java/lang/Object"))).before args0 about1 = true := code_word (m := ⟨24, 5⟩) (meth := k24m5) (c := k24c5) (by decide +kernel) rfl rfl rfl (by decide +kernel)
set_option maxRecDepth 65536 in
theorem w_c23 : (Jvm.Cond.code ({ cls := "java/util/Objects", name := "checkIndex", desc := "(II)I" } : Jvm.MethodName) jdk_31_method_17_code (2 : Nat) (Option.some Jvm.ClassFile.FieldType.int)).before args0 about1 = true := code_word (m := ⟨14, 2⟩) (meth := k14m2) (c := k14c2) (by decide +kernel) rfl rfl rfl (by decide +kernel)
set_option maxRecDepth 65536 in
theorem w_c24 : (Jvm.Cond.code ({ cls := "jdk/internal/util/Preconditions", name := "checkIndex", desc := "(IILjava/util/function/BiFunction;)I" } : Jvm.MethodName) jdk_41_method_11_code (3 : Nat) (Option.some Jvm.ClassFile.FieldType.int)).before args0 about1 = true := code_word (m := ⟨26, 1⟩) (meth := k26m1) (c := k26c1) (by decide +kernel) rfl rfl rfl (by decide +kernel)
set_option maxRecDepth 65536 in
theorem w_c25 : (Jvm.Cond.code ({ cls := "java/util/ArrayList", name := "elementData", desc := "(I)Ljava/lang/Object;" } : Jvm.MethodName) jdk_38_method_18_code (2 : Nat) (Option.some (Jvm.ClassFile.FieldType.object "java/lang/Object"))).before args0 about1 = true := code_word (m := ⟨24, 4⟩) (meth := k24m4) (c := k24c4) (by decide +kernel) rfl rfl rfl (by decide +kernel)
def codes1 : List Jvm.Cond := [Jvm.Cond.code x code maxLocals ret, Jvm.Cond.code ({ cls := "com/example/reticule/reticule/engine/TerminalNode", name := "<init>", desc := "(IILcom/example/reticule/reticule/engine/Expression;Lcom/example/reticule/reticule/engine/Agenda;)V" } : Jvm.MethodName) prog_185_method_1_code (5 : Nat) (Option.none : Option Jvm.ClassFile.FieldType), Jvm.Cond.code ({ cls := "java/lang/Object", name := "<init>", desc := "()V" } : Jvm.MethodName) object_method_1_code (1 : Nat) (Option.none : Option Jvm.ClassFile.FieldType), Jvm.Cond.code ({ cls := "com/example/reticule/reticule/engine/Token", name := "start", desc := "(Lcom/example/reticule/reticule/engine/ParentNode;)Lcom/example/reticule/reticule/engine/Token;" } : Jvm.MethodName) prog_187_method_2_code (1 : Nat) (Option.some (Jvm.ClassFile.FieldType.object "com/example/reticule/reticule/engine/Token")), Jvm.Cond.code ({ cls := "com/example/reticule/reticule/engine/Token", name := "<init>", desc := "(Lcom/example/reticule/reticule/engine/Token;Lcom/example/reticule/reticule/engine/FactEntry;Lcom/example/reticule/reticule/engine/ParentNode;)V" } : Jvm.MethodName) prog_187_method_1_code (4 : Nat) (Option.none : Option Jvm.ClassFile.FieldType), Jvm.Cond.code ({ cls := "com/example/reticule/reticule/engine/Source", name := "<init>", desc := "(Ljava/lang/Object;)V" } : Jvm.MethodName) prog_167_method_1_code (2 : Nat) (Option.none : Option Jvm.ClassFile.FieldType), Jvm.Cond.code ({ cls := "com/example/reticule/reticule/engine/Made", name := "<init>", desc := "(Ljava/lang/Object;)V" } : Jvm.MethodName) prog_123_method_1_code (2 : Nat) (Option.none : Option Jvm.ClassFile.FieldType), Jvm.Cond.code ({ cls := "com/example/reticule/reticule/engine/Activation", name := "<init>", desc := "(Lcom/example/reticule/reticule/engine/TerminalNode;Lcom/example/reticule/reticule/engine/Token;)V" } : Jvm.MethodName) prog_10_method_1_code (3 : Nat) (Option.none : Option Jvm.ClassFile.FieldType), Jvm.Cond.code ({ cls := "java/util/Objects", name := "requireNonNull", desc := "(Ljava/lang/Object;Ljava/lang/String;)Ljava/lang/Object;" } : Jvm.MethodName) jdk_31_method_11_code (2 : Nat) (Option.some (Jvm.ClassFile.FieldType.object "java/lang/Object")), Jvm.Cond.code ({ cls := "com/example/reticule/reticule/engine/ActivationRuns", name := "<init>", desc := "()V" } : Jvm.MethodName) prog_11_method_1_code (1 : Nat) (Option.none : Option Jvm.ClassFile.FieldType), Jvm.Cond.code ({ cls := "java/util/ArrayList", name := "<init>", desc := "()V" } : Jvm.MethodName) jdk_38_method_2_code (1 : Nat) (Option.none : Option Jvm.ClassFile.FieldType), Jvm.Cond.code ({ cls := "java/util/AbstractList", name := "<init>", desc := "()V" } : Jvm.MethodName) jdk_39_method_1_code (1 : Nat) (Option.none : Option Jvm.ClassFile.FieldType), Jvm.Cond.code ({ cls := "java/util/AbstractCollection", name := "<init>", desc := "()V" } : Jvm.MethodName) jdk_22_method_1_code (1 : Nat) (Option.none : Option Jvm.ClassFile.FieldType), Jvm.Cond.code ({ cls := "com/example/reticule/reticule/engine/ActivationRuns", name := "isEmpty", desc := "()Z" } : Jvm.MethodName) prog_11_method_4_code (1 : Nat) (Option.some Jvm.ClassFile.FieldType.boolean), Jvm.Cond.code ({ cls := "com/example/reticule/reticule/engine/ActivationRuns", name := "add", desc := "(Lcom/example/reticule/reticule/engine/Activation;)V" } : Jvm.MethodName) prog_11_method_2_code (2 : Nat) (Option.none : Option Jvm.ClassFile.FieldType), Jvm.Cond.code ({ cls := "java/util/ArrayList", name := "size", desc := "()I" } : Jvm.MethodName) jdk_38_method_8_code (1 : Nat) (Option.some Jvm.ClassFile.FieldType.int), Jvm.Cond.code ({ cls := "java/util/ArrayList", name := "add", desc := "(Ljava/lang/Object;)Z" } : Jvm.MethodName) jdk_38_method_25_code (2 : Nat) (Option.some Jvm.ClassFile.FieldType.boolean), Jvm.Cond.code ({ cls := "java/util/ArrayList", name := "add", desc := "(Ljava/lang/Object;[Ljava/lang/Object;I)V" } : Jvm.MethodName) jdk_38_method_24_code (4 : Nat) (Option.none : Option Jvm.ClassFile.FieldType), Jvm.Cond.code ({ cls := "java/util/ArrayList", name := "grow", desc := "()[Ljava/lang/Object;" } : Jvm.MethodName) jdk_38_method_7_code (1 : Nat) (Option.some (Jvm.ClassFile.FieldType.array (Jvm.ClassFile.FieldType.object "java/lang/Object"))), Jvm.Cond.code ({ cls := "java/util/ArrayList", name := "grow", desc := "(I)[Ljava/lang/Object;" } : Jvm.MethodName) jdk_38_method_6_code (4 : Nat) (Option.some (Jvm.ClassFile.FieldType.array (Jvm.ClassFile.FieldType.object "java/lang/Object"))), Jvm.Cond.code ({ cls := "java/lang/Math", name := "max", desc := "(II)I" } : Jvm.MethodName) jdk_29_method_65_code (2 : Nat) (Option.some Jvm.ClassFile.FieldType.int), Jvm.Cond.code ({ cls := "com/example/reticule/reticule/engine/ActivationRuns", name := "remove", desc := "(Lcom/example/reticule/reticule/engine/Activation;)V" } : Jvm.MethodName) prog_11_method_3_code (2 : Nat) (Option.none : Option Jvm.ClassFile.FieldType), Jvm.Cond.code ({ cls := "java/util/ArrayList", name := "set", desc := "(ILjava/lang/Object;)Ljava/lang/Object;" } : Jvm.MethodName) jdk_38_method_23_code (4 : Nat) (Option.some (Jvm.ClassFile.FieldType.object "java/lang/Object")), Jvm.Cond.code ({ cls := "java/util/Objects", name := "checkIndex", desc := "(II)I" } : Jvm.MethodName) jdk_31_method_17_code (2 : Nat) (Option.some Jvm.ClassFile.FieldType.int), Jvm.Cond.code ({ cls := "jdk/internal/util/Preconditions", name := "checkIndex", desc := "(IILjava/util/function/BiFunction;)I" } : Jvm.MethodName) jdk_41_method_11_code (3 : Nat) (Option.some Jvm.ClassFile.FieldType.int), Jvm.Cond.code ({ cls := "java/util/ArrayList", name := "elementData", desc := "(I)Ljava/lang/Object;" } : Jvm.MethodName) jdk_38_method_18_code (2 : Nat) (Option.some (Jvm.ClassFile.FieldType.object "java/lang/Object"))]
set_option maxRecDepth 65536 in
theorem codes_eq : words1.filter isCode = codes1 := rfl
theorem w_codes : ∀ c ∈ words1.filter isCode, c.before args0 about1 = true := by
  rw [codes_eq]
  intro c hc
  simp only [codes1, List.mem_cons, List.not_mem_nil, or_false] at hc
  rcases hc with rfl | rfl | rfl | rfl | rfl | rfl | rfl | rfl | rfl | rfl | rfl | rfl | rfl | rfl | rfl | rfl | rfl | rfl | rfl | rfl | rfl | rfl | rfl | rfl | rfl | rfl
  · exact w_c0
  · exact w_c1
  · exact w_c2
  · exact w_c3
  · exact w_c4
  · exact w_c5
  · exact w_c6
  · exact w_c7
  · exact w_c8
  · exact w_c9
  · exact w_c10
  · exact w_c11
  · exact w_c12
  · exact w_c13
  · exact w_c14
  · exact w_c15
  · exact w_c16
  · exact w_c17
  · exact w_c18
  · exact w_c19
  · exact w_c20
  · exact w_c21
  · exact w_c22
  · exact w_c23
  · exact w_c24
  · exact w_c25
set_option maxRecDepth 65536 in
theorem w_t1 : (words1.take 24).all (fun c => isCode c || c.before args0 about1) = true := by decide +kernel
set_option maxRecDepth 65536 in
theorem w_t2 : ((words1.drop 24).take 24).all (fun c => isCode c || c.before args0 about1) = true := by decide +kernel
set_option maxRecDepth 65536 in
theorem w_t3 : (((words1.drop 24).drop 24).take 24).all (fun c => isCode c || c.before args0 about1) = true := by decide +kernel
set_option maxRecDepth 65536 in
theorem w_t4 : ((((words1.drop 24).drop 24).drop 24).take 24).all (fun c => isCode c || c.before args0 about1) = true := by decide +kernel
set_option maxRecDepth 65536 in
theorem w_t5 : (((((words1.drop 24).drop 24).drop 24).drop 24).take 24).all (fun c => isCode c || c.before args0 about1) = true := by decide +kernel
set_option maxRecDepth 65536 in
theorem w_t6 : ((((((words1.drop 24).drop 24).drop 24).drop 24).drop 24).take 24).all (fun c => isCode c || c.before args0 about1) = true := by decide +kernel
set_option maxRecDepth 65536 in
theorem w_t7 : (((((((words1.drop 24).drop 24).drop 24).drop 24).drop 24).drop 24).take 24).all (fun c => isCode c || c.before args0 about1) = true := by decide +kernel
set_option maxRecDepth 65536 in
theorem w_t8 : (((((((words1.drop 24).drop 24).drop 24).drop 24).drop 24).drop 24).drop 24).all (fun c => isCode c || c.before args0 about1) = true := by decide +kernel
theorem w_tables : (allAtoms (Jvm.Cond.code x code maxLocals ret :: tables_1)).before args0 about1 = true := by
  rw [allAtoms_all]
  show words1.all (fun c => c.before args0 about1) = true
  refine all_split ?_ w_codes
  rw [← List.take_append_drop 24 words1, List.all_append, w_t1, ← List.take_append_drop 24 (words1.drop 24), List.all_append, w_t2, ← List.take_append_drop 24 ((words1.drop 24).drop 24), List.all_append, w_t3, ← List.take_append_drop 24 (((words1.drop 24).drop 24).drop 24), List.all_append, w_t4, ← List.take_append_drop 24 ((((words1.drop 24).drop 24).drop 24).drop 24), List.all_append, w_t5, ← List.take_append_drop 24 (((((words1.drop 24).drop 24).drop 24).drop 24).drop 24), List.all_append, w_t6, ← List.take_append_drop 24 ((((((words1.drop 24).drop 24).drop 24).drop 24).drop 24).drop 24), List.all_append, w_t7, w_t8]
  rfl
set_option maxRecDepth 65536 in
theorem w_rest : rest_1_c.before args0 about1 = true := by decide +kernel
set_option maxRecDepth 65536 in
theorem w_case : (Jvm.Cond.and given_1 narrow_1).before args0 about1 = true := by decide +kernel
theorem w_applies : (headSpec (Jvm.Cond.code x code maxLocals ret :: tables_1) room_1).applies x e0.platform about1 = true :=
  (Spec.applies_iff w_frames).mpr ⟨w_running, w_runnable, w_alone, w_named, w_hears, w_ripe, w_room, w_tables⟩
theorem atStart : AtStart classFile x code maxLocals ret World_1 tables_1 room_1 Calls_1 rest_1 Pre_1 launch0 p0 e0 about1 theMethod args0 below0 :=
  ⟨lists_1, trivial, launch0.admits_env _ _ _, launch0.least_env, fairChoices_fair.cas, fairChoices_fair.clock, w_frames, w_args, w_heap, w_applies, trivial, w_rest, w_case⟩
end start1
theorem witness_1 : WitnessClaimed_1 := ⟨start1.p0, start1.e0, start1.about1, start1.theMethod, start1.args0, start1.below0, start1.atStart⟩
end Jvm.Pilot.@@N@@
