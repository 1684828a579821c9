import JvmDerived
import JvmDerived.Pilot.@@N@@Statement
import JvmDerived.Pilot.@@N@@Code
set_option linter.unusedVariables false
set_option linter.unusedSimpArgs false
@@BLOCK:NumsL.lean.txt@@
namespace Jvm.Pilot.@@N@@
open Jvm Jvm.ClassFile Sem Op Lib Jvm.Free Jvm.Stand Jvm.LawKit Jvm.RoadKit Bundle Jvm.Pilot.@@N@@.Jvm.D
section Own
variable {p : Program} {l : Launch} {e : Env} {R : Room} {s : State} {m : MethodId} {args : Array Value} {below : List Frame} {meth : Method} {c : Code} {T : State} {locs : List Loc} {cells slots : Nat}
/-- the walk from the state t ends as the contract Q says; End: the narrow frame or the wide one -/
def Go (End : State → Outcome → State → List Loc → Nat → Nat → Prop) (p : Program) (e : Env) (below : List Frame) (s : State) (rc rs : Nat) (Q : Option Value → Heap → List Loc → Prop) (t : State) : Prop :=
  ∃ s₂ o, Steps p.tables e below t s₂ ∧ s₂.status = .running ∧ Ended s₂ below o ∧ ∃ v L, o = .returned v ∧ Q v s₂.heap L ∧ End s o s₂ L rc rs
variable {End : State → Outcome → State → List Loc → Nat → Nat → Prop}
theorem go {rc rs : Nat} {Q : Option Value → Heap → List Loc → Prop} {t t' : State} (k : ∀ target, Steps p.tables e below t' target → Steps p.tables e below t target) (h : Go End p e below s rc rs Q t') : Go End p e below s rc rs Q t := by
  obtain ⟨s₂, o, h1, h2⟩ := h
  exact ⟨s₂, o, k _ h1, h2⟩
theorem goT {rc rs : Nat} {Q : Option Value → Heap → List Loc → Prop} {t t' : State} (k : Steps p.tables e below t t') (h : Go End p e below s rc rs Q t') : Go End p e below s rc rs Q t := by
  obtain ⟨s₂, o, h1, h2⟩ := h
  exact ⟨s₂, o, k.trans h1, h2⟩
theorem goRet {rc rs : Nat} {Q : Option Value → Heap → List Loc → Prop} (X : Stand p l e R s m args below meth c T locs cells slots) (hx : p.tables.exec = Jvm.exec) (hlk : meth.locks = false) {pc : Nat} {Ls : Array Slot} {w : Value} {t : FieldType} {i : Instr} {rest : List Value} (hret : meth.sig.returnType = some t) (hn : narrow t w = w)
    (hi : (i = .ireturn ∧ (t = .int ∨ t = .boolean ∨ t = .byte ∨ t = .char ∨ t = .short) ∧ ∃ z, w = .int z) ∨ (i = .lreturn ∧ t = .long ∧ ∃ z, w = .long z) ∨ (i = .dreturn ∧ t = .double ∧ ∃ z, w = .double z) ∨ (i = .freturn ∧ t = .float ∧ ∃ z, w = .float z) ∨ (i = .areturn ∧ t.isReference = true ∧ w.isRef = true))
    (hd : decode c.code pc = .ok (i, 1)) (hc : cells ≤ rc) (hs : slots ≤ rs) (hq : Q (some w) T.heap locs) : Go FrameEnd p e below s rc rs Q (T.setTop (mkF m pc Ls (w :: rest))) := by
  obtain ⟨fs, hr, hrun, hended, hW, hsame⟩ := X.leave (v := some w) (fun h => by rw [hret] at h; cases h) hlk
  refine ⟨_, _, retOut X hx hret hn hi hd hr, hrun, hended, _, _, rfl, ?_, ⟨_, rfl⟩, hW, hsame.mono hc hs⟩
  show Q _ T.heap _
  exact hq
theorem goRetN {rc rs : Nat} {Q : Option Value → Heap → List Loc → Prop} (X : Stand p l e R s m args below meth c T locs cells slots) (hx : p.tables.exec = Jvm.exec) (hlk : meth.locks = false) {pc : Nat} {Ls : Array Slot} {z : Int32} {t : FieldType} {rest : List Value} (hret : meth.sig.returnType = some t) (ht : t = .boolean ∨ t = .byte ∨ t = .char ∨ t = .short)
    (hd : decode c.code pc = .ok (.ireturn, 1)) (hc : cells ≤ rc) (hs : slots ≤ rs) (hq : Q (some (.int (nar t z))) T.heap locs) : Go FrameEnd p e below s rc rs Q (T.setTop (mkF m pc Ls (.int z :: rest))) := by
  obtain ⟨fs, hr, hrun, hended, hW, hsame⟩ := X.leave (v := some (.int (nar t z))) (fun h => by rw [hret] at h; cases h) hlk
  refine ⟨_, _, retN X hx hret ht hd hr, hrun, hended, _, _, rfl, ?_, ⟨_, rfl⟩, hW, hsame.mono hc hs⟩
  show Q _ T.heap _
  exact hq
theorem goRet0 {rc rs : Nat} {Q : Option Value → Heap → List Loc → Prop} (X : Stand p l e R s m args below meth c T locs cells slots) (hx : p.tables.exec = Jvm.exec) (hlk : meth.locks = false) {pc : Nat} {Ls : Array Slot} (hret : meth.sig.returnType = none)
    (hd : decode c.code pc = .ok (.return_, 1)) (hc : cells ≤ rc) (hs : slots ≤ rs) (hq : Q none T.heap locs) : Go FrameEnd p e below s rc rs Q (T.setTop (mkF m pc Ls [])) := by
  obtain ⟨fs, hr, hrun, hended, hW, hsame⟩ := X.leave (v := none) (fun _ => rfl) hlk
  refine ⟨_, _, X.returnOut hx hret hd hr, hrun, hended, _, _, rfl, ?_, ⟨_, rfl⟩, hW, hsame.mono hc hs⟩
  show Q _ T.heap _
  exact hq
end Own
def own_EL : List (String × Nat) := [("com/example/dosisbog/dosisbog/documents/DosageReader", 24), ("com/example/dosisbog/dosisbog/documents/DosageReader", 26), ("com/example/dosisbog/dosisbog/documents/DosageReaderRootPinLaw", 16), ("com/example/dosisbog/dosisbog/documents/DosageReaderRootPinLaw", 18)]
section OwnH
variable {p : Program} {l : Launch} {e : Env} {R : Room} {s : State} {m : MethodId} {args : Array Value} {below : List Frame} {meth : Method} {c : Code} {T : State} {locs : List Loc} {cells slots : Nat} {vm₁ : Vm} {k : Nat} {Z : State} {a0 : Array Value}
def own_EndH (Z : State) (s : State) (o : Outcome) (t : State) (L : List Loc) (k n : Nat) : Prop := CHr Z own_EL s.vm s.heap t.vm t.heap ∧ ReturnedEndW s o t L k n
theorem goRetH {rc rs : Nat} {Q : Option Value → Heap → List Loc → Prop} {h0 h : Heap} (X : Stand p l e R (s.setVm vm₁) m args below meth c T locs cells slots) (hZ : Z.Warmed39 vm₁) (hE : EW Z a0 own_EL) (hch : CHr Z own_EL s.vm h0 vm₁ h) (hh0 : s.heap = h0) (eT : T.heap = h) (hS : s.Since vm₁ k) (hk : k ≤ h.size) (hx : p.tables.exec = Jvm.exec) (hlk : meth.locks = false) {pc : Nat} {Ls : Array Slot} {w : Value} {t : FieldType} {i : Instr} {rest : List Value} (hret : meth.sig.returnType = some t) (hn : narrow t w = w)
    (hi : (i = .ireturn ∧ (t = .int ∨ t = .boolean ∨ t = .byte ∨ t = .char ∨ t = .short) ∧ ∃ z, w = .int z) ∨ (i = .lreturn ∧ t = .long ∧ ∃ z, w = .long z) ∨ (i = .dreturn ∧ t = .double ∧ ∃ z, w = .double z) ∨ (i = .freturn ∧ t = .float ∧ ∃ z, w = .float z) ∨ (i = .areturn ∧ t.isReference = true ∧ w.isRef = true))
    (hd : decode c.code pc = .ok (i, 1)) (hc : cells ≤ rc) (hs : slots ≤ rs) (hq : Q (some w) h locs) : Go (own_EndH Z) p e below s rc rs Q (T.setTop (mkF m pc Ls (w :: rest))) := by
  subst eT hh0
  obtain ⟨fs, hr, hrun, hended, h1, h2, h3, h4⟩ := X.leaveW hS hk (v := some w) (fun h => by rw [hret] at h; cases h) hlk
  have hA := hch.trans (CHv.at X hZ hE hch.1)
  refine ⟨_, _, retOut X hx hret hn hi hd hr, hrun, hended, _, _, rfl, ?_, ?_, h1, h2, h3, h4.mono hc hs⟩
  · show Q _ T.heap _
    exact hq
  · exact hA
end OwnH
section OwnStart
variable {args : Array Value} {s : State} {a : Addr} {t : Term} {C n d : String} {k : Int32}
theorem own_eqI (h : (Cond.eq t (.int k)).value args s none s [] = some true) : t.eval args s none [] s = some (.int k) := by
  cases ht : t.eval args s none [] s with
  | none => simp [Cond.value, ht] at h
  | some x => cases x <;> simp [Cond.value, ht, Term.int_eval] at h ⊢; exact h
theorem own_neI (h : (Cond.not (Cond.eq t (.int k))).value args s none s [] = some true) {x : Int32} (e : t.eval args s none [] s = some (.int x)) : ¬ x = k := fun q => by
  subst q; simp [Cond.value, e, Term.int_eval] at h
theorem own_fI (ev : t.eval args s none [] s = some (.ref a)) (h : (Cond.eq (.field t C n d) (.int k)).value args s none s [] = some true) : Fld s s.heap a C n d (.int k) :=
  Fld.start ((fld_at ev).symm.trans (own_eqI h))
theorem own_fR {b : Addr} (ev : t.eval args s none [] s = some (.ref a)) (h : (Term.field t C n d).eval args s none [] s = some (.ref b)) : Fld s s.heap a C n d (.ref b) :=
  Fld.start ((fld_at ev).symm.trans h)
theorem own_len {c : Cell} {ty : FieldType} (ev : t.eval args s none [] s = some (.ref a)) (A : Arr s s.heap a c ty) (h : (Cond.eq (.length t) (.int k)).value args s none s [] = some true) : c.slots.size < 2 ^ 31 ∧ c.slots.size.toInt32 = k := by
  have e := own_eqI h
  have ha : s.arrayAt? a = some c := IntBox.arrayAt_of A.1 A.2.1 A.2.2
  by_cases hl : c.slots.size < 2 ^ 31
  · rw [len_f ev ha hl] at e; exact ⟨hl, by injection e with e; injection e⟩
  · simp [Term.eval, ev, ha, hl] at e
theorem own_el {c : Cell} {ty : FieldType} {j : Int32} {v : Int32} (ev : t.eval args s none [] s = some (.ref a)) (A : Arr s s.heap a c ty) (h : (Cond.eq (.elem t (.int j)) (.int v)).value args s none s [] = some true) : c.slots[j.toNatClampNeg]? = some (.int v) :=
  (elem_in (own_eqI h) ev (Term.int_eval j) A.1).2
end OwnStart
theorem own_wS {Z : State} {a0 : Array Value} (hw : ∀ d ∈ tables_1, d.before a0 Z = true) : ∀ a ∈ Bundle.stringAtoms, a.before a0 Z = true := by
  intro d hd
  simp only [Bundle.stringAtoms, List.mem_cons, List.not_mem_nil, or_false] at hd
  rcases hd with rfl | rfl | rfl | rfl | rfl | rfl | rfl
  · exact hw _ (List.mem_of_getElem? (i := 26) rfl)
  · exact hw _ (List.mem_of_getElem? (i := 27) rfl)
  · exact hw _ (List.mem_of_getElem? (i := 28) rfl)
  · exact hw _ (List.mem_of_getElem? (i := 29) rfl)
  · exact hw _ (List.mem_of_getElem? (i := 30) rfl)
  · exact hw _ (List.mem_of_getElem? (i := 31) rfl)
  · exact hw _ (List.mem_of_getElem? (i := 32) rfl)
theorem own_EW {Z : State} {a0 : Array Value} (hw : ∀ d ∈ tables_1, d.before a0 Z = true) : EW Z a0 own_EL := EW.cons (text := "DosageStructures") (hw _ (List.mem_of_getElem? (i := 25) rfl)) (by decide) (EW.cons (text := "Dosage") (hw _ (List.mem_of_getElem? (i := 33) rfl)) (by decide) (EW.cons (text := "DosageStructures") (hw _ (List.mem_of_getElem? (i := 37) rfl)) (by decide) (EW.cons (text := "Dosage") (hw _ (List.mem_of_getElem? (i := 43) rfl)) (by decide) (EW.nil))))
theorem d1_0 : decode method_2_code 0 = .ok (.iload_n 0, 1) := by decide +kernel
theorem d1_1 : decode method_2_code 1 = .ok (.iconst 1, 1) := by decide +kernel
theorem d1_2 : decode method_2_code 2 = .ok (.iand, 1) := by decide +kernel
theorem d1_3 : decode method_2_code 3 = .ok (.ifCond .ne 9, 3) := by decide +kernel
theorem d1_6 : decode method_2_code 6 = .ok (.getstatic 7, 3) := by decide +kernel
theorem d1_9 : decode method_2_code 9 = .ok (.goto 6, 3) := by decide +kernel
theorem d1_15 : decode method_2_code 15 = .ok (.areturn, 1) := by decide +kernel
theorem pn_P0 : plainName "com/example/dosisbog/dosisbog/documents/DosageReaderRootPinLaw" = true := by first | (simp [plainName, overriddenIn]; done) | decide +kernel
theorem ef_P0 (m : MethodId) (p1 : Int32) : entryFrame m #[(.int p1)] 1 = mkF m 0 #[.val (.int p1)] [] := by first | (simp [entryFrame, mkF, argsToLocals, Value.category]; done) | rfl
def QP0 (Z : State) (p1 : Int32) (vo0 : Addr) (h0 : Heap) (n0 : Nat) (v : Option Value) (h : Heap) (L : List Loc) : Prop := v = some (.ref vo0) ∧ Fr n0 L ∧ (h = h0)
set_option maxRecDepth 65536 in
set_option maxHeartbeats 40000000 in
theorem rmP0 (l : Launch) (Z : State) (a0 : Array Value) (hw : ∀ d ∈ tables_1, d.before a0 Z = true) (ws : List Jvm.Cond) (p1 : Int32) (vo0 : Addr) (h0 : Heap) (n0 : Nat) (Z0 : n0 ≤ h0.size) (P0 : Sta Z Z.heap "com/example/dosisbog/dosisbog/core/Vocabulary" "DOSAGE_STRUCTURES" "Lcom/example/dosisbog/dosisbog/core/Vocabulary;" (.ref vo0)) (P1 : Old Z n0 h0) (h1 : (p1 &&& (1 : Int32)) = (0 : Int32)) :
    MetFree l (⟨"com/example/dosisbog/dosisbog/documents/DosageReaderRootPinLaw", "pick", "(I)Lcom/example/dosisbog/dosisbog/core/Vocabulary;"⟩ : MethodName) (head1 (Jvm.Cond.code (⟨"com/example/dosisbog/dosisbog/documents/DosageReaderRootPinLaw", "pick", "(I)Lcom/example/dosisbog/dosisbog/core/Vocabulary;"⟩ : MethodName) method_2_code 1 (some (.object "com/example/dosisbog/dosisbog/core/Vocabulary")) :: ws) ({ frames := 0, cells := 0, slots := 0, locals := 0 } : Room)) (fun a U => a = #[(.int p1)] ∧ Z.Warmed39 U.vm ∧ U.heap = h0) (fun _ _ _ _ _ => True) (fun _ U o U' => ∃ v L, o = .returned v ∧ QP0 Z p1 vo0 h0 n0 v U'.heap L ∧ FrameEnd U o U' L ({ frames := 0, cells := 0, slots := 0, locals := 0 } : Room).cells ({ frames := 0, cells := 0, slots := 0, locals := 0 } : Room).slots) := by
  refine MetFree.of_bodySF (plainFor_of_name pn_P0) hisR ?_
  intro p e s m args below meth c s₁ Bd hml0 hP hK
  obtain ⟨rfl, hZ, hh⟩ := hP
  have hx := Bd.exec
  have hby := Bd.bytes
  have hml : c.maxLocals = 1 := hml0
  have hown : s.vm.findClass "com/example/dosisbog/dosisbog/documents/DosageReaderRootPinLaw" = some m.cls := findClass_of_methodNamed Bd.named
  have hnm := (name_of_methodNamed Bd.named Bd.method).1
  have X0 : Stand p l e ({ frames := 0, cells := 0, slots := 0, locals := 0 } : Room) s m #[(.int p1)] below meth c s₁ [] 0 0 := Stand.of_body Bd
  have e0 : s₁.heap = h0 := by rw [← hh, Bd.state]; rfl
  have N0 := Fr.nil n0
  have hS0 : s.Since s.vm 0 := (State.WarmedH.refl s).since 0
  show Go (FrameEnd) p e below s ({ frames := 0, cells := 0, slots := 0, locals := 0 } : Room).cells ({ frames := 0, cells := 0, slots := 0, locals := 0 } : Room).slots (QP0 Z p1 vo0 h0 n0) (s₁.setTop (entryFrame m #[(.int p1)] 1))
  refine go (fun _ k => castTop (ef_P0 m p1) k) ?_
  show Go _ p e below s _ _ _ (s₁.setTop (mkF m 0 #[.val (.int p1)] []))
  refine go (fun _ => XS.iloadN X0.here hx rfl (hb hby d1_0) rfl) ?_
  show Go _ p e below s _ _ _ (s₁.setTop (mkF m 1 #[.val (.int p1)] [(.int p1)]))
  refine go (fun _ => XS.iconst X0.here hx rfl (hb hby d1_1)) ?_
  show Go _ p e below s _ _ _ (s₁.setTop (mkF m 2 #[.val (.int p1)] [(.int (1 : Int32)), (.int p1)]))
  refine go (fun _ => XS.iand X0.here hx rfl (hb hby d1_2) rfl) ?_
  show Go _ p e below s _ _ _ (s₁.setTop (mkF m 3 #[.val (.int p1)] [(.int (p1 &&& (1 : Int32)))]))
  refine go (fun _ => XS.ifNo X0.here hx rfl (hb hby d1_3) rfl ((if0 _ _).trans (teq h1).2)) ?_
  show Go _ p e below s _ _ _ (s₁.setTop (mkF m 6 #[.val (.int p1)] []))
  obtain ⟨T2, X2, e2, st2⟩ := getS2 X0 hx hZ hown (host := "") (Or.inl (hw _ (List.mem_of_getElem? (i := 4) rfl))) Via.refl e0 (P0.ext P1.2) (g := (mkF m 6 #[.val (.int p1)] [])) rfl (hb hby d1_6)
  refine go st2 ?_
  show Go _ p e below s _ _ _ (T2.setTop (mkF m 9 #[.val (.int p1)] [(.ref vo0)]))
  refine go (fun _ => XS.goto X2.here hx rfl (pc0 := 9) (pc' := 15) rfl (hb hby d1_9) (by decide) (by decide)) ?_
  show Go _ p e below s _ _ _ (T2.setTop (mkF m 15 #[.val (.int p1)] [(.ref vo0)]))
  refine goRet X2 hx Bd.notSynchronized Bd.returns rfl (Or.inr (Or.inr (Or.inr (Or.inr ⟨rfl, rfl, rfl⟩)))) (hb hby d1_15) (by decide) (by decide) (by rw [e2]; refine ⟨rfl, N0, rfl⟩)
theorem d1_12 : decode method_2_code 12 = .ok (.getstatic 13, 3) := by decide +kernel
theorem pn_P1 : plainName "com/example/dosisbog/dosisbog/documents/DosageReaderRootPinLaw" = true := by first | (simp [plainName, overriddenIn]; done) | decide +kernel
theorem ef_P1 (m : MethodId) (p1 : Int32) : entryFrame m #[(.int p1)] 1 = mkF m 0 #[.val (.int p1)] [] := by first | (simp [entryFrame, mkF, argsToLocals, Value.category]; done) | rfl
def QP1 (Z : State) (p1 : Int32) (vo1 : Addr) (h0 : Heap) (n0 : Nat) (v : Option Value) (h : Heap) (L : List Loc) : Prop := v = some (.ref vo1) ∧ Fr n0 L ∧ (h = h0)
set_option maxRecDepth 65536 in
set_option maxHeartbeats 40000000 in
theorem rmP1 (l : Launch) (Z : State) (a0 : Array Value) (hw : ∀ d ∈ tables_1, d.before a0 Z = true) (ws : List Jvm.Cond) (p1 : Int32) (vo1 : Addr) (h0 : Heap) (n0 : Nat) (Z0 : n0 ≤ h0.size) (P0 : Sta Z Z.heap "com/example/dosisbog/dosisbog/core/Vocabulary" "DOSAGE" "Lcom/example/dosisbog/dosisbog/core/Vocabulary;" (.ref vo1)) (P1 : Old Z n0 h0) (h1 : ¬ (p1 &&& (1 : Int32)) = (0 : Int32)) :
    MetFree l (⟨"com/example/dosisbog/dosisbog/documents/DosageReaderRootPinLaw", "pick", "(I)Lcom/example/dosisbog/dosisbog/core/Vocabulary;"⟩ : MethodName) (head1 (Jvm.Cond.code (⟨"com/example/dosisbog/dosisbog/documents/DosageReaderRootPinLaw", "pick", "(I)Lcom/example/dosisbog/dosisbog/core/Vocabulary;"⟩ : MethodName) method_2_code 1 (some (.object "com/example/dosisbog/dosisbog/core/Vocabulary")) :: ws) ({ frames := 0, cells := 0, slots := 0, locals := 0 } : Room)) (fun a U => a = #[(.int p1)] ∧ Z.Warmed39 U.vm ∧ U.heap = h0) (fun _ _ _ _ _ => True) (fun _ U o U' => ∃ v L, o = .returned v ∧ QP1 Z p1 vo1 h0 n0 v U'.heap L ∧ FrameEnd U o U' L ({ frames := 0, cells := 0, slots := 0, locals := 0 } : Room).cells ({ frames := 0, cells := 0, slots := 0, locals := 0 } : Room).slots) := by
  refine MetFree.of_bodySF (plainFor_of_name pn_P1) hisR ?_
  intro p e s m args below meth c s₁ Bd hml0 hP hK
  obtain ⟨rfl, hZ, hh⟩ := hP
  have hx := Bd.exec
  have hby := Bd.bytes
  have hml : c.maxLocals = 1 := hml0
  have hown : s.vm.findClass "com/example/dosisbog/dosisbog/documents/DosageReaderRootPinLaw" = some m.cls := findClass_of_methodNamed Bd.named
  have hnm := (name_of_methodNamed Bd.named Bd.method).1
  have X0 : Stand p l e ({ frames := 0, cells := 0, slots := 0, locals := 0 } : Room) s m #[(.int p1)] below meth c s₁ [] 0 0 := Stand.of_body Bd
  have e0 : s₁.heap = h0 := by rw [← hh, Bd.state]; rfl
  have N0 := Fr.nil n0
  have hS0 : s.Since s.vm 0 := (State.WarmedH.refl s).since 0
  show Go (FrameEnd) p e below s ({ frames := 0, cells := 0, slots := 0, locals := 0 } : Room).cells ({ frames := 0, cells := 0, slots := 0, locals := 0 } : Room).slots (QP1 Z p1 vo1 h0 n0) (s₁.setTop (entryFrame m #[(.int p1)] 1))
  refine go (fun _ k => castTop (ef_P1 m p1) k) ?_
  show Go _ p e below s _ _ _ (s₁.setTop (mkF m 0 #[.val (.int p1)] []))
  refine go (fun _ => XS.iloadN X0.here hx rfl (hb hby d1_0) rfl) ?_
  show Go _ p e below s _ _ _ (s₁.setTop (mkF m 1 #[.val (.int p1)] [(.int p1)]))
  refine go (fun _ => XS.iconst X0.here hx rfl (hb hby d1_1)) ?_
  show Go _ p e below s _ _ _ (s₁.setTop (mkF m 2 #[.val (.int p1)] [(.int (1 : Int32)), (.int p1)]))
  refine go (fun _ => XS.iand X0.here hx rfl (hb hby d1_2) rfl) ?_
  show Go _ p e below s _ _ _ (s₁.setTop (mkF m 3 #[.val (.int p1)] [(.int (p1 &&& (1 : Int32)))]))
  refine go (fun _ => XS.ifYes X0.here hx rfl (pc0 := 3) (pc' := 12) rfl (hb hby d1_3) rfl ((if0 _ _).trans (feq h1).2) (by decide) (by decide)) ?_
  show Go _ p e below s _ _ _ (s₁.setTop (mkF m 12 #[.val (.int p1)] []))
  obtain ⟨T4, X4, e4, st4⟩ := getS2 X0 hx hZ hown (host := "") (Or.inl (hw _ (List.mem_of_getElem? (i := 7) rfl))) Via.refl e0 (P0.ext P1.2) (g := (mkF m 12 #[.val (.int p1)] [])) rfl (hb hby d1_12)
  refine go st4 ?_
  show Go _ p e below s _ _ _ (T4.setTop (mkF m 15 #[.val (.int p1)] [(.ref vo1)]))
  refine goRet X4 hx Bd.notSynchronized Bd.returns rfl (Or.inr (Or.inr (Or.inr (Or.inr ⟨rfl, rfl, rfl⟩)))) (hb hby d1_15) (by decide) (by decide) (by rw [e4]; refine ⟨rfl, N0, rfl⟩)
theorem d3_0 : decode jdk_37_method_2_code 0 = .ok (.aload_n 0, 1) := by decide +kernel
theorem d3_1 : decode jdk_37_method_2_code 1 = .ok (.getfield 7, 3) := by decide +kernel
theorem d3_4 : decode jdk_37_method_2_code 4 = .ok (.ireturn, 1) := by decide +kernel
theorem pn_3 : plainName "java/lang/Enum" = true := by first | (simp [plainName, overriddenIn]; done) | decide +kernel
theorem ef_3 (m : MethodId) (a1 : Addr) : entryFrame m #[(.ref a1)] 1 = mkF m 0 #[.val (.ref a1)] [] := by first | (simp [entryFrame, mkF, argsToLocals, Value.category]; done) | rfl
def Q3 (Z : State) (a1 : Addr) (o1 : Int32) (h0 : Heap) (n0 : Nat) (v : Option Value) (h : Heap) (L : List Loc) : Prop := v = some (.int o1) ∧ Fr n0 L ∧ (h = h0)
set_option maxRecDepth 65536 in
set_option maxHeartbeats 40000000 in
theorem rm3 (l : Launch) (Z : State) (a0 : Array Value) (hw : ∀ d ∈ tables_1, d.before a0 Z = true) (ws : List Jvm.Cond) (a1 : Addr) (o1 : Int32) (h0 : Heap) (n0 : Nat) (Z0 : n0 ≤ h0.size) (P0 : Fld Z h0 a1 "java/lang/Enum" "ordinal" "I" (.int o1)) :
    MetFree l (⟨"java/lang/Enum", "ordinal", "()I"⟩ : MethodName) (head1 (Jvm.Cond.code (⟨"java/lang/Enum", "ordinal", "()I"⟩ : MethodName) jdk_37_method_2_code 1 (some .int) :: ws) ({ frames := 0, cells := 0, slots := 0, locals := 0 } : Room)) (fun a U => a = #[(.ref a1)] ∧ Z.Warmed39 U.vm ∧ U.heap = h0) (fun _ _ _ _ _ => True) (fun _ U o U' => ∃ v L, o = .returned v ∧ Q3 Z a1 o1 h0 n0 v U'.heap L ∧ FrameEnd U o U' L ({ frames := 0, cells := 0, slots := 0, locals := 0 } : Room).cells ({ frames := 0, cells := 0, slots := 0, locals := 0 } : Room).slots) := by
  refine MetFree.of_bodySF (plainFor_of_name pn_3) hisR ?_
  intro p e s m args below meth c s₁ Bd hml0 hP hK
  obtain ⟨rfl, hZ, hh⟩ := hP
  have hx := Bd.exec
  have hby := Bd.bytes
  have hml : c.maxLocals = 1 := hml0
  have hown : s.vm.findClass "java/lang/Enum" = some m.cls := findClass_of_methodNamed Bd.named
  have hnm := (name_of_methodNamed Bd.named Bd.method).1
  have X0 : Stand p l e ({ frames := 0, cells := 0, slots := 0, locals := 0 } : Room) s m #[(.ref a1)] below meth c s₁ [] 0 0 := Stand.of_body Bd
  have e0 : s₁.heap = h0 := by rw [← hh, Bd.state]; rfl
  have N0 := Fr.nil n0
  have hS0 : s.Since s.vm 0 := (State.WarmedH.refl s).since 0
  show Go (FrameEnd) p e below s ({ frames := 0, cells := 0, slots := 0, locals := 0 } : Room).cells ({ frames := 0, cells := 0, slots := 0, locals := 0 } : Room).slots (Q3 Z a1 o1 h0 n0) (s₁.setTop (entryFrame m #[(.ref a1)] 1))
  refine go (fun _ k => castTop (ef_3 m a1) k) ?_
  show Go _ p e below s _ _ _ (s₁.setTop (mkF m 0 #[.val (.ref a1)] []))
  refine go (fun _ => XS.aloadN X0.here hx rfl (hb hby d3_0) rfl rfl) ?_
  show Go _ p e below s _ _ _ (s₁.setTop (mkF m 1 #[.val (.ref a1)] [(.ref a1)]))
  obtain ⟨T6, X6, e6, st6⟩ := getF X0 hx hZ hown (host := "") (Or.inl (hw _ (List.mem_of_getElem? (i := 23) rfl))) Via.refl e0 P0 (g := (mkF m 1 #[.val (.ref a1)] [(.ref a1)])) rfl rfl (hb hby d3_1)
  refine go st6 ?_
  show Go _ p e below s _ _ _ (T6.setTop (mkF m 4 #[.val (.ref a1)] [(.int o1)]))
  refine goRet X6 hx Bd.notSynchronized Bd.returns rfl (Or.inl ⟨rfl, Or.inl rfl, _, rfl⟩) (hb hby d3_4) (by decide) (by decide) (by rw [e6]; refine ⟨rfl, N0, rfl⟩)
theorem d2_0 : decode prog_125_method_2_code 0 = .ok (.getstatic 7, 3) := by decide +kernel
theorem d2_3 : decode prog_125_method_2_code 3 = .ok (.aload_n 0, 1) := by decide +kernel
theorem d2_4 : decode prog_125_method_2_code 4 = .ok (.invokevirtual 13, 3) := by decide +kernel
theorem d2_7 : decode prog_125_method_2_code 7 = .ok (.iaload, 1) := by decide +kernel
theorem d2_8 : decode prog_125_method_2_code 8 = .ok (.lookupswitch 28 #[(1, 38), (2, 43)], 28) := by decide +kernel
theorem d2_46 : decode prog_125_method_2_code 46 = .ok (.ldc 24, 2) := by decide +kernel
theorem d2_48 : decode prog_125_method_2_code 48 = .ok (.goto 5, 3) := by decide +kernel
theorem d2_53 : decode prog_125_method_2_code 53 = .ok (.areturn, 1) := by decide +kernel
theorem pn_R0 : plainName "com/example/dosisbog/dosisbog/documents/DosageReader" = true := by first | (simp [plainName, overriddenIn]; done) | decide +kernel
theorem pd_2_0 : parseMethodDescriptor "()I" = some ⟨[], some .int⟩ := by decide +kernel
theorem ef_R0 (m : MethodId) (a1 : Addr) : entryFrame m #[(.ref a1)] 1 = mkF m 0 #[.val (.ref a1)] [] := by first | (simp [entryFrame, mkF, argsToLocals, Value.category]; done) | rfl
def QR0 (Z : State) (a1 : Addr) (sm : Addr) (ks : ClassId) (h0 : Heap) (n0 : Nat) (v : Option Value) (h : Heap) (L : List Loc) : Prop := ∃ (a : Addr), ∃ (b : Addr), ∃ (k : ClassId), v = some (.ref a) ∧ Fr n0 L ∧ (Keep h0 h []) ∧ (Exa Z h a "java/lang/String") ∧ (Fld Z h a "java/lang/String" "coder" "B" (.int (0 : Int32))) ∧ (Fld Z h a "java/lang/String" "value" "[B" (.ref b)) ∧ (Arv Z h b k .byte (16 : Int32) [(.int (68 : Int32)), (.int (111 : Int32)), (.int (115 : Int32)), (.int (97 : Int32)), (.int (103 : Int32)), (.int (101 : Int32)), (.int (83 : Int32)), (.int (116 : Int32)), (.int (114 : Int32)), (.int (117 : Int32)), (.int (99 : Int32)), (.int (116 : Int32)), (.int (117 : Int32)), (.int (114 : Int32)), (.int (101 : Int32)), (.int (115 : Int32))] (.int (0 : Int32)))
set_option maxRecDepth 65536 in
set_option maxHeartbeats 40000000 in
theorem rmR0 (l : Launch) (Z : State) (a0 : Array Value) (hw : ∀ d ∈ tables_1, d.before a0 Z = true) (ws : List Jvm.Cond) (a1 : Addr) (sm : Addr) (ks : ClassId) (h0 : Heap) (n0 : Nat) (Z0 : n0 ≤ h0.size) (P0 : Old Z n0 h0) (P1 : Sta Z Z.heap "com/example/dosisbog/dosisbog/documents/DosageReader$1" "$SwitchMap$com$example$dosisbog$dosisbog$core$Vocabulary" "[I" (.ref sm)) (P2 : Arv Z Z.heap sm ks .int (2 : Int32) [(.int (1 : Int32)), (.int (2 : Int32))] (.int (0 : Int32))) (P3 : Exa Z Z.heap a1 "com/example/dosisbog/dosisbog/core/Vocabulary") (P4 : Fld Z Z.heap a1 "java/lang/Enum" "ordinal" "I" (.int (0 : Int32))) :
    MetFree l (⟨"com/example/dosisbog/dosisbog/documents/DosageReader", "root", "(Lcom/example/dosisbog/dosisbog/core/Vocabulary;)Ljava/lang/String;"⟩ : MethodName) (head1 (Jvm.Cond.code (⟨"com/example/dosisbog/dosisbog/documents/DosageReader", "root", "(Lcom/example/dosisbog/dosisbog/core/Vocabulary;)Ljava/lang/String;"⟩ : MethodName) prog_125_method_2_code 1 (some (.object "java/lang/String")) :: ws) ({ frames := 1, cells := 2, slots := 68, locals := 13 } : Room)) (fun a U => a = #[(.ref a1)] ∧ Z.Warmed39 U.vm ∧ U.heap = h0 ∧ CHv Z own_EL U.vm h0) (fun _ _ _ _ _ => True) (fun _ U o U' => ∃ v L, o = .returned v ∧ QR0 Z a1 sm ks h0 n0 v U'.heap L ∧ CHr Z own_EL U.vm U.heap U'.vm U'.heap ∧ ReturnedEndW U o U' L ({ frames := 1, cells := 2, slots := 68, locals := 13 } : Room).cells ({ frames := 1, cells := 2, slots := 68, locals := 13 } : Room).slots) := by
  refine MetFree.of_bodySF (plainFor_of_name pn_R0) hisR ?_
  intro p e s m args below meth c s₁ Bd hml0 hP hK
  obtain ⟨rfl, hZ, hh, hCH⟩ := hP
  have hx := Bd.exec
  have hby := Bd.bytes
  have hml : c.maxLocals = 1 := hml0
  have hown : s.vm.findClass "com/example/dosisbog/dosisbog/documents/DosageReader" = some m.cls := findClass_of_methodNamed Bd.named
  have hnm := (name_of_methodNamed Bd.named Bd.method).1
  have X0 : Stand p l e ({ frames := 1, cells := 2, slots := 68, locals := 13 } : Room) (s.setVm s.vm) m #[(.ref a1)] below meth c s₁ [] 0 0 := Stand.of_body Bd
  have e0 : s₁.heap = h0 := by rw [← hh, Bd.state]; rfl
  have N0 := Fr.nil n0
  have hS0 : s.Since s.vm 0 := (State.WarmedH.refl s).since 0
  have ch0 := CHr.refl hCH
  show Go (own_EndH Z) p e below s ({ frames := 1, cells := 2, slots := 68, locals := 13 } : Room).cells ({ frames := 1, cells := 2, slots := 68, locals := 13 } : Room).slots (QR0 Z a1 sm ks h0 n0) (s₁.setTop (entryFrame m #[(.ref a1)] 1))
  refine go (fun _ k => castTop (ef_R0 m a1) k) ?_
  show Go _ p e below s _ _ _ (s₁.setTop (mkF m 0 #[.val (.ref a1)] []))
  obtain ⟨T11, X11, e11, st11⟩ := getS2 X0 hx hZ hown (host := "") (Or.inl (hw _ (List.mem_of_getElem? (i := 13) rfl))) Via.refl e0 (P1.ext P0.2) (g := (mkF m 0 #[.val (.ref a1)] [])) rfl (hb hby d2_0)
  refine go st11 ?_
  show Go _ p e below s _ _ _ (T11.setTop (mkF m 3 #[.val (.ref a1)] [(.ref sm)]))
  refine go (fun _ => XS.aloadN X11.here hx rfl (hb hby d2_3) rfl rfl) ?_
  show Go _ p e below s _ _ _ (T11.setTop (mkF m 4 #[.val (.ref a1)] [(.ref a1), (.ref sm)]))
  obtain ⟨cq12, kq12, q12a, q12b, q12c⟩ := isOf hZ e11 (P3.ext P0.2)
  obtain ⟨_, _, ⟨T12, L12, k12, n12⟩, -, X12, ⟨Lc12, hQ12, l12, y12, z12⟩, st12⟩ := X11.virtualBackUp hx (x := (⟨"com/example/dosisbog/dosisbog/core/Vocabulary", "ordinal", "()I"⟩ : MethodName)) (y := (⟨"java/lang/Enum", "ordinal", "()I"⟩ : MethodName)) (owner := "java/lang/Enum") hown (mvT hZ (hw _ (List.mem_of_getElem? (i := 16) rfl))) (mvT hZ (hw _ (List.mem_of_getElem? (i := 17) rfl))) (mvT hZ (hw _ (List.mem_of_getElem? (i := 18) rfl))) (by decide) (mvT hZ (hw _ (List.mem_of_getElem? (i := 20) rfl))) (mvT hZ (hw _ (List.mem_of_getElem? (i := 19) rfl))) (backOf (W := 1) (rm3 l Z a0 hw [] a1 (0 : Int32) h0 n0 Z0 (P4.ext P0.2)) hZ (hw _ (List.mem_of_getElem? (i := 22) rfl)) (hw _ (List.mem_of_getElem? (i := 21) rfl)) (by decide) (by decide)) q12a q12c (g := (mkF m 4 #[.val (.ref a1)] [(.ref a1), (.ref sm)])) rfl (by rw [hml]; rfl) (Steps.refl _) (argsL := []) (rest := [(.ref sm)]) (lenOf pd_2_0 rfl) rfl (by show 2 * 0 + _ ≤ _; exact Nat.le_of_eq rfl) (hb hby d2_4) (fun _ _ => ⟨rfl, e11, (by decide : 0 + 0 ≤ _), (by decide : 0 + 0 ≤ _)⟩)
  dsimp only [Pt.U, Pt.locs, Pt.cells, Pt.slots] at X12 l12 y12 z12 st12 hQ12
  subst l12 y12 z12
  obtain ⟨rfl, N12q, e12⟩ := hQ12
  have N12 := Fr.app N0 N12q
  refine goT st12 ?_
  show Go _ p e below s _ _ _ (T12.setTop (mkF m 7 #[.val (.ref a1)] [(.int (0 : Int32)), (.ref sm)]))
  obtain ⟨cl13, Ar13, q13, Sz13, Nz13, Hs13, Gs13⟩ := id (P2.ext P0.2)
  have hin13 : ¬ ((0 : Int32) < 0 ∨ cl13.slots.size ≤ ((0 : Int32)).toNatClampNeg) := inb_of Sz13 ⟨by decide, by decide⟩
  refine go (X12.iaload hx (j := (0 : Int32)) (v := (.int (1 : Int32))) (by rw [e12]; exact Ar13.1) (State.isArrayOf_alike hZ.alike Ar13.2.1) Ar13.2.2 hin13 (Hs13.at hin13 rfl) (g := (mkF m 7 #[.val (.ref a1)] [(.int (0 : Int32)), (.ref sm)])) rfl rfl (hb hby d2_7)) ?_
  show Go _ p e below s _ _ _ (T12.setTop (mkF m 8 #[.val (.ref a1)] [(.int (1 : Int32))]))
  refine go (X12.lookupswitchHit hx (g := (mkF m 8 #[.val (.ref a1)] [(.int (1 : Int32))])) rfl (k := (1 : Int32)) (rest := []) rfl (hb hby d2_8) (by decide) (a := 1) (off := 38) (by decide) (by show (0 : Int) ≤ (8 : Nat) + 38; decide)) ?_
  show Go _ p e below s _ _ _ (T12.setTop (mkF m 46 #[.val (.ref a1)] []))
  obtain ⟨t14, T14, h14, k14, bs14, ks14, X14, e14, E14, hS14, hk14, hZ, hown, LE14, LC14, LV14, LA14, -, -, cr14, -, -, st14⟩ := ldcCH X12 hx hZ hown (hw _ (List.mem_of_getElem? (i := 25) rfl)) (own_wS hw) e12 hS0 (Nat.zero_le _) (own_EW hw) (List.mem_of_getElem? (i := 0) rfl) ch0.1 (vs := [(.int (68 : Int32)), (.int (111 : Int32)), (.int (115 : Int32)), (.int (97 : Int32)), (.int (103 : Int32)), (.int (101 : Int32)), (.int (83 : Int32)), (.int (116 : Int32)), (.int (114 : Int32)), (.int (117 : Int32)), (.int (99 : Int32)), (.int (116 : Int32)), (.int (117 : Int32)), (.int (114 : Int32)), (.int (101 : Int32)), (.int (115 : Int32))]) (z := (16 : Int32)) ⟨by decide, by decide⟩ (by decide) (by decide) (g := (mkF m 46 #[.val (.ref a1)] [])) rfl (hb hby d2_46) (n := 64) (by decide) (by decide) (by decide) (by decide)
  have ch14 := ch0.trans cr14
  have KK14 : Keep h0 h14 [] := (Keep.refl h0 []).ext E14
  have ZN14 : n0 ≤ h14.size := Nat.le_trans Z0 E14.1
  have OL14 := P0.ext E14
  refine go st14 ?_
  show Go _ p e below s _ _ _ (T14.setTop (mkF m 48 #[.val (.ref a1)] [(.ref t14)]))
  refine go (fun _ => XS.goto X14.here hx rfl (pc0 := 48) (pc' := 53) rfl (hb hby d2_48) (by decide) (by decide)) ?_
  show Go _ p e below s _ _ _ (T14.setTop (mkF m 53 #[.val (.ref a1)] [(.ref t14)]))
  refine goRetH X14 hZ (own_EW hw) ch14 hh e14 hS14 hk14 hx Bd.notSynchronized Bd.returns rfl (Or.inr (Or.inr (Or.inr (Or.inr ⟨rfl, rfl, rfl⟩)))) (hb hby d2_53) (by decide) (by decide) ⟨t14, bs14, ks14, rfl, N12, KK14, LE14, LC14, LV14, LA14⟩
theorem d2_51 : decode prog_125_method_2_code 51 = .ok (.ldc 26, 2) := by decide +kernel
theorem pn_R1 : plainName "com/example/dosisbog/dosisbog/documents/DosageReader" = true := by first | (simp [plainName, overriddenIn]; done) | decide +kernel
theorem ef_R1 (m : MethodId) (a1 : Addr) : entryFrame m #[(.ref a1)] 1 = mkF m 0 #[.val (.ref a1)] [] := by first | (simp [entryFrame, mkF, argsToLocals, Value.category]; done) | rfl
def QR1 (Z : State) (a1 : Addr) (sm : Addr) (ks : ClassId) (h0 : Heap) (n0 : Nat) (v : Option Value) (h : Heap) (L : List Loc) : Prop := ∃ (a : Addr), ∃ (b : Addr), ∃ (k : ClassId), v = some (.ref a) ∧ Fr n0 L ∧ (Keep h0 h []) ∧ (Exa Z h a "java/lang/String") ∧ (Fld Z h a "java/lang/String" "coder" "B" (.int (0 : Int32))) ∧ (Fld Z h a "java/lang/String" "value" "[B" (.ref b)) ∧ (Arv Z h b k .byte (6 : Int32) [(.int (68 : Int32)), (.int (111 : Int32)), (.int (115 : Int32)), (.int (97 : Int32)), (.int (103 : Int32)), (.int (101 : Int32))] (.int (0 : Int32)))
set_option maxRecDepth 65536 in
set_option maxHeartbeats 40000000 in
theorem rmR1 (l : Launch) (Z : State) (a0 : Array Value) (hw : ∀ d ∈ tables_1, d.before a0 Z = true) (ws : List Jvm.Cond) (a1 : Addr) (sm : Addr) (ks : ClassId) (h0 : Heap) (n0 : Nat) (Z0 : n0 ≤ h0.size) (P0 : Old Z n0 h0) (P1 : Sta Z Z.heap "com/example/dosisbog/dosisbog/documents/DosageReader$1" "$SwitchMap$com$example$dosisbog$dosisbog$core$Vocabulary" "[I" (.ref sm)) (P2 : Arv Z Z.heap sm ks .int (2 : Int32) [(.int (1 : Int32)), (.int (2 : Int32))] (.int (0 : Int32))) (P3 : Exa Z Z.heap a1 "com/example/dosisbog/dosisbog/core/Vocabulary") (P4 : Fld Z Z.heap a1 "java/lang/Enum" "ordinal" "I" (.int (1 : Int32))) :
    MetFree l (⟨"com/example/dosisbog/dosisbog/documents/DosageReader", "root", "(Lcom/example/dosisbog/dosisbog/core/Vocabulary;)Ljava/lang/String;"⟩ : MethodName) (head1 (Jvm.Cond.code (⟨"com/example/dosisbog/dosisbog/documents/DosageReader", "root", "(Lcom/example/dosisbog/dosisbog/core/Vocabulary;)Ljava/lang/String;"⟩ : MethodName) prog_125_method_2_code 1 (some (.object "java/lang/String")) :: ws) ({ frames := 1, cells := 2, slots := 28, locals := 13 } : Room)) (fun a U => a = #[(.ref a1)] ∧ Z.Warmed39 U.vm ∧ U.heap = h0 ∧ CHv Z own_EL U.vm h0) (fun _ _ _ _ _ => True) (fun _ U o U' => ∃ v L, o = .returned v ∧ QR1 Z a1 sm ks h0 n0 v U'.heap L ∧ CHr Z own_EL U.vm U.heap U'.vm U'.heap ∧ ReturnedEndW U o U' L ({ frames := 1, cells := 2, slots := 28, locals := 13 } : Room).cells ({ frames := 1, cells := 2, slots := 28, locals := 13 } : Room).slots) := by
  refine MetFree.of_bodySF (plainFor_of_name pn_R1) hisR ?_
  intro p e s m args below meth c s₁ Bd hml0 hP hK
  obtain ⟨rfl, hZ, hh, hCH⟩ := hP
  have hx := Bd.exec
  have hby := Bd.bytes
  have hml : c.maxLocals = 1 := hml0
  have hown : s.vm.findClass "com/example/dosisbog/dosisbog/documents/DosageReader" = some m.cls := findClass_of_methodNamed Bd.named
  have hnm := (name_of_methodNamed Bd.named Bd.method).1
  have X0 : Stand p l e ({ frames := 1, cells := 2, slots := 28, locals := 13 } : Room) (s.setVm s.vm) m #[(.ref a1)] below meth c s₁ [] 0 0 := Stand.of_body Bd
  have e0 : s₁.heap = h0 := by rw [← hh, Bd.state]; rfl
  have N0 := Fr.nil n0
  have hS0 : s.Since s.vm 0 := (State.WarmedH.refl s).since 0
  have ch0 := CHr.refl hCH
  show Go (own_EndH Z) p e below s ({ frames := 1, cells := 2, slots := 28, locals := 13 } : Room).cells ({ frames := 1, cells := 2, slots := 28, locals := 13 } : Room).slots (QR1 Z a1 sm ks h0 n0) (s₁.setTop (entryFrame m #[(.ref a1)] 1))
  refine go (fun _ k => castTop (ef_R1 m a1) k) ?_
  show Go _ p e below s _ _ _ (s₁.setTop (mkF m 0 #[.val (.ref a1)] []))
  obtain ⟨T19, X19, e19, st19⟩ := getS2 X0 hx hZ hown (host := "") (Or.inl (hw _ (List.mem_of_getElem? (i := 13) rfl))) Via.refl e0 (P1.ext P0.2) (g := (mkF m 0 #[.val (.ref a1)] [])) rfl (hb hby d2_0)
  refine go st19 ?_
  show Go _ p e below s _ _ _ (T19.setTop (mkF m 3 #[.val (.ref a1)] [(.ref sm)]))
  refine go (fun _ => XS.aloadN X19.here hx rfl (hb hby d2_3) rfl rfl) ?_
  show Go _ p e below s _ _ _ (T19.setTop (mkF m 4 #[.val (.ref a1)] [(.ref a1), (.ref sm)]))
  obtain ⟨cq20, kq20, q20a, q20b, q20c⟩ := isOf hZ e19 (P3.ext P0.2)
  obtain ⟨_, _, ⟨T20, L20, k20, n20⟩, -, X20, ⟨Lc20, hQ20, l20, y20, z20⟩, st20⟩ := X19.virtualBackUp hx (x := (⟨"com/example/dosisbog/dosisbog/core/Vocabulary", "ordinal", "()I"⟩ : MethodName)) (y := (⟨"java/lang/Enum", "ordinal", "()I"⟩ : MethodName)) (owner := "java/lang/Enum") hown (mvT hZ (hw _ (List.mem_of_getElem? (i := 16) rfl))) (mvT hZ (hw _ (List.mem_of_getElem? (i := 17) rfl))) (mvT hZ (hw _ (List.mem_of_getElem? (i := 18) rfl))) (by decide) (mvT hZ (hw _ (List.mem_of_getElem? (i := 20) rfl))) (mvT hZ (hw _ (List.mem_of_getElem? (i := 19) rfl))) (backOf (W := 1) (rm3 l Z a0 hw [] a1 (1 : Int32) h0 n0 Z0 (P4.ext P0.2)) hZ (hw _ (List.mem_of_getElem? (i := 22) rfl)) (hw _ (List.mem_of_getElem? (i := 21) rfl)) (by decide) (by decide)) q20a q20c (g := (mkF m 4 #[.val (.ref a1)] [(.ref a1), (.ref sm)])) rfl (by rw [hml]; rfl) (Steps.refl _) (argsL := []) (rest := [(.ref sm)]) (lenOf pd_2_0 rfl) rfl (by show 2 * 0 + _ ≤ _; exact Nat.le_of_eq rfl) (hb hby d2_4) (fun _ _ => ⟨rfl, e19, (by decide : 0 + 0 ≤ _), (by decide : 0 + 0 ≤ _)⟩)
  dsimp only [Pt.U, Pt.locs, Pt.cells, Pt.slots] at X20 l20 y20 z20 st20 hQ20
  subst l20 y20 z20
  obtain ⟨rfl, N20q, e20⟩ := hQ20
  have N20 := Fr.app N0 N20q
  refine goT st20 ?_
  show Go _ p e below s _ _ _ (T20.setTop (mkF m 7 #[.val (.ref a1)] [(.int (1 : Int32)), (.ref sm)]))
  obtain ⟨cl21, Ar21, q21, Sz21, Nz21, Hs21, Gs21⟩ := id (P2.ext P0.2)
  have hin21 : ¬ ((1 : Int32) < 0 ∨ cl21.slots.size ≤ ((1 : Int32)).toNatClampNeg) := inb_of Sz21 ⟨by decide, by decide⟩
  refine go (X20.iaload hx (j := (1 : Int32)) (v := (.int (2 : Int32))) (by rw [e20]; exact Ar21.1) (State.isArrayOf_alike hZ.alike Ar21.2.1) Ar21.2.2 hin21 (Hs21.at hin21 rfl) (g := (mkF m 7 #[.val (.ref a1)] [(.int (1 : Int32)), (.ref sm)])) rfl rfl (hb hby d2_7)) ?_
  show Go _ p e below s _ _ _ (T20.setTop (mkF m 8 #[.val (.ref a1)] [(.int (2 : Int32))]))
  refine go (X20.lookupswitchHit hx (g := (mkF m 8 #[.val (.ref a1)] [(.int (2 : Int32))])) rfl (k := (2 : Int32)) (rest := []) rfl (hb hby d2_8) (by decide) (a := 2) (off := 43) (by decide) (by show (0 : Int) ≤ (8 : Nat) + 43; decide)) ?_
  show Go _ p e below s _ _ _ (T20.setTop (mkF m 51 #[.val (.ref a1)] []))
  obtain ⟨t22, T22, h22, k22, bs22, ks22, X22, e22, E22, hS22, hk22, hZ, hown, LE22, LC22, LV22, LA22, -, -, cr22, -, -, st22⟩ := ldcCH X20 hx hZ hown (hw _ (List.mem_of_getElem? (i := 33) rfl)) (own_wS hw) e20 hS0 (Nat.zero_le _) (own_EW hw) (List.mem_of_getElem? (i := 1) rfl) ch0.1 (vs := [(.int (68 : Int32)), (.int (111 : Int32)), (.int (115 : Int32)), (.int (97 : Int32)), (.int (103 : Int32)), (.int (101 : Int32))]) (z := (6 : Int32)) ⟨by decide, by decide⟩ (by decide) (by decide) (g := (mkF m 51 #[.val (.ref a1)] [])) rfl (hb hby d2_51) (n := 24) (by decide) (by decide) (by decide) (by decide)
  have ch22 := ch0.trans cr22
  have KK22 : Keep h0 h22 [] := (Keep.refl h0 []).ext E22
  have ZN22 : n0 ≤ h22.size := Nat.le_trans Z0 E22.1
  have OL22 := P0.ext E22
  refine go st22 ?_
  show Go _ p e below s _ _ _ (T22.setTop (mkF m 53 #[.val (.ref a1)] [(.ref t22)]))
  refine goRetH X22 hZ (own_EW hw) ch22 hh e22 hS22 hk22 hx Bd.notSynchronized Bd.returns rfl (Or.inr (Or.inr (Or.inr (Or.inr ⟨rfl, rfl, rfl⟩)))) (hb hby d2_53) (by decide) (by decide) ⟨t22, bs22, ks22, rfl, N20, KK22, LE22, LC22, LV22, LA22⟩
theorem d4_0 : decode method_3_code 0 = .ok (.aload_n 0, 1) := by decide +kernel
theorem d4_1 : decode method_3_code 1 = .ok (.getstatic 7, 3) := by decide +kernel
theorem d4_4 : decode method_3_code 4 = .ok (.if_acmp .ne 6, 3) := by decide +kernel
theorem d4_7 : decode method_3_code 7 = .ok (.ldc 16, 2) := by decide +kernel
theorem d4_9 : decode method_3_code 9 = .ok (.areturn, 1) := by decide +kernel
theorem pn_X0 : plainName "com/example/dosisbog/dosisbog/documents/DosageReaderRootPinLaw" = true := by first | (simp [plainName, overriddenIn]; done) | decide +kernel
theorem ef_X0 (m : MethodId) (vo0 : Addr) : entryFrame m #[(.ref vo0)] 1 = mkF m 0 #[.val (.ref vo0)] [] := by first | (simp [entryFrame, mkF, argsToLocals, Value.category]; done) | rfl
def QX0 (Z : State) (vo0 : Addr) (h0 : Heap) (n0 : Nat) (v : Option Value) (h : Heap) (L : List Loc) : Prop := ∃ (a : Addr), ∃ (b : Addr), ∃ (k : ClassId), v = some (.ref a) ∧ Fr n0 L ∧ (Keep h0 h []) ∧ (Exa Z h a "java/lang/String") ∧ (Fld Z h a "java/lang/String" "coder" "B" (.int (0 : Int32))) ∧ (Fld Z h a "java/lang/String" "value" "[B" (.ref b)) ∧ (Arv Z h b k .byte (16 : Int32) [(.int (68 : Int32)), (.int (111 : Int32)), (.int (115 : Int32)), (.int (97 : Int32)), (.int (103 : Int32)), (.int (101 : Int32)), (.int (83 : Int32)), (.int (116 : Int32)), (.int (114 : Int32)), (.int (117 : Int32)), (.int (99 : Int32)), (.int (116 : Int32)), (.int (117 : Int32)), (.int (114 : Int32)), (.int (101 : Int32)), (.int (115 : Int32))] (.int (0 : Int32)))
set_option maxRecDepth 65536 in
set_option maxHeartbeats 40000000 in
theorem rmX0 (l : Launch) (Z : State) (a0 : Array Value) (hw : ∀ d ∈ tables_1, d.before a0 Z = true) (ws : List Jvm.Cond) (vo0 : Addr) (h0 : Heap) (n0 : Nat) (Z0 : n0 ≤ h0.size) (P0 : Old Z n0 h0) (P1 : Sta Z Z.heap "com/example/dosisbog/dosisbog/core/Vocabulary" "DOSAGE_STRUCTURES" "Lcom/example/dosisbog/dosisbog/core/Vocabulary;" (.ref vo0)) :
    MetFree l (⟨"com/example/dosisbog/dosisbog/documents/DosageReaderRootPinLaw", "expected", "(Lcom/example/dosisbog/dosisbog/core/Vocabulary;)Ljava/lang/String;"⟩ : MethodName) (head1 (Jvm.Cond.code (⟨"com/example/dosisbog/dosisbog/documents/DosageReaderRootPinLaw", "expected", "(Lcom/example/dosisbog/dosisbog/core/Vocabulary;)Ljava/lang/String;"⟩ : MethodName) method_3_code 1 (some (.object "java/lang/String")) :: ws) ({ frames := 0, cells := 2, slots := 68, locals := 0 } : Room)) (fun a U => a = #[(.ref vo0)] ∧ Z.Warmed39 U.vm ∧ U.heap = h0 ∧ CHv Z own_EL U.vm h0) (fun _ _ _ _ _ => True) (fun _ U o U' => ∃ v L, o = .returned v ∧ QX0 Z vo0 h0 n0 v U'.heap L ∧ CHr Z own_EL U.vm U.heap U'.vm U'.heap ∧ ReturnedEndW U o U' L ({ frames := 0, cells := 2, slots := 68, locals := 0 } : Room).cells ({ frames := 0, cells := 2, slots := 68, locals := 0 } : Room).slots) := by
  refine MetFree.of_bodySF (plainFor_of_name pn_X0) hisR ?_
  intro p e s m args below meth c s₁ Bd hml0 hP hK
  obtain ⟨rfl, hZ, hh, hCH⟩ := hP
  have hx := Bd.exec
  have hby := Bd.bytes
  have hml : c.maxLocals = 1 := hml0
  have hown : s.vm.findClass "com/example/dosisbog/dosisbog/documents/DosageReaderRootPinLaw" = some m.cls := findClass_of_methodNamed Bd.named
  have hnm := (name_of_methodNamed Bd.named Bd.method).1
  have X0 : Stand p l e ({ frames := 0, cells := 2, slots := 68, locals := 0 } : Room) (s.setVm s.vm) m #[(.ref vo0)] below meth c s₁ [] 0 0 := Stand.of_body Bd
  have e0 : s₁.heap = h0 := by rw [← hh, Bd.state]; rfl
  have N0 := Fr.nil n0
  have hS0 : s.Since s.vm 0 := (State.WarmedH.refl s).since 0
  have ch0 := CHr.refl hCH
  show Go (own_EndH Z) p e below s ({ frames := 0, cells := 2, slots := 68, locals := 0 } : Room).cells ({ frames := 0, cells := 2, slots := 68, locals := 0 } : Room).slots (QX0 Z vo0 h0 n0) (s₁.setTop (entryFrame m #[(.ref vo0)] 1))
  refine go (fun _ k => castTop (ef_X0 m vo0) k) ?_
  show Go _ p e below s _ _ _ (s₁.setTop (mkF m 0 #[.val (.ref vo0)] []))
  refine go (fun _ => XS.aloadN X0.here hx rfl (hb hby d4_0) rfl rfl) ?_
  show Go _ p e below s _ _ _ (s₁.setTop (mkF m 1 #[.val (.ref vo0)] [(.ref vo0)]))
  obtain ⟨T25, X25, e25, st25⟩ := getS2 X0 hx hZ hown (host := "") (Or.inl (hw _ (List.mem_of_getElem? (i := 4) rfl))) Via.refl e0 (P1.ext P0.2) (g := (mkF m 1 #[.val (.ref vo0)] [(.ref vo0)])) rfl (hb hby d4_1)
  refine go st25 ?_
  show Go _ p e below s _ _ _ (T25.setTop (mkF m 4 #[.val (.ref vo0)] [(.ref vo0), (.ref vo0)]))
  refine go (fun _ => Jvm.RoadKit.acmp (g := (mkF m 4 #[.val (.ref vo0)] [(.ref vo0), (.ref vo0)])) X25 hx rfl rfl rfl (pc0 := 4) (pc' := 7) (same := true) rfl (hb hby d4_4) rfl (decide_eq_true rfl) (by decide) (by decide)) ?_
  show Go _ p e below s _ _ _ (T25.setTop (mkF m 7 #[.val (.ref vo0)] []))
  obtain ⟨t26, T26, h26, k26, bs26, ks26, X26, e26, E26, hS26, hk26, hZ, hown, LE26, LC26, LV26, LA26, -, -, cr26, -, -, st26⟩ := ldcCH X25 hx hZ hown (hw _ (List.mem_of_getElem? (i := 37) rfl)) (own_wS hw) e25 hS0 (Nat.zero_le _) (own_EW hw) (List.mem_of_getElem? (i := 2) rfl) ch0.1 (vs := [(.int (68 : Int32)), (.int (111 : Int32)), (.int (115 : Int32)), (.int (97 : Int32)), (.int (103 : Int32)), (.int (101 : Int32)), (.int (83 : Int32)), (.int (116 : Int32)), (.int (114 : Int32)), (.int (117 : Int32)), (.int (99 : Int32)), (.int (116 : Int32)), (.int (117 : Int32)), (.int (114 : Int32)), (.int (101 : Int32)), (.int (115 : Int32))]) (z := (16 : Int32)) ⟨by decide, by decide⟩ (by decide) (by decide) (g := (mkF m 7 #[.val (.ref vo0)] [])) rfl (hb hby d4_7) (n := 64) (by decide) (by decide) (by decide) (by decide)
  have ch26 := ch0.trans cr26
  have KK26 : Keep h0 h26 [] := (Keep.refl h0 []).ext E26
  have ZN26 : n0 ≤ h26.size := Nat.le_trans Z0 E26.1
  have OL26 := P0.ext E26
  refine go st26 ?_
  show Go _ p e below s _ _ _ (T26.setTop (mkF m 9 #[.val (.ref vo0)] [(.ref t26)]))
  refine goRetH X26 hZ (own_EW hw) ch26 hh e26 hS26 hk26 hx Bd.notSynchronized Bd.returns rfl (Or.inr (Or.inr (Or.inr (Or.inr ⟨rfl, rfl, rfl⟩)))) (hb hby d4_9) (by decide) (by decide) ⟨t26, bs26, ks26, rfl, N0, KK26, LE26, LC26, LV26, LA26⟩
theorem d4_10 : decode method_3_code 10 = .ok (.ldc 18, 2) := by decide +kernel
theorem d4_12 : decode method_3_code 12 = .ok (.areturn, 1) := by decide +kernel
theorem pn_X1 : plainName "com/example/dosisbog/dosisbog/documents/DosageReaderRootPinLaw" = true := by first | (simp [plainName, overriddenIn]; done) | decide +kernel
theorem ef_X1 (m : MethodId) (a1 : Addr) : entryFrame m #[(.ref a1)] 1 = mkF m 0 #[.val (.ref a1)] [] := by first | (simp [entryFrame, mkF, argsToLocals, Value.category]; done) | rfl
def QX1 (Z : State) (a1 : Addr) (vo0 : Addr) (h0 : Heap) (n0 : Nat) (v : Option Value) (h : Heap) (L : List Loc) : Prop := ∃ (a : Addr), ∃ (b : Addr), ∃ (k : ClassId), v = some (.ref a) ∧ Fr n0 L ∧ (Keep h0 h []) ∧ (Exa Z h a "java/lang/String") ∧ (Fld Z h a "java/lang/String" "coder" "B" (.int (0 : Int32))) ∧ (Fld Z h a "java/lang/String" "value" "[B" (.ref b)) ∧ (Arv Z h b k .byte (6 : Int32) [(.int (68 : Int32)), (.int (111 : Int32)), (.int (115 : Int32)), (.int (97 : Int32)), (.int (103 : Int32)), (.int (101 : Int32))] (.int (0 : Int32)))
set_option maxRecDepth 65536 in
set_option maxHeartbeats 40000000 in
theorem rmX1 (l : Launch) (Z : State) (a0 : Array Value) (hw : ∀ d ∈ tables_1, d.before a0 Z = true) (ws : List Jvm.Cond) (a1 : Addr) (vo0 : Addr) (h0 : Heap) (n0 : Nat) (Z0 : n0 ≤ h0.size) (P0 : Old Z n0 h0) (P1 : Sta Z Z.heap "com/example/dosisbog/dosisbog/core/Vocabulary" "DOSAGE_STRUCTURES" "Lcom/example/dosisbog/dosisbog/core/Vocabulary;" (.ref vo0)) (hne : a1 ≠ vo0) :
    MetFree l (⟨"com/example/dosisbog/dosisbog/documents/DosageReaderRootPinLaw", "expected", "(Lcom/example/dosisbog/dosisbog/core/Vocabulary;)Ljava/lang/String;"⟩ : MethodName) (head1 (Jvm.Cond.code (⟨"com/example/dosisbog/dosisbog/documents/DosageReaderRootPinLaw", "expected", "(Lcom/example/dosisbog/dosisbog/core/Vocabulary;)Ljava/lang/String;"⟩ : MethodName) method_3_code 1 (some (.object "java/lang/String")) :: ws) ({ frames := 0, cells := 2, slots := 28, locals := 0 } : Room)) (fun a U => a = #[(.ref a1)] ∧ Z.Warmed39 U.vm ∧ U.heap = h0 ∧ CHv Z own_EL U.vm h0) (fun _ _ _ _ _ => True) (fun _ U o U' => ∃ v L, o = .returned v ∧ QX1 Z a1 vo0 h0 n0 v U'.heap L ∧ CHr Z own_EL U.vm U.heap U'.vm U'.heap ∧ ReturnedEndW U o U' L ({ frames := 0, cells := 2, slots := 28, locals := 0 } : Room).cells ({ frames := 0, cells := 2, slots := 28, locals := 0 } : Room).slots) := by
  refine MetFree.of_bodySF (plainFor_of_name pn_X1) hisR ?_
  intro p e s m args below meth c s₁ Bd hml0 hP hK
  obtain ⟨rfl, hZ, hh, hCH⟩ := hP
  have hx := Bd.exec
  have hby := Bd.bytes
  have hml : c.maxLocals = 1 := hml0
  have hown : s.vm.findClass "com/example/dosisbog/dosisbog/documents/DosageReaderRootPinLaw" = some m.cls := findClass_of_methodNamed Bd.named
  have hnm := (name_of_methodNamed Bd.named Bd.method).1
  have X0 : Stand p l e ({ frames := 0, cells := 2, slots := 28, locals := 0 } : Room) (s.setVm s.vm) m #[(.ref a1)] below meth c s₁ [] 0 0 := Stand.of_body Bd
  have e0 : s₁.heap = h0 := by rw [← hh, Bd.state]; rfl
  have N0 := Fr.nil n0
  have hS0 : s.Since s.vm 0 := (State.WarmedH.refl s).since 0
  have ch0 := CHr.refl hCH
  show Go (own_EndH Z) p e below s ({ frames := 0, cells := 2, slots := 28, locals := 0 } : Room).cells ({ frames := 0, cells := 2, slots := 28, locals := 0 } : Room).slots (QX1 Z a1 vo0 h0 n0) (s₁.setTop (entryFrame m #[(.ref a1)] 1))
  refine go (fun _ k => castTop (ef_X1 m a1) k) ?_
  show Go _ p e below s _ _ _ (s₁.setTop (mkF m 0 #[.val (.ref a1)] []))
  refine go (fun _ => XS.aloadN X0.here hx rfl (hb hby d4_0) rfl rfl) ?_
  show Go _ p e below s _ _ _ (s₁.setTop (mkF m 1 #[.val (.ref a1)] [(.ref a1)]))
  obtain ⟨T29, X29, e29, st29⟩ := getS2 X0 hx hZ hown (host := "") (Or.inl (hw _ (List.mem_of_getElem? (i := 4) rfl))) Via.refl e0 (P1.ext P0.2) (g := (mkF m 1 #[.val (.ref a1)] [(.ref a1)])) rfl (hb hby d4_1)
  refine go st29 ?_
  show Go _ p e below s _ _ _ (T29.setTop (mkF m 4 #[.val (.ref a1)] [(.ref vo0), (.ref a1)]))
  refine go (fun _ => Jvm.RoadKit.acmp (g := (mkF m 4 #[.val (.ref a1)] [(.ref vo0), (.ref a1)])) X29 hx rfl rfl rfl (pc0 := 4) (pc' := 10) (same := false) rfl (hb hby d4_4) rfl (decide_eq_false fun qq => hne (Value.ref.inj qq)) (by decide) (by decide)) ?_
  show Go _ p e below s _ _ _ (T29.setTop (mkF m 10 #[.val (.ref a1)] []))
  obtain ⟨t30, T30, h30, k30, bs30, ks30, X30, e30, E30, hS30, hk30, hZ, hown, LE30, LC30, LV30, LA30, -, -, cr30, -, -, st30⟩ := ldcCH X29 hx hZ hown (hw _ (List.mem_of_getElem? (i := 43) rfl)) (own_wS hw) e29 hS0 (Nat.zero_le _) (own_EW hw) (List.mem_of_getElem? (i := 3) rfl) ch0.1 (vs := [(.int (68 : Int32)), (.int (111 : Int32)), (.int (115 : Int32)), (.int (97 : Int32)), (.int (103 : Int32)), (.int (101 : Int32))]) (z := (6 : Int32)) ⟨by decide, by decide⟩ (by decide) (by decide) (g := (mkF m 10 #[.val (.ref a1)] [])) rfl (hb hby d4_10) (n := 24) (by decide) (by decide) (by decide) (by decide)
  have ch30 := ch0.trans cr30
  have KK30 : Keep h0 h30 [] := (Keep.refl h0 []).ext E30
  have ZN30 : n0 ≤ h30.size := Nat.le_trans Z0 E30.1
  have OL30 := P0.ext E30
  refine go st30 ?_
  show Go _ p e below s _ _ _ (T30.setTop (mkF m 12 #[.val (.ref a1)] [(.ref t30)]))
  refine goRetH X30 hZ (own_EW hw) ch30 hh e30 hS30 hk30 hx Bd.notSynchronized Bd.returns rfl (Or.inr (Or.inr (Or.inr (Or.inr ⟨rfl, rfl, rfl⟩)))) (hb hby d4_12) (by decide) (by decide) ⟨t30, bs30, ks30, rfl, N0, KK30, LE30, LC30, LV30, LA30⟩
theorem d6_0 : decode jdk_43_method_13_code 0 = .ok (.aload_n 0, 1) := by decide +kernel
theorem d6_1 : decode jdk_43_method_13_code 1 = .ok (.arraylength, 1) := by decide +kernel
theorem d6_2 : decode jdk_43_method_13_code 2 = .ok (.aload_n 1, 1) := by decide +kernel
theorem d6_3 : decode jdk_43_method_13_code 3 = .ok (.arraylength, 1) := by decide +kernel
theorem d6_4 : decode jdk_43_method_13_code 4 = .ok (.if_icmp .ne 30, 3) := by decide +kernel
theorem d6_7 : decode jdk_43_method_13_code 7 = .ok (.iconst 0, 1) := by decide +kernel
theorem d6_8 : decode jdk_43_method_13_code 8 = .ok (.istore_n 2, 1) := by decide +kernel
theorem d6_9 : decode jdk_43_method_13_code 9 = .ok (.iload_n 2, 1) := by decide +kernel
theorem d6_10 : decode jdk_43_method_13_code 10 = .ok (.aload_n 0, 1) := by decide +kernel
theorem d6_11 : decode jdk_43_method_13_code 11 = .ok (.arraylength, 1) := by decide +kernel
theorem d6_12 : decode jdk_43_method_13_code 12 = .ok (.if_icmp .ge 20, 3) := by decide +kernel
theorem d6_15 : decode jdk_43_method_13_code 15 = .ok (.aload_n 0, 1) := by decide +kernel
theorem d6_16 : decode jdk_43_method_13_code 16 = .ok (.iload_n 2, 1) := by decide +kernel
theorem d6_17 : decode jdk_43_method_13_code 17 = .ok (.baload, 1) := by decide +kernel
theorem d6_18 : decode jdk_43_method_13_code 18 = .ok (.aload_n 1, 1) := by decide +kernel
theorem d6_19 : decode jdk_43_method_13_code 19 = .ok (.iload_n 2, 1) := by decide +kernel
theorem d6_20 : decode jdk_43_method_13_code 20 = .ok (.baload, 1) := by decide +kernel
theorem d6_21 : decode jdk_43_method_13_code 21 = .ok (.if_icmp .eq 5, 3) := by decide +kernel
theorem d6_26 : decode jdk_43_method_13_code 26 = .ok (.iinc 2 1, 3) := by decide +kernel
theorem d6_29 : decode jdk_43_method_13_code 29 = .ok (.goto (-20), 3) := by decide +kernel
theorem d6_32 : decode jdk_43_method_13_code 32 = .ok (.iconst 1, 1) := by decide +kernel
theorem d6_33 : decode jdk_43_method_13_code 33 = .ok (.ireturn, 1) := by decide +kernel
theorem pn_L00 : plainName "java/lang/StringLatin1" = true := by first | (simp [plainName, overriddenIn]; done) | decide +kernel
theorem ef_L00 (m : MethodId) (b1 : Addr) (b2 : Addr) : entryFrame m #[(.ref b1), (.ref b2)] 3 = mkF m 0 #[.val (.ref b1), .val (.ref b2), .unset] [] := by first | (simp [entryFrame, mkF, argsToLocals, Value.category]; done) | rfl
def QL00 (Z : State) (b1 : Addr) (b2 : Addr) (k1 : ClassId) (k2 : ClassId) (h0 : Heap) (n0 : Nat) (v : Option Value) (h : Heap) (L : List Loc) : Prop := v = some (.int (1 : Int32)) ∧ Fr n0 L ∧ (h = h0)
set_option maxRecDepth 65536 in
set_option maxHeartbeats 40000000 in
theorem rmL00 (l : Launch) (Z : State) (a0 : Array Value) (hw : ∀ d ∈ tables_1, d.before a0 Z = true) (ws : List Jvm.Cond) (b1 : Addr) (b2 : Addr) (k1 : ClassId) (k2 : ClassId) (h0 : Heap) (n0 : Nat) (Z0 : n0 ≤ h0.size) (P0 : Arv Z h0 b1 k1 .byte (16 : Int32) [(.int (68 : Int32)), (.int (111 : Int32)), (.int (115 : Int32)), (.int (97 : Int32)), (.int (103 : Int32)), (.int (101 : Int32)), (.int (83 : Int32)), (.int (116 : Int32)), (.int (114 : Int32)), (.int (117 : Int32)), (.int (99 : Int32)), (.int (116 : Int32)), (.int (117 : Int32)), (.int (114 : Int32)), (.int (101 : Int32)), (.int (115 : Int32))] (.int (0 : Int32))) (P1 : Arv Z h0 b2 k2 .byte (16 : Int32) [(.int (68 : Int32)), (.int (111 : Int32)), (.int (115 : Int32)), (.int (97 : Int32)), (.int (103 : Int32)), (.int (101 : Int32)), (.int (83 : Int32)), (.int (116 : Int32)), (.int (114 : Int32)), (.int (117 : Int32)), (.int (99 : Int32)), (.int (116 : Int32)), (.int (117 : Int32)), (.int (114 : Int32)), (.int (101 : Int32)), (.int (115 : Int32))] (.int (0 : Int32))) :
    MetFree l (⟨"java/lang/StringLatin1", "equals", "([B[B)Z"⟩ : MethodName) (head1 (Jvm.Cond.code (⟨"java/lang/StringLatin1", "equals", "([B[B)Z"⟩ : MethodName) jdk_43_method_13_code 3 (some .boolean) :: ws) ({ frames := 0, cells := 0, slots := 0, locals := 0 } : Room)) (fun a U => a = #[(.ref b1), (.ref b2)] ∧ Z.Warmed39 U.vm ∧ U.heap = h0) (fun _ _ _ _ _ => True) (fun _ U o U' => ∃ v L, o = .returned v ∧ QL00 Z b1 b2 k1 k2 h0 n0 v U'.heap L ∧ FrameEnd U o U' L ({ frames := 0, cells := 0, slots := 0, locals := 0 } : Room).cells ({ frames := 0, cells := 0, slots := 0, locals := 0 } : Room).slots) := by
  refine MetFree.of_bodySF (plainFor_of_name pn_L00) hisR ?_
  intro p e s m args below meth c s₁ Bd hml0 hP hK
  obtain ⟨rfl, hZ, hh⟩ := hP
  have hx := Bd.exec
  have hby := Bd.bytes
  have hml : c.maxLocals = 3 := hml0
  have hown : s.vm.findClass "java/lang/StringLatin1" = some m.cls := findClass_of_methodNamed Bd.named
  have hnm := (name_of_methodNamed Bd.named Bd.method).1
  have X0 : Stand p l e ({ frames := 0, cells := 0, slots := 0, locals := 0 } : Room) s m #[(.ref b1), (.ref b2)] below meth c s₁ [] 0 0 := Stand.of_body Bd
  have e0 : s₁.heap = h0 := by rw [← hh, Bd.state]; rfl
  have N0 := Fr.nil n0
  have hS0 : s.Since s.vm 0 := (State.WarmedH.refl s).since 0
  show Go (FrameEnd) p e below s ({ frames := 0, cells := 0, slots := 0, locals := 0 } : Room).cells ({ frames := 0, cells := 0, slots := 0, locals := 0 } : Room).slots (QL00 Z b1 b2 k1 k2 h0 n0) (s₁.setTop (entryFrame m #[(.ref b1), (.ref b2)] 3))
  refine go (fun _ k => castTop (ef_L00 m b1 b2) k) ?_
  show Go _ p e below s _ _ _ (s₁.setTop (mkF m 0 #[.val (.ref b1), .val (.ref b2), .unset] []))
  refine go (fun _ => XS.aloadN X0.here hx rfl (hb hby d6_0) rfl rfl) ?_
  show Go _ p e below s _ _ _ (s₁.setTop (mkF m 1 #[.val (.ref b1), .val (.ref b2), .unset] [(.ref b1)]))
  obtain ⟨cl82, Ar82, -, Sz82, Nz82, -, -⟩ := id P0
  refine go (X0.arraylength hx (by rw [e0]; exact Ar82.1) (State.isArrayOf_alike hZ.alike Ar82.2.1) (g := (mkF m 1 #[.val (.ref b1), .val (.ref b2), .unset] [(.ref b1)])) rfl rfl (hb hby d6_1)) ?_
  rw [len_of Sz82 Nz82]
  show Go _ p e below s _ _ _ (s₁.setTop (mkF m 2 #[.val (.ref b1), .val (.ref b2), .unset] [(.int (16 : Int32))]))
  refine go (fun _ => XS.aloadN X0.here hx rfl (hb hby d6_2) rfl rfl) ?_
  show Go _ p e below s _ _ _ (s₁.setTop (mkF m 3 #[.val (.ref b1), .val (.ref b2), .unset] [(.ref b2), (.int (16 : Int32))]))
  obtain ⟨cl83, Ar83, -, Sz83, Nz83, -, -⟩ := id P1
  refine go (X0.arraylength hx (by rw [e0]; exact Ar83.1) (State.isArrayOf_alike hZ.alike Ar83.2.1) (g := (mkF m 3 #[.val (.ref b1), .val (.ref b2), .unset] [(.ref b2), (.int (16 : Int32))])) rfl rfl (hb hby d6_3)) ?_
  rw [len_of Sz83 Nz83]
  show Go _ p e below s _ _ _ (s₁.setTop (mkF m 4 #[.val (.ref b1), .val (.ref b2), .unset] [(.int (16 : Int32)), (.int (16 : Int32))]))
  refine go (fun _ => XS.icmpNo X0.here hx rfl (hb hby d6_4) rfl (teq (rfl : (16 : Int32) = (16 : Int32))).2) ?_
  show Go _ p e below s _ _ _ (s₁.setTop (mkF m 7 #[.val (.ref b1), .val (.ref b2), .unset] []))
  refine go (fun _ => XS.iconst X0.here hx rfl (hb hby d6_7)) ?_
  show Go _ p e below s _ _ _ (s₁.setTop (mkF m 8 #[.val (.ref b1), .val (.ref b2), .unset] [(.int (0 : Int32))]))
  refine go (fun _ => XS.istoreN X0.here hx rfl (hb hby d6_8) rfl (l' := #[.val (.ref b1), .val (.ref b2), .val (.int (0 : Int32))]) rfl) ?_
  show Go _ p e below s _ _ _ (s₁.setTop (mkF m 9 #[.val (.ref b1), .val (.ref b2), .val (.int (0 : Int32))] []))
  refine go (fun _ => XS.iloadN X0.here hx rfl (hb hby d6_9) rfl) ?_
  show Go _ p e below s _ _ _ (s₁.setTop (mkF m 10 #[.val (.ref b1), .val (.ref b2), .val (.int (0 : Int32))] [(.int (0 : Int32))]))
  refine go (fun _ => XS.aloadN X0.here hx rfl (hb hby d6_10) rfl rfl) ?_
  show Go _ p e below s _ _ _ (s₁.setTop (mkF m 11 #[.val (.ref b1), .val (.ref b2), .val (.int (0 : Int32))] [(.ref b1), (.int (0 : Int32))]))
  obtain ⟨cl84, Ar84, -, Sz84, Nz84, -, -⟩ := id P0
  refine go (X0.arraylength hx (by rw [e0]; exact Ar84.1) (State.isArrayOf_alike hZ.alike Ar84.2.1) (g := (mkF m 11 #[.val (.ref b1), .val (.ref b2), .val (.int (0 : Int32))] [(.ref b1), (.int (0 : Int32))])) rfl rfl (hb hby d6_11)) ?_
  rw [len_of Sz84 Nz84]
  show Go _ p e below s _ _ _ (s₁.setTop (mkF m 12 #[.val (.ref b1), .val (.ref b2), .val (.int (0 : Int32))] [(.int (16 : Int32)), (.int (0 : Int32))]))
  refine go (fun _ => XS.icmpNo X0.here hx rfl (hb hby d6_12) rfl (tlt (by decide : ((0 : Int32) < (16 : Int32)))).2.1) ?_
  show Go _ p e below s _ _ _ (s₁.setTop (mkF m 15 #[.val (.ref b1), .val (.ref b2), .val (.int (0 : Int32))] []))
  refine go (fun _ => XS.aloadN X0.here hx rfl (hb hby d6_15) rfl rfl) ?_
  show Go _ p e below s _ _ _ (s₁.setTop (mkF m 16 #[.val (.ref b1), .val (.ref b2), .val (.int (0 : Int32))] [(.ref b1)]))
  refine go (fun _ => XS.iloadN X0.here hx rfl (hb hby d6_16) rfl) ?_
  show Go _ p e below s _ _ _ (s₁.setTop (mkF m 17 #[.val (.ref b1), .val (.ref b2), .val (.int (0 : Int32))] [(.int (0 : Int32)), (.ref b1)]))
  obtain ⟨cl85, Ar85, q85, Sz85, Nz85, Hs85, Gs85⟩ := id P0
  have hin85 : ¬ ((0 : Int32) < 0 ∨ cl85.slots.size ≤ ((0 : Int32)).toNatClampNeg) := inb_of Sz85 ⟨by decide, by decide⟩
  refine go (X0.baloadBytes hx (j := (0 : Int32)) (v := (.int (68 : Int32))) (by rw [e0]; exact Ar85.1) (State.isArrayOf_alike hZ.alike Ar85.2.1) Ar85.2.2 hin85 (Hs85.at hin85 rfl) (g := (mkF m 17 #[.val (.ref b1), .val (.ref b2), .val (.int (0 : Int32))] [(.int (0 : Int32)), (.ref b1)])) rfl rfl (hb hby d6_17)) ?_
  show Go _ p e below s _ _ _ (s₁.setTop (mkF m 18 #[.val (.ref b1), .val (.ref b2), .val (.int (0 : Int32))] [(.int (68 : Int32))]))
  refine go (fun _ => XS.aloadN X0.here hx rfl (hb hby d6_18) rfl rfl) ?_
  show Go _ p e below s _ _ _ (s₁.setTop (mkF m 19 #[.val (.ref b1), .val (.ref b2), .val (.int (0 : Int32))] [(.ref b2), (.int (68 : Int32))]))
  refine go (fun _ => XS.iloadN X0.here hx rfl (hb hby d6_19) rfl) ?_
  show Go _ p e below s _ _ _ (s₁.setTop (mkF m 20 #[.val (.ref b1), .val (.ref b2), .val (.int (0 : Int32))] [(.int (0 : Int32)), (.ref b2), (.int (68 : Int32))]))
  obtain ⟨cl86, Ar86, q86, Sz86, Nz86, Hs86, Gs86⟩ := id P1
  have hin86 : ¬ ((0 : Int32) < 0 ∨ cl86.slots.size ≤ ((0 : Int32)).toNatClampNeg) := inb_of Sz86 ⟨by decide, by decide⟩
  refine go (X0.baloadBytes hx (j := (0 : Int32)) (v := (.int (68 : Int32))) (by rw [e0]; exact Ar86.1) (State.isArrayOf_alike hZ.alike Ar86.2.1) Ar86.2.2 hin86 (Hs86.at hin86 rfl) (g := (mkF m 20 #[.val (.ref b1), .val (.ref b2), .val (.int (0 : Int32))] [(.int (0 : Int32)), (.ref b2), (.int (68 : Int32))])) rfl rfl (hb hby d6_20)) ?_
  show Go _ p e below s _ _ _ (s₁.setTop (mkF m 21 #[.val (.ref b1), .val (.ref b2), .val (.int (0 : Int32))] [(.int (68 : Int32)), (.int (68 : Int32))]))
  refine go (fun _ => XS.icmpYes X0.here hx rfl (pc0 := 21) (pc' := 26) rfl (hb hby d6_21) rfl (teq (rfl : (68 : Int32) = (68 : Int32))).1 (by decide) (by decide)) ?_
  show Go _ p e below s _ _ _ (s₁.setTop (mkF m 26 #[.val (.ref b1), .val (.ref b2), .val (.int (0 : Int32))] []))
  refine go (fun _ => XS.iinc X0.here hx rfl (hb hby d6_26) rfl (l' := #[.val (.ref b1), .val (.ref b2), .val (.int (1 : Int32))]) rfl) ?_
  show Go _ p e below s _ _ _ (s₁.setTop (mkF m 29 #[.val (.ref b1), .val (.ref b2), .val (.int (1 : Int32))] []))
  refine go (fun _ => XS.goto X0.here hx rfl (pc0 := 29) (pc' := 9) rfl (hb hby d6_29) (by decide) (by decide)) ?_
  show Go _ p e below s _ _ _ (s₁.setTop (mkF m 9 #[.val (.ref b1), .val (.ref b2), .val (.int (1 : Int32))] []))
  refine go (fun _ => XS.iloadN X0.here hx rfl (hb hby d6_9) rfl) ?_
  show Go _ p e below s _ _ _ (s₁.setTop (mkF m 10 #[.val (.ref b1), .val (.ref b2), .val (.int (1 : Int32))] [(.int (1 : Int32))]))
  refine go (fun _ => XS.aloadN X0.here hx rfl (hb hby d6_10) rfl rfl) ?_
  show Go _ p e below s _ _ _ (s₁.setTop (mkF m 11 #[.val (.ref b1), .val (.ref b2), .val (.int (1 : Int32))] [(.ref b1), (.int (1 : Int32))]))
  obtain ⟨cl87, Ar87, -, Sz87, Nz87, -, -⟩ := id P0
  refine go (X0.arraylength hx (by rw [e0]; exact Ar87.1) (State.isArrayOf_alike hZ.alike Ar87.2.1) (g := (mkF m 11 #[.val (.ref b1), .val (.ref b2), .val (.int (1 : Int32))] [(.ref b1), (.int (1 : Int32))])) rfl rfl (hb hby d6_11)) ?_
  rw [len_of Sz87 Nz87]
  show Go _ p e below s _ _ _ (s₁.setTop (mkF m 12 #[.val (.ref b1), .val (.ref b2), .val (.int (1 : Int32))] [(.int (16 : Int32)), (.int (1 : Int32))]))
  refine go (fun _ => XS.icmpNo X0.here hx rfl (hb hby d6_12) rfl (tlt (by decide : ((1 : Int32) < (16 : Int32)))).2.1) ?_
  show Go _ p e below s _ _ _ (s₁.setTop (mkF m 15 #[.val (.ref b1), .val (.ref b2), .val (.int (1 : Int32))] []))
  refine go (fun _ => XS.aloadN X0.here hx rfl (hb hby d6_15) rfl rfl) ?_
  show Go _ p e below s _ _ _ (s₁.setTop (mkF m 16 #[.val (.ref b1), .val (.ref b2), .val (.int (1 : Int32))] [(.ref b1)]))
  refine go (fun _ => XS.iloadN X0.here hx rfl (hb hby d6_16) rfl) ?_
  show Go _ p e below s _ _ _ (s₁.setTop (mkF m 17 #[.val (.ref b1), .val (.ref b2), .val (.int (1 : Int32))] [(.int (1 : Int32)), (.ref b1)]))
  obtain ⟨cl88, Ar88, q88, Sz88, Nz88, Hs88, Gs88⟩ := id P0
  have hin88 : ¬ ((1 : Int32) < 0 ∨ cl88.slots.size ≤ ((1 : Int32)).toNatClampNeg) := inb_of Sz88 ⟨by decide, by decide⟩
  refine go (X0.baloadBytes hx (j := (1 : Int32)) (v := (.int (111 : Int32))) (by rw [e0]; exact Ar88.1) (State.isArrayOf_alike hZ.alike Ar88.2.1) Ar88.2.2 hin88 (Hs88.at hin88 rfl) (g := (mkF m 17 #[.val (.ref b1), .val (.ref b2), .val (.int (1 : Int32))] [(.int (1 : Int32)), (.ref b1)])) rfl rfl (hb hby d6_17)) ?_
  show Go _ p e below s _ _ _ (s₁.setTop (mkF m 18 #[.val (.ref b1), .val (.ref b2), .val (.int (1 : Int32))] [(.int (111 : Int32))]))
  refine go (fun _ => XS.aloadN X0.here hx rfl (hb hby d6_18) rfl rfl) ?_
  show Go _ p e below s _ _ _ (s₁.setTop (mkF m 19 #[.val (.ref b1), .val (.ref b2), .val (.int (1 : Int32))] [(.ref b2), (.int (111 : Int32))]))
  refine go (fun _ => XS.iloadN X0.here hx rfl (hb hby d6_19) rfl) ?_
  show Go _ p e below s _ _ _ (s₁.setTop (mkF m 20 #[.val (.ref b1), .val (.ref b2), .val (.int (1 : Int32))] [(.int (1 : Int32)), (.ref b2), (.int (111 : Int32))]))
  obtain ⟨cl89, Ar89, q89, Sz89, Nz89, Hs89, Gs89⟩ := id P1
  have hin89 : ¬ ((1 : Int32) < 0 ∨ cl89.slots.size ≤ ((1 : Int32)).toNatClampNeg) := inb_of Sz89 ⟨by decide, by decide⟩
  refine go (X0.baloadBytes hx (j := (1 : Int32)) (v := (.int (111 : Int32))) (by rw [e0]; exact Ar89.1) (State.isArrayOf_alike hZ.alike Ar89.2.1) Ar89.2.2 hin89 (Hs89.at hin89 rfl) (g := (mkF m 20 #[.val (.ref b1), .val (.ref b2), .val (.int (1 : Int32))] [(.int (1 : Int32)), (.ref b2), (.int (111 : Int32))])) rfl rfl (hb hby d6_20)) ?_
  show Go _ p e below s _ _ _ (s₁.setTop (mkF m 21 #[.val (.ref b1), .val (.ref b2), .val (.int (1 : Int32))] [(.int (111 : Int32)), (.int (111 : Int32))]))
  refine go (fun _ => XS.icmpYes X0.here hx rfl (pc0 := 21) (pc' := 26) rfl (hb hby d6_21) rfl (teq (rfl : (111 : Int32) = (111 : Int32))).1 (by decide) (by decide)) ?_
  show Go _ p e below s _ _ _ (s₁.setTop (mkF m 26 #[.val (.ref b1), .val (.ref b2), .val (.int (1 : Int32))] []))
  refine go (fun _ => XS.iinc X0.here hx rfl (hb hby d6_26) rfl (l' := #[.val (.ref b1), .val (.ref b2), .val (.int (2 : Int32))]) rfl) ?_
  show Go _ p e below s _ _ _ (s₁.setTop (mkF m 29 #[.val (.ref b1), .val (.ref b2), .val (.int (2 : Int32))] []))
  refine go (fun _ => XS.goto X0.here hx rfl (pc0 := 29) (pc' := 9) rfl (hb hby d6_29) (by decide) (by decide)) ?_
  show Go _ p e below s _ _ _ (s₁.setTop (mkF m 9 #[.val (.ref b1), .val (.ref b2), .val (.int (2 : Int32))] []))
  refine go (fun _ => XS.iloadN X0.here hx rfl (hb hby d6_9) rfl) ?_
  show Go _ p e below s _ _ _ (s₁.setTop (mkF m 10 #[.val (.ref b1), .val (.ref b2), .val (.int (2 : Int32))] [(.int (2 : Int32))]))
  refine go (fun _ => XS.aloadN X0.here hx rfl (hb hby d6_10) rfl rfl) ?_
  show Go _ p e below s _ _ _ (s₁.setTop (mkF m 11 #[.val (.ref b1), .val (.ref b2), .val (.int (2 : Int32))] [(.ref b1), (.int (2 : Int32))]))
  obtain ⟨cl90, Ar90, -, Sz90, Nz90, -, -⟩ := id P0
  refine go (X0.arraylength hx (by rw [e0]; exact Ar90.1) (State.isArrayOf_alike hZ.alike Ar90.2.1) (g := (mkF m 11 #[.val (.ref b1), .val (.ref b2), .val (.int (2 : Int32))] [(.ref b1), (.int (2 : Int32))])) rfl rfl (hb hby d6_11)) ?_
  rw [len_of Sz90 Nz90]
  show Go _ p e below s _ _ _ (s₁.setTop (mkF m 12 #[.val (.ref b1), .val (.ref b2), .val (.int (2 : Int32))] [(.int (16 : Int32)), (.int (2 : Int32))]))
  refine go (fun _ => XS.icmpNo X0.here hx rfl (hb hby d6_12) rfl (tlt (by decide : ((2 : Int32) < (16 : Int32)))).2.1) ?_
  show Go _ p e below s _ _ _ (s₁.setTop (mkF m 15 #[.val (.ref b1), .val (.ref b2), .val (.int (2 : Int32))] []))
  refine go (fun _ => XS.aloadN X0.here hx rfl (hb hby d6_15) rfl rfl) ?_
  show Go _ p e below s _ _ _ (s₁.setTop (mkF m 16 #[.val (.ref b1), .val (.ref b2), .val (.int (2 : Int32))] [(.ref b1)]))
  refine go (fun _ => XS.iloadN X0.here hx rfl (hb hby d6_16) rfl) ?_
  show Go _ p e below s _ _ _ (s₁.setTop (mkF m 17 #[.val (.ref b1), .val (.ref b2), .val (.int (2 : Int32))] [(.int (2 : Int32)), (.ref b1)]))
  obtain ⟨cl91, Ar91, q91, Sz91, Nz91, Hs91, Gs91⟩ := id P0
  have hin91 : ¬ ((2 : Int32) < 0 ∨ cl91.slots.size ≤ ((2 : Int32)).toNatClampNeg) := inb_of Sz91 ⟨by decide, by decide⟩
  refine go (X0.baloadBytes hx (j := (2 : Int32)) (v := (.int (115 : Int32))) (by rw [e0]; exact Ar91.1) (State.isArrayOf_alike hZ.alike Ar91.2.1) Ar91.2.2 hin91 (Hs91.at hin91 rfl) (g := (mkF m 17 #[.val (.ref b1), .val (.ref b2), .val (.int (2 : Int32))] [(.int (2 : Int32)), (.ref b1)])) rfl rfl (hb hby d6_17)) ?_
  show Go _ p e below s _ _ _ (s₁.setTop (mkF m 18 #[.val (.ref b1), .val (.ref b2), .val (.int (2 : Int32))] [(.int (115 : Int32))]))
  refine go (fun _ => XS.aloadN X0.here hx rfl (hb hby d6_18) rfl rfl) ?_
  show Go _ p e below s _ _ _ (s₁.setTop (mkF m 19 #[.val (.ref b1), .val (.ref b2), .val (.int (2 : Int32))] [(.ref b2), (.int (115 : Int32))]))
  refine go (fun _ => XS.iloadN X0.here hx rfl (hb hby d6_19) rfl) ?_
  show Go _ p e below s _ _ _ (s₁.setTop (mkF m 20 #[.val (.ref b1), .val (.ref b2), .val (.int (2 : Int32))] [(.int (2 : Int32)), (.ref b2), (.int (115 : Int32))]))
  obtain ⟨cl92, Ar92, q92, Sz92, Nz92, Hs92, Gs92⟩ := id P1
  have hin92 : ¬ ((2 : Int32) < 0 ∨ cl92.slots.size ≤ ((2 : Int32)).toNatClampNeg) := inb_of Sz92 ⟨by decide, by decide⟩
  refine go (X0.baloadBytes hx (j := (2 : Int32)) (v := (.int (115 : Int32))) (by rw [e0]; exact Ar92.1) (State.isArrayOf_alike hZ.alike Ar92.2.1) Ar92.2.2 hin92 (Hs92.at hin92 rfl) (g := (mkF m 20 #[.val (.ref b1), .val (.ref b2), .val (.int (2 : Int32))] [(.int (2 : Int32)), (.ref b2), (.int (115 : Int32))])) rfl rfl (hb hby d6_20)) ?_
  show Go _ p e below s _ _ _ (s₁.setTop (mkF m 21 #[.val (.ref b1), .val (.ref b2), .val (.int (2 : Int32))] [(.int (115 : Int32)), (.int (115 : Int32))]))
  refine go (fun _ => XS.icmpYes X0.here hx rfl (pc0 := 21) (pc' := 26) rfl (hb hby d6_21) rfl (teq (rfl : (115 : Int32) = (115 : Int32))).1 (by decide) (by decide)) ?_
  show Go _ p e below s _ _ _ (s₁.setTop (mkF m 26 #[.val (.ref b1), .val (.ref b2), .val (.int (2 : Int32))] []))
  refine go (fun _ => XS.iinc X0.here hx rfl (hb hby d6_26) rfl (l' := #[.val (.ref b1), .val (.ref b2), .val (.int (3 : Int32))]) rfl) ?_
  show Go _ p e below s _ _ _ (s₁.setTop (mkF m 29 #[.val (.ref b1), .val (.ref b2), .val (.int (3 : Int32))] []))
  refine go (fun _ => XS.goto X0.here hx rfl (pc0 := 29) (pc' := 9) rfl (hb hby d6_29) (by decide) (by decide)) ?_
  show Go _ p e below s _ _ _ (s₁.setTop (mkF m 9 #[.val (.ref b1), .val (.ref b2), .val (.int (3 : Int32))] []))
  refine go (fun _ => XS.iloadN X0.here hx rfl (hb hby d6_9) rfl) ?_
  show Go _ p e below s _ _ _ (s₁.setTop (mkF m 10 #[.val (.ref b1), .val (.ref b2), .val (.int (3 : Int32))] [(.int (3 : Int32))]))
  refine go (fun _ => XS.aloadN X0.here hx rfl (hb hby d6_10) rfl rfl) ?_
  show Go _ p e below s _ _ _ (s₁.setTop (mkF m 11 #[.val (.ref b1), .val (.ref b2), .val (.int (3 : Int32))] [(.ref b1), (.int (3 : Int32))]))
  obtain ⟨cl93, Ar93, -, Sz93, Nz93, -, -⟩ := id P0
  refine go (X0.arraylength hx (by rw [e0]; exact Ar93.1) (State.isArrayOf_alike hZ.alike Ar93.2.1) (g := (mkF m 11 #[.val (.ref b1), .val (.ref b2), .val (.int (3 : Int32))] [(.ref b1), (.int (3 : Int32))])) rfl rfl (hb hby d6_11)) ?_
  rw [len_of Sz93 Nz93]
  show Go _ p e below s _ _ _ (s₁.setTop (mkF m 12 #[.val (.ref b1), .val (.ref b2), .val (.int (3 : Int32))] [(.int (16 : Int32)), (.int (3 : Int32))]))
  refine go (fun _ => XS.icmpNo X0.here hx rfl (hb hby d6_12) rfl (tlt (by decide : ((3 : Int32) < (16 : Int32)))).2.1) ?_
  show Go _ p e below s _ _ _ (s₁.setTop (mkF m 15 #[.val (.ref b1), .val (.ref b2), .val (.int (3 : Int32))] []))
  refine go (fun _ => XS.aloadN X0.here hx rfl (hb hby d6_15) rfl rfl) ?_
  show Go _ p e below s _ _ _ (s₁.setTop (mkF m 16 #[.val (.ref b1), .val (.ref b2), .val (.int (3 : Int32))] [(.ref b1)]))
  refine go (fun _ => XS.iloadN X0.here hx rfl (hb hby d6_16) rfl) ?_
  show Go _ p e below s _ _ _ (s₁.setTop (mkF m 17 #[.val (.ref b1), .val (.ref b2), .val (.int (3 : Int32))] [(.int (3 : Int32)), (.ref b1)]))
  obtain ⟨cl94, Ar94, q94, Sz94, Nz94, Hs94, Gs94⟩ := id P0
  have hin94 : ¬ ((3 : Int32) < 0 ∨ cl94.slots.size ≤ ((3 : Int32)).toNatClampNeg) := inb_of Sz94 ⟨by decide, by decide⟩
  refine go (X0.baloadBytes hx (j := (3 : Int32)) (v := (.int (97 : Int32))) (by rw [e0]; exact Ar94.1) (State.isArrayOf_alike hZ.alike Ar94.2.1) Ar94.2.2 hin94 (Hs94.at hin94 rfl) (g := (mkF m 17 #[.val (.ref b1), .val (.ref b2), .val (.int (3 : Int32))] [(.int (3 : Int32)), (.ref b1)])) rfl rfl (hb hby d6_17)) ?_
  show Go _ p e below s _ _ _ (s₁.setTop (mkF m 18 #[.val (.ref b1), .val (.ref b2), .val (.int (3 : Int32))] [(.int (97 : Int32))]))
  refine go (fun _ => XS.aloadN X0.here hx rfl (hb hby d6_18) rfl rfl) ?_
  show Go _ p e below s _ _ _ (s₁.setTop (mkF m 19 #[.val (.ref b1), .val (.ref b2), .val (.int (3 : Int32))] [(.ref b2), (.int (97 : Int32))]))
  refine go (fun _ => XS.iloadN X0.here hx rfl (hb hby d6_19) rfl) ?_
  show Go _ p e below s _ _ _ (s₁.setTop (mkF m 20 #[.val (.ref b1), .val (.ref b2), .val (.int (3 : Int32))] [(.int (3 : Int32)), (.ref b2), (.int (97 : Int32))]))
  obtain ⟨cl95, Ar95, q95, Sz95, Nz95, Hs95, Gs95⟩ := id P1
  have hin95 : ¬ ((3 : Int32) < 0 ∨ cl95.slots.size ≤ ((3 : Int32)).toNatClampNeg) := inb_of Sz95 ⟨by decide, by decide⟩
  refine go (X0.baloadBytes hx (j := (3 : Int32)) (v := (.int (97 : Int32))) (by rw [e0]; exact Ar95.1) (State.isArrayOf_alike hZ.alike Ar95.2.1) Ar95.2.2 hin95 (Hs95.at hin95 rfl) (g := (mkF m 20 #[.val (.ref b1), .val (.ref b2), .val (.int (3 : Int32))] [(.int (3 : Int32)), (.ref b2), (.int (97 : Int32))])) rfl rfl (hb hby d6_20)) ?_
  show Go _ p e below s _ _ _ (s₁.setTop (mkF m 21 #[.val (.ref b1), .val (.ref b2), .val (.int (3 : Int32))] [(.int (97 : Int32)), (.int (97 : Int32))]))
  refine go (fun _ => XS.icmpYes X0.here hx rfl (pc0 := 21) (pc' := 26) rfl (hb hby d6_21) rfl (teq (rfl : (97 : Int32) = (97 : Int32))).1 (by decide) (by decide)) ?_
  show Go _ p e below s _ _ _ (s₁.setTop (mkF m 26 #[.val (.ref b1), .val (.ref b2), .val (.int (3 : Int32))] []))
  refine go (fun _ => XS.iinc X0.here hx rfl (hb hby d6_26) rfl (l' := #[.val (.ref b1), .val (.ref b2), .val (.int (4 : Int32))]) rfl) ?_
  show Go _ p e below s _ _ _ (s₁.setTop (mkF m 29 #[.val (.ref b1), .val (.ref b2), .val (.int (4 : Int32))] []))
  refine go (fun _ => XS.goto X0.here hx rfl (pc0 := 29) (pc' := 9) rfl (hb hby d6_29) (by decide) (by decide)) ?_
  show Go _ p e below s _ _ _ (s₁.setTop (mkF m 9 #[.val (.ref b1), .val (.ref b2), .val (.int (4 : Int32))] []))
  refine go (fun _ => XS.iloadN X0.here hx rfl (hb hby d6_9) rfl) ?_
  show Go _ p e below s _ _ _ (s₁.setTop (mkF m 10 #[.val (.ref b1), .val (.ref b2), .val (.int (4 : Int32))] [(.int (4 : Int32))]))
  refine go (fun _ => XS.aloadN X0.here hx rfl (hb hby d6_10) rfl rfl) ?_
  show Go _ p e below s _ _ _ (s₁.setTop (mkF m 11 #[.val (.ref b1), .val (.ref b2), .val (.int (4 : Int32))] [(.ref b1), (.int (4 : Int32))]))
  obtain ⟨cl96, Ar96, -, Sz96, Nz96, -, -⟩ := id P0
  refine go (X0.arraylength hx (by rw [e0]; exact Ar96.1) (State.isArrayOf_alike hZ.alike Ar96.2.1) (g := (mkF m 11 #[.val (.ref b1), .val (.ref b2), .val (.int (4 : Int32))] [(.ref b1), (.int (4 : Int32))])) rfl rfl (hb hby d6_11)) ?_
  rw [len_of Sz96 Nz96]
  show Go _ p e below s _ _ _ (s₁.setTop (mkF m 12 #[.val (.ref b1), .val (.ref b2), .val (.int (4 : Int32))] [(.int (16 : Int32)), (.int (4 : Int32))]))
  refine go (fun _ => XS.icmpNo X0.here hx rfl (hb hby d6_12) rfl (tlt (by decide : ((4 : Int32) < (16 : Int32)))).2.1) ?_
  show Go _ p e below s _ _ _ (s₁.setTop (mkF m 15 #[.val (.ref b1), .val (.ref b2), .val (.int (4 : Int32))] []))
  refine go (fun _ => XS.aloadN X0.here hx rfl (hb hby d6_15) rfl rfl) ?_
  show Go _ p e below s _ _ _ (s₁.setTop (mkF m 16 #[.val (.ref b1), .val (.ref b2), .val (.int (4 : Int32))] [(.ref b1)]))
  refine go (fun _ => XS.iloadN X0.here hx rfl (hb hby d6_16) rfl) ?_
  show Go _ p e below s _ _ _ (s₁.setTop (mkF m 17 #[.val (.ref b1), .val (.ref b2), .val (.int (4 : Int32))] [(.int (4 : Int32)), (.ref b1)]))
  obtain ⟨cl97, Ar97, q97, Sz97, Nz97, Hs97, Gs97⟩ := id P0
  have hin97 : ¬ ((4 : Int32) < 0 ∨ cl97.slots.size ≤ ((4 : Int32)).toNatClampNeg) := inb_of Sz97 ⟨by decide, by decide⟩
  refine go (X0.baloadBytes hx (j := (4 : Int32)) (v := (.int (103 : Int32))) (by rw [e0]; exact Ar97.1) (State.isArrayOf_alike hZ.alike Ar97.2.1) Ar97.2.2 hin97 (Hs97.at hin97 rfl) (g := (mkF m 17 #[.val (.ref b1), .val (.ref b2), .val (.int (4 : Int32))] [(.int (4 : Int32)), (.ref b1)])) rfl rfl (hb hby d6_17)) ?_
  show Go _ p e below s _ _ _ (s₁.setTop (mkF m 18 #[.val (.ref b1), .val (.ref b2), .val (.int (4 : Int32))] [(.int (103 : Int32))]))
  refine go (fun _ => XS.aloadN X0.here hx rfl (hb hby d6_18) rfl rfl) ?_
  show Go _ p e below s _ _ _ (s₁.setTop (mkF m 19 #[.val (.ref b1), .val (.ref b2), .val (.int (4 : Int32))] [(.ref b2), (.int (103 : Int32))]))
  refine go (fun _ => XS.iloadN X0.here hx rfl (hb hby d6_19) rfl) ?_
  show Go _ p e below s _ _ _ (s₁.setTop (mkF m 20 #[.val (.ref b1), .val (.ref b2), .val (.int (4 : Int32))] [(.int (4 : Int32)), (.ref b2), (.int (103 : Int32))]))
  obtain ⟨cl98, Ar98, q98, Sz98, Nz98, Hs98, Gs98⟩ := id P1
  have hin98 : ¬ ((4 : Int32) < 0 ∨ cl98.slots.size ≤ ((4 : Int32)).toNatClampNeg) := inb_of Sz98 ⟨by decide, by decide⟩
  refine go (X0.baloadBytes hx (j := (4 : Int32)) (v := (.int (103 : Int32))) (by rw [e0]; exact Ar98.1) (State.isArrayOf_alike hZ.alike Ar98.2.1) Ar98.2.2 hin98 (Hs98.at hin98 rfl) (g := (mkF m 20 #[.val (.ref b1), .val (.ref b2), .val (.int (4 : Int32))] [(.int (4 : Int32)), (.ref b2), (.int (103 : Int32))])) rfl rfl (hb hby d6_20)) ?_
  show Go _ p e below s _ _ _ (s₁.setTop (mkF m 21 #[.val (.ref b1), .val (.ref b2), .val (.int (4 : Int32))] [(.int (103 : Int32)), (.int (103 : Int32))]))
  refine go (fun _ => XS.icmpYes X0.here hx rfl (pc0 := 21) (pc' := 26) rfl (hb hby d6_21) rfl (teq (rfl : (103 : Int32) = (103 : Int32))).1 (by decide) (by decide)) ?_
  show Go _ p e below s _ _ _ (s₁.setTop (mkF m 26 #[.val (.ref b1), .val (.ref b2), .val (.int (4 : Int32))] []))
  refine go (fun _ => XS.iinc X0.here hx rfl (hb hby d6_26) rfl (l' := #[.val (.ref b1), .val (.ref b2), .val (.int (5 : Int32))]) rfl) ?_
  show Go _ p e below s _ _ _ (s₁.setTop (mkF m 29 #[.val (.ref b1), .val (.ref b2), .val (.int (5 : Int32))] []))
  refine go (fun _ => XS.goto X0.here hx rfl (pc0 := 29) (pc' := 9) rfl (hb hby d6_29) (by decide) (by decide)) ?_
  show Go _ p e below s _ _ _ (s₁.setTop (mkF m 9 #[.val (.ref b1), .val (.ref b2), .val (.int (5 : Int32))] []))
  refine go (fun _ => XS.iloadN X0.here hx rfl (hb hby d6_9) rfl) ?_
  show Go _ p e below s _ _ _ (s₁.setTop (mkF m 10 #[.val (.ref b1), .val (.ref b2), .val (.int (5 : Int32))] [(.int (5 : Int32))]))
  refine go (fun _ => XS.aloadN X0.here hx rfl (hb hby d6_10) rfl rfl) ?_
  show Go _ p e below s _ _ _ (s₁.setTop (mkF m 11 #[.val (.ref b1), .val (.ref b2), .val (.int (5 : Int32))] [(.ref b1), (.int (5 : Int32))]))
  obtain ⟨cl99, Ar99, -, Sz99, Nz99, -, -⟩ := id P0
  refine go (X0.arraylength hx (by rw [e0]; exact Ar99.1) (State.isArrayOf_alike hZ.alike Ar99.2.1) (g := (mkF m 11 #[.val (.ref b1), .val (.ref b2), .val (.int (5 : Int32))] [(.ref b1), (.int (5 : Int32))])) rfl rfl (hb hby d6_11)) ?_
  rw [len_of Sz99 Nz99]
  show Go _ p e below s _ _ _ (s₁.setTop (mkF m 12 #[.val (.ref b1), .val (.ref b2), .val (.int (5 : Int32))] [(.int (16 : Int32)), (.int (5 : Int32))]))
  refine go (fun _ => XS.icmpNo X0.here hx rfl (hb hby d6_12) rfl (tlt (by decide : ((5 : Int32) < (16 : Int32)))).2.1) ?_
  show Go _ p e below s _ _ _ (s₁.setTop (mkF m 15 #[.val (.ref b1), .val (.ref b2), .val (.int (5 : Int32))] []))
  refine go (fun _ => XS.aloadN X0.here hx rfl (hb hby d6_15) rfl rfl) ?_
  show Go _ p e below s _ _ _ (s₁.setTop (mkF m 16 #[.val (.ref b1), .val (.ref b2), .val (.int (5 : Int32))] [(.ref b1)]))
  refine go (fun _ => XS.iloadN X0.here hx rfl (hb hby d6_16) rfl) ?_
  show Go _ p e below s _ _ _ (s₁.setTop (mkF m 17 #[.val (.ref b1), .val (.ref b2), .val (.int (5 : Int32))] [(.int (5 : Int32)), (.ref b1)]))
  obtain ⟨cl100, Ar100, q100, Sz100, Nz100, Hs100, Gs100⟩ := id P0
  have hin100 : ¬ ((5 : Int32) < 0 ∨ cl100.slots.size ≤ ((5 : Int32)).toNatClampNeg) := inb_of Sz100 ⟨by decide, by decide⟩
  refine go (X0.baloadBytes hx (j := (5 : Int32)) (v := (.int (101 : Int32))) (by rw [e0]; exact Ar100.1) (State.isArrayOf_alike hZ.alike Ar100.2.1) Ar100.2.2 hin100 (Hs100.at hin100 rfl) (g := (mkF m 17 #[.val (.ref b1), .val (.ref b2), .val (.int (5 : Int32))] [(.int (5 : Int32)), (.ref b1)])) rfl rfl (hb hby d6_17)) ?_
  show Go _ p e below s _ _ _ (s₁.setTop (mkF m 18 #[.val (.ref b1), .val (.ref b2), .val (.int (5 : Int32))] [(.int (101 : Int32))]))
  refine go (fun _ => XS.aloadN X0.here hx rfl (hb hby d6_18) rfl rfl) ?_
  show Go _ p e below s _ _ _ (s₁.setTop (mkF m 19 #[.val (.ref b1), .val (.ref b2), .val (.int (5 : Int32))] [(.ref b2), (.int (101 : Int32))]))
  refine go (fun _ => XS.iloadN X0.here hx rfl (hb hby d6_19) rfl) ?_
  show Go _ p e below s _ _ _ (s₁.setTop (mkF m 20 #[.val (.ref b1), .val (.ref b2), .val (.int (5 : Int32))] [(.int (5 : Int32)), (.ref b2), (.int (101 : Int32))]))
  obtain ⟨cl101, Ar101, q101, Sz101, Nz101, Hs101, Gs101⟩ := id P1
  have hin101 : ¬ ((5 : Int32) < 0 ∨ cl101.slots.size ≤ ((5 : Int32)).toNatClampNeg) := inb_of Sz101 ⟨by decide, by decide⟩
  refine go (X0.baloadBytes hx (j := (5 : Int32)) (v := (.int (101 : Int32))) (by rw [e0]; exact Ar101.1) (State.isArrayOf_alike hZ.alike Ar101.2.1) Ar101.2.2 hin101 (Hs101.at hin101 rfl) (g := (mkF m 20 #[.val (.ref b1), .val (.ref b2), .val (.int (5 : Int32))] [(.int (5 : Int32)), (.ref b2), (.int (101 : Int32))])) rfl rfl (hb hby d6_20)) ?_
  show Go _ p e below s _ _ _ (s₁.setTop (mkF m 21 #[.val (.ref b1), .val (.ref b2), .val (.int (5 : Int32))] [(.int (101 : Int32)), (.int (101 : Int32))]))
  refine go (fun _ => XS.icmpYes X0.here hx rfl (pc0 := 21) (pc' := 26) rfl (hb hby d6_21) rfl (teq (rfl : (101 : Int32) = (101 : Int32))).1 (by decide) (by decide)) ?_
  show Go _ p e below s _ _ _ (s₁.setTop (mkF m 26 #[.val (.ref b1), .val (.ref b2), .val (.int (5 : Int32))] []))
  refine go (fun _ => XS.iinc X0.here hx rfl (hb hby d6_26) rfl (l' := #[.val (.ref b1), .val (.ref b2), .val (.int (6 : Int32))]) rfl) ?_
  show Go _ p e below s _ _ _ (s₁.setTop (mkF m 29 #[.val (.ref b1), .val (.ref b2), .val (.int (6 : Int32))] []))
  refine go (fun _ => XS.goto X0.here hx rfl (pc0 := 29) (pc' := 9) rfl (hb hby d6_29) (by decide) (by decide)) ?_
  show Go _ p e below s _ _ _ (s₁.setTop (mkF m 9 #[.val (.ref b1), .val (.ref b2), .val (.int (6 : Int32))] []))
  refine go (fun _ => XS.iloadN X0.here hx rfl (hb hby d6_9) rfl) ?_
  show Go _ p e below s _ _ _ (s₁.setTop (mkF m 10 #[.val (.ref b1), .val (.ref b2), .val (.int (6 : Int32))] [(.int (6 : Int32))]))
  refine go (fun _ => XS.aloadN X0.here hx rfl (hb hby d6_10) rfl rfl) ?_
  show Go _ p e below s _ _ _ (s₁.setTop (mkF m 11 #[.val (.ref b1), .val (.ref b2), .val (.int (6 : Int32))] [(.ref b1), (.int (6 : Int32))]))
  obtain ⟨cl102, Ar102, -, Sz102, Nz102, -, -⟩ := id P0
  refine go (X0.arraylength hx (by rw [e0]; exact Ar102.1) (State.isArrayOf_alike hZ.alike Ar102.2.1) (g := (mkF m 11 #[.val (.ref b1), .val (.ref b2), .val (.int (6 : Int32))] [(.ref b1), (.int (6 : Int32))])) rfl rfl (hb hby d6_11)) ?_
  rw [len_of Sz102 Nz102]
  show Go _ p e below s _ _ _ (s₁.setTop (mkF m 12 #[.val (.ref b1), .val (.ref b2), .val (.int (6 : Int32))] [(.int (16 : Int32)), (.int (6 : Int32))]))
  refine go (fun _ => XS.icmpNo X0.here hx rfl (hb hby d6_12) rfl (tlt (by decide : ((6 : Int32) < (16 : Int32)))).2.1) ?_
  show Go _ p e below s _ _ _ (s₁.setTop (mkF m 15 #[.val (.ref b1), .val (.ref b2), .val (.int (6 : Int32))] []))
  refine go (fun _ => XS.aloadN X0.here hx rfl (hb hby d6_15) rfl rfl) ?_
  show Go _ p e below s _ _ _ (s₁.setTop (mkF m 16 #[.val (.ref b1), .val (.ref b2), .val (.int (6 : Int32))] [(.ref b1)]))
  refine go (fun _ => XS.iloadN X0.here hx rfl (hb hby d6_16) rfl) ?_
  show Go _ p e below s _ _ _ (s₁.setTop (mkF m 17 #[.val (.ref b1), .val (.ref b2), .val (.int (6 : Int32))] [(.int (6 : Int32)), (.ref b1)]))
  obtain ⟨cl103, Ar103, q103, Sz103, Nz103, Hs103, Gs103⟩ := id P0
  have hin103 : ¬ ((6 : Int32) < 0 ∨ cl103.slots.size ≤ ((6 : Int32)).toNatClampNeg) := inb_of Sz103 ⟨by decide, by decide⟩
  refine go (X0.baloadBytes hx (j := (6 : Int32)) (v := (.int (83 : Int32))) (by rw [e0]; exact Ar103.1) (State.isArrayOf_alike hZ.alike Ar103.2.1) Ar103.2.2 hin103 (Hs103.at hin103 rfl) (g := (mkF m 17 #[.val (.ref b1), .val (.ref b2), .val (.int (6 : Int32))] [(.int (6 : Int32)), (.ref b1)])) rfl rfl (hb hby d6_17)) ?_
  show Go _ p e below s _ _ _ (s₁.setTop (mkF m 18 #[.val (.ref b1), .val (.ref b2), .val (.int (6 : Int32))] [(.int (83 : Int32))]))
  refine go (fun _ => XS.aloadN X0.here hx rfl (hb hby d6_18) rfl rfl) ?_
  show Go _ p e below s _ _ _ (s₁.setTop (mkF m 19 #[.val (.ref b1), .val (.ref b2), .val (.int (6 : Int32))] [(.ref b2), (.int (83 : Int32))]))
  refine go (fun _ => XS.iloadN X0.here hx rfl (hb hby d6_19) rfl) ?_
  show Go _ p e below s _ _ _ (s₁.setTop (mkF m 20 #[.val (.ref b1), .val (.ref b2), .val (.int (6 : Int32))] [(.int (6 : Int32)), (.ref b2), (.int (83 : Int32))]))
  obtain ⟨cl104, Ar104, q104, Sz104, Nz104, Hs104, Gs104⟩ := id P1
  have hin104 : ¬ ((6 : Int32) < 0 ∨ cl104.slots.size ≤ ((6 : Int32)).toNatClampNeg) := inb_of Sz104 ⟨by decide, by decide⟩
  refine go (X0.baloadBytes hx (j := (6 : Int32)) (v := (.int (83 : Int32))) (by rw [e0]; exact Ar104.1) (State.isArrayOf_alike hZ.alike Ar104.2.1) Ar104.2.2 hin104 (Hs104.at hin104 rfl) (g := (mkF m 20 #[.val (.ref b1), .val (.ref b2), .val (.int (6 : Int32))] [(.int (6 : Int32)), (.ref b2), (.int (83 : Int32))])) rfl rfl (hb hby d6_20)) ?_
  show Go _ p e below s _ _ _ (s₁.setTop (mkF m 21 #[.val (.ref b1), .val (.ref b2), .val (.int (6 : Int32))] [(.int (83 : Int32)), (.int (83 : Int32))]))
  refine go (fun _ => XS.icmpYes X0.here hx rfl (pc0 := 21) (pc' := 26) rfl (hb hby d6_21) rfl (teq (rfl : (83 : Int32) = (83 : Int32))).1 (by decide) (by decide)) ?_
  show Go _ p e below s _ _ _ (s₁.setTop (mkF m 26 #[.val (.ref b1), .val (.ref b2), .val (.int (6 : Int32))] []))
  refine go (fun _ => XS.iinc X0.here hx rfl (hb hby d6_26) rfl (l' := #[.val (.ref b1), .val (.ref b2), .val (.int (7 : Int32))]) rfl) ?_
  show Go _ p e below s _ _ _ (s₁.setTop (mkF m 29 #[.val (.ref b1), .val (.ref b2), .val (.int (7 : Int32))] []))
  refine go (fun _ => XS.goto X0.here hx rfl (pc0 := 29) (pc' := 9) rfl (hb hby d6_29) (by decide) (by decide)) ?_
  show Go _ p e below s _ _ _ (s₁.setTop (mkF m 9 #[.val (.ref b1), .val (.ref b2), .val (.int (7 : Int32))] []))
  refine go (fun _ => XS.iloadN X0.here hx rfl (hb hby d6_9) rfl) ?_
  show Go _ p e below s _ _ _ (s₁.setTop (mkF m 10 #[.val (.ref b1), .val (.ref b2), .val (.int (7 : Int32))] [(.int (7 : Int32))]))
  refine go (fun _ => XS.aloadN X0.here hx rfl (hb hby d6_10) rfl rfl) ?_
  show Go _ p e below s _ _ _ (s₁.setTop (mkF m 11 #[.val (.ref b1), .val (.ref b2), .val (.int (7 : Int32))] [(.ref b1), (.int (7 : Int32))]))
  obtain ⟨cl105, Ar105, -, Sz105, Nz105, -, -⟩ := id P0
  refine go (X0.arraylength hx (by rw [e0]; exact Ar105.1) (State.isArrayOf_alike hZ.alike Ar105.2.1) (g := (mkF m 11 #[.val (.ref b1), .val (.ref b2), .val (.int (7 : Int32))] [(.ref b1), (.int (7 : Int32))])) rfl rfl (hb hby d6_11)) ?_
  rw [len_of Sz105 Nz105]
  show Go _ p e below s _ _ _ (s₁.setTop (mkF m 12 #[.val (.ref b1), .val (.ref b2), .val (.int (7 : Int32))] [(.int (16 : Int32)), (.int (7 : Int32))]))
  refine go (fun _ => XS.icmpNo X0.here hx rfl (hb hby d6_12) rfl (tlt (by decide : ((7 : Int32) < (16 : Int32)))).2.1) ?_
  show Go _ p e below s _ _ _ (s₁.setTop (mkF m 15 #[.val (.ref b1), .val (.ref b2), .val (.int (7 : Int32))] []))
  refine go (fun _ => XS.aloadN X0.here hx rfl (hb hby d6_15) rfl rfl) ?_
  show Go _ p e below s _ _ _ (s₁.setTop (mkF m 16 #[.val (.ref b1), .val (.ref b2), .val (.int (7 : Int32))] [(.ref b1)]))
  refine go (fun _ => XS.iloadN X0.here hx rfl (hb hby d6_16) rfl) ?_
  show Go _ p e below s _ _ _ (s₁.setTop (mkF m 17 #[.val (.ref b1), .val (.ref b2), .val (.int (7 : Int32))] [(.int (7 : Int32)), (.ref b1)]))
  obtain ⟨cl106, Ar106, q106, Sz106, Nz106, Hs106, Gs106⟩ := id P0
  have hin106 : ¬ ((7 : Int32) < 0 ∨ cl106.slots.size ≤ ((7 : Int32)).toNatClampNeg) := inb_of Sz106 ⟨by decide, by decide⟩
  refine go (X0.baloadBytes hx (j := (7 : Int32)) (v := (.int (116 : Int32))) (by rw [e0]; exact Ar106.1) (State.isArrayOf_alike hZ.alike Ar106.2.1) Ar106.2.2 hin106 (Hs106.at hin106 rfl) (g := (mkF m 17 #[.val (.ref b1), .val (.ref b2), .val (.int (7 : Int32))] [(.int (7 : Int32)), (.ref b1)])) rfl rfl (hb hby d6_17)) ?_
  show Go _ p e below s _ _ _ (s₁.setTop (mkF m 18 #[.val (.ref b1), .val (.ref b2), .val (.int (7 : Int32))] [(.int (116 : Int32))]))
  refine go (fun _ => XS.aloadN X0.here hx rfl (hb hby d6_18) rfl rfl) ?_
  show Go _ p e below s _ _ _ (s₁.setTop (mkF m 19 #[.val (.ref b1), .val (.ref b2), .val (.int (7 : Int32))] [(.ref b2), (.int (116 : Int32))]))
  refine go (fun _ => XS.iloadN X0.here hx rfl (hb hby d6_19) rfl) ?_
  show Go _ p e below s _ _ _ (s₁.setTop (mkF m 20 #[.val (.ref b1), .val (.ref b2), .val (.int (7 : Int32))] [(.int (7 : Int32)), (.ref b2), (.int (116 : Int32))]))
  obtain ⟨cl107, Ar107, q107, Sz107, Nz107, Hs107, Gs107⟩ := id P1
  have hin107 : ¬ ((7 : Int32) < 0 ∨ cl107.slots.size ≤ ((7 : Int32)).toNatClampNeg) := inb_of Sz107 ⟨by decide, by decide⟩
  refine go (X0.baloadBytes hx (j := (7 : Int32)) (v := (.int (116 : Int32))) (by rw [e0]; exact Ar107.1) (State.isArrayOf_alike hZ.alike Ar107.2.1) Ar107.2.2 hin107 (Hs107.at hin107 rfl) (g := (mkF m 20 #[.val (.ref b1), .val (.ref b2), .val (.int (7 : Int32))] [(.int (7 : Int32)), (.ref b2), (.int (116 : Int32))])) rfl rfl (hb hby d6_20)) ?_
  show Go _ p e below s _ _ _ (s₁.setTop (mkF m 21 #[.val (.ref b1), .val (.ref b2), .val (.int (7 : Int32))] [(.int (116 : Int32)), (.int (116 : Int32))]))
  refine go (fun _ => XS.icmpYes X0.here hx rfl (pc0 := 21) (pc' := 26) rfl (hb hby d6_21) rfl (teq (rfl : (116 : Int32) = (116 : Int32))).1 (by decide) (by decide)) ?_
  show Go _ p e below s _ _ _ (s₁.setTop (mkF m 26 #[.val (.ref b1), .val (.ref b2), .val (.int (7 : Int32))] []))
  refine go (fun _ => XS.iinc X0.here hx rfl (hb hby d6_26) rfl (l' := #[.val (.ref b1), .val (.ref b2), .val (.int (8 : Int32))]) rfl) ?_
  show Go _ p e below s _ _ _ (s₁.setTop (mkF m 29 #[.val (.ref b1), .val (.ref b2), .val (.int (8 : Int32))] []))
  refine go (fun _ => XS.goto X0.here hx rfl (pc0 := 29) (pc' := 9) rfl (hb hby d6_29) (by decide) (by decide)) ?_
  show Go _ p e below s _ _ _ (s₁.setTop (mkF m 9 #[.val (.ref b1), .val (.ref b2), .val (.int (8 : Int32))] []))
  refine go (fun _ => XS.iloadN X0.here hx rfl (hb hby d6_9) rfl) ?_
  show Go _ p e below s _ _ _ (s₁.setTop (mkF m 10 #[.val (.ref b1), .val (.ref b2), .val (.int (8 : Int32))] [(.int (8 : Int32))]))
  refine go (fun _ => XS.aloadN X0.here hx rfl (hb hby d6_10) rfl rfl) ?_
  show Go _ p e below s _ _ _ (s₁.setTop (mkF m 11 #[.val (.ref b1), .val (.ref b2), .val (.int (8 : Int32))] [(.ref b1), (.int (8 : Int32))]))
  obtain ⟨cl108, Ar108, -, Sz108, Nz108, -, -⟩ := id P0
  refine go (X0.arraylength hx (by rw [e0]; exact Ar108.1) (State.isArrayOf_alike hZ.alike Ar108.2.1) (g := (mkF m 11 #[.val (.ref b1), .val (.ref b2), .val (.int (8 : Int32))] [(.ref b1), (.int (8 : Int32))])) rfl rfl (hb hby d6_11)) ?_
  rw [len_of Sz108 Nz108]
  show Go _ p e below s _ _ _ (s₁.setTop (mkF m 12 #[.val (.ref b1), .val (.ref b2), .val (.int (8 : Int32))] [(.int (16 : Int32)), (.int (8 : Int32))]))
  refine go (fun _ => XS.icmpNo X0.here hx rfl (hb hby d6_12) rfl (tlt (by decide : ((8 : Int32) < (16 : Int32)))).2.1) ?_
  show Go _ p e below s _ _ _ (s₁.setTop (mkF m 15 #[.val (.ref b1), .val (.ref b2), .val (.int (8 : Int32))] []))
  refine go (fun _ => XS.aloadN X0.here hx rfl (hb hby d6_15) rfl rfl) ?_
  show Go _ p e below s _ _ _ (s₁.setTop (mkF m 16 #[.val (.ref b1), .val (.ref b2), .val (.int (8 : Int32))] [(.ref b1)]))
  refine go (fun _ => XS.iloadN X0.here hx rfl (hb hby d6_16) rfl) ?_
  show Go _ p e below s _ _ _ (s₁.setTop (mkF m 17 #[.val (.ref b1), .val (.ref b2), .val (.int (8 : Int32))] [(.int (8 : Int32)), (.ref b1)]))
  obtain ⟨cl109, Ar109, q109, Sz109, Nz109, Hs109, Gs109⟩ := id P0
  have hin109 : ¬ ((8 : Int32) < 0 ∨ cl109.slots.size ≤ ((8 : Int32)).toNatClampNeg) := inb_of Sz109 ⟨by decide, by decide⟩
  refine go (X0.baloadBytes hx (j := (8 : Int32)) (v := (.int (114 : Int32))) (by rw [e0]; exact Ar109.1) (State.isArrayOf_alike hZ.alike Ar109.2.1) Ar109.2.2 hin109 (Hs109.at hin109 rfl) (g := (mkF m 17 #[.val (.ref b1), .val (.ref b2), .val (.int (8 : Int32))] [(.int (8 : Int32)), (.ref b1)])) rfl rfl (hb hby d6_17)) ?_
  show Go _ p e below s _ _ _ (s₁.setTop (mkF m 18 #[.val (.ref b1), .val (.ref b2), .val (.int (8 : Int32))] [(.int (114 : Int32))]))
  refine go (fun _ => XS.aloadN X0.here hx rfl (hb hby d6_18) rfl rfl) ?_
  show Go _ p e below s _ _ _ (s₁.setTop (mkF m 19 #[.val (.ref b1), .val (.ref b2), .val (.int (8 : Int32))] [(.ref b2), (.int (114 : Int32))]))
  refine go (fun _ => XS.iloadN X0.here hx rfl (hb hby d6_19) rfl) ?_
  show Go _ p e below s _ _ _ (s₁.setTop (mkF m 20 #[.val (.ref b1), .val (.ref b2), .val (.int (8 : Int32))] [(.int (8 : Int32)), (.ref b2), (.int (114 : Int32))]))
  obtain ⟨cl110, Ar110, q110, Sz110, Nz110, Hs110, Gs110⟩ := id P1
  have hin110 : ¬ ((8 : Int32) < 0 ∨ cl110.slots.size ≤ ((8 : Int32)).toNatClampNeg) := inb_of Sz110 ⟨by decide, by decide⟩
  refine go (X0.baloadBytes hx (j := (8 : Int32)) (v := (.int (114 : Int32))) (by rw [e0]; exact Ar110.1) (State.isArrayOf_alike hZ.alike Ar110.2.1) Ar110.2.2 hin110 (Hs110.at hin110 rfl) (g := (mkF m 20 #[.val (.ref b1), .val (.ref b2), .val (.int (8 : Int32))] [(.int (8 : Int32)), (.ref b2), (.int (114 : Int32))])) rfl rfl (hb hby d6_20)) ?_
  show Go _ p e below s _ _ _ (s₁.setTop (mkF m 21 #[.val (.ref b1), .val (.ref b2), .val (.int (8 : Int32))] [(.int (114 : Int32)), (.int (114 : Int32))]))
  refine go (fun _ => XS.icmpYes X0.here hx rfl (pc0 := 21) (pc' := 26) rfl (hb hby d6_21) rfl (teq (rfl : (114 : Int32) = (114 : Int32))).1 (by decide) (by decide)) ?_
  show Go _ p e below s _ _ _ (s₁.setTop (mkF m 26 #[.val (.ref b1), .val (.ref b2), .val (.int (8 : Int32))] []))
  refine go (fun _ => XS.iinc X0.here hx rfl (hb hby d6_26) rfl (l' := #[.val (.ref b1), .val (.ref b2), .val (.int (9 : Int32))]) rfl) ?_
  show Go _ p e below s _ _ _ (s₁.setTop (mkF m 29 #[.val (.ref b1), .val (.ref b2), .val (.int (9 : Int32))] []))
  refine go (fun _ => XS.goto X0.here hx rfl (pc0 := 29) (pc' := 9) rfl (hb hby d6_29) (by decide) (by decide)) ?_
  show Go _ p e below s _ _ _ (s₁.setTop (mkF m 9 #[.val (.ref b1), .val (.ref b2), .val (.int (9 : Int32))] []))
  refine go (fun _ => XS.iloadN X0.here hx rfl (hb hby d6_9) rfl) ?_
  show Go _ p e below s _ _ _ (s₁.setTop (mkF m 10 #[.val (.ref b1), .val (.ref b2), .val (.int (9 : Int32))] [(.int (9 : Int32))]))
  refine go (fun _ => XS.aloadN X0.here hx rfl (hb hby d6_10) rfl rfl) ?_
  show Go _ p e below s _ _ _ (s₁.setTop (mkF m 11 #[.val (.ref b1), .val (.ref b2), .val (.int (9 : Int32))] [(.ref b1), (.int (9 : Int32))]))
  obtain ⟨cl111, Ar111, -, Sz111, Nz111, -, -⟩ := id P0
  refine go (X0.arraylength hx (by rw [e0]; exact Ar111.1) (State.isArrayOf_alike hZ.alike Ar111.2.1) (g := (mkF m 11 #[.val (.ref b1), .val (.ref b2), .val (.int (9 : Int32))] [(.ref b1), (.int (9 : Int32))])) rfl rfl (hb hby d6_11)) ?_
  rw [len_of Sz111 Nz111]
  show Go _ p e below s _ _ _ (s₁.setTop (mkF m 12 #[.val (.ref b1), .val (.ref b2), .val (.int (9 : Int32))] [(.int (16 : Int32)), (.int (9 : Int32))]))
  refine go (fun _ => XS.icmpNo X0.here hx rfl (hb hby d6_12) rfl (tlt (by decide : ((9 : Int32) < (16 : Int32)))).2.1) ?_
  show Go _ p e below s _ _ _ (s₁.setTop (mkF m 15 #[.val (.ref b1), .val (.ref b2), .val (.int (9 : Int32))] []))
  refine go (fun _ => XS.aloadN X0.here hx rfl (hb hby d6_15) rfl rfl) ?_
  show Go _ p e below s _ _ _ (s₁.setTop (mkF m 16 #[.val (.ref b1), .val (.ref b2), .val (.int (9 : Int32))] [(.ref b1)]))
  refine go (fun _ => XS.iloadN X0.here hx rfl (hb hby d6_16) rfl) ?_
  show Go _ p e below s _ _ _ (s₁.setTop (mkF m 17 #[.val (.ref b1), .val (.ref b2), .val (.int (9 : Int32))] [(.int (9 : Int32)), (.ref b1)]))
  obtain ⟨cl112, Ar112, q112, Sz112, Nz112, Hs112, Gs112⟩ := id P0
  have hin112 : ¬ ((9 : Int32) < 0 ∨ cl112.slots.size ≤ ((9 : Int32)).toNatClampNeg) := inb_of Sz112 ⟨by decide, by decide⟩
  refine go (X0.baloadBytes hx (j := (9 : Int32)) (v := (.int (117 : Int32))) (by rw [e0]; exact Ar112.1) (State.isArrayOf_alike hZ.alike Ar112.2.1) Ar112.2.2 hin112 (Hs112.at hin112 rfl) (g := (mkF m 17 #[.val (.ref b1), .val (.ref b2), .val (.int (9 : Int32))] [(.int (9 : Int32)), (.ref b1)])) rfl rfl (hb hby d6_17)) ?_
  show Go _ p e below s _ _ _ (s₁.setTop (mkF m 18 #[.val (.ref b1), .val (.ref b2), .val (.int (9 : Int32))] [(.int (117 : Int32))]))
  refine go (fun _ => XS.aloadN X0.here hx rfl (hb hby d6_18) rfl rfl) ?_
  show Go _ p e below s _ _ _ (s₁.setTop (mkF m 19 #[.val (.ref b1), .val (.ref b2), .val (.int (9 : Int32))] [(.ref b2), (.int (117 : Int32))]))
  refine go (fun _ => XS.iloadN X0.here hx rfl (hb hby d6_19) rfl) ?_
  show Go _ p e below s _ _ _ (s₁.setTop (mkF m 20 #[.val (.ref b1), .val (.ref b2), .val (.int (9 : Int32))] [(.int (9 : Int32)), (.ref b2), (.int (117 : Int32))]))
  obtain ⟨cl113, Ar113, q113, Sz113, Nz113, Hs113, Gs113⟩ := id P1
  have hin113 : ¬ ((9 : Int32) < 0 ∨ cl113.slots.size ≤ ((9 : Int32)).toNatClampNeg) := inb_of Sz113 ⟨by decide, by decide⟩
  refine go (X0.baloadBytes hx (j := (9 : Int32)) (v := (.int (117 : Int32))) (by rw [e0]; exact Ar113.1) (State.isArrayOf_alike hZ.alike Ar113.2.1) Ar113.2.2 hin113 (Hs113.at hin113 rfl) (g := (mkF m 20 #[.val (.ref b1), .val (.ref b2), .val (.int (9 : Int32))] [(.int (9 : Int32)), (.ref b2), (.int (117 : Int32))])) rfl rfl (hb hby d6_20)) ?_
  show Go _ p e below s _ _ _ (s₁.setTop (mkF m 21 #[.val (.ref b1), .val (.ref b2), .val (.int (9 : Int32))] [(.int (117 : Int32)), (.int (117 : Int32))]))
  refine go (fun _ => XS.icmpYes X0.here hx rfl (pc0 := 21) (pc' := 26) rfl (hb hby d6_21) rfl (teq (rfl : (117 : Int32) = (117 : Int32))).1 (by decide) (by decide)) ?_
  show Go _ p e below s _ _ _ (s₁.setTop (mkF m 26 #[.val (.ref b1), .val (.ref b2), .val (.int (9 : Int32))] []))
  refine go (fun _ => XS.iinc X0.here hx rfl (hb hby d6_26) rfl (l' := #[.val (.ref b1), .val (.ref b2), .val (.int (10 : Int32))]) rfl) ?_
  show Go _ p e below s _ _ _ (s₁.setTop (mkF m 29 #[.val (.ref b1), .val (.ref b2), .val (.int (10 : Int32))] []))
  refine go (fun _ => XS.goto X0.here hx rfl (pc0 := 29) (pc' := 9) rfl (hb hby d6_29) (by decide) (by decide)) ?_
  show Go _ p e below s _ _ _ (s₁.setTop (mkF m 9 #[.val (.ref b1), .val (.ref b2), .val (.int (10 : Int32))] []))
  refine go (fun _ => XS.iloadN X0.here hx rfl (hb hby d6_9) rfl) ?_
  show Go _ p e below s _ _ _ (s₁.setTop (mkF m 10 #[.val (.ref b1), .val (.ref b2), .val (.int (10 : Int32))] [(.int (10 : Int32))]))
  refine go (fun _ => XS.aloadN X0.here hx rfl (hb hby d6_10) rfl rfl) ?_
  show Go _ p e below s _ _ _ (s₁.setTop (mkF m 11 #[.val (.ref b1), .val (.ref b2), .val (.int (10 : Int32))] [(.ref b1), (.int (10 : Int32))]))
  obtain ⟨cl114, Ar114, -, Sz114, Nz114, -, -⟩ := id P0
  refine go (X0.arraylength hx (by rw [e0]; exact Ar114.1) (State.isArrayOf_alike hZ.alike Ar114.2.1) (g := (mkF m 11 #[.val (.ref b1), .val (.ref b2), .val (.int (10 : Int32))] [(.ref b1), (.int (10 : Int32))])) rfl rfl (hb hby d6_11)) ?_
  rw [len_of Sz114 Nz114]
  show Go _ p e below s _ _ _ (s₁.setTop (mkF m 12 #[.val (.ref b1), .val (.ref b2), .val (.int (10 : Int32))] [(.int (16 : Int32)), (.int (10 : Int32))]))
  refine go (fun _ => XS.icmpNo X0.here hx rfl (hb hby d6_12) rfl (tlt (by decide : ((10 : Int32) < (16 : Int32)))).2.1) ?_
  show Go _ p e below s _ _ _ (s₁.setTop (mkF m 15 #[.val (.ref b1), .val (.ref b2), .val (.int (10 : Int32))] []))
  refine go (fun _ => XS.aloadN X0.here hx rfl (hb hby d6_15) rfl rfl) ?_
  show Go _ p e below s _ _ _ (s₁.setTop (mkF m 16 #[.val (.ref b1), .val (.ref b2), .val (.int (10 : Int32))] [(.ref b1)]))
  refine go (fun _ => XS.iloadN X0.here hx rfl (hb hby d6_16) rfl) ?_
  show Go _ p e below s _ _ _ (s₁.setTop (mkF m 17 #[.val (.ref b1), .val (.ref b2), .val (.int (10 : Int32))] [(.int (10 : Int32)), (.ref b1)]))
  obtain ⟨cl115, Ar115, q115, Sz115, Nz115, Hs115, Gs115⟩ := id P0
  have hin115 : ¬ ((10 : Int32) < 0 ∨ cl115.slots.size ≤ ((10 : Int32)).toNatClampNeg) := inb_of Sz115 ⟨by decide, by decide⟩
  refine go (X0.baloadBytes hx (j := (10 : Int32)) (v := (.int (99 : Int32))) (by rw [e0]; exact Ar115.1) (State.isArrayOf_alike hZ.alike Ar115.2.1) Ar115.2.2 hin115 (Hs115.at hin115 rfl) (g := (mkF m 17 #[.val (.ref b1), .val (.ref b2), .val (.int (10 : Int32))] [(.int (10 : Int32)), (.ref b1)])) rfl rfl (hb hby d6_17)) ?_
  show Go _ p e below s _ _ _ (s₁.setTop (mkF m 18 #[.val (.ref b1), .val (.ref b2), .val (.int (10 : Int32))] [(.int (99 : Int32))]))
  refine go (fun _ => XS.aloadN X0.here hx rfl (hb hby d6_18) rfl rfl) ?_
  show Go _ p e below s _ _ _ (s₁.setTop (mkF m 19 #[.val (.ref b1), .val (.ref b2), .val (.int (10 : Int32))] [(.ref b2), (.int (99 : Int32))]))
  refine go (fun _ => XS.iloadN X0.here hx rfl (hb hby d6_19) rfl) ?_
  show Go _ p e below s _ _ _ (s₁.setTop (mkF m 20 #[.val (.ref b1), .val (.ref b2), .val (.int (10 : Int32))] [(.int (10 : Int32)), (.ref b2), (.int (99 : Int32))]))
  obtain ⟨cl116, Ar116, q116, Sz116, Nz116, Hs116, Gs116⟩ := id P1
  have hin116 : ¬ ((10 : Int32) < 0 ∨ cl116.slots.size ≤ ((10 : Int32)).toNatClampNeg) := inb_of Sz116 ⟨by decide, by decide⟩
  refine go (X0.baloadBytes hx (j := (10 : Int32)) (v := (.int (99 : Int32))) (by rw [e0]; exact Ar116.1) (State.isArrayOf_alike hZ.alike Ar116.2.1) Ar116.2.2 hin116 (Hs116.at hin116 rfl) (g := (mkF m 20 #[.val (.ref b1), .val (.ref b2), .val (.int (10 : Int32))] [(.int (10 : Int32)), (.ref b2), (.int (99 : Int32))])) rfl rfl (hb hby d6_20)) ?_
  show Go _ p e below s _ _ _ (s₁.setTop (mkF m 21 #[.val (.ref b1), .val (.ref b2), .val (.int (10 : Int32))] [(.int (99 : Int32)), (.int (99 : Int32))]))
  refine go (fun _ => XS.icmpYes X0.here hx rfl (pc0 := 21) (pc' := 26) rfl (hb hby d6_21) rfl (teq (rfl : (99 : Int32) = (99 : Int32))).1 (by decide) (by decide)) ?_
  show Go _ p e below s _ _ _ (s₁.setTop (mkF m 26 #[.val (.ref b1), .val (.ref b2), .val (.int (10 : Int32))] []))
  refine go (fun _ => XS.iinc X0.here hx rfl (hb hby d6_26) rfl (l' := #[.val (.ref b1), .val (.ref b2), .val (.int (11 : Int32))]) rfl) ?_
  show Go _ p e below s _ _ _ (s₁.setTop (mkF m 29 #[.val (.ref b1), .val (.ref b2), .val (.int (11 : Int32))] []))
  refine go (fun _ => XS.goto X0.here hx rfl (pc0 := 29) (pc' := 9) rfl (hb hby d6_29) (by decide) (by decide)) ?_
  show Go _ p e below s _ _ _ (s₁.setTop (mkF m 9 #[.val (.ref b1), .val (.ref b2), .val (.int (11 : Int32))] []))
  refine go (fun _ => XS.iloadN X0.here hx rfl (hb hby d6_9) rfl) ?_
  show Go _ p e below s _ _ _ (s₁.setTop (mkF m 10 #[.val (.ref b1), .val (.ref b2), .val (.int (11 : Int32))] [(.int (11 : Int32))]))
  refine go (fun _ => XS.aloadN X0.here hx rfl (hb hby d6_10) rfl rfl) ?_
  show Go _ p e below s _ _ _ (s₁.setTop (mkF m 11 #[.val (.ref b1), .val (.ref b2), .val (.int (11 : Int32))] [(.ref b1), (.int (11 : Int32))]))
  obtain ⟨cl117, Ar117, -, Sz117, Nz117, -, -⟩ := id P0
  refine go (X0.arraylength hx (by rw [e0]; exact Ar117.1) (State.isArrayOf_alike hZ.alike Ar117.2.1) (g := (mkF m 11 #[.val (.ref b1), .val (.ref b2), .val (.int (11 : Int32))] [(.ref b1), (.int (11 : Int32))])) rfl rfl (hb hby d6_11)) ?_
  rw [len_of Sz117 Nz117]
  show Go _ p e below s _ _ _ (s₁.setTop (mkF m 12 #[.val (.ref b1), .val (.ref b2), .val (.int (11 : Int32))] [(.int (16 : Int32)), (.int (11 : Int32))]))
  refine go (fun _ => XS.icmpNo X0.here hx rfl (hb hby d6_12) rfl (tlt (by decide : ((11 : Int32) < (16 : Int32)))).2.1) ?_
  show Go _ p e below s _ _ _ (s₁.setTop (mkF m 15 #[.val (.ref b1), .val (.ref b2), .val (.int (11 : Int32))] []))
  refine go (fun _ => XS.aloadN X0.here hx rfl (hb hby d6_15) rfl rfl) ?_
  show Go _ p e below s _ _ _ (s₁.setTop (mkF m 16 #[.val (.ref b1), .val (.ref b2), .val (.int (11 : Int32))] [(.ref b1)]))
  refine go (fun _ => XS.iloadN X0.here hx rfl (hb hby d6_16) rfl) ?_
  show Go _ p e below s _ _ _ (s₁.setTop (mkF m 17 #[.val (.ref b1), .val (.ref b2), .val (.int (11 : Int32))] [(.int (11 : Int32)), (.ref b1)]))
  obtain ⟨cl118, Ar118, q118, Sz118, Nz118, Hs118, Gs118⟩ := id P0
  have hin118 : ¬ ((11 : Int32) < 0 ∨ cl118.slots.size ≤ ((11 : Int32)).toNatClampNeg) := inb_of Sz118 ⟨by decide, by decide⟩
  refine go (X0.baloadBytes hx (j := (11 : Int32)) (v := (.int (116 : Int32))) (by rw [e0]; exact Ar118.1) (State.isArrayOf_alike hZ.alike Ar118.2.1) Ar118.2.2 hin118 (Hs118.at hin118 rfl) (g := (mkF m 17 #[.val (.ref b1), .val (.ref b2), .val (.int (11 : Int32))] [(.int (11 : Int32)), (.ref b1)])) rfl rfl (hb hby d6_17)) ?_
  show Go _ p e below s _ _ _ (s₁.setTop (mkF m 18 #[.val (.ref b1), .val (.ref b2), .val (.int (11 : Int32))] [(.int (116 : Int32))]))
  refine go (fun _ => XS.aloadN X0.here hx rfl (hb hby d6_18) rfl rfl) ?_
  show Go _ p e below s _ _ _ (s₁.setTop (mkF m 19 #[.val (.ref b1), .val (.ref b2), .val (.int (11 : Int32))] [(.ref b2), (.int (116 : Int32))]))
  refine go (fun _ => XS.iloadN X0.here hx rfl (hb hby d6_19) rfl) ?_
  show Go _ p e below s _ _ _ (s₁.setTop (mkF m 20 #[.val (.ref b1), .val (.ref b2), .val (.int (11 : Int32))] [(.int (11 : Int32)), (.ref b2), (.int (116 : Int32))]))
  obtain ⟨cl119, Ar119, q119, Sz119, Nz119, Hs119, Gs119⟩ := id P1
  have hin119 : ¬ ((11 : Int32) < 0 ∨ cl119.slots.size ≤ ((11 : Int32)).toNatClampNeg) := inb_of Sz119 ⟨by decide, by decide⟩
  refine go (X0.baloadBytes hx (j := (11 : Int32)) (v := (.int (116 : Int32))) (by rw [e0]; exact Ar119.1) (State.isArrayOf_alike hZ.alike Ar119.2.1) Ar119.2.2 hin119 (Hs119.at hin119 rfl) (g := (mkF m 20 #[.val (.ref b1), .val (.ref b2), .val (.int (11 : Int32))] [(.int (11 : Int32)), (.ref b2), (.int (116 : Int32))])) rfl rfl (hb hby d6_20)) ?_
  show Go _ p e below s _ _ _ (s₁.setTop (mkF m 21 #[.val (.ref b1), .val (.ref b2), .val (.int (11 : Int32))] [(.int (116 : Int32)), (.int (116 : Int32))]))
  refine go (fun _ => XS.icmpYes X0.here hx rfl (pc0 := 21) (pc' := 26) rfl (hb hby d6_21) rfl (teq (rfl : (116 : Int32) = (116 : Int32))).1 (by decide) (by decide)) ?_
  show Go _ p e below s _ _ _ (s₁.setTop (mkF m 26 #[.val (.ref b1), .val (.ref b2), .val (.int (11 : Int32))] []))
  refine go (fun _ => XS.iinc X0.here hx rfl (hb hby d6_26) rfl (l' := #[.val (.ref b1), .val (.ref b2), .val (.int (12 : Int32))]) rfl) ?_
  show Go _ p e below s _ _ _ (s₁.setTop (mkF m 29 #[.val (.ref b1), .val (.ref b2), .val (.int (12 : Int32))] []))
  refine go (fun _ => XS.goto X0.here hx rfl (pc0 := 29) (pc' := 9) rfl (hb hby d6_29) (by decide) (by decide)) ?_
  show Go _ p e below s _ _ _ (s₁.setTop (mkF m 9 #[.val (.ref b1), .val (.ref b2), .val (.int (12 : Int32))] []))
  refine go (fun _ => XS.iloadN X0.here hx rfl (hb hby d6_9) rfl) ?_
  show Go _ p e below s _ _ _ (s₁.setTop (mkF m 10 #[.val (.ref b1), .val (.ref b2), .val (.int (12 : Int32))] [(.int (12 : Int32))]))
  refine go (fun _ => XS.aloadN X0.here hx rfl (hb hby d6_10) rfl rfl) ?_
  show Go _ p e below s _ _ _ (s₁.setTop (mkF m 11 #[.val (.ref b1), .val (.ref b2), .val (.int (12 : Int32))] [(.ref b1), (.int (12 : Int32))]))
  obtain ⟨cl120, Ar120, -, Sz120, Nz120, -, -⟩ := id P0
  refine go (X0.arraylength hx (by rw [e0]; exact Ar120.1) (State.isArrayOf_alike hZ.alike Ar120.2.1) (g := (mkF m 11 #[.val (.ref b1), .val (.ref b2), .val (.int (12 : Int32))] [(.ref b1), (.int (12 : Int32))])) rfl rfl (hb hby d6_11)) ?_
  rw [len_of Sz120 Nz120]
  show Go _ p e below s _ _ _ (s₁.setTop (mkF m 12 #[.val (.ref b1), .val (.ref b2), .val (.int (12 : Int32))] [(.int (16 : Int32)), (.int (12 : Int32))]))
  refine go (fun _ => XS.icmpNo X0.here hx rfl (hb hby d6_12) rfl (tlt (by decide : ((12 : Int32) < (16 : Int32)))).2.1) ?_
  show Go _ p e below s _ _ _ (s₁.setTop (mkF m 15 #[.val (.ref b1), .val (.ref b2), .val (.int (12 : Int32))] []))
  refine go (fun _ => XS.aloadN X0.here hx rfl (hb hby d6_15) rfl rfl) ?_
  show Go _ p e below s _ _ _ (s₁.setTop (mkF m 16 #[.val (.ref b1), .val (.ref b2), .val (.int (12 : Int32))] [(.ref b1)]))
  refine go (fun _ => XS.iloadN X0.here hx rfl (hb hby d6_16) rfl) ?_
  show Go _ p e below s _ _ _ (s₁.setTop (mkF m 17 #[.val (.ref b1), .val (.ref b2), .val (.int (12 : Int32))] [(.int (12 : Int32)), (.ref b1)]))
  obtain ⟨cl121, Ar121, q121, Sz121, Nz121, Hs121, Gs121⟩ := id P0
  have hin121 : ¬ ((12 : Int32) < 0 ∨ cl121.slots.size ≤ ((12 : Int32)).toNatClampNeg) := inb_of Sz121 ⟨by decide, by decide⟩
  refine go (X0.baloadBytes hx (j := (12 : Int32)) (v := (.int (117 : Int32))) (by rw [e0]; exact Ar121.1) (State.isArrayOf_alike hZ.alike Ar121.2.1) Ar121.2.2 hin121 (Hs121.at hin121 rfl) (g := (mkF m 17 #[.val (.ref b1), .val (.ref b2), .val (.int (12 : Int32))] [(.int (12 : Int32)), (.ref b1)])) rfl rfl (hb hby d6_17)) ?_
  show Go _ p e below s _ _ _ (s₁.setTop (mkF m 18 #[.val (.ref b1), .val (.ref b2), .val (.int (12 : Int32))] [(.int (117 : Int32))]))
  refine go (fun _ => XS.aloadN X0.here hx rfl (hb hby d6_18) rfl rfl) ?_
  show Go _ p e below s _ _ _ (s₁.setTop (mkF m 19 #[.val (.ref b1), .val (.ref b2), .val (.int (12 : Int32))] [(.ref b2), (.int (117 : Int32))]))
  refine go (fun _ => XS.iloadN X0.here hx rfl (hb hby d6_19) rfl) ?_
  show Go _ p e below s _ _ _ (s₁.setTop (mkF m 20 #[.val (.ref b1), .val (.ref b2), .val (.int (12 : Int32))] [(.int (12 : Int32)), (.ref b2), (.int (117 : Int32))]))
  obtain ⟨cl122, Ar122, q122, Sz122, Nz122, Hs122, Gs122⟩ := id P1
  have hin122 : ¬ ((12 : Int32) < 0 ∨ cl122.slots.size ≤ ((12 : Int32)).toNatClampNeg) := inb_of Sz122 ⟨by decide, by decide⟩
  refine go (X0.baloadBytes hx (j := (12 : Int32)) (v := (.int (117 : Int32))) (by rw [e0]; exact Ar122.1) (State.isArrayOf_alike hZ.alike Ar122.2.1) Ar122.2.2 hin122 (Hs122.at hin122 rfl) (g := (mkF m 20 #[.val (.ref b1), .val (.ref b2), .val (.int (12 : Int32))] [(.int (12 : Int32)), (.ref b2), (.int (117 : Int32))])) rfl rfl (hb hby d6_20)) ?_
  show Go _ p e below s _ _ _ (s₁.setTop (mkF m 21 #[.val (.ref b1), .val (.ref b2), .val (.int (12 : Int32))] [(.int (117 : Int32)), (.int (117 : Int32))]))
  refine go (fun _ => XS.icmpYes X0.here hx rfl (pc0 := 21) (pc' := 26) rfl (hb hby d6_21) rfl (teq (rfl : (117 : Int32) = (117 : Int32))).1 (by decide) (by decide)) ?_
  show Go _ p e below s _ _ _ (s₁.setTop (mkF m 26 #[.val (.ref b1), .val (.ref b2), .val (.int (12 : Int32))] []))
  refine go (fun _ => XS.iinc X0.here hx rfl (hb hby d6_26) rfl (l' := #[.val (.ref b1), .val (.ref b2), .val (.int (13 : Int32))]) rfl) ?_
  show Go _ p e below s _ _ _ (s₁.setTop (mkF m 29 #[.val (.ref b1), .val (.ref b2), .val (.int (13 : Int32))] []))
  refine go (fun _ => XS.goto X0.here hx rfl (pc0 := 29) (pc' := 9) rfl (hb hby d6_29) (by decide) (by decide)) ?_
  show Go _ p e below s _ _ _ (s₁.setTop (mkF m 9 #[.val (.ref b1), .val (.ref b2), .val (.int (13 : Int32))] []))
  refine go (fun _ => XS.iloadN X0.here hx rfl (hb hby d6_9) rfl) ?_
  show Go _ p e below s _ _ _ (s₁.setTop (mkF m 10 #[.val (.ref b1), .val (.ref b2), .val (.int (13 : Int32))] [(.int (13 : Int32))]))
  refine go (fun _ => XS.aloadN X0.here hx rfl (hb hby d6_10) rfl rfl) ?_
  show Go _ p e below s _ _ _ (s₁.setTop (mkF m 11 #[.val (.ref b1), .val (.ref b2), .val (.int (13 : Int32))] [(.ref b1), (.int (13 : Int32))]))
  obtain ⟨cl123, Ar123, -, Sz123, Nz123, -, -⟩ := id P0
  refine go (X0.arraylength hx (by rw [e0]; exact Ar123.1) (State.isArrayOf_alike hZ.alike Ar123.2.1) (g := (mkF m 11 #[.val (.ref b1), .val (.ref b2), .val (.int (13 : Int32))] [(.ref b1), (.int (13 : Int32))])) rfl rfl (hb hby d6_11)) ?_
  rw [len_of Sz123 Nz123]
  show Go _ p e below s _ _ _ (s₁.setTop (mkF m 12 #[.val (.ref b1), .val (.ref b2), .val (.int (13 : Int32))] [(.int (16 : Int32)), (.int (13 : Int32))]))
  refine go (fun _ => XS.icmpNo X0.here hx rfl (hb hby d6_12) rfl (tlt (by decide : ((13 : Int32) < (16 : Int32)))).2.1) ?_
  show Go _ p e below s _ _ _ (s₁.setTop (mkF m 15 #[.val (.ref b1), .val (.ref b2), .val (.int (13 : Int32))] []))
  refine go (fun _ => XS.aloadN X0.here hx rfl (hb hby d6_15) rfl rfl) ?_
  show Go _ p e below s _ _ _ (s₁.setTop (mkF m 16 #[.val (.ref b1), .val (.ref b2), .val (.int (13 : Int32))] [(.ref b1)]))
  refine go (fun _ => XS.iloadN X0.here hx rfl (hb hby d6_16) rfl) ?_
  show Go _ p e below s _ _ _ (s₁.setTop (mkF m 17 #[.val (.ref b1), .val (.ref b2), .val (.int (13 : Int32))] [(.int (13 : Int32)), (.ref b1)]))
  obtain ⟨cl124, Ar124, q124, Sz124, Nz124, Hs124, Gs124⟩ := id P0
  have hin124 : ¬ ((13 : Int32) < 0 ∨ cl124.slots.size ≤ ((13 : Int32)).toNatClampNeg) := inb_of Sz124 ⟨by decide, by decide⟩
  refine go (X0.baloadBytes hx (j := (13 : Int32)) (v := (.int (114 : Int32))) (by rw [e0]; exact Ar124.1) (State.isArrayOf_alike hZ.alike Ar124.2.1) Ar124.2.2 hin124 (Hs124.at hin124 rfl) (g := (mkF m 17 #[.val (.ref b1), .val (.ref b2), .val (.int (13 : Int32))] [(.int (13 : Int32)), (.ref b1)])) rfl rfl (hb hby d6_17)) ?_
  show Go _ p e below s _ _ _ (s₁.setTop (mkF m 18 #[.val (.ref b1), .val (.ref b2), .val (.int (13 : Int32))] [(.int (114 : Int32))]))
  refine go (fun _ => XS.aloadN X0.here hx rfl (hb hby d6_18) rfl rfl) ?_
  show Go _ p e below s _ _ _ (s₁.setTop (mkF m 19 #[.val (.ref b1), .val (.ref b2), .val (.int (13 : Int32))] [(.ref b2), (.int (114 : Int32))]))
  refine go (fun _ => XS.iloadN X0.here hx rfl (hb hby d6_19) rfl) ?_
  show Go _ p e below s _ _ _ (s₁.setTop (mkF m 20 #[.val (.ref b1), .val (.ref b2), .val (.int (13 : Int32))] [(.int (13 : Int32)), (.ref b2), (.int (114 : Int32))]))
  obtain ⟨cl125, Ar125, q125, Sz125, Nz125, Hs125, Gs125⟩ := id P1
  have hin125 : ¬ ((13 : Int32) < 0 ∨ cl125.slots.size ≤ ((13 : Int32)).toNatClampNeg) := inb_of Sz125 ⟨by decide, by decide⟩
  refine go (X0.baloadBytes hx (j := (13 : Int32)) (v := (.int (114 : Int32))) (by rw [e0]; exact Ar125.1) (State.isArrayOf_alike hZ.alike Ar125.2.1) Ar125.2.2 hin125 (Hs125.at hin125 rfl) (g := (mkF m 20 #[.val (.ref b1), .val (.ref b2), .val (.int (13 : Int32))] [(.int (13 : Int32)), (.ref b2), (.int (114 : Int32))])) rfl rfl (hb hby d6_20)) ?_
  show Go _ p e below s _ _ _ (s₁.setTop (mkF m 21 #[.val (.ref b1), .val (.ref b2), .val (.int (13 : Int32))] [(.int (114 : Int32)), (.int (114 : Int32))]))
  refine go (fun _ => XS.icmpYes X0.here hx rfl (pc0 := 21) (pc' := 26) rfl (hb hby d6_21) rfl (teq (rfl : (114 : Int32) = (114 : Int32))).1 (by decide) (by decide)) ?_
  show Go _ p e below s _ _ _ (s₁.setTop (mkF m 26 #[.val (.ref b1), .val (.ref b2), .val (.int (13 : Int32))] []))
  refine go (fun _ => XS.iinc X0.here hx rfl (hb hby d6_26) rfl (l' := #[.val (.ref b1), .val (.ref b2), .val (.int (14 : Int32))]) rfl) ?_
  show Go _ p e below s _ _ _ (s₁.setTop (mkF m 29 #[.val (.ref b1), .val (.ref b2), .val (.int (14 : Int32))] []))
  refine go (fun _ => XS.goto X0.here hx rfl (pc0 := 29) (pc' := 9) rfl (hb hby d6_29) (by decide) (by decide)) ?_
  show Go _ p e below s _ _ _ (s₁.setTop (mkF m 9 #[.val (.ref b1), .val (.ref b2), .val (.int (14 : Int32))] []))
  refine go (fun _ => XS.iloadN X0.here hx rfl (hb hby d6_9) rfl) ?_
  show Go _ p e below s _ _ _ (s₁.setTop (mkF m 10 #[.val (.ref b1), .val (.ref b2), .val (.int (14 : Int32))] [(.int (14 : Int32))]))
  refine go (fun _ => XS.aloadN X0.here hx rfl (hb hby d6_10) rfl rfl) ?_
  show Go _ p e below s _ _ _ (s₁.setTop (mkF m 11 #[.val (.ref b1), .val (.ref b2), .val (.int (14 : Int32))] [(.ref b1), (.int (14 : Int32))]))
  obtain ⟨cl126, Ar126, -, Sz126, Nz126, -, -⟩ := id P0
  refine go (X0.arraylength hx (by rw [e0]; exact Ar126.1) (State.isArrayOf_alike hZ.alike Ar126.2.1) (g := (mkF m 11 #[.val (.ref b1), .val (.ref b2), .val (.int (14 : Int32))] [(.ref b1), (.int (14 : Int32))])) rfl rfl (hb hby d6_11)) ?_
  rw [len_of Sz126 Nz126]
  show Go _ p e below s _ _ _ (s₁.setTop (mkF m 12 #[.val (.ref b1), .val (.ref b2), .val (.int (14 : Int32))] [(.int (16 : Int32)), (.int (14 : Int32))]))
  refine go (fun _ => XS.icmpNo X0.here hx rfl (hb hby d6_12) rfl (tlt (by decide : ((14 : Int32) < (16 : Int32)))).2.1) ?_
  show Go _ p e below s _ _ _ (s₁.setTop (mkF m 15 #[.val (.ref b1), .val (.ref b2), .val (.int (14 : Int32))] []))
  refine go (fun _ => XS.aloadN X0.here hx rfl (hb hby d6_15) rfl rfl) ?_
  show Go _ p e below s _ _ _ (s₁.setTop (mkF m 16 #[.val (.ref b1), .val (.ref b2), .val (.int (14 : Int32))] [(.ref b1)]))
  refine go (fun _ => XS.iloadN X0.here hx rfl (hb hby d6_16) rfl) ?_
  show Go _ p e below s _ _ _ (s₁.setTop (mkF m 17 #[.val (.ref b1), .val (.ref b2), .val (.int (14 : Int32))] [(.int (14 : Int32)), (.ref b1)]))
  obtain ⟨cl127, Ar127, q127, Sz127, Nz127, Hs127, Gs127⟩ := id P0
  have hin127 : ¬ ((14 : Int32) < 0 ∨ cl127.slots.size ≤ ((14 : Int32)).toNatClampNeg) := inb_of Sz127 ⟨by decide, by decide⟩
  refine go (X0.baloadBytes hx (j := (14 : Int32)) (v := (.int (101 : Int32))) (by rw [e0]; exact Ar127.1) (State.isArrayOf_alike hZ.alike Ar127.2.1) Ar127.2.2 hin127 (Hs127.at hin127 rfl) (g := (mkF m 17 #[.val (.ref b1), .val (.ref b2), .val (.int (14 : Int32))] [(.int (14 : Int32)), (.ref b1)])) rfl rfl (hb hby d6_17)) ?_
  show Go _ p e below s _ _ _ (s₁.setTop (mkF m 18 #[.val (.ref b1), .val (.ref b2), .val (.int (14 : Int32))] [(.int (101 : Int32))]))
  refine go (fun _ => XS.aloadN X0.here hx rfl (hb hby d6_18) rfl rfl) ?_
  show Go _ p e below s _ _ _ (s₁.setTop (mkF m 19 #[.val (.ref b1), .val (.ref b2), .val (.int (14 : Int32))] [(.ref b2), (.int (101 : Int32))]))
  refine go (fun _ => XS.iloadN X0.here hx rfl (hb hby d6_19) rfl) ?_
  show Go _ p e below s _ _ _ (s₁.setTop (mkF m 20 #[.val (.ref b1), .val (.ref b2), .val (.int (14 : Int32))] [(.int (14 : Int32)), (.ref b2), (.int (101 : Int32))]))
  obtain ⟨cl128, Ar128, q128, Sz128, Nz128, Hs128, Gs128⟩ := id P1
  have hin128 : ¬ ((14 : Int32) < 0 ∨ cl128.slots.size ≤ ((14 : Int32)).toNatClampNeg) := inb_of Sz128 ⟨by decide, by decide⟩
  refine go (X0.baloadBytes hx (j := (14 : Int32)) (v := (.int (101 : Int32))) (by rw [e0]; exact Ar128.1) (State.isArrayOf_alike hZ.alike Ar128.2.1) Ar128.2.2 hin128 (Hs128.at hin128 rfl) (g := (mkF m 20 #[.val (.ref b1), .val (.ref b2), .val (.int (14 : Int32))] [(.int (14 : Int32)), (.ref b2), (.int (101 : Int32))])) rfl rfl (hb hby d6_20)) ?_
  show Go _ p e below s _ _ _ (s₁.setTop (mkF m 21 #[.val (.ref b1), .val (.ref b2), .val (.int (14 : Int32))] [(.int (101 : Int32)), (.int (101 : Int32))]))
  refine go (fun _ => XS.icmpYes X0.here hx rfl (pc0 := 21) (pc' := 26) rfl (hb hby d6_21) rfl (teq (rfl : (101 : Int32) = (101 : Int32))).1 (by decide) (by decide)) ?_
  show Go _ p e below s _ _ _ (s₁.setTop (mkF m 26 #[.val (.ref b1), .val (.ref b2), .val (.int (14 : Int32))] []))
  refine go (fun _ => XS.iinc X0.here hx rfl (hb hby d6_26) rfl (l' := #[.val (.ref b1), .val (.ref b2), .val (.int (15 : Int32))]) rfl) ?_
  show Go _ p e below s _ _ _ (s₁.setTop (mkF m 29 #[.val (.ref b1), .val (.ref b2), .val (.int (15 : Int32))] []))
  refine go (fun _ => XS.goto X0.here hx rfl (pc0 := 29) (pc' := 9) rfl (hb hby d6_29) (by decide) (by decide)) ?_
  show Go _ p e below s _ _ _ (s₁.setTop (mkF m 9 #[.val (.ref b1), .val (.ref b2), .val (.int (15 : Int32))] []))
  refine go (fun _ => XS.iloadN X0.here hx rfl (hb hby d6_9) rfl) ?_
  show Go _ p e below s _ _ _ (s₁.setTop (mkF m 10 #[.val (.ref b1), .val (.ref b2), .val (.int (15 : Int32))] [(.int (15 : Int32))]))
  refine go (fun _ => XS.aloadN X0.here hx rfl (hb hby d6_10) rfl rfl) ?_
  show Go _ p e below s _ _ _ (s₁.setTop (mkF m 11 #[.val (.ref b1), .val (.ref b2), .val (.int (15 : Int32))] [(.ref b1), (.int (15 : Int32))]))
  obtain ⟨cl129, Ar129, -, Sz129, Nz129, -, -⟩ := id P0
  refine go (X0.arraylength hx (by rw [e0]; exact Ar129.1) (State.isArrayOf_alike hZ.alike Ar129.2.1) (g := (mkF m 11 #[.val (.ref b1), .val (.ref b2), .val (.int (15 : Int32))] [(.ref b1), (.int (15 : Int32))])) rfl rfl (hb hby d6_11)) ?_
  rw [len_of Sz129 Nz129]
  show Go _ p e below s _ _ _ (s₁.setTop (mkF m 12 #[.val (.ref b1), .val (.ref b2), .val (.int (15 : Int32))] [(.int (16 : Int32)), (.int (15 : Int32))]))
  refine go (fun _ => XS.icmpNo X0.here hx rfl (hb hby d6_12) rfl (tlt (by decide : ((15 : Int32) < (16 : Int32)))).2.1) ?_
  show Go _ p e below s _ _ _ (s₁.setTop (mkF m 15 #[.val (.ref b1), .val (.ref b2), .val (.int (15 : Int32))] []))
  refine go (fun _ => XS.aloadN X0.here hx rfl (hb hby d6_15) rfl rfl) ?_
  show Go _ p e below s _ _ _ (s₁.setTop (mkF m 16 #[.val (.ref b1), .val (.ref b2), .val (.int (15 : Int32))] [(.ref b1)]))
  refine go (fun _ => XS.iloadN X0.here hx rfl (hb hby d6_16) rfl) ?_
  show Go _ p e below s _ _ _ (s₁.setTop (mkF m 17 #[.val (.ref b1), .val (.ref b2), .val (.int (15 : Int32))] [(.int (15 : Int32)), (.ref b1)]))
  obtain ⟨cl130, Ar130, q130, Sz130, Nz130, Hs130, Gs130⟩ := id P0
  have hin130 : ¬ ((15 : Int32) < 0 ∨ cl130.slots.size ≤ ((15 : Int32)).toNatClampNeg) := inb_of Sz130 ⟨by decide, by decide⟩
  refine go (X0.baloadBytes hx (j := (15 : Int32)) (v := (.int (115 : Int32))) (by rw [e0]; exact Ar130.1) (State.isArrayOf_alike hZ.alike Ar130.2.1) Ar130.2.2 hin130 (Hs130.at hin130 rfl) (g := (mkF m 17 #[.val (.ref b1), .val (.ref b2), .val (.int (15 : Int32))] [(.int (15 : Int32)), (.ref b1)])) rfl rfl (hb hby d6_17)) ?_
  show Go _ p e below s _ _ _ (s₁.setTop (mkF m 18 #[.val (.ref b1), .val (.ref b2), .val (.int (15 : Int32))] [(.int (115 : Int32))]))
  refine go (fun _ => XS.aloadN X0.here hx rfl (hb hby d6_18) rfl rfl) ?_
  show Go _ p e below s _ _ _ (s₁.setTop (mkF m 19 #[.val (.ref b1), .val (.ref b2), .val (.int (15 : Int32))] [(.ref b2), (.int (115 : Int32))]))
  refine go (fun _ => XS.iloadN X0.here hx rfl (hb hby d6_19) rfl) ?_
  show Go _ p e below s _ _ _ (s₁.setTop (mkF m 20 #[.val (.ref b1), .val (.ref b2), .val (.int (15 : Int32))] [(.int (15 : Int32)), (.ref b2), (.int (115 : Int32))]))
  obtain ⟨cl131, Ar131, q131, Sz131, Nz131, Hs131, Gs131⟩ := id P1
  have hin131 : ¬ ((15 : Int32) < 0 ∨ cl131.slots.size ≤ ((15 : Int32)).toNatClampNeg) := inb_of Sz131 ⟨by decide, by decide⟩
  refine go (X0.baloadBytes hx (j := (15 : Int32)) (v := (.int (115 : Int32))) (by rw [e0]; exact Ar131.1) (State.isArrayOf_alike hZ.alike Ar131.2.1) Ar131.2.2 hin131 (Hs131.at hin131 rfl) (g := (mkF m 20 #[.val (.ref b1), .val (.ref b2), .val (.int (15 : Int32))] [(.int (15 : Int32)), (.ref b2), (.int (115 : Int32))])) rfl rfl (hb hby d6_20)) ?_
  show Go _ p e below s _ _ _ (s₁.setTop (mkF m 21 #[.val (.ref b1), .val (.ref b2), .val (.int (15 : Int32))] [(.int (115 : Int32)), (.int (115 : Int32))]))
  refine go (fun _ => XS.icmpYes X0.here hx rfl (pc0 := 21) (pc' := 26) rfl (hb hby d6_21) rfl (teq (rfl : (115 : Int32) = (115 : Int32))).1 (by decide) (by decide)) ?_
  show Go _ p e below s _ _ _ (s₁.setTop (mkF m 26 #[.val (.ref b1), .val (.ref b2), .val (.int (15 : Int32))] []))
  refine go (fun _ => XS.iinc X0.here hx rfl (hb hby d6_26) rfl (l' := #[.val (.ref b1), .val (.ref b2), .val (.int (16 : Int32))]) rfl) ?_
  show Go _ p e below s _ _ _ (s₁.setTop (mkF m 29 #[.val (.ref b1), .val (.ref b2), .val (.int (16 : Int32))] []))
  refine go (fun _ => XS.goto X0.here hx rfl (pc0 := 29) (pc' := 9) rfl (hb hby d6_29) (by decide) (by decide)) ?_
  show Go _ p e below s _ _ _ (s₁.setTop (mkF m 9 #[.val (.ref b1), .val (.ref b2), .val (.int (16 : Int32))] []))
  refine go (fun _ => XS.iloadN X0.here hx rfl (hb hby d6_9) rfl) ?_
  show Go _ p e below s _ _ _ (s₁.setTop (mkF m 10 #[.val (.ref b1), .val (.ref b2), .val (.int (16 : Int32))] [(.int (16 : Int32))]))
  refine go (fun _ => XS.aloadN X0.here hx rfl (hb hby d6_10) rfl rfl) ?_
  show Go _ p e below s _ _ _ (s₁.setTop (mkF m 11 #[.val (.ref b1), .val (.ref b2), .val (.int (16 : Int32))] [(.ref b1), (.int (16 : Int32))]))
  obtain ⟨cl132, Ar132, -, Sz132, Nz132, -, -⟩ := id P0
  refine go (X0.arraylength hx (by rw [e0]; exact Ar132.1) (State.isArrayOf_alike hZ.alike Ar132.2.1) (g := (mkF m 11 #[.val (.ref b1), .val (.ref b2), .val (.int (16 : Int32))] [(.ref b1), (.int (16 : Int32))])) rfl rfl (hb hby d6_11)) ?_
  rw [len_of Sz132 Nz132]
  show Go _ p e below s _ _ _ (s₁.setTop (mkF m 12 #[.val (.ref b1), .val (.ref b2), .val (.int (16 : Int32))] [(.int (16 : Int32)), (.int (16 : Int32))]))
  refine go (fun _ => XS.icmpYes X0.here hx rfl (pc0 := 12) (pc' := 32) rfl (hb hby d6_12) rfl (flt (by decide : ¬ ((16 : Int32) < (16 : Int32)))).2.1 (by decide) (by decide)) ?_
  show Go _ p e below s _ _ _ (s₁.setTop (mkF m 32 #[.val (.ref b1), .val (.ref b2), .val (.int (16 : Int32))] []))
  refine go (fun _ => XS.iconst X0.here hx rfl (hb hby d6_32)) ?_
  show Go _ p e below s _ _ _ (s₁.setTop (mkF m 33 #[.val (.ref b1), .val (.ref b2), .val (.int (16 : Int32))] [(.int (1 : Int32))]))
  refine goRet X0 hx Bd.notSynchronized Bd.returns rfl (Or.inl ⟨rfl, Or.inr (Or.inl rfl), _, rfl⟩) (hb hby d6_33) (by decide) (by decide) (by rw [e0]; refine ⟨rfl, N0, rfl⟩)
theorem d5_0 : decode jdk_42_method_66_code 0 = .ok (.aload_n 0, 1) := by decide +kernel
theorem d5_1 : decode jdk_42_method_66_code 1 = .ok (.aload_n 1, 1) := by decide +kernel
theorem d5_2 : decode jdk_42_method_66_code 2 = .ok (.if_acmp .ne 5, 3) := by decide +kernel
theorem d5_5 : decode jdk_42_method_66_code 5 = .ok (.iconst 1, 1) := by decide +kernel
theorem d5_6 : decode jdk_42_method_66_code 6 = .ok (.ireturn, 1) := by decide +kernel
theorem d5_7 : decode jdk_42_method_66_code 7 = .ok (.aload_n 1, 1) := by decide +kernel
theorem d5_8 : decode jdk_42_method_66_code 8 = .ok (.instanceof 10, 3) := by decide +kernel
theorem d5_11 : decode jdk_42_method_66_code 11 = .ok (.ifCond .eq 43, 3) := by decide +kernel
theorem d5_14 : decode jdk_42_method_66_code 14 = .ok (.aload_n 1, 1) := by decide +kernel
theorem d5_15 : decode jdk_42_method_66_code 15 = .ok (.checkcast 10, 3) := by decide +kernel
theorem d5_18 : decode jdk_42_method_66_code 18 = .ok (.astore_n 2, 1) := by decide +kernel
theorem d5_19 : decode jdk_42_method_66_code 19 = .ok (.getstatic 38, 3) := by decide +kernel
theorem d5_22 : decode jdk_42_method_66_code 22 = .ok (.ifCond .eq 14, 3) := by decide +kernel
theorem d5_25 : decode jdk_42_method_66_code 25 = .ok (.aload_n 0, 1) := by decide +kernel
theorem d5_26 : decode jdk_42_method_66_code 26 = .ok (.getfield 15, 3) := by decide +kernel
theorem d5_29 : decode jdk_42_method_66_code 29 = .ok (.aload_n 2, 1) := by decide +kernel
theorem d5_30 : decode jdk_42_method_66_code 30 = .ok (.getfield 15, 3) := by decide +kernel
theorem d5_33 : decode jdk_42_method_66_code 33 = .ok (.if_icmp .ne 21, 3) := by decide +kernel
theorem d5_36 : decode jdk_42_method_66_code 36 = .ok (.aload_n 0, 1) := by decide +kernel
theorem d5_37 : decode jdk_42_method_66_code 37 = .ok (.getfield 9, 3) := by decide +kernel
theorem d5_40 : decode jdk_42_method_66_code 40 = .ok (.aload_n 2, 1) := by decide +kernel
theorem d5_41 : decode jdk_42_method_66_code 41 = .ok (.getfield 9, 3) := by decide +kernel
theorem d5_44 : decode jdk_42_method_66_code 44 = .ok (.invokestatic 541, 3) := by decide +kernel
theorem d5_47 : decode jdk_42_method_66_code 47 = .ok (.ifCond .eq 7, 3) := by decide +kernel
theorem d5_50 : decode jdk_42_method_66_code 50 = .ok (.iconst 1, 1) := by decide +kernel
theorem d5_51 : decode jdk_42_method_66_code 51 = .ok (.goto 4, 3) := by decide +kernel
theorem d5_55 : decode jdk_42_method_66_code 55 = .ok (.ireturn, 1) := by decide +kernel
theorem pn_Q00 : plainName "java/lang/String" = true := by first | (simp [plainName, overriddenIn]; done) | decide +kernel
theorem pd_5_0 : parseMethodDescriptor "([B[B)Z" = some ⟨[(.array .byte), (.array .byte)], some .boolean⟩ := by decide +kernel
theorem ef_Q00 (m : MethodId) (a1 : Addr) (a2 : Addr) : entryFrame m #[(.ref a1), (.ref a2)] 3 = mkF m 0 #[.val (.ref a1), .val (.ref a2), .unset] [] := by first | (simp [entryFrame, mkF, argsToLocals, Value.category]; done) | rfl
def QQ00 (Z : State) (a1 : Addr) (a2 : Addr) (w0 : Int32) (b1 : Addr) (k1 : ClassId) (b2 : Addr) (k2 : ClassId) (h0 : Heap) (n0 : Nat) (v : Option Value) (h : Heap) (L : List Loc) : Prop := v = some (.int (1 : Int32)) ∧ Fr n0 L ∧ (h = h0)
set_option maxRecDepth 65536 in
set_option maxHeartbeats 40000000 in
theorem rmQ00 (l : Launch) (Z : State) (a0 : Array Value) (hw : ∀ d ∈ tables_1, d.before a0 Z = true) (ws : List Jvm.Cond) (a1 : Addr) (a2 : Addr) (w0 : Int32) (b1 : Addr) (k1 : ClassId) (b2 : Addr) (k2 : ClassId) (h0 : Heap) (n0 : Nat) (Z0 : n0 ≤ h0.size) (P0 : Old Z n0 h0) (P1 : Sta Z Z.heap "java/lang/String" "COMPACT_STRINGS" "Z" (.int w0)) (P2 : Exa Z h0 a1 "java/lang/String") (P3 : Fld Z h0 a1 "java/lang/String" "coder" "B" (.int (0 : Int32))) (P4 : Fld Z h0 a1 "java/lang/String" "value" "[B" (.ref b1)) (P5 : Arv Z h0 b1 k1 .byte (16 : Int32) [(.int (68 : Int32)), (.int (111 : Int32)), (.int (115 : Int32)), (.int (97 : Int32)), (.int (103 : Int32)), (.int (101 : Int32)), (.int (83 : Int32)), (.int (116 : Int32)), (.int (114 : Int32)), (.int (117 : Int32)), (.int (99 : Int32)), (.int (116 : Int32)), (.int (117 : Int32)), (.int (114 : Int32)), (.int (101 : Int32)), (.int (115 : Int32))] (.int (0 : Int32))) (P6 : Exa Z h0 a2 "java/lang/String") (P7 : Fld Z h0 a2 "java/lang/String" "coder" "B" (.int (0 : Int32))) (P8 : Fld Z h0 a2 "java/lang/String" "value" "[B" (.ref b2)) (P9 : Arv Z h0 b2 k2 .byte (16 : Int32) [(.int (68 : Int32)), (.int (111 : Int32)), (.int (115 : Int32)), (.int (97 : Int32)), (.int (103 : Int32)), (.int (101 : Int32)), (.int (83 : Int32)), (.int (116 : Int32)), (.int (114 : Int32)), (.int (117 : Int32)), (.int (99 : Int32)), (.int (116 : Int32)), (.int (117 : Int32)), (.int (114 : Int32)), (.int (101 : Int32)), (.int (115 : Int32))] (.int (0 : Int32))) (hw0 : ¬ w0 = 0) :
    MetFree l (⟨"java/lang/String", "equals", "(Ljava/lang/Object;)Z"⟩ : MethodName) (head1 (Jvm.Cond.code (⟨"java/lang/String", "equals", "(Ljava/lang/Object;)Z"⟩ : MethodName) jdk_42_method_66_code 3 (some .boolean) :: ws) ({ frames := 1, cells := 0, slots := 0, locals := 14 } : Room)) (fun a U => a = #[(.ref a1), (.ref a2)] ∧ Z.Warmed39 U.vm ∧ U.heap = h0) (fun _ _ _ _ _ => True) (fun _ U o U' => ∃ v L, o = .returned v ∧ QQ00 Z a1 a2 w0 b1 k1 b2 k2 h0 n0 v U'.heap L ∧ FrameEnd U o U' L ({ frames := 1, cells := 0, slots := 0, locals := 14 } : Room).cells ({ frames := 1, cells := 0, slots := 0, locals := 14 } : Room).slots) := by
  refine MetFree.of_bodySF (plainFor_of_name pn_Q00) hisR ?_
  intro p e s m args below meth c s₁ Bd hml0 hP hK
  obtain ⟨rfl, hZ, hh⟩ := hP
  have hx := Bd.exec
  have hby := Bd.bytes
  have hml : c.maxLocals = 3 := hml0
  have hown : s.vm.findClass "java/lang/String" = some m.cls := findClass_of_methodNamed Bd.named
  have hnm := (name_of_methodNamed Bd.named Bd.method).1
  have X0 : Stand p l e ({ frames := 1, cells := 0, slots := 0, locals := 14 } : Room) s m #[(.ref a1), (.ref a2)] below meth c s₁ [] 0 0 := Stand.of_body Bd
  have e0 : s₁.heap = h0 := by rw [← hh, Bd.state]; rfl
  have N0 := Fr.nil n0
  have hS0 : s.Since s.vm 0 := (State.WarmedH.refl s).since 0
  show Go (FrameEnd) p e below s ({ frames := 1, cells := 0, slots := 0, locals := 14 } : Room).cells ({ frames := 1, cells := 0, slots := 0, locals := 14 } : Room).slots (QQ00 Z a1 a2 w0 b1 k1 b2 k2 h0 n0) (s₁.setTop (entryFrame m #[(.ref a1), (.ref a2)] 3))
  refine go (fun _ k => castTop (ef_Q00 m a1 a2) k) ?_
  show Go _ p e below s _ _ _ (s₁.setTop (mkF m 0 #[.val (.ref a1), .val (.ref a2), .unset] []))
  by_cases hsame : a1 = a2
  · show Go _ p e below s _ _ _ (s₁.setTop (mkF m 0 #[.val (.ref a1), .val (.ref a2), .unset] []))
    refine go (fun _ => XS.aloadN X0.here hx rfl (hb hby d5_0) rfl rfl) ?_
    show Go _ p e below s _ _ _ (s₁.setTop (mkF m 1 #[.val (.ref a1), .val (.ref a2), .unset] [(.ref a1)]))
    refine go (fun _ => XS.aloadN X0.here hx rfl (hb hby d5_1) rfl rfl) ?_
    show Go _ p e below s _ _ _ (s₁.setTop (mkF m 2 #[.val (.ref a1), .val (.ref a2), .unset] [(.ref a2), (.ref a1)]))
    refine go (fun _ => Jvm.RoadKit.acmp (g := (mkF m 2 #[.val (.ref a1), .val (.ref a2), .unset] [(.ref a2), (.ref a1)])) X0 hx rfl rfl rfl (pc0 := 2) (pc' := 5) (same := true) rfl (hb hby d5_2) rfl (decide_eq_true (congrArg Value.ref hsame)) (by decide) (by decide)) ?_
    show Go _ p e below s _ _ _ (s₁.setTop (mkF m 5 #[.val (.ref a1), .val (.ref a2), .unset] []))
    refine go (fun _ => XS.iconst X0.here hx rfl (hb hby d5_5)) ?_
    show Go _ p e below s _ _ _ (s₁.setTop (mkF m 6 #[.val (.ref a1), .val (.ref a2), .unset] [(.int (1 : Int32))]))
    refine goRet X0 hx Bd.notSynchronized Bd.returns rfl (Or.inl ⟨rfl, Or.inr (Or.inl rfl), _, rfl⟩) (hb hby d5_6) (by decide) (by decide) (by rw [e0]; refine ⟨rfl, N0, rfl⟩)
  · show Go _ p e below s _ _ _ (s₁.setTop (mkF m 0 #[.val (.ref a1), .val (.ref a2), .unset] []))
    refine go (fun _ => XS.aloadN X0.here hx rfl (hb hby d5_0) rfl rfl) ?_
    show Go _ p e below s _ _ _ (s₁.setTop (mkF m 1 #[.val (.ref a1), .val (.ref a2), .unset] [(.ref a1)]))
    refine go (fun _ => XS.aloadN X0.here hx rfl (hb hby d5_1) rfl rfl) ?_
    show Go _ p e below s _ _ _ (s₁.setTop (mkF m 2 #[.val (.ref a1), .val (.ref a2), .unset] [(.ref a2), (.ref a1)]))
    refine go (fun _ => Jvm.RoadKit.acmp (g := (mkF m 2 #[.val (.ref a1), .val (.ref a2), .unset] [(.ref a2), (.ref a1)])) X0 hx rfl rfl rfl (pc0 := 2) (pc' := 7) (same := false) rfl (hb hby d5_2) rfl (decide_eq_false fun qq => hsame (Value.ref.inj qq)) (by decide) (by decide)) ?_
    show Go _ p e below s _ _ _ (s₁.setTop (mkF m 7 #[.val (.ref a1), .val (.ref a2), .unset] []))
    refine go (fun _ => XS.aloadN X0.here hx rfl (hb hby d5_7) rfl rfl) ?_
    show Go _ p e below s _ _ _ (s₁.setTop (mkF m 8 #[.val (.ref a1), .val (.ref a2), .unset] [(.ref a2)]))
    obtain ⟨T141, X141, e141, st141⟩ := instY X0 hx hZ hown (hw _ (List.mem_of_getElem? (i := 44) rfl)) e0 (Ins.self P6) (g := (mkF m 8 #[.val (.ref a1), .val (.ref a2), .unset] [(.ref a2)])) rfl rfl (hb hby d5_8)
    refine go st141 ?_
    show Go _ p e below s _ _ _ (T141.setTop (mkF m 11 #[.val (.ref a1), .val (.ref a2), .unset] [(.int (1 : Int32))]))
    refine go (fun _ => XS.ifNo X141.here hx rfl (hb hby d5_11) rfl ((if0 _ _).trans (feq (by decide : ¬ ((1 : Int32) = (0 : Int32)))).1)) ?_
    show Go _ p e below s _ _ _ (T141.setTop (mkF m 14 #[.val (.ref a1), .val (.ref a2), .unset] []))
    refine go (fun _ => XS.aloadN X141.here hx rfl (hb hby d5_14) rfl rfl) ?_
    show Go _ p e below s _ _ _ (T141.setTop (mkF m 15 #[.val (.ref a1), .val (.ref a2), .unset] [(.ref a2)]))
    obtain ⟨T142, X142, e142, st142⟩ := castY X141 hx hZ hown (hw _ (List.mem_of_getElem? (i := 44) rfl)) e141 (Ins.self P6) (g := (mkF m 15 #[.val (.ref a1), .val (.ref a2), .unset] [(.ref a2)])) rfl rfl (hb hby d5_15)
    refine go st142 ?_
    show Go _ p e below s _ _ _ (T142.setTop (mkF m 18 #[.val (.ref a1), .val (.ref a2), .unset] [(.ref a2)]))
    refine go (fun _ => XS.astoreN X142.here hx rfl (hb hby d5_18) rfl rfl (l' := #[.val (.ref a1), .val (.ref a2), .val (.ref a2)]) rfl) ?_
    show Go _ p e below s _ _ _ (T142.setTop (mkF m 19 #[.val (.ref a1), .val (.ref a2), .val (.ref a2)] []))
    obtain ⟨T143, X143, e143, st143⟩ := getS2 X142 hx hZ hown (host := "") (Or.inl (hw _ (List.mem_of_getElem? (i := 46) rfl))) Via.refl e142 (P1.ext P0.2) (g := (mkF m 19 #[.val (.ref a1), .val (.ref a2), .val (.ref a2)] [])) rfl (hb hby d5_19)
    refine go st143 ?_
    show Go _ p e below s _ _ _ (T143.setTop (mkF m 22 #[.val (.ref a1), .val (.ref a2), .val (.ref a2)] [(.int w0)]))
    refine go (fun _ => XS.ifNo X143.here hx rfl (hb hby d5_22) rfl ((if0 _ _).trans (feq hw0).1)) ?_
    show Go _ p e below s _ _ _ (T143.setTop (mkF m 25 #[.val (.ref a1), .val (.ref a2), .val (.ref a2)] []))
    refine go (fun _ => XS.aloadN X143.here hx rfl (hb hby d5_25) rfl rfl) ?_
    show Go _ p e below s _ _ _ (T143.setTop (mkF m 26 #[.val (.ref a1), .val (.ref a2), .val (.ref a2)] [(.ref a1)]))
    obtain ⟨T144, X144, e144, st144⟩ := getF X143 hx hZ hown (host := "") (Or.inl (hw _ (List.mem_of_getElem? (i := 47) rfl))) Via.refl e143 P3 (g := (mkF m 26 #[.val (.ref a1), .val (.ref a2), .val (.ref a2)] [(.ref a1)])) rfl rfl (hb hby d5_26)
    refine go st144 ?_
    show Go _ p e below s _ _ _ (T144.setTop (mkF m 29 #[.val (.ref a1), .val (.ref a2), .val (.ref a2)] [(.int (0 : Int32))]))
    refine go (fun _ => XS.aloadN X144.here hx rfl (hb hby d5_29) rfl rfl) ?_
    show Go _ p e below s _ _ _ (T144.setTop (mkF m 30 #[.val (.ref a1), .val (.ref a2), .val (.ref a2)] [(.ref a2), (.int (0 : Int32))]))
    obtain ⟨T145, X145, e145, st145⟩ := getF X144 hx hZ hown (host := "") (Or.inl (hw _ (List.mem_of_getElem? (i := 47) rfl))) Via.refl e144 P7 (g := (mkF m 30 #[.val (.ref a1), .val (.ref a2), .val (.ref a2)] [(.ref a2), (.int (0 : Int32))])) rfl rfl (hb hby d5_30)
    refine go st145 ?_
    show Go _ p e below s _ _ _ (T145.setTop (mkF m 33 #[.val (.ref a1), .val (.ref a2), .val (.ref a2)] [(.int (0 : Int32)), (.int (0 : Int32))]))
    refine go (fun _ => XS.icmpNo X145.here hx rfl (hb hby d5_33) rfl (teq (rfl : (0 : Int32) = (0 : Int32))).2) ?_
    show Go _ p e below s _ _ _ (T145.setTop (mkF m 36 #[.val (.ref a1), .val (.ref a2), .val (.ref a2)] []))
    refine go (fun _ => XS.aloadN X145.here hx rfl (hb hby d5_36) rfl rfl) ?_
    show Go _ p e below s _ _ _ (T145.setTop (mkF m 37 #[.val (.ref a1), .val (.ref a2), .val (.ref a2)] [(.ref a1)]))
    obtain ⟨T146, X146, e146, st146⟩ := getF X145 hx hZ hown (host := "") (Or.inl (hw _ (List.mem_of_getElem? (i := 48) rfl))) Via.refl e145 P4 (g := (mkF m 37 #[.val (.ref a1), .val (.ref a2), .val (.ref a2)] [(.ref a1)])) rfl rfl (hb hby d5_37)
    refine go st146 ?_
    show Go _ p e below s _ _ _ (T146.setTop (mkF m 40 #[.val (.ref a1), .val (.ref a2), .val (.ref a2)] [(.ref b1)]))
    refine go (fun _ => XS.aloadN X146.here hx rfl (hb hby d5_40) rfl rfl) ?_
    show Go _ p e below s _ _ _ (T146.setTop (mkF m 41 #[.val (.ref a1), .val (.ref a2), .val (.ref a2)] [(.ref a2), (.ref b1)]))
    obtain ⟨T147, X147, e147, st147⟩ := getF X146 hx hZ hown (host := "") (Or.inl (hw _ (List.mem_of_getElem? (i := 48) rfl))) Via.refl e146 P8 (g := (mkF m 41 #[.val (.ref a1), .val (.ref a2), .val (.ref a2)] [(.ref a2), (.ref b1)])) rfl rfl (hb hby d5_41)
    refine go st147 ?_
    show Go _ p e below s _ _ _ (T147.setTop (mkF m 44 #[.val (.ref a1), .val (.ref a2), .val (.ref a2)] [(.ref b2), (.ref b1)]))
    obtain ⟨_, _, ⟨T148, L148, k148, n148⟩, -, X148, ⟨Lc148, hQ148, l148, y148, z148⟩, st148⟩ := Jvm.LawKit.callS X147 hx (y := (⟨"java/lang/StringLatin1", "equals", "([B[B)Z"⟩ : MethodName)) hown (mvT hZ (hw _ (List.mem_of_getElem? (i := 49) rfl))) (mvT hZ (hw _ (List.mem_of_getElem? (i := 50) rfl))) (mvT hZ (hw _ (List.mem_of_getElem? (i := 51) rfl))) (mvT hZ (hw _ (List.mem_of_getElem? (i := 52) rfl))) (by decide) (backOf (W := 0) (rmL00 l Z a0 hw [] b1 b2 k1 k2 h0 n0 Z0 P5 P9) hZ (hw _ (List.mem_of_getElem? (i := 52) rfl)) (hw _ (List.mem_of_getElem? (i := 51) rfl)) (by decide) (by decide)) (g := (mkF m 44 #[.val (.ref a1), .val (.ref a2), .val (.ref a2)] [(.ref b2), (.ref b1)])) rfl (by rw [hml]; rfl) (argsL := [(.ref b1), (.ref b2)]) (rest := []) (lenOf pd_5_0 rfl) rfl (by show 2 * 0 + _ ≤ _; exact Nat.le_of_eq rfl) (hb hby d5_44) (fun _ _ => ⟨rfl, e147, (by decide : 0 + 0 ≤ _), (by decide : 0 + 0 ≤ _)⟩)
    dsimp only [Pt.U, Pt.locs, Pt.cells, Pt.slots] at X148 l148 y148 z148 st148 hQ148
    subst l148 y148 z148
    obtain ⟨rfl, N148q, e148⟩ := hQ148
    have N148 := Fr.app N0 N148q
    refine go st148 ?_
    show Go _ p e below s _ _ _ (T148.setTop (mkF m 47 #[.val (.ref a1), .val (.ref a2), .val (.ref a2)] [(.int (1 : Int32))]))
    refine go (fun _ => XS.ifNo X148.here hx rfl (hb hby d5_47) rfl ((if0 _ _).trans (feq (by decide : ¬ ((1 : Int32) = (0 : Int32)))).1)) ?_
    show Go _ p e below s _ _ _ (T148.setTop (mkF m 50 #[.val (.ref a1), .val (.ref a2), .val (.ref a2)] []))
    refine go (fun _ => XS.iconst X148.here hx rfl (hb hby d5_50)) ?_
    show Go _ p e below s _ _ _ (T148.setTop (mkF m 51 #[.val (.ref a1), .val (.ref a2), .val (.ref a2)] [(.int (1 : Int32))]))
    refine go (fun _ => XS.goto X148.here hx rfl (pc0 := 51) (pc' := 55) rfl (hb hby d5_51) (by decide) (by decide)) ?_
    show Go _ p e below s _ _ _ (T148.setTop (mkF m 55 #[.val (.ref a1), .val (.ref a2), .val (.ref a2)] [(.int (1 : Int32))]))
    refine goRet X148 hx Bd.notSynchronized Bd.returns rfl (Or.inl ⟨rfl, Or.inr (Or.inl rfl), _, rfl⟩) (hb hby d5_55) (by decide) (by decide) (by rw [e148]; refine ⟨rfl, N148, rfl⟩)
theorem d6_34 : decode jdk_43_method_13_code 34 = .ok (.iconst 0, 1) := by decide +kernel
theorem d6_35 : decode jdk_43_method_13_code 35 = .ok (.ireturn, 1) := by decide +kernel
theorem pn_L01 : plainName "java/lang/StringLatin1" = true := by first | (simp [plainName, overriddenIn]; done) | decide +kernel
theorem ef_L01 (m : MethodId) (b1 : Addr) (b2 : Addr) : entryFrame m #[(.ref b1), (.ref b2)] 3 = mkF m 0 #[.val (.ref b1), .val (.ref b2), .unset] [] := by first | (simp [entryFrame, mkF, argsToLocals, Value.category]; done) | rfl
def QL01 (Z : State) (b1 : Addr) (b2 : Addr) (k1 : ClassId) (k2 : ClassId) (h0 : Heap) (n0 : Nat) (v : Option Value) (h : Heap) (L : List Loc) : Prop := v = some (.int (0 : Int32)) ∧ Fr n0 L ∧ (h = h0)
set_option maxRecDepth 65536 in
set_option maxHeartbeats 40000000 in
theorem rmL01 (l : Launch) (Z : State) (a0 : Array Value) (hw : ∀ d ∈ tables_1, d.before a0 Z = true) (ws : List Jvm.Cond) (b1 : Addr) (b2 : Addr) (k1 : ClassId) (k2 : ClassId) (h0 : Heap) (n0 : Nat) (Z0 : n0 ≤ h0.size) (P0 : Arv Z h0 b1 k1 .byte (16 : Int32) [(.int (68 : Int32)), (.int (111 : Int32)), (.int (115 : Int32)), (.int (97 : Int32)), (.int (103 : Int32)), (.int (101 : Int32)), (.int (83 : Int32)), (.int (116 : Int32)), (.int (114 : Int32)), (.int (117 : Int32)), (.int (99 : Int32)), (.int (116 : Int32)), (.int (117 : Int32)), (.int (114 : Int32)), (.int (101 : Int32)), (.int (115 : Int32))] (.int (0 : Int32))) (P1 : Arv Z h0 b2 k2 .byte (6 : Int32) [(.int (68 : Int32)), (.int (111 : Int32)), (.int (115 : Int32)), (.int (97 : Int32)), (.int (103 : Int32)), (.int (101 : Int32))] (.int (0 : Int32))) :
    MetFree l (⟨"java/lang/StringLatin1", "equals", "([B[B)Z"⟩ : MethodName) (head1 (Jvm.Cond.code (⟨"java/lang/StringLatin1", "equals", "([B[B)Z"⟩ : MethodName) jdk_43_method_13_code 3 (some .boolean) :: ws) ({ frames := 0, cells := 0, slots := 0, locals := 0 } : Room)) (fun a U => a = #[(.ref b1), (.ref b2)] ∧ Z.Warmed39 U.vm ∧ U.heap = h0) (fun _ _ _ _ _ => True) (fun _ U o U' => ∃ v L, o = .returned v ∧ QL01 Z b1 b2 k1 k2 h0 n0 v U'.heap L ∧ FrameEnd U o U' L ({ frames := 0, cells := 0, slots := 0, locals := 0 } : Room).cells ({ frames := 0, cells := 0, slots := 0, locals := 0 } : Room).slots) := by
  refine MetFree.of_bodySF (plainFor_of_name pn_L01) hisR ?_
  intro p e s m args below meth c s₁ Bd hml0 hP hK
  obtain ⟨rfl, hZ, hh⟩ := hP
  have hx := Bd.exec
  have hby := Bd.bytes
  have hml : c.maxLocals = 3 := hml0
  have hown : s.vm.findClass "java/lang/StringLatin1" = some m.cls := findClass_of_methodNamed Bd.named
  have hnm := (name_of_methodNamed Bd.named Bd.method).1
  have X0 : Stand p l e ({ frames := 0, cells := 0, slots := 0, locals := 0 } : Room) s m #[(.ref b1), (.ref b2)] below meth c s₁ [] 0 0 := Stand.of_body Bd
  have e0 : s₁.heap = h0 := by rw [← hh, Bd.state]; rfl
  have N0 := Fr.nil n0
  have hS0 : s.Since s.vm 0 := (State.WarmedH.refl s).since 0
  show Go (FrameEnd) p e below s ({ frames := 0, cells := 0, slots := 0, locals := 0 } : Room).cells ({ frames := 0, cells := 0, slots := 0, locals := 0 } : Room).slots (QL01 Z b1 b2 k1 k2 h0 n0) (s₁.setTop (entryFrame m #[(.ref b1), (.ref b2)] 3))
  refine go (fun _ k => castTop (ef_L01 m b1 b2) k) ?_
  show Go _ p e below s _ _ _ (s₁.setTop (mkF m 0 #[.val (.ref b1), .val (.ref b2), .unset] []))
  refine go (fun _ => XS.aloadN X0.here hx rfl (hb hby d6_0) rfl rfl) ?_
  show Go _ p e below s _ _ _ (s₁.setTop (mkF m 1 #[.val (.ref b1), .val (.ref b2), .unset] [(.ref b1)]))
  obtain ⟨cl151, Ar151, -, Sz151, Nz151, -, -⟩ := id P0
  refine go (X0.arraylength hx (by rw [e0]; exact Ar151.1) (State.isArrayOf_alike hZ.alike Ar151.2.1) (g := (mkF m 1 #[.val (.ref b1), .val (.ref b2), .unset] [(.ref b1)])) rfl rfl (hb hby d6_1)) ?_
  rw [len_of Sz151 Nz151]
  show Go _ p e below s _ _ _ (s₁.setTop (mkF m 2 #[.val (.ref b1), .val (.ref b2), .unset] [(.int (16 : Int32))]))
  refine go (fun _ => XS.aloadN X0.here hx rfl (hb hby d6_2) rfl rfl) ?_
  show Go _ p e below s _ _ _ (s₁.setTop (mkF m 3 #[.val (.ref b1), .val (.ref b2), .unset] [(.ref b2), (.int (16 : Int32))]))
  obtain ⟨cl152, Ar152, -, Sz152, Nz152, -, -⟩ := id P1
  refine go (X0.arraylength hx (by rw [e0]; exact Ar152.1) (State.isArrayOf_alike hZ.alike Ar152.2.1) (g := (mkF m 3 #[.val (.ref b1), .val (.ref b2), .unset] [(.ref b2), (.int (16 : Int32))])) rfl rfl (hb hby d6_3)) ?_
  rw [len_of Sz152 Nz152]
  show Go _ p e below s _ _ _ (s₁.setTop (mkF m 4 #[.val (.ref b1), .val (.ref b2), .unset] [(.int (6 : Int32)), (.int (16 : Int32))]))
  refine go (fun _ => XS.icmpYes X0.here hx rfl (pc0 := 4) (pc' := 34) rfl (hb hby d6_4) rfl (feq (by decide : ¬ ((16 : Int32) = (6 : Int32)))).2 (by decide) (by decide)) ?_
  show Go _ p e below s _ _ _ (s₁.setTop (mkF m 34 #[.val (.ref b1), .val (.ref b2), .unset] []))
  refine go (fun _ => XS.iconst X0.here hx rfl (hb hby d6_34)) ?_
  show Go _ p e below s _ _ _ (s₁.setTop (mkF m 35 #[.val (.ref b1), .val (.ref b2), .unset] [(.int (0 : Int32))]))
  refine goRet X0 hx Bd.notSynchronized Bd.returns rfl (Or.inl ⟨rfl, Or.inr (Or.inl rfl), _, rfl⟩) (hb hby d6_35) (by decide) (by decide) (by rw [e0]; refine ⟨rfl, N0, rfl⟩)
theorem d5_54 : decode jdk_42_method_66_code 54 = .ok (.iconst 0, 1) := by decide +kernel
theorem pn_Q01 : plainName "java/lang/String" = true := by first | (simp [plainName, overriddenIn]; done) | decide +kernel
theorem ef_Q01 (m : MethodId) (a1 : Addr) (a2 : Addr) : entryFrame m #[(.ref a1), (.ref a2)] 3 = mkF m 0 #[.val (.ref a1), .val (.ref a2), .unset] [] := by first | (simp [entryFrame, mkF, argsToLocals, Value.category]; done) | rfl
def QQ01 (Z : State) (a1 : Addr) (a2 : Addr) (w0 : Int32) (b1 : Addr) (k1 : ClassId) (b2 : Addr) (k2 : ClassId) (h0 : Heap) (n0 : Nat) (v : Option Value) (h : Heap) (L : List Loc) : Prop := v = some (.int (0 : Int32)) ∧ Fr n0 L ∧ (h = h0)
set_option maxRecDepth 65536 in
set_option maxHeartbeats 40000000 in
theorem rmQ01 (l : Launch) (Z : State) (a0 : Array Value) (hw : ∀ d ∈ tables_1, d.before a0 Z = true) (ws : List Jvm.Cond) (a1 : Addr) (a2 : Addr) (w0 : Int32) (b1 : Addr) (k1 : ClassId) (b2 : Addr) (k2 : ClassId) (h0 : Heap) (n0 : Nat) (Z0 : n0 ≤ h0.size) (P0 : Old Z n0 h0) (P1 : Sta Z Z.heap "java/lang/String" "COMPACT_STRINGS" "Z" (.int w0)) (P2 : Exa Z h0 a1 "java/lang/String") (P3 : Fld Z h0 a1 "java/lang/String" "coder" "B" (.int (0 : Int32))) (P4 : Fld Z h0 a1 "java/lang/String" "value" "[B" (.ref b1)) (P5 : Arv Z h0 b1 k1 .byte (16 : Int32) [(.int (68 : Int32)), (.int (111 : Int32)), (.int (115 : Int32)), (.int (97 : Int32)), (.int (103 : Int32)), (.int (101 : Int32)), (.int (83 : Int32)), (.int (116 : Int32)), (.int (114 : Int32)), (.int (117 : Int32)), (.int (99 : Int32)), (.int (116 : Int32)), (.int (117 : Int32)), (.int (114 : Int32)), (.int (101 : Int32)), (.int (115 : Int32))] (.int (0 : Int32))) (P6 : Exa Z h0 a2 "java/lang/String") (P7 : Fld Z h0 a2 "java/lang/String" "coder" "B" (.int (0 : Int32))) (P8 : Fld Z h0 a2 "java/lang/String" "value" "[B" (.ref b2)) (P9 : Arv Z h0 b2 k2 .byte (6 : Int32) [(.int (68 : Int32)), (.int (111 : Int32)), (.int (115 : Int32)), (.int (97 : Int32)), (.int (103 : Int32)), (.int (101 : Int32))] (.int (0 : Int32))) (hw0 : ¬ w0 = 0) (hne : a1 ≠ a2) :
    MetFree l (⟨"java/lang/String", "equals", "(Ljava/lang/Object;)Z"⟩ : MethodName) (head1 (Jvm.Cond.code (⟨"java/lang/String", "equals", "(Ljava/lang/Object;)Z"⟩ : MethodName) jdk_42_method_66_code 3 (some .boolean) :: ws) ({ frames := 1, cells := 0, slots := 0, locals := 14 } : Room)) (fun a U => a = #[(.ref a1), (.ref a2)] ∧ Z.Warmed39 U.vm ∧ U.heap = h0) (fun _ _ _ _ _ => True) (fun _ U o U' => ∃ v L, o = .returned v ∧ QQ01 Z a1 a2 w0 b1 k1 b2 k2 h0 n0 v U'.heap L ∧ FrameEnd U o U' L ({ frames := 1, cells := 0, slots := 0, locals := 14 } : Room).cells ({ frames := 1, cells := 0, slots := 0, locals := 14 } : Room).slots) := by
  refine MetFree.of_bodySF (plainFor_of_name pn_Q01) hisR ?_
  intro p e s m args below meth c s₁ Bd hml0 hP hK
  obtain ⟨rfl, hZ, hh⟩ := hP
  have hx := Bd.exec
  have hby := Bd.bytes
  have hml : c.maxLocals = 3 := hml0
  have hown : s.vm.findClass "java/lang/String" = some m.cls := findClass_of_methodNamed Bd.named
  have hnm := (name_of_methodNamed Bd.named Bd.method).1
  have X0 : Stand p l e ({ frames := 1, cells := 0, slots := 0, locals := 14 } : Room) s m #[(.ref a1), (.ref a2)] below meth c s₁ [] 0 0 := Stand.of_body Bd
  have e0 : s₁.heap = h0 := by rw [← hh, Bd.state]; rfl
  have N0 := Fr.nil n0
  have hS0 : s.Since s.vm 0 := (State.WarmedH.refl s).since 0
  show Go (FrameEnd) p e below s ({ frames := 1, cells := 0, slots := 0, locals := 14 } : Room).cells ({ frames := 1, cells := 0, slots := 0, locals := 14 } : Room).slots (QQ01 Z a1 a2 w0 b1 k1 b2 k2 h0 n0) (s₁.setTop (entryFrame m #[(.ref a1), (.ref a2)] 3))
  refine go (fun _ k => castTop (ef_Q01 m a1 a2) k) ?_
  show Go _ p e below s _ _ _ (s₁.setTop (mkF m 0 #[.val (.ref a1), .val (.ref a2), .unset] []))
  refine go (fun _ => XS.aloadN X0.here hx rfl (hb hby d5_0) rfl rfl) ?_
  show Go _ p e below s _ _ _ (s₁.setTop (mkF m 1 #[.val (.ref a1), .val (.ref a2), .unset] [(.ref a1)]))
  refine go (fun _ => XS.aloadN X0.here hx rfl (hb hby d5_1) rfl rfl) ?_
  show Go _ p e below s _ _ _ (s₁.setTop (mkF m 2 #[.val (.ref a1), .val (.ref a2), .unset] [(.ref a2), (.ref a1)]))
  refine go (fun _ => Jvm.RoadKit.acmp (g := (mkF m 2 #[.val (.ref a1), .val (.ref a2), .unset] [(.ref a2), (.ref a1)])) X0 hx rfl rfl rfl (pc0 := 2) (pc' := 7) (same := false) rfl (hb hby d5_2) rfl (decide_eq_false fun qq => hne (Value.ref.inj qq)) (by decide) (by decide)) ?_
  show Go _ p e below s _ _ _ (s₁.setTop (mkF m 7 #[.val (.ref a1), .val (.ref a2), .unset] []))
  refine go (fun _ => XS.aloadN X0.here hx rfl (hb hby d5_7) rfl rfl) ?_
  show Go _ p e below s _ _ _ (s₁.setTop (mkF m 8 #[.val (.ref a1), .val (.ref a2), .unset] [(.ref a2)]))
  obtain ⟨T161, X161, e161, st161⟩ := instY X0 hx hZ hown (hw _ (List.mem_of_getElem? (i := 44) rfl)) e0 (Ins.self P6) (g := (mkF m 8 #[.val (.ref a1), .val (.ref a2), .unset] [(.ref a2)])) rfl rfl (hb hby d5_8)
  refine go st161 ?_
  show Go _ p e below s _ _ _ (T161.setTop (mkF m 11 #[.val (.ref a1), .val (.ref a2), .unset] [(.int (1 : Int32))]))
  refine go (fun _ => XS.ifNo X161.here hx rfl (hb hby d5_11) rfl ((if0 _ _).trans (feq (by decide : ¬ ((1 : Int32) = (0 : Int32)))).1)) ?_
  show Go _ p e below s _ _ _ (T161.setTop (mkF m 14 #[.val (.ref a1), .val (.ref a2), .unset] []))
  refine go (fun _ => XS.aloadN X161.here hx rfl (hb hby d5_14) rfl rfl) ?_
  show Go _ p e below s _ _ _ (T161.setTop (mkF m 15 #[.val (.ref a1), .val (.ref a2), .unset] [(.ref a2)]))
  obtain ⟨T162, X162, e162, st162⟩ := castY X161 hx hZ hown (hw _ (List.mem_of_getElem? (i := 44) rfl)) e161 (Ins.self P6) (g := (mkF m 15 #[.val (.ref a1), .val (.ref a2), .unset] [(.ref a2)])) rfl rfl (hb hby d5_15)
  refine go st162 ?_
  show Go _ p e below s _ _ _ (T162.setTop (mkF m 18 #[.val (.ref a1), .val (.ref a2), .unset] [(.ref a2)]))
  refine go (fun _ => XS.astoreN X162.here hx rfl (hb hby d5_18) rfl rfl (l' := #[.val (.ref a1), .val (.ref a2), .val (.ref a2)]) rfl) ?_
  show Go _ p e below s _ _ _ (T162.setTop (mkF m 19 #[.val (.ref a1), .val (.ref a2), .val (.ref a2)] []))
  obtain ⟨T163, X163, e163, st163⟩ := getS2 X162 hx hZ hown (host := "") (Or.inl (hw _ (List.mem_of_getElem? (i := 46) rfl))) Via.refl e162 (P1.ext P0.2) (g := (mkF m 19 #[.val (.ref a1), .val (.ref a2), .val (.ref a2)] [])) rfl (hb hby d5_19)
  refine go st163 ?_
  show Go _ p e below s _ _ _ (T163.setTop (mkF m 22 #[.val (.ref a1), .val (.ref a2), .val (.ref a2)] [(.int w0)]))
  refine go (fun _ => XS.ifNo X163.here hx rfl (hb hby d5_22) rfl ((if0 _ _).trans (feq hw0).1)) ?_
  show Go _ p e below s _ _ _ (T163.setTop (mkF m 25 #[.val (.ref a1), .val (.ref a2), .val (.ref a2)] []))
  refine go (fun _ => XS.aloadN X163.here hx rfl (hb hby d5_25) rfl rfl) ?_
  show Go _ p e below s _ _ _ (T163.setTop (mkF m 26 #[.val (.ref a1), .val (.ref a2), .val (.ref a2)] [(.ref a1)]))
  obtain ⟨T164, X164, e164, st164⟩ := getF X163 hx hZ hown (host := "") (Or.inl (hw _ (List.mem_of_getElem? (i := 47) rfl))) Via.refl e163 P3 (g := (mkF m 26 #[.val (.ref a1), .val (.ref a2), .val (.ref a2)] [(.ref a1)])) rfl rfl (hb hby d5_26)
  refine go st164 ?_
  show Go _ p e below s _ _ _ (T164.setTop (mkF m 29 #[.val (.ref a1), .val (.ref a2), .val (.ref a2)] [(.int (0 : Int32))]))
  refine go (fun _ => XS.aloadN X164.here hx rfl (hb hby d5_29) rfl rfl) ?_
  show Go _ p e below s _ _ _ (T164.setTop (mkF m 30 #[.val (.ref a1), .val (.ref a2), .val (.ref a2)] [(.ref a2), (.int (0 : Int32))]))
  obtain ⟨T165, X165, e165, st165⟩ := getF X164 hx hZ hown (host := "") (Or.inl (hw _ (List.mem_of_getElem? (i := 47) rfl))) Via.refl e164 P7 (g := (mkF m 30 #[.val (.ref a1), .val (.ref a2), .val (.ref a2)] [(.ref a2), (.int (0 : Int32))])) rfl rfl (hb hby d5_30)
  refine go st165 ?_
  show Go _ p e below s _ _ _ (T165.setTop (mkF m 33 #[.val (.ref a1), .val (.ref a2), .val (.ref a2)] [(.int (0 : Int32)), (.int (0 : Int32))]))
  refine go (fun _ => XS.icmpNo X165.here hx rfl (hb hby d5_33) rfl (teq (rfl : (0 : Int32) = (0 : Int32))).2) ?_
  show Go _ p e below s _ _ _ (T165.setTop (mkF m 36 #[.val (.ref a1), .val (.ref a2), .val (.ref a2)] []))
  refine go (fun _ => XS.aloadN X165.here hx rfl (hb hby d5_36) rfl rfl) ?_
  show Go _ p e below s _ _ _ (T165.setTop (mkF m 37 #[.val (.ref a1), .val (.ref a2), .val (.ref a2)] [(.ref a1)]))
  obtain ⟨T166, X166, e166, st166⟩ := getF X165 hx hZ hown (host := "") (Or.inl (hw _ (List.mem_of_getElem? (i := 48) rfl))) Via.refl e165 P4 (g := (mkF m 37 #[.val (.ref a1), .val (.ref a2), .val (.ref a2)] [(.ref a1)])) rfl rfl (hb hby d5_37)
  refine go st166 ?_
  show Go _ p e below s _ _ _ (T166.setTop (mkF m 40 #[.val (.ref a1), .val (.ref a2), .val (.ref a2)] [(.ref b1)]))
  refine go (fun _ => XS.aloadN X166.here hx rfl (hb hby d5_40) rfl rfl) ?_
  show Go _ p e below s _ _ _ (T166.setTop (mkF m 41 #[.val (.ref a1), .val (.ref a2), .val (.ref a2)] [(.ref a2), (.ref b1)]))
  obtain ⟨T167, X167, e167, st167⟩ := getF X166 hx hZ hown (host := "") (Or.inl (hw _ (List.mem_of_getElem? (i := 48) rfl))) Via.refl e166 P8 (g := (mkF m 41 #[.val (.ref a1), .val (.ref a2), .val (.ref a2)] [(.ref a2), (.ref b1)])) rfl rfl (hb hby d5_41)
  refine go st167 ?_
  show Go _ p e below s _ _ _ (T167.setTop (mkF m 44 #[.val (.ref a1), .val (.ref a2), .val (.ref a2)] [(.ref b2), (.ref b1)]))
  obtain ⟨_, _, ⟨T168, L168, k168, n168⟩, -, X168, ⟨Lc168, hQ168, l168, y168, z168⟩, st168⟩ := Jvm.LawKit.callS X167 hx (y := (⟨"java/lang/StringLatin1", "equals", "([B[B)Z"⟩ : MethodName)) hown (mvT hZ (hw _ (List.mem_of_getElem? (i := 49) rfl))) (mvT hZ (hw _ (List.mem_of_getElem? (i := 50) rfl))) (mvT hZ (hw _ (List.mem_of_getElem? (i := 51) rfl))) (mvT hZ (hw _ (List.mem_of_getElem? (i := 52) rfl))) (by decide) (backOf (W := 0) (rmL01 l Z a0 hw [] b1 b2 k1 k2 h0 n0 Z0 P5 P9) hZ (hw _ (List.mem_of_getElem? (i := 52) rfl)) (hw _ (List.mem_of_getElem? (i := 51) rfl)) (by decide) (by decide)) (g := (mkF m 44 #[.val (.ref a1), .val (.ref a2), .val (.ref a2)] [(.ref b2), (.ref b1)])) rfl (by rw [hml]; rfl) (argsL := [(.ref b1), (.ref b2)]) (rest := []) (lenOf pd_5_0 rfl) rfl (by show 2 * 0 + _ ≤ _; exact Nat.le_of_eq rfl) (hb hby d5_44) (fun _ _ => ⟨rfl, e167, (by decide : 0 + 0 ≤ _), (by decide : 0 + 0 ≤ _)⟩)
  dsimp only [Pt.U, Pt.locs, Pt.cells, Pt.slots] at X168 l168 y168 z168 st168 hQ168
  subst l168 y168 z168
  obtain ⟨rfl, N168q, e168⟩ := hQ168
  have N168 := Fr.app N0 N168q
  refine go st168 ?_
  show Go _ p e below s _ _ _ (T168.setTop (mkF m 47 #[.val (.ref a1), .val (.ref a2), .val (.ref a2)] [(.int (0 : Int32))]))
  refine go (fun _ => XS.ifYes X168.here hx rfl (pc0 := 47) (pc' := 54) rfl (hb hby d5_47) rfl ((if0 _ _).trans (teq (rfl : (0 : Int32) = (0 : Int32))).1) (by decide) (by decide)) ?_
  show Go _ p e below s _ _ _ (T168.setTop (mkF m 54 #[.val (.ref a1), .val (.ref a2), .val (.ref a2)] []))
  refine go (fun _ => XS.iconst X168.here hx rfl (hb hby d5_54)) ?_
  show Go _ p e below s _ _ _ (T168.setTop (mkF m 55 #[.val (.ref a1), .val (.ref a2), .val (.ref a2)] [(.int (0 : Int32))]))
  refine goRet X168 hx Bd.notSynchronized Bd.returns rfl (Or.inl ⟨rfl, Or.inr (Or.inl rfl), _, rfl⟩) (hb hby d5_55) (by decide) (by decide) (by rw [e168]; refine ⟨rfl, N168, rfl⟩)
theorem pn_L10 : plainName "java/lang/StringLatin1" = true := by first | (simp [plainName, overriddenIn]; done) | decide +kernel
theorem ef_L10 (m : MethodId) (b1 : Addr) (b2 : Addr) : entryFrame m #[(.ref b1), (.ref b2)] 3 = mkF m 0 #[.val (.ref b1), .val (.ref b2), .unset] [] := by first | (simp [entryFrame, mkF, argsToLocals, Value.category]; done) | rfl
def QL10 (Z : State) (b1 : Addr) (b2 : Addr) (k1 : ClassId) (k2 : ClassId) (h0 : Heap) (n0 : Nat) (v : Option Value) (h : Heap) (L : List Loc) : Prop := v = some (.int (0 : Int32)) ∧ Fr n0 L ∧ (h = h0)
set_option maxRecDepth 65536 in
set_option maxHeartbeats 40000000 in
theorem rmL10 (l : Launch) (Z : State) (a0 : Array Value) (hw : ∀ d ∈ tables_1, d.before a0 Z = true) (ws : List Jvm.Cond) (b1 : Addr) (b2 : Addr) (k1 : ClassId) (k2 : ClassId) (h0 : Heap) (n0 : Nat) (Z0 : n0 ≤ h0.size) (P0 : Arv Z h0 b1 k1 .byte (6 : Int32) [(.int (68 : Int32)), (.int (111 : Int32)), (.int (115 : Int32)), (.int (97 : Int32)), (.int (103 : Int32)), (.int (101 : Int32))] (.int (0 : Int32))) (P1 : Arv Z h0 b2 k2 .byte (16 : Int32) [(.int (68 : Int32)), (.int (111 : Int32)), (.int (115 : Int32)), (.int (97 : Int32)), (.int (103 : Int32)), (.int (101 : Int32)), (.int (83 : Int32)), (.int (116 : Int32)), (.int (114 : Int32)), (.int (117 : Int32)), (.int (99 : Int32)), (.int (116 : Int32)), (.int (117 : Int32)), (.int (114 : Int32)), (.int (101 : Int32)), (.int (115 : Int32))] (.int (0 : Int32))) :
    MetFree l (⟨"java/lang/StringLatin1", "equals", "([B[B)Z"⟩ : MethodName) (head1 (Jvm.Cond.code (⟨"java/lang/StringLatin1", "equals", "([B[B)Z"⟩ : MethodName) jdk_43_method_13_code 3 (some .boolean) :: ws) ({ frames := 0, cells := 0, slots := 0, locals := 0 } : Room)) (fun a U => a = #[(.ref b1), (.ref b2)] ∧ Z.Warmed39 U.vm ∧ U.heap = h0) (fun _ _ _ _ _ => True) (fun _ U o U' => ∃ v L, o = .returned v ∧ QL10 Z b1 b2 k1 k2 h0 n0 v U'.heap L ∧ FrameEnd U o U' L ({ frames := 0, cells := 0, slots := 0, locals := 0 } : Room).cells ({ frames := 0, cells := 0, slots := 0, locals := 0 } : Room).slots) := by
  refine MetFree.of_bodySF (plainFor_of_name pn_L10) hisR ?_
  intro p e s m args below meth c s₁ Bd hml0 hP hK
  obtain ⟨rfl, hZ, hh⟩ := hP
  have hx := Bd.exec
  have hby := Bd.bytes
  have hml : c.maxLocals = 3 := hml0
  have hown : s.vm.findClass "java/lang/StringLatin1" = some m.cls := findClass_of_methodNamed Bd.named
  have hnm := (name_of_methodNamed Bd.named Bd.method).1
  have X0 : Stand p l e ({ frames := 0, cells := 0, slots := 0, locals := 0 } : Room) s m #[(.ref b1), (.ref b2)] below meth c s₁ [] 0 0 := Stand.of_body Bd
  have e0 : s₁.heap = h0 := by rw [← hh, Bd.state]; rfl
  have N0 := Fr.nil n0
  have hS0 : s.Since s.vm 0 := (State.WarmedH.refl s).since 0
  show Go (FrameEnd) p e below s ({ frames := 0, cells := 0, slots := 0, locals := 0 } : Room).cells ({ frames := 0, cells := 0, slots := 0, locals := 0 } : Room).slots (QL10 Z b1 b2 k1 k2 h0 n0) (s₁.setTop (entryFrame m #[(.ref b1), (.ref b2)] 3))
  refine go (fun _ k => castTop (ef_L10 m b1 b2) k) ?_
  show Go _ p e below s _ _ _ (s₁.setTop (mkF m 0 #[.val (.ref b1), .val (.ref b2), .unset] []))
  refine go (fun _ => XS.aloadN X0.here hx rfl (hb hby d6_0) rfl rfl) ?_
  show Go _ p e below s _ _ _ (s₁.setTop (mkF m 1 #[.val (.ref b1), .val (.ref b2), .unset] [(.ref b1)]))
  obtain ⟨cl171, Ar171, -, Sz171, Nz171, -, -⟩ := id P0
  refine go (X0.arraylength hx (by rw [e0]; exact Ar171.1) (State.isArrayOf_alike hZ.alike Ar171.2.1) (g := (mkF m 1 #[.val (.ref b1), .val (.ref b2), .unset] [(.ref b1)])) rfl rfl (hb hby d6_1)) ?_
  rw [len_of Sz171 Nz171]
  show Go _ p e below s _ _ _ (s₁.setTop (mkF m 2 #[.val (.ref b1), .val (.ref b2), .unset] [(.int (6 : Int32))]))
  refine go (fun _ => XS.aloadN X0.here hx rfl (hb hby d6_2) rfl rfl) ?_
  show Go _ p e below s _ _ _ (s₁.setTop (mkF m 3 #[.val (.ref b1), .val (.ref b2), .unset] [(.ref b2), (.int (6 : Int32))]))
  obtain ⟨cl172, Ar172, -, Sz172, Nz172, -, -⟩ := id P1
  refine go (X0.arraylength hx (by rw [e0]; exact Ar172.1) (State.isArrayOf_alike hZ.alike Ar172.2.1) (g := (mkF m 3 #[.val (.ref b1), .val (.ref b2), .unset] [(.ref b2), (.int (6 : Int32))])) rfl rfl (hb hby d6_3)) ?_
  rw [len_of Sz172 Nz172]
  show Go _ p e below s _ _ _ (s₁.setTop (mkF m 4 #[.val (.ref b1), .val (.ref b2), .unset] [(.int (16 : Int32)), (.int (6 : Int32))]))
  refine go (fun _ => XS.icmpYes X0.here hx rfl (pc0 := 4) (pc' := 34) rfl (hb hby d6_4) rfl (feq (by decide : ¬ ((6 : Int32) = (16 : Int32)))).2 (by decide) (by decide)) ?_
  show Go _ p e below s _ _ _ (s₁.setTop (mkF m 34 #[.val (.ref b1), .val (.ref b2), .unset] []))
  refine go (fun _ => XS.iconst X0.here hx rfl (hb hby d6_34)) ?_
  show Go _ p e below s _ _ _ (s₁.setTop (mkF m 35 #[.val (.ref b1), .val (.ref b2), .unset] [(.int (0 : Int32))]))
  refine goRet X0 hx Bd.notSynchronized Bd.returns rfl (Or.inl ⟨rfl, Or.inr (Or.inl rfl), _, rfl⟩) (hb hby d6_35) (by decide) (by decide) (by rw [e0]; refine ⟨rfl, N0, rfl⟩)
theorem pn_Q10 : plainName "java/lang/String" = true := by first | (simp [plainName, overriddenIn]; done) | decide +kernel
theorem ef_Q10 (m : MethodId) (a1 : Addr) (a2 : Addr) : entryFrame m #[(.ref a1), (.ref a2)] 3 = mkF m 0 #[.val (.ref a1), .val (.ref a2), .unset] [] := by first | (simp [entryFrame, mkF, argsToLocals, Value.category]; done) | rfl
def QQ10 (Z : State) (a1 : Addr) (a2 : Addr) (w0 : Int32) (b1 : Addr) (k1 : ClassId) (b2 : Addr) (k2 : ClassId) (h0 : Heap) (n0 : Nat) (v : Option Value) (h : Heap) (L : List Loc) : Prop := v = some (.int (0 : Int32)) ∧ Fr n0 L ∧ (h = h0)
set_option maxRecDepth 65536 in
set_option maxHeartbeats 40000000 in
theorem rmQ10 (l : Launch) (Z : State) (a0 : Array Value) (hw : ∀ d ∈ tables_1, d.before a0 Z = true) (ws : List Jvm.Cond) (a1 : Addr) (a2 : Addr) (w0 : Int32) (b1 : Addr) (k1 : ClassId) (b2 : Addr) (k2 : ClassId) (h0 : Heap) (n0 : Nat) (Z0 : n0 ≤ h0.size) (P0 : Old Z n0 h0) (P1 : Sta Z Z.heap "java/lang/String" "COMPACT_STRINGS" "Z" (.int w0)) (P2 : Exa Z h0 a1 "java/lang/String") (P3 : Fld Z h0 a1 "java/lang/String" "coder" "B" (.int (0 : Int32))) (P4 : Fld Z h0 a1 "java/lang/String" "value" "[B" (.ref b1)) (P5 : Arv Z h0 b1 k1 .byte (6 : Int32) [(.int (68 : Int32)), (.int (111 : Int32)), (.int (115 : Int32)), (.int (97 : Int32)), (.int (103 : Int32)), (.int (101 : Int32))] (.int (0 : Int32))) (P6 : Exa Z h0 a2 "java/lang/String") (P7 : Fld Z h0 a2 "java/lang/String" "coder" "B" (.int (0 : Int32))) (P8 : Fld Z h0 a2 "java/lang/String" "value" "[B" (.ref b2)) (P9 : Arv Z h0 b2 k2 .byte (16 : Int32) [(.int (68 : Int32)), (.int (111 : Int32)), (.int (115 : Int32)), (.int (97 : Int32)), (.int (103 : Int32)), (.int (101 : Int32)), (.int (83 : Int32)), (.int (116 : Int32)), (.int (114 : Int32)), (.int (117 : Int32)), (.int (99 : Int32)), (.int (116 : Int32)), (.int (117 : Int32)), (.int (114 : Int32)), (.int (101 : Int32)), (.int (115 : Int32))] (.int (0 : Int32))) (hw0 : ¬ w0 = 0) (hne : a1 ≠ a2) :
    MetFree l (⟨"java/lang/String", "equals", "(Ljava/lang/Object;)Z"⟩ : MethodName) (head1 (Jvm.Cond.code (⟨"java/lang/String", "equals", "(Ljava/lang/Object;)Z"⟩ : MethodName) jdk_42_method_66_code 3 (some .boolean) :: ws) ({ frames := 1, cells := 0, slots := 0, locals := 14 } : Room)) (fun a U => a = #[(.ref a1), (.ref a2)] ∧ Z.Warmed39 U.vm ∧ U.heap = h0) (fun _ _ _ _ _ => True) (fun _ U o U' => ∃ v L, o = .returned v ∧ QQ10 Z a1 a2 w0 b1 k1 b2 k2 h0 n0 v U'.heap L ∧ FrameEnd U o U' L ({ frames := 1, cells := 0, slots := 0, locals := 14 } : Room).cells ({ frames := 1, cells := 0, slots := 0, locals := 14 } : Room).slots) := by
  refine MetFree.of_bodySF (plainFor_of_name pn_Q10) hisR ?_
  intro p e s m args below meth c s₁ Bd hml0 hP hK
  obtain ⟨rfl, hZ, hh⟩ := hP
  have hx := Bd.exec
  have hby := Bd.bytes
  have hml : c.maxLocals = 3 := hml0
  have hown : s.vm.findClass "java/lang/String" = some m.cls := findClass_of_methodNamed Bd.named
  have hnm := (name_of_methodNamed Bd.named Bd.method).1
  have X0 : Stand p l e ({ frames := 1, cells := 0, slots := 0, locals := 14 } : Room) s m #[(.ref a1), (.ref a2)] below meth c s₁ [] 0 0 := Stand.of_body Bd
  have e0 : s₁.heap = h0 := by rw [← hh, Bd.state]; rfl
  have N0 := Fr.nil n0
  have hS0 : s.Since s.vm 0 := (State.WarmedH.refl s).since 0
  show Go (FrameEnd) p e below s ({ frames := 1, cells := 0, slots := 0, locals := 14 } : Room).cells ({ frames := 1, cells := 0, slots := 0, locals := 14 } : Room).slots (QQ10 Z a1 a2 w0 b1 k1 b2 k2 h0 n0) (s₁.setTop (entryFrame m #[(.ref a1), (.ref a2)] 3))
  refine go (fun _ k => castTop (ef_Q10 m a1 a2) k) ?_
  show Go _ p e below s _ _ _ (s₁.setTop (mkF m 0 #[.val (.ref a1), .val (.ref a2), .unset] []))
  refine go (fun _ => XS.aloadN X0.here hx rfl (hb hby d5_0) rfl rfl) ?_
  show Go _ p e below s _ _ _ (s₁.setTop (mkF m 1 #[.val (.ref a1), .val (.ref a2), .unset] [(.ref a1)]))
  refine go (fun _ => XS.aloadN X0.here hx rfl (hb hby d5_1) rfl rfl) ?_
  show Go _ p e below s _ _ _ (s₁.setTop (mkF m 2 #[.val (.ref a1), .val (.ref a2), .unset] [(.ref a2), (.ref a1)]))
  refine go (fun _ => Jvm.RoadKit.acmp (g := (mkF m 2 #[.val (.ref a1), .val (.ref a2), .unset] [(.ref a2), (.ref a1)])) X0 hx rfl rfl rfl (pc0 := 2) (pc' := 7) (same := false) rfl (hb hby d5_2) rfl (decide_eq_false fun qq => hne (Value.ref.inj qq)) (by decide) (by decide)) ?_
  show Go _ p e below s _ _ _ (s₁.setTop (mkF m 7 #[.val (.ref a1), .val (.ref a2), .unset] []))
  refine go (fun _ => XS.aloadN X0.here hx rfl (hb hby d5_7) rfl rfl) ?_
  show Go _ p e below s _ _ _ (s₁.setTop (mkF m 8 #[.val (.ref a1), .val (.ref a2), .unset] [(.ref a2)]))
  obtain ⟨T181, X181, e181, st181⟩ := instY X0 hx hZ hown (hw _ (List.mem_of_getElem? (i := 44) rfl)) e0 (Ins.self P6) (g := (mkF m 8 #[.val (.ref a1), .val (.ref a2), .unset] [(.ref a2)])) rfl rfl (hb hby d5_8)
  refine go st181 ?_
  show Go _ p e below s _ _ _ (T181.setTop (mkF m 11 #[.val (.ref a1), .val (.ref a2), .unset] [(.int (1 : Int32))]))
  refine go (fun _ => XS.ifNo X181.here hx rfl (hb hby d5_11) rfl ((if0 _ _).trans (feq (by decide : ¬ ((1 : Int32) = (0 : Int32)))).1)) ?_
  show Go _ p e below s _ _ _ (T181.setTop (mkF m 14 #[.val (.ref a1), .val (.ref a2), .unset] []))
  refine go (fun _ => XS.aloadN X181.here hx rfl (hb hby d5_14) rfl rfl) ?_
  show Go _ p e below s _ _ _ (T181.setTop (mkF m 15 #[.val (.ref a1), .val (.ref a2), .unset] [(.ref a2)]))
  obtain ⟨T182, X182, e182, st182⟩ := castY X181 hx hZ hown (hw _ (List.mem_of_getElem? (i := 44) rfl)) e181 (Ins.self P6) (g := (mkF m 15 #[.val (.ref a1), .val (.ref a2), .unset] [(.ref a2)])) rfl rfl (hb hby d5_15)
  refine go st182 ?_
  show Go _ p e below s _ _ _ (T182.setTop (mkF m 18 #[.val (.ref a1), .val (.ref a2), .unset] [(.ref a2)]))
  refine go (fun _ => XS.astoreN X182.here hx rfl (hb hby d5_18) rfl rfl (l' := #[.val (.ref a1), .val (.ref a2), .val (.ref a2)]) rfl) ?_
  show Go _ p e below s _ _ _ (T182.setTop (mkF m 19 #[.val (.ref a1), .val (.ref a2), .val (.ref a2)] []))
  obtain ⟨T183, X183, e183, st183⟩ := getS2 X182 hx hZ hown (host := "") (Or.inl (hw _ (List.mem_of_getElem? (i := 46) rfl))) Via.refl e182 (P1.ext P0.2) (g := (mkF m 19 #[.val (.ref a1), .val (.ref a2), .val (.ref a2)] [])) rfl (hb hby d5_19)
  refine go st183 ?_
  show Go _ p e below s _ _ _ (T183.setTop (mkF m 22 #[.val (.ref a1), .val (.ref a2), .val (.ref a2)] [(.int w0)]))
  refine go (fun _ => XS.ifNo X183.here hx rfl (hb hby d5_22) rfl ((if0 _ _).trans (feq hw0).1)) ?_
  show Go _ p e below s _ _ _ (T183.setTop (mkF m 25 #[.val (.ref a1), .val (.ref a2), .val (.ref a2)] []))
  refine go (fun _ => XS.aloadN X183.here hx rfl (hb hby d5_25) rfl rfl) ?_
  show Go _ p e below s _ _ _ (T183.setTop (mkF m 26 #[.val (.ref a1), .val (.ref a2), .val (.ref a2)] [(.ref a1)]))
  obtain ⟨T184, X184, e184, st184⟩ := getF X183 hx hZ hown (host := "") (Or.inl (hw _ (List.mem_of_getElem? (i := 47) rfl))) Via.refl e183 P3 (g := (mkF m 26 #[.val (.ref a1), .val (.ref a2), .val (.ref a2)] [(.ref a1)])) rfl rfl (hb hby d5_26)
  refine go st184 ?_
  show Go _ p e below s _ _ _ (T184.setTop (mkF m 29 #[.val (.ref a1), .val (.ref a2), .val (.ref a2)] [(.int (0 : Int32))]))
  refine go (fun _ => XS.aloadN X184.here hx rfl (hb hby d5_29) rfl rfl) ?_
  show Go _ p e below s _ _ _ (T184.setTop (mkF m 30 #[.val (.ref a1), .val (.ref a2), .val (.ref a2)] [(.ref a2), (.int (0 : Int32))]))
  obtain ⟨T185, X185, e185, st185⟩ := getF X184 hx hZ hown (host := "") (Or.inl (hw _ (List.mem_of_getElem? (i := 47) rfl))) Via.refl e184 P7 (g := (mkF m 30 #[.val (.ref a1), .val (.ref a2), .val (.ref a2)] [(.ref a2), (.int (0 : Int32))])) rfl rfl (hb hby d5_30)
  refine go st185 ?_
  show Go _ p e below s _ _ _ (T185.setTop (mkF m 33 #[.val (.ref a1), .val (.ref a2), .val (.ref a2)] [(.int (0 : Int32)), (.int (0 : Int32))]))
  refine go (fun _ => XS.icmpNo X185.here hx rfl (hb hby d5_33) rfl (teq (rfl : (0 : Int32) = (0 : Int32))).2) ?_
  show Go _ p e below s _ _ _ (T185.setTop (mkF m 36 #[.val (.ref a1), .val (.ref a2), .val (.ref a2)] []))
  refine go (fun _ => XS.aloadN X185.here hx rfl (hb hby d5_36) rfl rfl) ?_
  show Go _ p e below s _ _ _ (T185.setTop (mkF m 37 #[.val (.ref a1), .val (.ref a2), .val (.ref a2)] [(.ref a1)]))
  obtain ⟨T186, X186, e186, st186⟩ := getF X185 hx hZ hown (host := "") (Or.inl (hw _ (List.mem_of_getElem? (i := 48) rfl))) Via.refl e185 P4 (g := (mkF m 37 #[.val (.ref a1), .val (.ref a2), .val (.ref a2)] [(.ref a1)])) rfl rfl (hb hby d5_37)
  refine go st186 ?_
  show Go _ p e below s _ _ _ (T186.setTop (mkF m 40 #[.val (.ref a1), .val (.ref a2), .val (.ref a2)] [(.ref b1)]))
  refine go (fun _ => XS.aloadN X186.here hx rfl (hb hby d5_40) rfl rfl) ?_
  show Go _ p e below s _ _ _ (T186.setTop (mkF m 41 #[.val (.ref a1), .val (.ref a2), .val (.ref a2)] [(.ref a2), (.ref b1)]))
  obtain ⟨T187, X187, e187, st187⟩ := getF X186 hx hZ hown (host := "") (Or.inl (hw _ (List.mem_of_getElem? (i := 48) rfl))) Via.refl e186 P8 (g := (mkF m 41 #[.val (.ref a1), .val (.ref a2), .val (.ref a2)] [(.ref a2), (.ref b1)])) rfl rfl (hb hby d5_41)
  refine go st187 ?_
  show Go _ p e below s _ _ _ (T187.setTop (mkF m 44 #[.val (.ref a1), .val (.ref a2), .val (.ref a2)] [(.ref b2), (.ref b1)]))
  obtain ⟨_, _, ⟨T188, L188, k188, n188⟩, -, X188, ⟨Lc188, hQ188, l188, y188, z188⟩, st188⟩ := Jvm.LawKit.callS X187 hx (y := (⟨"java/lang/StringLatin1", "equals", "([B[B)Z"⟩ : MethodName)) hown (mvT hZ (hw _ (List.mem_of_getElem? (i := 49) rfl))) (mvT hZ (hw _ (List.mem_of_getElem? (i := 50) rfl))) (mvT hZ (hw _ (List.mem_of_getElem? (i := 51) rfl))) (mvT hZ (hw _ (List.mem_of_getElem? (i := 52) rfl))) (by decide) (backOf (W := 0) (rmL10 l Z a0 hw [] b1 b2 k1 k2 h0 n0 Z0 P5 P9) hZ (hw _ (List.mem_of_getElem? (i := 52) rfl)) (hw _ (List.mem_of_getElem? (i := 51) rfl)) (by decide) (by decide)) (g := (mkF m 44 #[.val (.ref a1), .val (.ref a2), .val (.ref a2)] [(.ref b2), (.ref b1)])) rfl (by rw [hml]; rfl) (argsL := [(.ref b1), (.ref b2)]) (rest := []) (lenOf pd_5_0 rfl) rfl (by show 2 * 0 + _ ≤ _; exact Nat.le_of_eq rfl) (hb hby d5_44) (fun _ _ => ⟨rfl, e187, (by decide : 0 + 0 ≤ _), (by decide : 0 + 0 ≤ _)⟩)
  dsimp only [Pt.U, Pt.locs, Pt.cells, Pt.slots] at X188 l188 y188 z188 st188 hQ188
  subst l188 y188 z188
  obtain ⟨rfl, N188q, e188⟩ := hQ188
  have N188 := Fr.app N0 N188q
  refine go st188 ?_
  show Go _ p e below s _ _ _ (T188.setTop (mkF m 47 #[.val (.ref a1), .val (.ref a2), .val (.ref a2)] [(.int (0 : Int32))]))
  refine go (fun _ => XS.ifYes X188.here hx rfl (pc0 := 47) (pc' := 54) rfl (hb hby d5_47) rfl ((if0 _ _).trans (teq (rfl : (0 : Int32) = (0 : Int32))).1) (by decide) (by decide)) ?_
  show Go _ p e below s _ _ _ (T188.setTop (mkF m 54 #[.val (.ref a1), .val (.ref a2), .val (.ref a2)] []))
  refine go (fun _ => XS.iconst X188.here hx rfl (hb hby d5_54)) ?_
  show Go _ p e below s _ _ _ (T188.setTop (mkF m 55 #[.val (.ref a1), .val (.ref a2), .val (.ref a2)] [(.int (0 : Int32))]))
  refine goRet X188 hx Bd.notSynchronized Bd.returns rfl (Or.inl ⟨rfl, Or.inr (Or.inl rfl), _, rfl⟩) (hb hby d5_55) (by decide) (by decide) (by rw [e188]; refine ⟨rfl, N188, rfl⟩)
theorem pn_L11 : plainName "java/lang/StringLatin1" = true := by first | (simp [plainName, overriddenIn]; done) | decide +kernel
theorem ef_L11 (m : MethodId) (b1 : Addr) (b2 : Addr) : entryFrame m #[(.ref b1), (.ref b2)] 3 = mkF m 0 #[.val (.ref b1), .val (.ref b2), .unset] [] := by first | (simp [entryFrame, mkF, argsToLocals, Value.category]; done) | rfl
def QL11 (Z : State) (b1 : Addr) (b2 : Addr) (k1 : ClassId) (k2 : ClassId) (h0 : Heap) (n0 : Nat) (v : Option Value) (h : Heap) (L : List Loc) : Prop := v = some (.int (1 : Int32)) ∧ Fr n0 L ∧ (h = h0)
set_option maxRecDepth 65536 in
set_option maxHeartbeats 40000000 in
theorem rmL11 (l : Launch) (Z : State) (a0 : Array Value) (hw : ∀ d ∈ tables_1, d.before a0 Z = true) (ws : List Jvm.Cond) (b1 : Addr) (b2 : Addr) (k1 : ClassId) (k2 : ClassId) (h0 : Heap) (n0 : Nat) (Z0 : n0 ≤ h0.size) (P0 : Arv Z h0 b1 k1 .byte (6 : Int32) [(.int (68 : Int32)), (.int (111 : Int32)), (.int (115 : Int32)), (.int (97 : Int32)), (.int (103 : Int32)), (.int (101 : Int32))] (.int (0 : Int32))) (P1 : Arv Z h0 b2 k2 .byte (6 : Int32) [(.int (68 : Int32)), (.int (111 : Int32)), (.int (115 : Int32)), (.int (97 : Int32)), (.int (103 : Int32)), (.int (101 : Int32))] (.int (0 : Int32))) :
    MetFree l (⟨"java/lang/StringLatin1", "equals", "([B[B)Z"⟩ : MethodName) (head1 (Jvm.Cond.code (⟨"java/lang/StringLatin1", "equals", "([B[B)Z"⟩ : MethodName) jdk_43_method_13_code 3 (some .boolean) :: ws) ({ frames := 0, cells := 0, slots := 0, locals := 0 } : Room)) (fun a U => a = #[(.ref b1), (.ref b2)] ∧ Z.Warmed39 U.vm ∧ U.heap = h0) (fun _ _ _ _ _ => True) (fun _ U o U' => ∃ v L, o = .returned v ∧ QL11 Z b1 b2 k1 k2 h0 n0 v U'.heap L ∧ FrameEnd U o U' L ({ frames := 0, cells := 0, slots := 0, locals := 0 } : Room).cells ({ frames := 0, cells := 0, slots := 0, locals := 0 } : Room).slots) := by
  refine MetFree.of_bodySF (plainFor_of_name pn_L11) hisR ?_
  intro p e s m args below meth c s₁ Bd hml0 hP hK
  obtain ⟨rfl, hZ, hh⟩ := hP
  have hx := Bd.exec
  have hby := Bd.bytes
  have hml : c.maxLocals = 3 := hml0
  have hown : s.vm.findClass "java/lang/StringLatin1" = some m.cls := findClass_of_methodNamed Bd.named
  have hnm := (name_of_methodNamed Bd.named Bd.method).1
  have X0 : Stand p l e ({ frames := 0, cells := 0, slots := 0, locals := 0 } : Room) s m #[(.ref b1), (.ref b2)] below meth c s₁ [] 0 0 := Stand.of_body Bd
  have e0 : s₁.heap = h0 := by rw [← hh, Bd.state]; rfl
  have N0 := Fr.nil n0
  have hS0 : s.Since s.vm 0 := (State.WarmedH.refl s).since 0
  show Go (FrameEnd) p e below s ({ frames := 0, cells := 0, slots := 0, locals := 0 } : Room).cells ({ frames := 0, cells := 0, slots := 0, locals := 0 } : Room).slots (QL11 Z b1 b2 k1 k2 h0 n0) (s₁.setTop (entryFrame m #[(.ref b1), (.ref b2)] 3))
  refine go (fun _ k => castTop (ef_L11 m b1 b2) k) ?_
  show Go _ p e below s _ _ _ (s₁.setTop (mkF m 0 #[.val (.ref b1), .val (.ref b2), .unset] []))
  refine go (fun _ => XS.aloadN X0.here hx rfl (hb hby d6_0) rfl rfl) ?_
  show Go _ p e below s _ _ _ (s₁.setTop (mkF m 1 #[.val (.ref b1), .val (.ref b2), .unset] [(.ref b1)]))
  obtain ⟨cl210, Ar210, -, Sz210, Nz210, -, -⟩ := id P0
  refine go (X0.arraylength hx (by rw [e0]; exact Ar210.1) (State.isArrayOf_alike hZ.alike Ar210.2.1) (g := (mkF m 1 #[.val (.ref b1), .val (.ref b2), .unset] [(.ref b1)])) rfl rfl (hb hby d6_1)) ?_
  rw [len_of Sz210 Nz210]
  show Go _ p e below s _ _ _ (s₁.setTop (mkF m 2 #[.val (.ref b1), .val (.ref b2), .unset] [(.int (6 : Int32))]))
  refine go (fun _ => XS.aloadN X0.here hx rfl (hb hby d6_2) rfl rfl) ?_
  show Go _ p e below s _ _ _ (s₁.setTop (mkF m 3 #[.val (.ref b1), .val (.ref b2), .unset] [(.ref b2), (.int (6 : Int32))]))
  obtain ⟨cl211, Ar211, -, Sz211, Nz211, -, -⟩ := id P1
  refine go (X0.arraylength hx (by rw [e0]; exact Ar211.1) (State.isArrayOf_alike hZ.alike Ar211.2.1) (g := (mkF m 3 #[.val (.ref b1), .val (.ref b2), .unset] [(.ref b2), (.int (6 : Int32))])) rfl rfl (hb hby d6_3)) ?_
  rw [len_of Sz211 Nz211]
  show Go _ p e below s _ _ _ (s₁.setTop (mkF m 4 #[.val (.ref b1), .val (.ref b2), .unset] [(.int (6 : Int32)), (.int (6 : Int32))]))
  refine go (fun _ => XS.icmpNo X0.here hx rfl (hb hby d6_4) rfl (teq (rfl : (6 : Int32) = (6 : Int32))).2) ?_
  show Go _ p e below s _ _ _ (s₁.setTop (mkF m 7 #[.val (.ref b1), .val (.ref b2), .unset] []))
  refine go (fun _ => XS.iconst X0.here hx rfl (hb hby d6_7)) ?_
  show Go _ p e below s _ _ _ (s₁.setTop (mkF m 8 #[.val (.ref b1), .val (.ref b2), .unset] [(.int (0 : Int32))]))
  refine go (fun _ => XS.istoreN X0.here hx rfl (hb hby d6_8) rfl (l' := #[.val (.ref b1), .val (.ref b2), .val (.int (0 : Int32))]) rfl) ?_
  show Go _ p e below s _ _ _ (s₁.setTop (mkF m 9 #[.val (.ref b1), .val (.ref b2), .val (.int (0 : Int32))] []))
  refine go (fun _ => XS.iloadN X0.here hx rfl (hb hby d6_9) rfl) ?_
  show Go _ p e below s _ _ _ (s₁.setTop (mkF m 10 #[.val (.ref b1), .val (.ref b2), .val (.int (0 : Int32))] [(.int (0 : Int32))]))
  refine go (fun _ => XS.aloadN X0.here hx rfl (hb hby d6_10) rfl rfl) ?_
  show Go _ p e below s _ _ _ (s₁.setTop (mkF m 11 #[.val (.ref b1), .val (.ref b2), .val (.int (0 : Int32))] [(.ref b1), (.int (0 : Int32))]))
  obtain ⟨cl212, Ar212, -, Sz212, Nz212, -, -⟩ := id P0
  refine go (X0.arraylength hx (by rw [e0]; exact Ar212.1) (State.isArrayOf_alike hZ.alike Ar212.2.1) (g := (mkF m 11 #[.val (.ref b1), .val (.ref b2), .val (.int (0 : Int32))] [(.ref b1), (.int (0 : Int32))])) rfl rfl (hb hby d6_11)) ?_
  rw [len_of Sz212 Nz212]
  show Go _ p e below s _ _ _ (s₁.setTop (mkF m 12 #[.val (.ref b1), .val (.ref b2), .val (.int (0 : Int32))] [(.int (6 : Int32)), (.int (0 : Int32))]))
  refine go (fun _ => XS.icmpNo X0.here hx rfl (hb hby d6_12) rfl (tlt (by decide : ((0 : Int32) < (6 : Int32)))).2.1) ?_
  show Go _ p e below s _ _ _ (s₁.setTop (mkF m 15 #[.val (.ref b1), .val (.ref b2), .val (.int (0 : Int32))] []))
  refine go (fun _ => XS.aloadN X0.here hx rfl (hb hby d6_15) rfl rfl) ?_
  show Go _ p e below s _ _ _ (s₁.setTop (mkF m 16 #[.val (.ref b1), .val (.ref b2), .val (.int (0 : Int32))] [(.ref b1)]))
  refine go (fun _ => XS.iloadN X0.here hx rfl (hb hby d6_16) rfl) ?_
  show Go _ p e below s _ _ _ (s₁.setTop (mkF m 17 #[.val (.ref b1), .val (.ref b2), .val (.int (0 : Int32))] [(.int (0 : Int32)), (.ref b1)]))
  obtain ⟨cl213, Ar213, q213, Sz213, Nz213, Hs213, Gs213⟩ := id P0
  have hin213 : ¬ ((0 : Int32) < 0 ∨ cl213.slots.size ≤ ((0 : Int32)).toNatClampNeg) := inb_of Sz213 ⟨by decide, by decide⟩
  refine go (X0.baloadBytes hx (j := (0 : Int32)) (v := (.int (68 : Int32))) (by rw [e0]; exact Ar213.1) (State.isArrayOf_alike hZ.alike Ar213.2.1) Ar213.2.2 hin213 (Hs213.at hin213 rfl) (g := (mkF m 17 #[.val (.ref b1), .val (.ref b2), .val (.int (0 : Int32))] [(.int (0 : Int32)), (.ref b1)])) rfl rfl (hb hby d6_17)) ?_
  show Go _ p e below s _ _ _ (s₁.setTop (mkF m 18 #[.val (.ref b1), .val (.ref b2), .val (.int (0 : Int32))] [(.int (68 : Int32))]))
  refine go (fun _ => XS.aloadN X0.here hx rfl (hb hby d6_18) rfl rfl) ?_
  show Go _ p e below s _ _ _ (s₁.setTop (mkF m 19 #[.val (.ref b1), .val (.ref b2), .val (.int (0 : Int32))] [(.ref b2), (.int (68 : Int32))]))
  refine go (fun _ => XS.iloadN X0.here hx rfl (hb hby d6_19) rfl) ?_
  show Go _ p e below s _ _ _ (s₁.setTop (mkF m 20 #[.val (.ref b1), .val (.ref b2), .val (.int (0 : Int32))] [(.int (0 : Int32)), (.ref b2), (.int (68 : Int32))]))
  obtain ⟨cl214, Ar214, q214, Sz214, Nz214, Hs214, Gs214⟩ := id P1
  have hin214 : ¬ ((0 : Int32) < 0 ∨ cl214.slots.size ≤ ((0 : Int32)).toNatClampNeg) := inb_of Sz214 ⟨by decide, by decide⟩
  refine go (X0.baloadBytes hx (j := (0 : Int32)) (v := (.int (68 : Int32))) (by rw [e0]; exact Ar214.1) (State.isArrayOf_alike hZ.alike Ar214.2.1) Ar214.2.2 hin214 (Hs214.at hin214 rfl) (g := (mkF m 20 #[.val (.ref b1), .val (.ref b2), .val (.int (0 : Int32))] [(.int (0 : Int32)), (.ref b2), (.int (68 : Int32))])) rfl rfl (hb hby d6_20)) ?_
  show Go _ p e below s _ _ _ (s₁.setTop (mkF m 21 #[.val (.ref b1), .val (.ref b2), .val (.int (0 : Int32))] [(.int (68 : Int32)), (.int (68 : Int32))]))
  refine go (fun _ => XS.icmpYes X0.here hx rfl (pc0 := 21) (pc' := 26) rfl (hb hby d6_21) rfl (teq (rfl : (68 : Int32) = (68 : Int32))).1 (by decide) (by decide)) ?_
  show Go _ p e below s _ _ _ (s₁.setTop (mkF m 26 #[.val (.ref b1), .val (.ref b2), .val (.int (0 : Int32))] []))
  refine go (fun _ => XS.iinc X0.here hx rfl (hb hby d6_26) rfl (l' := #[.val (.ref b1), .val (.ref b2), .val (.int (1 : Int32))]) rfl) ?_
  show Go _ p e below s _ _ _ (s₁.setTop (mkF m 29 #[.val (.ref b1), .val (.ref b2), .val (.int (1 : Int32))] []))
  refine go (fun _ => XS.goto X0.here hx rfl (pc0 := 29) (pc' := 9) rfl (hb hby d6_29) (by decide) (by decide)) ?_
  show Go _ p e below s _ _ _ (s₁.setTop (mkF m 9 #[.val (.ref b1), .val (.ref b2), .val (.int (1 : Int32))] []))
  refine go (fun _ => XS.iloadN X0.here hx rfl (hb hby d6_9) rfl) ?_
  show Go _ p e below s _ _ _ (s₁.setTop (mkF m 10 #[.val (.ref b1), .val (.ref b2), .val (.int (1 : Int32))] [(.int (1 : Int32))]))
  refine go (fun _ => XS.aloadN X0.here hx rfl (hb hby d6_10) rfl rfl) ?_
  show Go _ p e below s _ _ _ (s₁.setTop (mkF m 11 #[.val (.ref b1), .val (.ref b2), .val (.int (1 : Int32))] [(.ref b1), (.int (1 : Int32))]))
  obtain ⟨cl215, Ar215, -, Sz215, Nz215, -, -⟩ := id P0
  refine go (X0.arraylength hx (by rw [e0]; exact Ar215.1) (State.isArrayOf_alike hZ.alike Ar215.2.1) (g := (mkF m 11 #[.val (.ref b1), .val (.ref b2), .val (.int (1 : Int32))] [(.ref b1), (.int (1 : Int32))])) rfl rfl (hb hby d6_11)) ?_
  rw [len_of Sz215 Nz215]
  show Go _ p e below s _ _ _ (s₁.setTop (mkF m 12 #[.val (.ref b1), .val (.ref b2), .val (.int (1 : Int32))] [(.int (6 : Int32)), (.int (1 : Int32))]))
  refine go (fun _ => XS.icmpNo X0.here hx rfl (hb hby d6_12) rfl (tlt (by decide : ((1 : Int32) < (6 : Int32)))).2.1) ?_
  show Go _ p e below s _ _ _ (s₁.setTop (mkF m 15 #[.val (.ref b1), .val (.ref b2), .val (.int (1 : Int32))] []))
  refine go (fun _ => XS.aloadN X0.here hx rfl (hb hby d6_15) rfl rfl) ?_
  show Go _ p e below s _ _ _ (s₁.setTop (mkF m 16 #[.val (.ref b1), .val (.ref b2), .val (.int (1 : Int32))] [(.ref b1)]))
  refine go (fun _ => XS.iloadN X0.here hx rfl (hb hby d6_16) rfl) ?_
  show Go _ p e below s _ _ _ (s₁.setTop (mkF m 17 #[.val (.ref b1), .val (.ref b2), .val (.int (1 : Int32))] [(.int (1 : Int32)), (.ref b1)]))
  obtain ⟨cl216, Ar216, q216, Sz216, Nz216, Hs216, Gs216⟩ := id P0
  have hin216 : ¬ ((1 : Int32) < 0 ∨ cl216.slots.size ≤ ((1 : Int32)).toNatClampNeg) := inb_of Sz216 ⟨by decide, by decide⟩
  refine go (X0.baloadBytes hx (j := (1 : Int32)) (v := (.int (111 : Int32))) (by rw [e0]; exact Ar216.1) (State.isArrayOf_alike hZ.alike Ar216.2.1) Ar216.2.2 hin216 (Hs216.at hin216 rfl) (g := (mkF m 17 #[.val (.ref b1), .val (.ref b2), .val (.int (1 : Int32))] [(.int (1 : Int32)), (.ref b1)])) rfl rfl (hb hby d6_17)) ?_
  show Go _ p e below s _ _ _ (s₁.setTop (mkF m 18 #[.val (.ref b1), .val (.ref b2), .val (.int (1 : Int32))] [(.int (111 : Int32))]))
  refine go (fun _ => XS.aloadN X0.here hx rfl (hb hby d6_18) rfl rfl) ?_
  show Go _ p e below s _ _ _ (s₁.setTop (mkF m 19 #[.val (.ref b1), .val (.ref b2), .val (.int (1 : Int32))] [(.ref b2), (.int (111 : Int32))]))
  refine go (fun _ => XS.iloadN X0.here hx rfl (hb hby d6_19) rfl) ?_
  show Go _ p e below s _ _ _ (s₁.setTop (mkF m 20 #[.val (.ref b1), .val (.ref b2), .val (.int (1 : Int32))] [(.int (1 : Int32)), (.ref b2), (.int (111 : Int32))]))
  obtain ⟨cl217, Ar217, q217, Sz217, Nz217, Hs217, Gs217⟩ := id P1
  have hin217 : ¬ ((1 : Int32) < 0 ∨ cl217.slots.size ≤ ((1 : Int32)).toNatClampNeg) := inb_of Sz217 ⟨by decide, by decide⟩
  refine go (X0.baloadBytes hx (j := (1 : Int32)) (v := (.int (111 : Int32))) (by rw [e0]; exact Ar217.1) (State.isArrayOf_alike hZ.alike Ar217.2.1) Ar217.2.2 hin217 (Hs217.at hin217 rfl) (g := (mkF m 20 #[.val (.ref b1), .val (.ref b2), .val (.int (1 : Int32))] [(.int (1 : Int32)), (.ref b2), (.int (111 : Int32))])) rfl rfl (hb hby d6_20)) ?_
  show Go _ p e below s _ _ _ (s₁.setTop (mkF m 21 #[.val (.ref b1), .val (.ref b2), .val (.int (1 : Int32))] [(.int (111 : Int32)), (.int (111 : Int32))]))
  refine go (fun _ => XS.icmpYes X0.here hx rfl (pc0 := 21) (pc' := 26) rfl (hb hby d6_21) rfl (teq (rfl : (111 : Int32) = (111 : Int32))).1 (by decide) (by decide)) ?_
  show Go _ p e below s _ _ _ (s₁.setTop (mkF m 26 #[.val (.ref b1), .val (.ref b2), .val (.int (1 : Int32))] []))
  refine go (fun _ => XS.iinc X0.here hx rfl (hb hby d6_26) rfl (l' := #[.val (.ref b1), .val (.ref b2), .val (.int (2 : Int32))]) rfl) ?_
  show Go _ p e below s _ _ _ (s₁.setTop (mkF m 29 #[.val (.ref b1), .val (.ref b2), .val (.int (2 : Int32))] []))
  refine go (fun _ => XS.goto X0.here hx rfl (pc0 := 29) (pc' := 9) rfl (hb hby d6_29) (by decide) (by decide)) ?_
  show Go _ p e below s _ _ _ (s₁.setTop (mkF m 9 #[.val (.ref b1), .val (.ref b2), .val (.int (2 : Int32))] []))
  refine go (fun _ => XS.iloadN X0.here hx rfl (hb hby d6_9) rfl) ?_
  show Go _ p e below s _ _ _ (s₁.setTop (mkF m 10 #[.val (.ref b1), .val (.ref b2), .val (.int (2 : Int32))] [(.int (2 : Int32))]))
  refine go (fun _ => XS.aloadN X0.here hx rfl (hb hby d6_10) rfl rfl) ?_
  show Go _ p e below s _ _ _ (s₁.setTop (mkF m 11 #[.val (.ref b1), .val (.ref b2), .val (.int (2 : Int32))] [(.ref b1), (.int (2 : Int32))]))
  obtain ⟨cl218, Ar218, -, Sz218, Nz218, -, -⟩ := id P0
  refine go (X0.arraylength hx (by rw [e0]; exact Ar218.1) (State.isArrayOf_alike hZ.alike Ar218.2.1) (g := (mkF m 11 #[.val (.ref b1), .val (.ref b2), .val (.int (2 : Int32))] [(.ref b1), (.int (2 : Int32))])) rfl rfl (hb hby d6_11)) ?_
  rw [len_of Sz218 Nz218]
  show Go _ p e below s _ _ _ (s₁.setTop (mkF m 12 #[.val (.ref b1), .val (.ref b2), .val (.int (2 : Int32))] [(.int (6 : Int32)), (.int (2 : Int32))]))
  refine go (fun _ => XS.icmpNo X0.here hx rfl (hb hby d6_12) rfl (tlt (by decide : ((2 : Int32) < (6 : Int32)))).2.1) ?_
  show Go _ p e below s _ _ _ (s₁.setTop (mkF m 15 #[.val (.ref b1), .val (.ref b2), .val (.int (2 : Int32))] []))
  refine go (fun _ => XS.aloadN X0.here hx rfl (hb hby d6_15) rfl rfl) ?_
  show Go _ p e below s _ _ _ (s₁.setTop (mkF m 16 #[.val (.ref b1), .val (.ref b2), .val (.int (2 : Int32))] [(.ref b1)]))
  refine go (fun _ => XS.iloadN X0.here hx rfl (hb hby d6_16) rfl) ?_
  show Go _ p e below s _ _ _ (s₁.setTop (mkF m 17 #[.val (.ref b1), .val (.ref b2), .val (.int (2 : Int32))] [(.int (2 : Int32)), (.ref b1)]))
  obtain ⟨cl219, Ar219, q219, Sz219, Nz219, Hs219, Gs219⟩ := id P0
  have hin219 : ¬ ((2 : Int32) < 0 ∨ cl219.slots.size ≤ ((2 : Int32)).toNatClampNeg) := inb_of Sz219 ⟨by decide, by decide⟩
  refine go (X0.baloadBytes hx (j := (2 : Int32)) (v := (.int (115 : Int32))) (by rw [e0]; exact Ar219.1) (State.isArrayOf_alike hZ.alike Ar219.2.1) Ar219.2.2 hin219 (Hs219.at hin219 rfl) (g := (mkF m 17 #[.val (.ref b1), .val (.ref b2), .val (.int (2 : Int32))] [(.int (2 : Int32)), (.ref b1)])) rfl rfl (hb hby d6_17)) ?_
  show Go _ p e below s _ _ _ (s₁.setTop (mkF m 18 #[.val (.ref b1), .val (.ref b2), .val (.int (2 : Int32))] [(.int (115 : Int32))]))
  refine go (fun _ => XS.aloadN X0.here hx rfl (hb hby d6_18) rfl rfl) ?_
  show Go _ p e below s _ _ _ (s₁.setTop (mkF m 19 #[.val (.ref b1), .val (.ref b2), .val (.int (2 : Int32))] [(.ref b2), (.int (115 : Int32))]))
  refine go (fun _ => XS.iloadN X0.here hx rfl (hb hby d6_19) rfl) ?_
  show Go _ p e below s _ _ _ (s₁.setTop (mkF m 20 #[.val (.ref b1), .val (.ref b2), .val (.int (2 : Int32))] [(.int (2 : Int32)), (.ref b2), (.int (115 : Int32))]))
  obtain ⟨cl220, Ar220, q220, Sz220, Nz220, Hs220, Gs220⟩ := id P1
  have hin220 : ¬ ((2 : Int32) < 0 ∨ cl220.slots.size ≤ ((2 : Int32)).toNatClampNeg) := inb_of Sz220 ⟨by decide, by decide⟩
  refine go (X0.baloadBytes hx (j := (2 : Int32)) (v := (.int (115 : Int32))) (by rw [e0]; exact Ar220.1) (State.isArrayOf_alike hZ.alike Ar220.2.1) Ar220.2.2 hin220 (Hs220.at hin220 rfl) (g := (mkF m 20 #[.val (.ref b1), .val (.ref b2), .val (.int (2 : Int32))] [(.int (2 : Int32)), (.ref b2), (.int (115 : Int32))])) rfl rfl (hb hby d6_20)) ?_
  show Go _ p e below s _ _ _ (s₁.setTop (mkF m 21 #[.val (.ref b1), .val (.ref b2), .val (.int (2 : Int32))] [(.int (115 : Int32)), (.int (115 : Int32))]))
  refine go (fun _ => XS.icmpYes X0.here hx rfl (pc0 := 21) (pc' := 26) rfl (hb hby d6_21) rfl (teq (rfl : (115 : Int32) = (115 : Int32))).1 (by decide) (by decide)) ?_
  show Go _ p e below s _ _ _ (s₁.setTop (mkF m 26 #[.val (.ref b1), .val (.ref b2), .val (.int (2 : Int32))] []))
  refine go (fun _ => XS.iinc X0.here hx rfl (hb hby d6_26) rfl (l' := #[.val (.ref b1), .val (.ref b2), .val (.int (3 : Int32))]) rfl) ?_
  show Go _ p e below s _ _ _ (s₁.setTop (mkF m 29 #[.val (.ref b1), .val (.ref b2), .val (.int (3 : Int32))] []))
  refine go (fun _ => XS.goto X0.here hx rfl (pc0 := 29) (pc' := 9) rfl (hb hby d6_29) (by decide) (by decide)) ?_
  show Go _ p e below s _ _ _ (s₁.setTop (mkF m 9 #[.val (.ref b1), .val (.ref b2), .val (.int (3 : Int32))] []))
  refine go (fun _ => XS.iloadN X0.here hx rfl (hb hby d6_9) rfl) ?_
  show Go _ p e below s _ _ _ (s₁.setTop (mkF m 10 #[.val (.ref b1), .val (.ref b2), .val (.int (3 : Int32))] [(.int (3 : Int32))]))
  refine go (fun _ => XS.aloadN X0.here hx rfl (hb hby d6_10) rfl rfl) ?_
  show Go _ p e below s _ _ _ (s₁.setTop (mkF m 11 #[.val (.ref b1), .val (.ref b2), .val (.int (3 : Int32))] [(.ref b1), (.int (3 : Int32))]))
  obtain ⟨cl221, Ar221, -, Sz221, Nz221, -, -⟩ := id P0
  refine go (X0.arraylength hx (by rw [e0]; exact Ar221.1) (State.isArrayOf_alike hZ.alike Ar221.2.1) (g := (mkF m 11 #[.val (.ref b1), .val (.ref b2), .val (.int (3 : Int32))] [(.ref b1), (.int (3 : Int32))])) rfl rfl (hb hby d6_11)) ?_
  rw [len_of Sz221 Nz221]
  show Go _ p e below s _ _ _ (s₁.setTop (mkF m 12 #[.val (.ref b1), .val (.ref b2), .val (.int (3 : Int32))] [(.int (6 : Int32)), (.int (3 : Int32))]))
  refine go (fun _ => XS.icmpNo X0.here hx rfl (hb hby d6_12) rfl (tlt (by decide : ((3 : Int32) < (6 : Int32)))).2.1) ?_
  show Go _ p e below s _ _ _ (s₁.setTop (mkF m 15 #[.val (.ref b1), .val (.ref b2), .val (.int (3 : Int32))] []))
  refine go (fun _ => XS.aloadN X0.here hx rfl (hb hby d6_15) rfl rfl) ?_
  show Go _ p e below s _ _ _ (s₁.setTop (mkF m 16 #[.val (.ref b1), .val (.ref b2), .val (.int (3 : Int32))] [(.ref b1)]))
  refine go (fun _ => XS.iloadN X0.here hx rfl (hb hby d6_16) rfl) ?_
  show Go _ p e below s _ _ _ (s₁.setTop (mkF m 17 #[.val (.ref b1), .val (.ref b2), .val (.int (3 : Int32))] [(.int (3 : Int32)), (.ref b1)]))
  obtain ⟨cl222, Ar222, q222, Sz222, Nz222, Hs222, Gs222⟩ := id P0
  have hin222 : ¬ ((3 : Int32) < 0 ∨ cl222.slots.size ≤ ((3 : Int32)).toNatClampNeg) := inb_of Sz222 ⟨by decide, by decide⟩
  refine go (X0.baloadBytes hx (j := (3 : Int32)) (v := (.int (97 : Int32))) (by rw [e0]; exact Ar222.1) (State.isArrayOf_alike hZ.alike Ar222.2.1) Ar222.2.2 hin222 (Hs222.at hin222 rfl) (g := (mkF m 17 #[.val (.ref b1), .val (.ref b2), .val (.int (3 : Int32))] [(.int (3 : Int32)), (.ref b1)])) rfl rfl (hb hby d6_17)) ?_
  show Go _ p e below s _ _ _ (s₁.setTop (mkF m 18 #[.val (.ref b1), .val (.ref b2), .val (.int (3 : Int32))] [(.int (97 : Int32))]))
  refine go (fun _ => XS.aloadN X0.here hx rfl (hb hby d6_18) rfl rfl) ?_
  show Go _ p e below s _ _ _ (s₁.setTop (mkF m 19 #[.val (.ref b1), .val (.ref b2), .val (.int (3 : Int32))] [(.ref b2), (.int (97 : Int32))]))
  refine go (fun _ => XS.iloadN X0.here hx rfl (hb hby d6_19) rfl) ?_
  show Go _ p e below s _ _ _ (s₁.setTop (mkF m 20 #[.val (.ref b1), .val (.ref b2), .val (.int (3 : Int32))] [(.int (3 : Int32)), (.ref b2), (.int (97 : Int32))]))
  obtain ⟨cl223, Ar223, q223, Sz223, Nz223, Hs223, Gs223⟩ := id P1
  have hin223 : ¬ ((3 : Int32) < 0 ∨ cl223.slots.size ≤ ((3 : Int32)).toNatClampNeg) := inb_of Sz223 ⟨by decide, by decide⟩
  refine go (X0.baloadBytes hx (j := (3 : Int32)) (v := (.int (97 : Int32))) (by rw [e0]; exact Ar223.1) (State.isArrayOf_alike hZ.alike Ar223.2.1) Ar223.2.2 hin223 (Hs223.at hin223 rfl) (g := (mkF m 20 #[.val (.ref b1), .val (.ref b2), .val (.int (3 : Int32))] [(.int (3 : Int32)), (.ref b2), (.int (97 : Int32))])) rfl rfl (hb hby d6_20)) ?_
  show Go _ p e below s _ _ _ (s₁.setTop (mkF m 21 #[.val (.ref b1), .val (.ref b2), .val (.int (3 : Int32))] [(.int (97 : Int32)), (.int (97 : Int32))]))
  refine go (fun _ => XS.icmpYes X0.here hx rfl (pc0 := 21) (pc' := 26) rfl (hb hby d6_21) rfl (teq (rfl : (97 : Int32) = (97 : Int32))).1 (by decide) (by decide)) ?_
  show Go _ p e below s _ _ _ (s₁.setTop (mkF m 26 #[.val (.ref b1), .val (.ref b2), .val (.int (3 : Int32))] []))
  refine go (fun _ => XS.iinc X0.here hx rfl (hb hby d6_26) rfl (l' := #[.val (.ref b1), .val (.ref b2), .val (.int (4 : Int32))]) rfl) ?_
  show Go _ p e below s _ _ _ (s₁.setTop (mkF m 29 #[.val (.ref b1), .val (.ref b2), .val (.int (4 : Int32))] []))
  refine go (fun _ => XS.goto X0.here hx rfl (pc0 := 29) (pc' := 9) rfl (hb hby d6_29) (by decide) (by decide)) ?_
  show Go _ p e below s _ _ _ (s₁.setTop (mkF m 9 #[.val (.ref b1), .val (.ref b2), .val (.int (4 : Int32))] []))
  refine go (fun _ => XS.iloadN X0.here hx rfl (hb hby d6_9) rfl) ?_
  show Go _ p e below s _ _ _ (s₁.setTop (mkF m 10 #[.val (.ref b1), .val (.ref b2), .val (.int (4 : Int32))] [(.int (4 : Int32))]))
  refine go (fun _ => XS.aloadN X0.here hx rfl (hb hby d6_10) rfl rfl) ?_
  show Go _ p e below s _ _ _ (s₁.setTop (mkF m 11 #[.val (.ref b1), .val (.ref b2), .val (.int (4 : Int32))] [(.ref b1), (.int (4 : Int32))]))
  obtain ⟨cl224, Ar224, -, Sz224, Nz224, -, -⟩ := id P0
  refine go (X0.arraylength hx (by rw [e0]; exact Ar224.1) (State.isArrayOf_alike hZ.alike Ar224.2.1) (g := (mkF m 11 #[.val (.ref b1), .val (.ref b2), .val (.int (4 : Int32))] [(.ref b1), (.int (4 : Int32))])) rfl rfl (hb hby d6_11)) ?_
  rw [len_of Sz224 Nz224]
  show Go _ p e below s _ _ _ (s₁.setTop (mkF m 12 #[.val (.ref b1), .val (.ref b2), .val (.int (4 : Int32))] [(.int (6 : Int32)), (.int (4 : Int32))]))
  refine go (fun _ => XS.icmpNo X0.here hx rfl (hb hby d6_12) rfl (tlt (by decide : ((4 : Int32) < (6 : Int32)))).2.1) ?_
  show Go _ p e below s _ _ _ (s₁.setTop (mkF m 15 #[.val (.ref b1), .val (.ref b2), .val (.int (4 : Int32))] []))
  refine go (fun _ => XS.aloadN X0.here hx rfl (hb hby d6_15) rfl rfl) ?_
  show Go _ p e below s _ _ _ (s₁.setTop (mkF m 16 #[.val (.ref b1), .val (.ref b2), .val (.int (4 : Int32))] [(.ref b1)]))
  refine go (fun _ => XS.iloadN X0.here hx rfl (hb hby d6_16) rfl) ?_
  show Go _ p e below s _ _ _ (s₁.setTop (mkF m 17 #[.val (.ref b1), .val (.ref b2), .val (.int (4 : Int32))] [(.int (4 : Int32)), (.ref b1)]))
  obtain ⟨cl225, Ar225, q225, Sz225, Nz225, Hs225, Gs225⟩ := id P0
  have hin225 : ¬ ((4 : Int32) < 0 ∨ cl225.slots.size ≤ ((4 : Int32)).toNatClampNeg) := inb_of Sz225 ⟨by decide, by decide⟩
  refine go (X0.baloadBytes hx (j := (4 : Int32)) (v := (.int (103 : Int32))) (by rw [e0]; exact Ar225.1) (State.isArrayOf_alike hZ.alike Ar225.2.1) Ar225.2.2 hin225 (Hs225.at hin225 rfl) (g := (mkF m 17 #[.val (.ref b1), .val (.ref b2), .val (.int (4 : Int32))] [(.int (4 : Int32)), (.ref b1)])) rfl rfl (hb hby d6_17)) ?_
  show Go _ p e below s _ _ _ (s₁.setTop (mkF m 18 #[.val (.ref b1), .val (.ref b2), .val (.int (4 : Int32))] [(.int (103 : Int32))]))
  refine go (fun _ => XS.aloadN X0.here hx rfl (hb hby d6_18) rfl rfl) ?_
  show Go _ p e below s _ _ _ (s₁.setTop (mkF m 19 #[.val (.ref b1), .val (.ref b2), .val (.int (4 : Int32))] [(.ref b2), (.int (103 : Int32))]))
  refine go (fun _ => XS.iloadN X0.here hx rfl (hb hby d6_19) rfl) ?_
  show Go _ p e below s _ _ _ (s₁.setTop (mkF m 20 #[.val (.ref b1), .val (.ref b2), .val (.int (4 : Int32))] [(.int (4 : Int32)), (.ref b2), (.int (103 : Int32))]))
  obtain ⟨cl226, Ar226, q226, Sz226, Nz226, Hs226, Gs226⟩ := id P1
  have hin226 : ¬ ((4 : Int32) < 0 ∨ cl226.slots.size ≤ ((4 : Int32)).toNatClampNeg) := inb_of Sz226 ⟨by decide, by decide⟩
  refine go (X0.baloadBytes hx (j := (4 : Int32)) (v := (.int (103 : Int32))) (by rw [e0]; exact Ar226.1) (State.isArrayOf_alike hZ.alike Ar226.2.1) Ar226.2.2 hin226 (Hs226.at hin226 rfl) (g := (mkF m 20 #[.val (.ref b1), .val (.ref b2), .val (.int (4 : Int32))] [(.int (4 : Int32)), (.ref b2), (.int (103 : Int32))])) rfl rfl (hb hby d6_20)) ?_
  show Go _ p e below s _ _ _ (s₁.setTop (mkF m 21 #[.val (.ref b1), .val (.ref b2), .val (.int (4 : Int32))] [(.int (103 : Int32)), (.int (103 : Int32))]))
  refine go (fun _ => XS.icmpYes X0.here hx rfl (pc0 := 21) (pc' := 26) rfl (hb hby d6_21) rfl (teq (rfl : (103 : Int32) = (103 : Int32))).1 (by decide) (by decide)) ?_
  show Go _ p e below s _ _ _ (s₁.setTop (mkF m 26 #[.val (.ref b1), .val (.ref b2), .val (.int (4 : Int32))] []))
  refine go (fun _ => XS.iinc X0.here hx rfl (hb hby d6_26) rfl (l' := #[.val (.ref b1), .val (.ref b2), .val (.int (5 : Int32))]) rfl) ?_
  show Go _ p e below s _ _ _ (s₁.setTop (mkF m 29 #[.val (.ref b1), .val (.ref b2), .val (.int (5 : Int32))] []))
  refine go (fun _ => XS.goto X0.here hx rfl (pc0 := 29) (pc' := 9) rfl (hb hby d6_29) (by decide) (by decide)) ?_
  show Go _ p e below s _ _ _ (s₁.setTop (mkF m 9 #[.val (.ref b1), .val (.ref b2), .val (.int (5 : Int32))] []))
  refine go (fun _ => XS.iloadN X0.here hx rfl (hb hby d6_9) rfl) ?_
  show Go _ p e below s _ _ _ (s₁.setTop (mkF m 10 #[.val (.ref b1), .val (.ref b2), .val (.int (5 : Int32))] [(.int (5 : Int32))]))
  refine go (fun _ => XS.aloadN X0.here hx rfl (hb hby d6_10) rfl rfl) ?_
  show Go _ p e below s _ _ _ (s₁.setTop (mkF m 11 #[.val (.ref b1), .val (.ref b2), .val (.int (5 : Int32))] [(.ref b1), (.int (5 : Int32))]))
  obtain ⟨cl227, Ar227, -, Sz227, Nz227, -, -⟩ := id P0
  refine go (X0.arraylength hx (by rw [e0]; exact Ar227.1) (State.isArrayOf_alike hZ.alike Ar227.2.1) (g := (mkF m 11 #[.val (.ref b1), .val (.ref b2), .val (.int (5 : Int32))] [(.ref b1), (.int (5 : Int32))])) rfl rfl (hb hby d6_11)) ?_
  rw [len_of Sz227 Nz227]
  show Go _ p e below s _ _ _ (s₁.setTop (mkF m 12 #[.val (.ref b1), .val (.ref b2), .val (.int (5 : Int32))] [(.int (6 : Int32)), (.int (5 : Int32))]))
  refine go (fun _ => XS.icmpNo X0.here hx rfl (hb hby d6_12) rfl (tlt (by decide : ((5 : Int32) < (6 : Int32)))).2.1) ?_
  show Go _ p e below s _ _ _ (s₁.setTop (mkF m 15 #[.val (.ref b1), .val (.ref b2), .val (.int (5 : Int32))] []))
  refine go (fun _ => XS.aloadN X0.here hx rfl (hb hby d6_15) rfl rfl) ?_
  show Go _ p e below s _ _ _ (s₁.setTop (mkF m 16 #[.val (.ref b1), .val (.ref b2), .val (.int (5 : Int32))] [(.ref b1)]))
  refine go (fun _ => XS.iloadN X0.here hx rfl (hb hby d6_16) rfl) ?_
  show Go _ p e below s _ _ _ (s₁.setTop (mkF m 17 #[.val (.ref b1), .val (.ref b2), .val (.int (5 : Int32))] [(.int (5 : Int32)), (.ref b1)]))
  obtain ⟨cl228, Ar228, q228, Sz228, Nz228, Hs228, Gs228⟩ := id P0
  have hin228 : ¬ ((5 : Int32) < 0 ∨ cl228.slots.size ≤ ((5 : Int32)).toNatClampNeg) := inb_of Sz228 ⟨by decide, by decide⟩
  refine go (X0.baloadBytes hx (j := (5 : Int32)) (v := (.int (101 : Int32))) (by rw [e0]; exact Ar228.1) (State.isArrayOf_alike hZ.alike Ar228.2.1) Ar228.2.2 hin228 (Hs228.at hin228 rfl) (g := (mkF m 17 #[.val (.ref b1), .val (.ref b2), .val (.int (5 : Int32))] [(.int (5 : Int32)), (.ref b1)])) rfl rfl (hb hby d6_17)) ?_
  show Go _ p e below s _ _ _ (s₁.setTop (mkF m 18 #[.val (.ref b1), .val (.ref b2), .val (.int (5 : Int32))] [(.int (101 : Int32))]))
  refine go (fun _ => XS.aloadN X0.here hx rfl (hb hby d6_18) rfl rfl) ?_
  show Go _ p e below s _ _ _ (s₁.setTop (mkF m 19 #[.val (.ref b1), .val (.ref b2), .val (.int (5 : Int32))] [(.ref b2), (.int (101 : Int32))]))
  refine go (fun _ => XS.iloadN X0.here hx rfl (hb hby d6_19) rfl) ?_
  show Go _ p e below s _ _ _ (s₁.setTop (mkF m 20 #[.val (.ref b1), .val (.ref b2), .val (.int (5 : Int32))] [(.int (5 : Int32)), (.ref b2), (.int (101 : Int32))]))
  obtain ⟨cl229, Ar229, q229, Sz229, Nz229, Hs229, Gs229⟩ := id P1
  have hin229 : ¬ ((5 : Int32) < 0 ∨ cl229.slots.size ≤ ((5 : Int32)).toNatClampNeg) := inb_of Sz229 ⟨by decide, by decide⟩
  refine go (X0.baloadBytes hx (j := (5 : Int32)) (v := (.int (101 : Int32))) (by rw [e0]; exact Ar229.1) (State.isArrayOf_alike hZ.alike Ar229.2.1) Ar229.2.2 hin229 (Hs229.at hin229 rfl) (g := (mkF m 20 #[.val (.ref b1), .val (.ref b2), .val (.int (5 : Int32))] [(.int (5 : Int32)), (.ref b2), (.int (101 : Int32))])) rfl rfl (hb hby d6_20)) ?_
  show Go _ p e below s _ _ _ (s₁.setTop (mkF m 21 #[.val (.ref b1), .val (.ref b2), .val (.int (5 : Int32))] [(.int (101 : Int32)), (.int (101 : Int32))]))
  refine go (fun _ => XS.icmpYes X0.here hx rfl (pc0 := 21) (pc' := 26) rfl (hb hby d6_21) rfl (teq (rfl : (101 : Int32) = (101 : Int32))).1 (by decide) (by decide)) ?_
  show Go _ p e below s _ _ _ (s₁.setTop (mkF m 26 #[.val (.ref b1), .val (.ref b2), .val (.int (5 : Int32))] []))
  refine go (fun _ => XS.iinc X0.here hx rfl (hb hby d6_26) rfl (l' := #[.val (.ref b1), .val (.ref b2), .val (.int (6 : Int32))]) rfl) ?_
  show Go _ p e below s _ _ _ (s₁.setTop (mkF m 29 #[.val (.ref b1), .val (.ref b2), .val (.int (6 : Int32))] []))
  refine go (fun _ => XS.goto X0.here hx rfl (pc0 := 29) (pc' := 9) rfl (hb hby d6_29) (by decide) (by decide)) ?_
  show Go _ p e below s _ _ _ (s₁.setTop (mkF m 9 #[.val (.ref b1), .val (.ref b2), .val (.int (6 : Int32))] []))
  refine go (fun _ => XS.iloadN X0.here hx rfl (hb hby d6_9) rfl) ?_
  show Go _ p e below s _ _ _ (s₁.setTop (mkF m 10 #[.val (.ref b1), .val (.ref b2), .val (.int (6 : Int32))] [(.int (6 : Int32))]))
  refine go (fun _ => XS.aloadN X0.here hx rfl (hb hby d6_10) rfl rfl) ?_
  show Go _ p e below s _ _ _ (s₁.setTop (mkF m 11 #[.val (.ref b1), .val (.ref b2), .val (.int (6 : Int32))] [(.ref b1), (.int (6 : Int32))]))
  obtain ⟨cl230, Ar230, -, Sz230, Nz230, -, -⟩ := id P0
  refine go (X0.arraylength hx (by rw [e0]; exact Ar230.1) (State.isArrayOf_alike hZ.alike Ar230.2.1) (g := (mkF m 11 #[.val (.ref b1), .val (.ref b2), .val (.int (6 : Int32))] [(.ref b1), (.int (6 : Int32))])) rfl rfl (hb hby d6_11)) ?_
  rw [len_of Sz230 Nz230]
  show Go _ p e below s _ _ _ (s₁.setTop (mkF m 12 #[.val (.ref b1), .val (.ref b2), .val (.int (6 : Int32))] [(.int (6 : Int32)), (.int (6 : Int32))]))
  refine go (fun _ => XS.icmpYes X0.here hx rfl (pc0 := 12) (pc' := 32) rfl (hb hby d6_12) rfl (flt (by decide : ¬ ((6 : Int32) < (6 : Int32)))).2.1 (by decide) (by decide)) ?_
  show Go _ p e below s _ _ _ (s₁.setTop (mkF m 32 #[.val (.ref b1), .val (.ref b2), .val (.int (6 : Int32))] []))
  refine go (fun _ => XS.iconst X0.here hx rfl (hb hby d6_32)) ?_
  show Go _ p e below s _ _ _ (s₁.setTop (mkF m 33 #[.val (.ref b1), .val (.ref b2), .val (.int (6 : Int32))] [(.int (1 : Int32))]))
  refine goRet X0 hx Bd.notSynchronized Bd.returns rfl (Or.inl ⟨rfl, Or.inr (Or.inl rfl), _, rfl⟩) (hb hby d6_33) (by decide) (by decide) (by rw [e0]; refine ⟨rfl, N0, rfl⟩)
theorem pn_Q11 : plainName "java/lang/String" = true := by first | (simp [plainName, overriddenIn]; done) | decide +kernel
theorem ef_Q11 (m : MethodId) (a1 : Addr) (a2 : Addr) : entryFrame m #[(.ref a1), (.ref a2)] 3 = mkF m 0 #[.val (.ref a1), .val (.ref a2), .unset] [] := by first | (simp [entryFrame, mkF, argsToLocals, Value.category]; done) | rfl
def QQ11 (Z : State) (a1 : Addr) (a2 : Addr) (w0 : Int32) (b1 : Addr) (k1 : ClassId) (b2 : Addr) (k2 : ClassId) (h0 : Heap) (n0 : Nat) (v : Option Value) (h : Heap) (L : List Loc) : Prop := v = some (.int (1 : Int32)) ∧ Fr n0 L ∧ (h = h0)
set_option maxRecDepth 65536 in
set_option maxHeartbeats 40000000 in
theorem rmQ11 (l : Launch) (Z : State) (a0 : Array Value) (hw : ∀ d ∈ tables_1, d.before a0 Z = true) (ws : List Jvm.Cond) (a1 : Addr) (a2 : Addr) (w0 : Int32) (b1 : Addr) (k1 : ClassId) (b2 : Addr) (k2 : ClassId) (h0 : Heap) (n0 : Nat) (Z0 : n0 ≤ h0.size) (P0 : Old Z n0 h0) (P1 : Sta Z Z.heap "java/lang/String" "COMPACT_STRINGS" "Z" (.int w0)) (P2 : Exa Z h0 a1 "java/lang/String") (P3 : Fld Z h0 a1 "java/lang/String" "coder" "B" (.int (0 : Int32))) (P4 : Fld Z h0 a1 "java/lang/String" "value" "[B" (.ref b1)) (P5 : Arv Z h0 b1 k1 .byte (6 : Int32) [(.int (68 : Int32)), (.int (111 : Int32)), (.int (115 : Int32)), (.int (97 : Int32)), (.int (103 : Int32)), (.int (101 : Int32))] (.int (0 : Int32))) (P6 : Exa Z h0 a2 "java/lang/String") (P7 : Fld Z h0 a2 "java/lang/String" "coder" "B" (.int (0 : Int32))) (P8 : Fld Z h0 a2 "java/lang/String" "value" "[B" (.ref b2)) (P9 : Arv Z h0 b2 k2 .byte (6 : Int32) [(.int (68 : Int32)), (.int (111 : Int32)), (.int (115 : Int32)), (.int (97 : Int32)), (.int (103 : Int32)), (.int (101 : Int32))] (.int (0 : Int32))) (hw0 : ¬ w0 = 0) :
    MetFree l (⟨"java/lang/String", "equals", "(Ljava/lang/Object;)Z"⟩ : MethodName) (head1 (Jvm.Cond.code (⟨"java/lang/String", "equals", "(Ljava/lang/Object;)Z"⟩ : MethodName) jdk_42_method_66_code 3 (some .boolean) :: ws) ({ frames := 1, cells := 0, slots := 0, locals := 14 } : Room)) (fun a U => a = #[(.ref a1), (.ref a2)] ∧ Z.Warmed39 U.vm ∧ U.heap = h0) (fun _ _ _ _ _ => True) (fun _ U o U' => ∃ v L, o = .returned v ∧ QQ11 Z a1 a2 w0 b1 k1 b2 k2 h0 n0 v U'.heap L ∧ FrameEnd U o U' L ({ frames := 1, cells := 0, slots := 0, locals := 14 } : Room).cells ({ frames := 1, cells := 0, slots := 0, locals := 14 } : Room).slots) := by
  refine MetFree.of_bodySF (plainFor_of_name pn_Q11) hisR ?_
  intro p e s m args below meth c s₁ Bd hml0 hP hK
  obtain ⟨rfl, hZ, hh⟩ := hP
  have hx := Bd.exec
  have hby := Bd.bytes
  have hml : c.maxLocals = 3 := hml0
  have hown : s.vm.findClass "java/lang/String" = some m.cls := findClass_of_methodNamed Bd.named
  have hnm := (name_of_methodNamed Bd.named Bd.method).1
  have X0 : Stand p l e ({ frames := 1, cells := 0, slots := 0, locals := 14 } : Room) s m #[(.ref a1), (.ref a2)] below meth c s₁ [] 0 0 := Stand.of_body Bd
  have e0 : s₁.heap = h0 := by rw [← hh, Bd.state]; rfl
  have N0 := Fr.nil n0
  have hS0 : s.Since s.vm 0 := (State.WarmedH.refl s).since 0
  show Go (FrameEnd) p e below s ({ frames := 1, cells := 0, slots := 0, locals := 14 } : Room).cells ({ frames := 1, cells := 0, slots := 0, locals := 14 } : Room).slots (QQ11 Z a1 a2 w0 b1 k1 b2 k2 h0 n0) (s₁.setTop (entryFrame m #[(.ref a1), (.ref a2)] 3))
  refine go (fun _ k => castTop (ef_Q11 m a1 a2) k) ?_
  show Go _ p e below s _ _ _ (s₁.setTop (mkF m 0 #[.val (.ref a1), .val (.ref a2), .unset] []))
  by_cases hsame : a1 = a2
  · show Go _ p e below s _ _ _ (s₁.setTop (mkF m 0 #[.val (.ref a1), .val (.ref a2), .unset] []))
    refine go (fun _ => XS.aloadN X0.here hx rfl (hb hby d5_0) rfl rfl) ?_
    show Go _ p e below s _ _ _ (s₁.setTop (mkF m 1 #[.val (.ref a1), .val (.ref a2), .unset] [(.ref a1)]))
    refine go (fun _ => XS.aloadN X0.here hx rfl (hb hby d5_1) rfl rfl) ?_
    show Go _ p e below s _ _ _ (s₁.setTop (mkF m 2 #[.val (.ref a1), .val (.ref a2), .unset] [(.ref a2), (.ref a1)]))
    refine go (fun _ => Jvm.RoadKit.acmp (g := (mkF m 2 #[.val (.ref a1), .val (.ref a2), .unset] [(.ref a2), (.ref a1)])) X0 hx rfl rfl rfl (pc0 := 2) (pc' := 5) (same := true) rfl (hb hby d5_2) rfl (decide_eq_true (congrArg Value.ref hsame)) (by decide) (by decide)) ?_
    show Go _ p e below s _ _ _ (s₁.setTop (mkF m 5 #[.val (.ref a1), .val (.ref a2), .unset] []))
    refine go (fun _ => XS.iconst X0.here hx rfl (hb hby d5_5)) ?_
    show Go _ p e below s _ _ _ (s₁.setTop (mkF m 6 #[.val (.ref a1), .val (.ref a2), .unset] [(.int (1 : Int32))]))
    refine goRet X0 hx Bd.notSynchronized Bd.returns rfl (Or.inl ⟨rfl, Or.inr (Or.inl rfl), _, rfl⟩) (hb hby d5_6) (by decide) (by decide) (by rw [e0]; refine ⟨rfl, N0, rfl⟩)
  · show Go _ p e below s _ _ _ (s₁.setTop (mkF m 0 #[.val (.ref a1), .val (.ref a2), .unset] []))
    refine go (fun _ => XS.aloadN X0.here hx rfl (hb hby d5_0) rfl rfl) ?_
    show Go _ p e below s _ _ _ (s₁.setTop (mkF m 1 #[.val (.ref a1), .val (.ref a2), .unset] [(.ref a1)]))
    refine go (fun _ => XS.aloadN X0.here hx rfl (hb hby d5_1) rfl rfl) ?_
    show Go _ p e below s _ _ _ (s₁.setTop (mkF m 2 #[.val (.ref a1), .val (.ref a2), .unset] [(.ref a2), (.ref a1)]))
    refine go (fun _ => Jvm.RoadKit.acmp (g := (mkF m 2 #[.val (.ref a1), .val (.ref a2), .unset] [(.ref a2), (.ref a1)])) X0 hx rfl rfl rfl (pc0 := 2) (pc' := 7) (same := false) rfl (hb hby d5_2) rfl (decide_eq_false fun qq => hsame (Value.ref.inj qq)) (by decide) (by decide)) ?_
    show Go _ p e below s _ _ _ (s₁.setTop (mkF m 7 #[.val (.ref a1), .val (.ref a2), .unset] []))
    refine go (fun _ => XS.aloadN X0.here hx rfl (hb hby d5_7) rfl rfl) ?_
    show Go _ p e below s _ _ _ (s₁.setTop (mkF m 8 #[.val (.ref a1), .val (.ref a2), .unset] [(.ref a2)]))
    obtain ⟨T239, X239, e239, st239⟩ := instY X0 hx hZ hown (hw _ (List.mem_of_getElem? (i := 44) rfl)) e0 (Ins.self P6) (g := (mkF m 8 #[.val (.ref a1), .val (.ref a2), .unset] [(.ref a2)])) rfl rfl (hb hby d5_8)
    refine go st239 ?_
    show Go _ p e below s _ _ _ (T239.setTop (mkF m 11 #[.val (.ref a1), .val (.ref a2), .unset] [(.int (1 : Int32))]))
    refine go (fun _ => XS.ifNo X239.here hx rfl (hb hby d5_11) rfl ((if0 _ _).trans (feq (by decide : ¬ ((1 : Int32) = (0 : Int32)))).1)) ?_
    show Go _ p e below s _ _ _ (T239.setTop (mkF m 14 #[.val (.ref a1), .val (.ref a2), .unset] []))
    refine go (fun _ => XS.aloadN X239.here hx rfl (hb hby d5_14) rfl rfl) ?_
    show Go _ p e below s _ _ _ (T239.setTop (mkF m 15 #[.val (.ref a1), .val (.ref a2), .unset] [(.ref a2)]))
    obtain ⟨T240, X240, e240, st240⟩ := castY X239 hx hZ hown (hw _ (List.mem_of_getElem? (i := 44) rfl)) e239 (Ins.self P6) (g := (mkF m 15 #[.val (.ref a1), .val (.ref a2), .unset] [(.ref a2)])) rfl rfl (hb hby d5_15)
    refine go st240 ?_
    show Go _ p e below s _ _ _ (T240.setTop (mkF m 18 #[.val (.ref a1), .val (.ref a2), .unset] [(.ref a2)]))
    refine go (fun _ => XS.astoreN X240.here hx rfl (hb hby d5_18) rfl rfl (l' := #[.val (.ref a1), .val (.ref a2), .val (.ref a2)]) rfl) ?_
    show Go _ p e below s _ _ _ (T240.setTop (mkF m 19 #[.val (.ref a1), .val (.ref a2), .val (.ref a2)] []))
    obtain ⟨T241, X241, e241, st241⟩ := getS2 X240 hx hZ hown (host := "") (Or.inl (hw _ (List.mem_of_getElem? (i := 46) rfl))) Via.refl e240 (P1.ext P0.2) (g := (mkF m 19 #[.val (.ref a1), .val (.ref a2), .val (.ref a2)] [])) rfl (hb hby d5_19)
    refine go st241 ?_
    show Go _ p e below s _ _ _ (T241.setTop (mkF m 22 #[.val (.ref a1), .val (.ref a2), .val (.ref a2)] [(.int w0)]))
    refine go (fun _ => XS.ifNo X241.here hx rfl (hb hby d5_22) rfl ((if0 _ _).trans (feq hw0).1)) ?_
    show Go _ p e below s _ _ _ (T241.setTop (mkF m 25 #[.val (.ref a1), .val (.ref a2), .val (.ref a2)] []))
    refine go (fun _ => XS.aloadN X241.here hx rfl (hb hby d5_25) rfl rfl) ?_
    show Go _ p e below s _ _ _ (T241.setTop (mkF m 26 #[.val (.ref a1), .val (.ref a2), .val (.ref a2)] [(.ref a1)]))
    obtain ⟨T242, X242, e242, st242⟩ := getF X241 hx hZ hown (host := "") (Or.inl (hw _ (List.mem_of_getElem? (i := 47) rfl))) Via.refl e241 P3 (g := (mkF m 26 #[.val (.ref a1), .val (.ref a2), .val (.ref a2)] [(.ref a1)])) rfl rfl (hb hby d5_26)
    refine go st242 ?_
    show Go _ p e below s _ _ _ (T242.setTop (mkF m 29 #[.val (.ref a1), .val (.ref a2), .val (.ref a2)] [(.int (0 : Int32))]))
    refine go (fun _ => XS.aloadN X242.here hx rfl (hb hby d5_29) rfl rfl) ?_
    show Go _ p e below s _ _ _ (T242.setTop (mkF m 30 #[.val (.ref a1), .val (.ref a2), .val (.ref a2)] [(.ref a2), (.int (0 : Int32))]))
    obtain ⟨T243, X243, e243, st243⟩ := getF X242 hx hZ hown (host := "") (Or.inl (hw _ (List.mem_of_getElem? (i := 47) rfl))) Via.refl e242 P7 (g := (mkF m 30 #[.val (.ref a1), .val (.ref a2), .val (.ref a2)] [(.ref a2), (.int (0 : Int32))])) rfl rfl (hb hby d5_30)
    refine go st243 ?_
    show Go _ p e below s _ _ _ (T243.setTop (mkF m 33 #[.val (.ref a1), .val (.ref a2), .val (.ref a2)] [(.int (0 : Int32)), (.int (0 : Int32))]))
    refine go (fun _ => XS.icmpNo X243.here hx rfl (hb hby d5_33) rfl (teq (rfl : (0 : Int32) = (0 : Int32))).2) ?_
    show Go _ p e below s _ _ _ (T243.setTop (mkF m 36 #[.val (.ref a1), .val (.ref a2), .val (.ref a2)] []))
    refine go (fun _ => XS.aloadN X243.here hx rfl (hb hby d5_36) rfl rfl) ?_
    show Go _ p e below s _ _ _ (T243.setTop (mkF m 37 #[.val (.ref a1), .val (.ref a2), .val (.ref a2)] [(.ref a1)]))
    obtain ⟨T244, X244, e244, st244⟩ := getF X243 hx hZ hown (host := "") (Or.inl (hw _ (List.mem_of_getElem? (i := 48) rfl))) Via.refl e243 P4 (g := (mkF m 37 #[.val (.ref a1), .val (.ref a2), .val (.ref a2)] [(.ref a1)])) rfl rfl (hb hby d5_37)
    refine go st244 ?_
    show Go _ p e below s _ _ _ (T244.setTop (mkF m 40 #[.val (.ref a1), .val (.ref a2), .val (.ref a2)] [(.ref b1)]))
    refine go (fun _ => XS.aloadN X244.here hx rfl (hb hby d5_40) rfl rfl) ?_
    show Go _ p e below s _ _ _ (T244.setTop (mkF m 41 #[.val (.ref a1), .val (.ref a2), .val (.ref a2)] [(.ref a2), (.ref b1)]))
    obtain ⟨T245, X245, e245, st245⟩ := getF X244 hx hZ hown (host := "") (Or.inl (hw _ (List.mem_of_getElem? (i := 48) rfl))) Via.refl e244 P8 (g := (mkF m 41 #[.val (.ref a1), .val (.ref a2), .val (.ref a2)] [(.ref a2), (.ref b1)])) rfl rfl (hb hby d5_41)
    refine go st245 ?_
    show Go _ p e below s _ _ _ (T245.setTop (mkF m 44 #[.val (.ref a1), .val (.ref a2), .val (.ref a2)] [(.ref b2), (.ref b1)]))
    obtain ⟨_, _, ⟨T246, L246, k246, n246⟩, -, X246, ⟨Lc246, hQ246, l246, y246, z246⟩, st246⟩ := Jvm.LawKit.callS X245 hx (y := (⟨"java/lang/StringLatin1", "equals", "([B[B)Z"⟩ : MethodName)) hown (mvT hZ (hw _ (List.mem_of_getElem? (i := 49) rfl))) (mvT hZ (hw _ (List.mem_of_getElem? (i := 50) rfl))) (mvT hZ (hw _ (List.mem_of_getElem? (i := 51) rfl))) (mvT hZ (hw _ (List.mem_of_getElem? (i := 52) rfl))) (by decide) (backOf (W := 0) (rmL11 l Z a0 hw [] b1 b2 k1 k2 h0 n0 Z0 P5 P9) hZ (hw _ (List.mem_of_getElem? (i := 52) rfl)) (hw _ (List.mem_of_getElem? (i := 51) rfl)) (by decide) (by decide)) (g := (mkF m 44 #[.val (.ref a1), .val (.ref a2), .val (.ref a2)] [(.ref b2), (.ref b1)])) rfl (by rw [hml]; rfl) (argsL := [(.ref b1), (.ref b2)]) (rest := []) (lenOf pd_5_0 rfl) rfl (by show 2 * 0 + _ ≤ _; exact Nat.le_of_eq rfl) (hb hby d5_44) (fun _ _ => ⟨rfl, e245, (by decide : 0 + 0 ≤ _), (by decide : 0 + 0 ≤ _)⟩)
    dsimp only [Pt.U, Pt.locs, Pt.cells, Pt.slots] at X246 l246 y246 z246 st246 hQ246
    subst l246 y246 z246
    obtain ⟨rfl, N246q, e246⟩ := hQ246
    have N246 := Fr.app N0 N246q
    refine go st246 ?_
    show Go _ p e below s _ _ _ (T246.setTop (mkF m 47 #[.val (.ref a1), .val (.ref a2), .val (.ref a2)] [(.int (1 : Int32))]))
    refine go (fun _ => XS.ifNo X246.here hx rfl (hb hby d5_47) rfl ((if0 _ _).trans (feq (by decide : ¬ ((1 : Int32) = (0 : Int32)))).1)) ?_
    show Go _ p e below s _ _ _ (T246.setTop (mkF m 50 #[.val (.ref a1), .val (.ref a2), .val (.ref a2)] []))
    refine go (fun _ => XS.iconst X246.here hx rfl (hb hby d5_50)) ?_
    show Go _ p e below s _ _ _ (T246.setTop (mkF m 51 #[.val (.ref a1), .val (.ref a2), .val (.ref a2)] [(.int (1 : Int32))]))
    refine go (fun _ => XS.goto X246.here hx rfl (pc0 := 51) (pc' := 55) rfl (hb hby d5_51) (by decide) (by decide)) ?_
    show Go _ p e below s _ _ _ (T246.setTop (mkF m 55 #[.val (.ref a1), .val (.ref a2), .val (.ref a2)] [(.int (1 : Int32))]))
    refine goRet X246 hx Bd.notSynchronized Bd.returns rfl (Or.inl ⟨rfl, Or.inr (Or.inl rfl), _, rfl⟩) (hb hby d5_55) (by decide) (by decide) (by rw [e246]; refine ⟨rfl, N246, rfl⟩)
theorem own_strne {Z : State} {h : Heap} {a a' b b' : Addr} {k k' : ClassId} {z z' : Int32} {vs vs' : List Value} {d d' : Value} (F : Fld Z h a "java/lang/String" "value" "[B" (.ref b)) (F' : Fld Z h a' "java/lang/String" "value" "[B" (.ref b')) (A : Arv Z h b k .byte z vs d) (A' : Arv Z h b' k' .byte z' vs' d') (hz : z.toNatClampNeg ≠ z'.toNatClampNeg) : a ≠ a' :=
  Fld.ne F F' fun q => by
    cases q
    obtain ⟨c, A1, -, s1, -⟩ := A
    obtain ⟨c', A2, -, s2, -⟩ := A'
    cases A1.1.symm.trans A2.1
    exact hz (s1.symm.trans s2)
theorem pn_0 : plainName "com/example/dosisbog/dosisbog/documents/DosageReaderRootPinLaw" = true := by first | (simp [plainName, overriddenIn]; done) | decide +kernel
theorem pd_0_0 : parseMethodDescriptor "(I)Lcom/example/dosisbog/dosisbog/core/Vocabulary;" = some ⟨[.int], some (.object "com/example/dosisbog/dosisbog/core/Vocabulary")⟩ := by decide +kernel
theorem pd_0_1 : parseMethodDescriptor "(Lcom/example/dosisbog/dosisbog/core/Vocabulary;)Ljava/lang/String;" = some ⟨[(.object "com/example/dosisbog/dosisbog/core/Vocabulary")], some (.object "java/lang/String")⟩ := by decide +kernel
theorem pd_0_2 : parseMethodDescriptor "(Ljava/lang/Object;)Z" = some ⟨[(.object "java/lang/Object")], some .boolean⟩ := by decide +kernel
theorem ef_0 (m : MethodId) (p1 : Int32) (p2 : Int32) : entryFrame m #[(.int p1), (.int p2)] maxLocals = mkF m 0 #[.val (.int p1), .val (.int p2), .unset, .unset, .unset, .unset, .unset, .unset] [] := by first | (simp [entryFrame, mkF, argsToLocals, Value.category, maxLocals]; done) | rfl
def Q0 (Z : State) (p1 : Int32) (p2 : Int32) (vo0 : Addr) (vo1 : Addr) (sm : Addr) (ks : ClassId) (w0 : Int32) (h0 : Heap) (n0 : Nat) (v : Option Value) (h : Heap) (L : List Loc) : Prop := v = some (.int (1 : Int32)) ∧ Fr n0 L
set_option maxRecDepth 65536 in
set_option maxHeartbeats 40000000 in
theorem rm0 (l : Launch) (Z : State) (a0 : Array Value) (hw : ∀ d ∈ tables_1, d.before a0 Z = true) (ws : List Jvm.Cond) (p1 : Int32) (p2 : Int32) (vo0 : Addr) (vo1 : Addr) (sm : Addr) (ks : ClassId) (w0 : Int32) (h0 : Heap) (n0 : Nat) (Z0 : n0 ≤ h0.size) (P0 : Old Z n0 h0) (P1 : Sta Z Z.heap "com/example/dosisbog/dosisbog/core/Vocabulary" "DOSAGE_STRUCTURES" "Lcom/example/dosisbog/dosisbog/core/Vocabulary;" (.ref vo0)) (P2 : Sta Z Z.heap "com/example/dosisbog/dosisbog/core/Vocabulary" "DOSAGE" "Lcom/example/dosisbog/dosisbog/core/Vocabulary;" (.ref vo1)) (P3 : Sta Z Z.heap "com/example/dosisbog/dosisbog/documents/DosageReader$1" "$SwitchMap$com$example$dosisbog$dosisbog$core$Vocabulary" "[I" (.ref sm)) (P4 : Arv Z Z.heap sm ks .int (2 : Int32) [(.int (1 : Int32)), (.int (2 : Int32))] (.int (0 : Int32))) (P5 : Exa Z Z.heap vo0 "com/example/dosisbog/dosisbog/core/Vocabulary") (P6 : Exa Z Z.heap vo1 "com/example/dosisbog/dosisbog/core/Vocabulary") (P7 : Fld Z Z.heap vo0 "java/lang/Enum" "ordinal" "I" (.int (0 : Int32))) (P8 : Fld Z Z.heap vo1 "java/lang/Enum" "ordinal" "I" (.int (1 : Int32))) (P9 : Sta Z Z.heap "java/lang/String" "COMPACT_STRINGS" "Z" (.int w0)) (hw0 : ¬ w0 = 0) (hne : vo1 ≠ vo0) :
    MetFree l x (head1 (Jvm.Cond.code x code maxLocals ret :: ws) room_1) (fun a U => a = #[(.int p1), (.int p2)] ∧ Z.Warmed39 U.vm ∧ U.heap = h0 ∧ CHv Z own_EL U.vm h0) (fun _ _ _ _ _ => True) (fun _ U o U' => ∃ v L, o = .returned v ∧ Q0 Z p1 p2 vo0 vo1 sm ks w0 h0 n0 v U'.heap L ∧ CHr Z own_EL U.vm U.heap U'.vm U'.heap ∧ ReturnedEndW U o U' L room_1.cells room_1.slots) := by
  refine MetFree.of_bodySF (plainFor_of_name pn_0) hisR ?_
  intro p e s m args below meth c s₁ Bd hml0 hP hK
  obtain ⟨rfl, hZ, hh, hCH⟩ := hP
  have hx := Bd.exec
  have hby := Bd.bytes
  have hml : c.maxLocals = 8 := hml0
  have hown : s.vm.findClass "com/example/dosisbog/dosisbog/documents/DosageReaderRootPinLaw" = some m.cls := findClass_of_methodNamed Bd.named
  have hnm := (name_of_methodNamed Bd.named Bd.method).1
  have X0 : Stand p l e room_1 (s.setVm s.vm) m #[(.int p1), (.int p2)] below meth c s₁ [] 0 0 := Stand.of_body Bd
  have e0 : s₁.heap = h0 := by rw [← hh, Bd.state]; rfl
  have N0 := Fr.nil n0
  have hS0 : s.Since s.vm 0 := (State.WarmedH.refl s).since 0
  have ch0 := CHr.refl hCH
  show Go (own_EndH Z) p e below s room_1.cells room_1.slots (Q0 Z p1 p2 vo0 vo1 sm ks w0 h0 n0) (s₁.setTop (entryFrame m #[(.int p1), (.int p2)] maxLocals))
  refine go (fun _ k => castTop (ef_0 m p1 p2) k) ?_
  show Go _ p e below s _ _ _ (s₁.setTop (mkF m 0 #[.val (.int p1), .val (.int p2), .unset, .unset, .unset, .unset, .unset, .unset] []))
  by_cases hpa : (p1 &&& (1 : Int32)) = (0 : Int32) <;> by_cases hpb : (p2 &&& (1 : Int32)) = (0 : Int32)
  · show Go _ p e below s _ _ _ (s₁.setTop (mkF m 0 #[.val (.int p1), .val (.int p2), .unset, .unset, .unset, .unset, .unset, .unset] []))
    refine go (fun _ => XS.iloadN X0.here hx rfl (hb hby at_0) rfl) ?_
    show Go _ p e below s _ _ _ (s₁.setTop (mkF m 1 #[.val (.int p1), .val (.int p2), .unset, .unset, .unset, .unset, .unset, .unset] [(.int p1)]))
    obtain ⟨_, _, ⟨T247, L247, k247, n247⟩, -, X247, ⟨Lc247, hQ247, l247, y247, z247⟩, st247⟩ := Jvm.LawKit.callS X0 hx (y := (⟨"com/example/dosisbog/dosisbog/documents/DosageReaderRootPinLaw", "pick", "(I)Lcom/example/dosisbog/dosisbog/core/Vocabulary;"⟩ : MethodName)) hown (mvT hZ (hw _ (List.mem_of_getElem? (i := 0) rfl))) (mvT hZ (hw _ (List.mem_of_getElem? (i := 1) rfl))) (mvT hZ (hw _ (List.mem_of_getElem? (i := 2) rfl))) (mvT hZ (hw _ (List.mem_of_getElem? (i := 3) rfl))) (by decide) (backOf (W := 0) (rmP0 l Z a0 hw [] p1 vo0 h0 n0 Z0 P1 P0 hpa) hZ (hw _ (List.mem_of_getElem? (i := 3) rfl)) (hw _ (List.mem_of_getElem? (i := 2) rfl)) (by decide) (by decide)) (g := (mkF m 1 #[.val (.int p1), .val (.int p2), .unset, .unset, .unset, .unset, .unset, .unset] [(.int p1)])) rfl (by rw [hml]; rfl) (argsL := [(.int p1)]) (rest := []) (lenOf pd_0_0 rfl) rfl (by show 2 * 0 + _ ≤ _; exact Nat.le_of_eq rfl) (hb hby at_1) (fun _ _ => ⟨rfl, e0, (by decide : 0 + 0 ≤ _), (by decide : 0 + 0 ≤ _)⟩)
    dsimp only [Pt.U, Pt.locs, Pt.cells, Pt.slots] at X247 l247 y247 z247 st247 hQ247
    subst l247 y247 z247
    obtain ⟨rfl, N247q, e247⟩ := hQ247
    have N247 := Fr.app N0 N247q
    refine go st247 ?_
    show Go _ p e below s _ _ _ (T247.setTop (mkF m 4 #[.val (.int p1), .val (.int p2), .unset, .unset, .unset, .unset, .unset, .unset] [(.ref vo0)]))
    refine go (fun _ => XS.astoreN X247.here hx rfl (hb hby at_4) rfl rfl (l' := #[.val (.int p1), .val (.int p2), .val (.ref vo0), .unset, .unset, .unset, .unset, .unset]) rfl) ?_
    show Go _ p e below s _ _ _ (T247.setTop (mkF m 5 #[.val (.int p1), .val (.int p2), .val (.ref vo0), .unset, .unset, .unset, .unset, .unset] []))
    refine go (fun _ => XS.iloadN X247.here hx rfl (hb hby at_5) rfl) ?_
    show Go _ p e below s _ _ _ (T247.setTop (mkF m 6 #[.val (.int p1), .val (.int p2), .val (.ref vo0), .unset, .unset, .unset, .unset, .unset] [(.int p2)]))
    obtain ⟨_, _, ⟨T248, L248, k248, n248⟩, -, X248, ⟨Lc248, hQ248, l248, y248, z248⟩, st248⟩ := Jvm.LawKit.callS X247 hx (y := (⟨"com/example/dosisbog/dosisbog/documents/DosageReaderRootPinLaw", "pick", "(I)Lcom/example/dosisbog/dosisbog/core/Vocabulary;"⟩ : MethodName)) hown (mvT hZ (hw _ (List.mem_of_getElem? (i := 0) rfl))) (mvT hZ (hw _ (List.mem_of_getElem? (i := 1) rfl))) (mvT hZ (hw _ (List.mem_of_getElem? (i := 2) rfl))) (mvT hZ (hw _ (List.mem_of_getElem? (i := 3) rfl))) (by decide) (backOf (W := 0) (rmP0 l Z a0 hw [] p2 vo0 h0 n0 Z0 P1 P0 hpb) hZ (hw _ (List.mem_of_getElem? (i := 3) rfl)) (hw _ (List.mem_of_getElem? (i := 2) rfl)) (by decide) (by decide)) (g := (mkF m 6 #[.val (.int p1), .val (.int p2), .val (.ref vo0), .unset, .unset, .unset, .unset, .unset] [(.int p2)])) rfl (by rw [hml]; rfl) (argsL := [(.int p2)]) (rest := []) (lenOf pd_0_0 rfl) rfl (by show 2 * 0 + _ ≤ _; exact Nat.le_of_eq rfl) (hb hby at_6) (fun _ _ => ⟨rfl, e247, (by decide : 0 + 0 ≤ _), (by decide : 0 + 0 ≤ _)⟩)
    dsimp only [Pt.U, Pt.locs, Pt.cells, Pt.slots] at X248 l248 y248 z248 st248 hQ248
    subst l248 y248 z248
    obtain ⟨rfl, N248q, e248⟩ := hQ248
    have N248 := Fr.app N247 N248q
    refine go st248 ?_
    show Go _ p e below s _ _ _ (T248.setTop (mkF m 9 #[.val (.int p1), .val (.int p2), .val (.ref vo0), .unset, .unset, .unset, .unset, .unset] [(.ref vo0)]))
    refine go (fun _ => XS.astoreN X248.here hx rfl (hb hby at_9) rfl rfl (l' := #[.val (.int p1), .val (.int p2), .val (.ref vo0), .val (.ref vo0), .unset, .unset, .unset, .unset]) rfl) ?_
    show Go _ p e below s _ _ _ (T248.setTop (mkF m 10 #[.val (.int p1), .val (.int p2), .val (.ref vo0), .val (.ref vo0), .unset, .unset, .unset, .unset] []))
    refine go (fun _ => XS.aloadN X248.here hx rfl (hb hby at_10) rfl rfl) ?_
    show Go _ p e below s _ _ _ (T248.setTop (mkF m 11 #[.val (.int p1), .val (.int p2), .val (.ref vo0), .val (.ref vo0), .unset, .unset, .unset, .unset] [(.ref vo0)]))
    obtain ⟨_, _, ⟨T249, L249, k249, n249⟩, -, X249, sc249, gc249, ⟨Lc249, hQ249, l249, y249, z249, hR249⟩, st249⟩ := callSS X248 hx (y := (⟨"com/example/dosisbog/dosisbog/documents/DosageReader", "root", "(Lcom/example/dosisbog/dosisbog/core/Vocabulary;)Ljava/lang/String;"⟩ : MethodName)) hown (mvT hZ (hw _ (List.mem_of_getElem? (i := 9) rfl))) (mvT hZ (hw _ (List.mem_of_getElem? (i := 10) rfl))) (mvT hZ (hw _ (List.mem_of_getElem? (i := 11) rfl))) (mvT hZ (hw _ (List.mem_of_getElem? (i := 12) rfl))) (by decide) (backOfSH (W := 0) (rmR0 l Z a0 hw [] vo0 sm ks h0 n0 Z0 P0 P3 P4 P5 P7) hZ (hw _ (List.mem_of_getElem? (i := 12) rfl)) (hw _ (List.mem_of_getElem? (i := 11) rfl)) (by decide) (by decide) (own_EW hw) ch0.1) (g := (mkF m 11 #[.val (.int p1), .val (.int p2), .val (.ref vo0), .val (.ref vo0), .unset, .unset, .unset, .unset] [(.ref vo0)])) rfl (by rw [hml]; rfl) (argsL := [(.ref vo0)]) (rest := []) (lenOf pd_0_1 rfl) rfl (by show 2 * 0 + _ ≤ _; exact Nat.le_of_eq rfl) (hb hby at_11) (fun _ _ => ⟨rfl, e248, (by decide : 0 + 2 ≤ _), (by decide : 0 + 68 ≤ _)⟩)
    dsimp only [Pt.U, Pt.locs, Pt.cells, Pt.slots] at X249 l249 y249 z249 st249 hQ249 sc249 gc249
    subst l249 y249 z249
    have hS249 : s.Since T249.vm T249.heap.size := foldS (T := T248) hS0 (by rw [e248]; exact (Nat.zero_le _)) sc249 gc249
    have hZ : Z.Warmed39 (s.setVm T249.vm).vm := State.Warmed39.trans hZ sc249.1
    have hown : (s.setVm T249.vm).vm.findClass "com/example/dosisbog/dosisbog/documents/DosageReaderRootPinLaw" = some m.cls := by rw [show (s.setVm T249.vm).vm = T249.vm from rfl, sc249.1.alike.findClass]; exact hown
    have X249 : Stand p l e room_1 (s.setVm T249.vm) m #[(.int p1), (.int p2)] below meth c T249 _ _ _ := X249
    have ch249 := ch0.trans hR249
    obtain ⟨a249, b249, k249, rfl, N249q, K249, u249_1, u249_2, u249_3, u249_4⟩ := hQ249
    have N249 := Fr.app N248 N249q
    have KK249 : Keep h0 T249.heap [] := (Keep.refl h0 []).trans K249 all0
    have ZN249 : n0 ≤ T249.heap.size := Nat.le_trans Z0 K249.1
    have OL249 := P0.keep K249 all0
    refine goT st249 ?_
    show Go _ p e below s _ _ _ (T249.setTop (mkF m 14 #[.val (.int p1), .val (.int p2), .val (.ref vo0), .val (.ref vo0), .unset, .unset, .unset, .unset] [(.ref a249)]))
    refine go (fun _ => XS.astore X249.here hx rfl (hb hby at_14) rfl rfl (l' := #[.val (.int p1), .val (.int p2), .val (.ref vo0), .val (.ref vo0), .val (.ref a249), .unset, .unset, .unset]) rfl) ?_
    show Go _ p e below s _ _ _ (T249.setTop (mkF m 16 #[.val (.int p1), .val (.int p2), .val (.ref vo0), .val (.ref vo0), .val (.ref a249), .unset, .unset, .unset] []))
    refine go (fun _ => XS.aloadN X249.here hx rfl (hb hby at_16) rfl rfl) ?_
    show Go _ p e below s _ _ _ (T249.setTop (mkF m 17 #[.val (.int p1), .val (.int p2), .val (.ref vo0), .val (.ref vo0), .val (.ref a249), .unset, .unset, .unset] [(.ref vo0)]))
    obtain ⟨_, _, ⟨T250, L250, k250, n250⟩, -, X250, sc250, gc250, ⟨Lc250, hQ250, l250, y250, z250, hR250⟩, st250⟩ := callSS X249 hx (y := (⟨"com/example/dosisbog/dosisbog/documents/DosageReader", "root", "(Lcom/example/dosisbog/dosisbog/core/Vocabulary;)Ljava/lang/String;"⟩ : MethodName)) hown (mvT hZ (hw _ (List.mem_of_getElem? (i := 9) rfl))) (mvT hZ (hw _ (List.mem_of_getElem? (i := 10) rfl))) (mvT hZ (hw _ (List.mem_of_getElem? (i := 11) rfl))) (mvT hZ (hw _ (List.mem_of_getElem? (i := 12) rfl))) (by decide) (backOfSH (W := 0) (rmR0 l Z a0 hw [] vo0 sm ks (T249.heap) n0 ZN249 OL249 P3 P4 P5 P7) hZ (hw _ (List.mem_of_getElem? (i := 12) rfl)) (hw _ (List.mem_of_getElem? (i := 11) rfl)) (by decide) (by decide) (own_EW hw) ch249.1) (g := (mkF m 17 #[.val (.int p1), .val (.int p2), .val (.ref vo0), .val (.ref vo0), .val (.ref a249), .unset, .unset, .unset] [(.ref vo0)])) rfl (by rw [hml]; rfl) (argsL := [(.ref vo0)]) (rest := []) (lenOf pd_0_1 rfl) rfl (by show 2 * 0 + _ ≤ _; exact Nat.le_of_eq rfl) (hb hby at_17) (fun _ _ => ⟨rfl, rfl, (by decide : 2 + 2 ≤ _), (by decide : 68 + 68 ≤ _)⟩)
    dsimp only [Pt.U, Pt.locs, Pt.cells, Pt.slots] at X250 l250 y250 z250 st250 hQ250 sc250 gc250
    subst l250 y250 z250
    have hS250 : s.Since T250.vm T250.heap.size := foldS (T := T249) hS249 (Nat.le_refl _) sc250 gc250
    have hZ : Z.Warmed39 (s.setVm T250.vm).vm := State.Warmed39.trans hZ sc250.1
    have hown : (s.setVm T250.vm).vm.findClass "com/example/dosisbog/dosisbog/documents/DosageReaderRootPinLaw" = some m.cls := by rw [show (s.setVm T250.vm).vm = T250.vm from rfl, sc250.1.alike.findClass]; exact hown
    have X250 : Stand p l e room_1 (s.setVm T250.vm) m #[(.int p1), (.int p2)] below meth c T250 _ _ _ := X250
    have ch250 := ch249.trans hR250
    obtain ⟨a250, b250, k250, rfl, N250q, K250, u250_1, u250_2, u250_3, u250_4⟩ := hQ250
    have N250 := Fr.app N249 N250q
    have c250_9 := u249_1.keep K250
    have c250_10 := u249_2.keep K250 nin0
    have c250_11 := u249_3.keep K250 nin0
    have c250_12 := u249_4.keep K250 nin0
    have KK250 : Keep h0 T250.heap [] := KK249.trans K250 all0
    have ZN250 : n0 ≤ T250.heap.size := Nat.le_trans ZN249 K250.1
    have OL250 := OL249.keep K250 all0
    refine goT st250 ?_
    show Go _ p e below s _ _ _ (T250.setTop (mkF m 20 #[.val (.int p1), .val (.int p2), .val (.ref vo0), .val (.ref vo0), .val (.ref a249), .unset, .unset, .unset] [(.ref a250)]))
    refine go (fun _ => XS.astore X250.here hx rfl (hb hby at_20) rfl rfl (l' := #[.val (.int p1), .val (.int p2), .val (.ref vo0), .val (.ref vo0), .val (.ref a249), .val (.ref a250), .unset, .unset]) rfl) ?_
    show Go _ p e below s _ _ _ (T250.setTop (mkF m 22 #[.val (.int p1), .val (.int p2), .val (.ref vo0), .val (.ref vo0), .val (.ref a249), .val (.ref a250), .unset, .unset] []))
    refine go (fun _ => XS.aload X250.here hx rfl (hb hby at_22) rfl rfl) ?_
    show Go _ p e below s _ _ _ (T250.setTop (mkF m 24 #[.val (.int p1), .val (.int p2), .val (.ref vo0), .val (.ref vo0), .val (.ref a249), .val (.ref a250), .unset, .unset] [(.ref a249)]))
    refine go (fun _ => XS.ifnullNo X250.here hx rfl (hb hby at_24) rfl) ?_
    show Go _ p e below s _ _ _ (T250.setTop (mkF m 27 #[.val (.int p1), .val (.int p2), .val (.ref vo0), .val (.ref vo0), .val (.ref a249), .val (.ref a250), .unset, .unset] []))
    refine go (fun _ => XS.aload X250.here hx rfl (hb hby at_27) rfl rfl) ?_
    show Go _ p e below s _ _ _ (T250.setTop (mkF m 29 #[.val (.int p1), .val (.int p2), .val (.ref vo0), .val (.ref vo0), .val (.ref a249), .val (.ref a250), .unset, .unset] [(.ref a250)]))
    refine go (fun _ => XT.ifnonnullYes X250.here hx rfl (pc0 := 29) (pc' := 34) rfl (hb hby at_29) rfl (by decide) (by decide)) ?_
    show Go _ p e below s _ _ _ (T250.setTop (mkF m 34 #[.val (.int p1), .val (.int p2), .val (.ref vo0), .val (.ref vo0), .val (.ref a249), .val (.ref a250), .unset, .unset] []))
    refine go (fun _ => XS.aload X250.here hx rfl (hb hby at_34) rfl rfl) ?_
    show Go _ p e below s _ _ _ (T250.setTop (mkF m 36 #[.val (.int p1), .val (.int p2), .val (.ref vo0), .val (.ref vo0), .val (.ref a249), .val (.ref a250), .unset, .unset] [(.ref a249)]))
    refine go (fun _ => XS.aloadN X250.here hx rfl (hb hby at_36) rfl rfl) ?_
    show Go _ p e below s _ _ _ (T250.setTop (mkF m 37 #[.val (.int p1), .val (.int p2), .val (.ref vo0), .val (.ref vo0), .val (.ref a249), .val (.ref a250), .unset, .unset] [(.ref vo0), (.ref a249)]))
    obtain ⟨_, _, ⟨T251, L251, k251, n251⟩, -, X251, sc251, gc251, ⟨Lc251, hQ251, l251, y251, z251, hR251⟩, st251⟩ := callSS X250 hx (y := (⟨"com/example/dosisbog/dosisbog/documents/DosageReaderRootPinLaw", "expected", "(Lcom/example/dosisbog/dosisbog/core/Vocabulary;)Ljava/lang/String;"⟩ : MethodName)) hown (mvT hZ (hw _ (List.mem_of_getElem? (i := 34) rfl))) (mvT hZ (hw _ (List.mem_of_getElem? (i := 35) rfl))) (mvT hZ (hw _ (List.mem_of_getElem? (i := 2) rfl))) (mvT hZ (hw _ (List.mem_of_getElem? (i := 36) rfl))) (by decide) (backOfSH (W := 1) (rmX0 l Z a0 hw [] vo0 (T250.heap) n0 ZN250 OL250 P1) hZ (hw _ (List.mem_of_getElem? (i := 36) rfl)) (hw _ (List.mem_of_getElem? (i := 2) rfl)) (by decide) (by decide) (own_EW hw) ch250.1) (g := (mkF m 37 #[.val (.int p1), .val (.int p2), .val (.ref vo0), .val (.ref vo0), .val (.ref a249), .val (.ref a250), .unset, .unset] [(.ref vo0), (.ref a249)])) rfl (by rw [hml]; rfl) (argsL := [(.ref vo0)]) (rest := [(.ref a249)]) (lenOf pd_0_1 rfl) rfl (by show 2 * 0 + _ ≤ _; exact Nat.le_of_eq rfl) (hb hby at_37) (fun _ _ => ⟨rfl, rfl, (by decide : 4 + 2 ≤ _), (by decide : 136 + 68 ≤ _)⟩)
    dsimp only [Pt.U, Pt.locs, Pt.cells, Pt.slots] at X251 l251 y251 z251 st251 hQ251 sc251 gc251
    subst l251 y251 z251
    have hS251 : s.Since T251.vm T251.heap.size := foldS (T := T250) hS250 (Nat.le_refl _) sc251 gc251
    have hZ : Z.Warmed39 (s.setVm T251.vm).vm := State.Warmed39.trans hZ sc251.1
    have hown : (s.setVm T251.vm).vm.findClass "com/example/dosisbog/dosisbog/documents/DosageReaderRootPinLaw" = some m.cls := by rw [show (s.setVm T251.vm).vm = T251.vm from rfl, sc251.1.alike.findClass]; exact hown
    have X251 : Stand p l e room_1 (s.setVm T251.vm) m #[(.int p1), (.int p2)] below meth c T251 _ _ _ := X251
    have ch251 := ch250.trans hR251
    obtain ⟨a251, b251, k251, rfl, N251q, K251, u251_1, u251_2, u251_3, u251_4⟩ := hQ251
    have N251 := Fr.app N250 N251q
    have c251_9 := c250_9.keep K251
    have c251_10 := c250_10.keep K251 nin0
    have c251_11 := c250_11.keep K251 nin0
    have c251_12 := c250_12.keep K251 nin0
    have c251_13 := u250_1.keep K251
    have c251_14 := u250_2.keep K251 nin0
    have c251_15 := u250_3.keep K251 nin0
    have c251_16 := u250_4.keep K251 nin0
    have KK251 : Keep h0 T251.heap [] := KK250.trans K251 all0
    have ZN251 : n0 ≤ T251.heap.size := Nat.le_trans ZN250 K251.1
    have OL251 := OL250.keep K251 all0
    refine goT st251 ?_
    show Go _ p e below s _ _ _ (T251.setTop (mkF m 40 #[.val (.int p1), .val (.int p2), .val (.ref vo0), .val (.ref vo0), .val (.ref a249), .val (.ref a250), .unset, .unset] [(.ref a251), (.ref a249)]))
    obtain ⟨cq252, kq252, q252a, q252b, q252c⟩ := isOf hZ rfl c251_9
    obtain ⟨_, _, ⟨T252, L252, k252, n252⟩, -, X252, ⟨Lc252, hQ252, l252, y252, z252⟩, st252⟩ := X251.virtualBack hx (y := (⟨"java/lang/String", "equals", "(Ljava/lang/Object;)Z"⟩ : MethodName)) (z := (⟨"java/lang/String", "equals", "(Ljava/lang/Object;)Z"⟩ : MethodName)) hown (mvT hZ (hw _ (List.mem_of_getElem? (i := 38) rfl))) (mvT hZ (hw _ (List.mem_of_getElem? (i := 39) rfl))) (notFace_of_selects (args := #[]) (mvT hZ (hw _ (List.mem_of_getElem? (i := 41) rfl)))) (mvT hZ (hw _ (List.mem_of_getElem? (i := 41) rfl))) (mvT hZ (hw _ (List.mem_of_getElem? (i := 40) rfl))) (by decide) (backOf (W := 0) (rmQ00 l Z a0 hw [] a249 a251 w0 b249 k249 b251 k251 (T251.heap) n0 ZN251 OL251 P9 c251_9 c251_10 c251_11 c251_12 u251_1 u251_2 u251_3 u251_4 hw0) hZ (hw _ (List.mem_of_getElem? (i := 42) rfl)) (hw _ (List.mem_of_getElem? (i := 26) rfl)) (by decide) (by decide)) q252a q252c (g := (mkF m 40 #[.val (.int p1), .val (.int p2), .val (.ref vo0), .val (.ref vo0), .val (.ref a249), .val (.ref a250), .unset, .unset] [(.ref a251), (.ref a249)])) rfl (by rw [hml]; rfl) (Steps.refl _) (argsL := [(.ref a251)]) (rest := []) (lenOf pd_0_2 rfl) rfl (by show 2 * 0 + _ ≤ _; exact Nat.le_of_eq rfl) (hb hby at_40) (fun _ _ => ⟨rfl, rfl, (by decide : 6 + 0 ≤ _), (by decide : 204 + 0 ≤ _)⟩)
    dsimp only [Pt.U, Pt.locs, Pt.cells, Pt.slots] at X252 l252 y252 z252 st252 hQ252
    subst l252 y252 z252
    obtain ⟨rfl, N252q, e252⟩ := hQ252
    have N252 := Fr.app N251 N252q
    refine goT st252 ?_
    show Go _ p e below s _ _ _ (T252.setTop (mkF m 43 #[.val (.int p1), .val (.int p2), .val (.ref vo0), .val (.ref vo0), .val (.ref a249), .val (.ref a250), .unset, .unset] [(.int (1 : Int32))]))
    refine go (fun _ => XS.ifNo X252.here hx rfl (hb hby at_43) rfl ((if0 _ _).trans (feq (by decide : ¬ ((1 : Int32) = (0 : Int32)))).1)) ?_
    show Go _ p e below s _ _ _ (T252.setTop (mkF m 46 #[.val (.int p1), .val (.int p2), .val (.ref vo0), .val (.ref vo0), .val (.ref a249), .val (.ref a250), .unset, .unset] []))
    refine go (fun _ => XS.aload X252.here hx rfl (hb hby at_46) rfl rfl) ?_
    show Go _ p e below s _ _ _ (T252.setTop (mkF m 48 #[.val (.int p1), .val (.int p2), .val (.ref vo0), .val (.ref vo0), .val (.ref a249), .val (.ref a250), .unset, .unset] [(.ref a250)]))
    refine go (fun _ => XS.aloadN X252.here hx rfl (hb hby at_48) rfl rfl) ?_
    show Go _ p e below s _ _ _ (T252.setTop (mkF m 49 #[.val (.int p1), .val (.int p2), .val (.ref vo0), .val (.ref vo0), .val (.ref a249), .val (.ref a250), .unset, .unset] [(.ref vo0), (.ref a250)]))
    obtain ⟨_, _, ⟨T253, L253, k253, n253⟩, -, X253, sc253, gc253, ⟨Lc253, hQ253, l253, y253, z253, hR253⟩, st253⟩ := callSS X252 hx (y := (⟨"com/example/dosisbog/dosisbog/documents/DosageReaderRootPinLaw", "expected", "(Lcom/example/dosisbog/dosisbog/core/Vocabulary;)Ljava/lang/String;"⟩ : MethodName)) hown (mvT hZ (hw _ (List.mem_of_getElem? (i := 34) rfl))) (mvT hZ (hw _ (List.mem_of_getElem? (i := 35) rfl))) (mvT hZ (hw _ (List.mem_of_getElem? (i := 2) rfl))) (mvT hZ (hw _ (List.mem_of_getElem? (i := 36) rfl))) (by decide) (backOfSH (W := 1) (rmX0 l Z a0 hw [] vo0 (T251.heap) n0 ZN251 OL251 P1) hZ (hw _ (List.mem_of_getElem? (i := 36) rfl)) (hw _ (List.mem_of_getElem? (i := 2) rfl)) (by decide) (by decide) (own_EW hw) ch251.1) (g := (mkF m 49 #[.val (.int p1), .val (.int p2), .val (.ref vo0), .val (.ref vo0), .val (.ref a249), .val (.ref a250), .unset, .unset] [(.ref vo0), (.ref a250)])) rfl (by rw [hml]; rfl) (argsL := [(.ref vo0)]) (rest := [(.ref a250)]) (lenOf pd_0_1 rfl) rfl (by show 2 * 0 + _ ≤ _; exact Nat.le_of_eq rfl) (hb hby at_49) (fun _ _ => ⟨rfl, e252, (by decide : 6 + 2 ≤ _), (by decide : 204 + 68 ≤ _)⟩)
    dsimp only [Pt.U, Pt.locs, Pt.cells, Pt.slots] at X253 l253 y253 z253 st253 hQ253 sc253 gc253
    subst l253 y253 z253
    have hS253 : s.Since T253.vm T253.heap.size := foldS (T := T252) hS251 (by rw [e252]; exact (Nat.le_refl _)) sc253 gc253
    have hZ : Z.Warmed39 (s.setVm T253.vm).vm := State.Warmed39.trans hZ sc253.1
    have hown : (s.setVm T253.vm).vm.findClass "com/example/dosisbog/dosisbog/documents/DosageReaderRootPinLaw" = some m.cls := by rw [show (s.setVm T253.vm).vm = T253.vm from rfl, sc253.1.alike.findClass]; exact hown
    have X253 : Stand p l e room_1 (s.setVm T253.vm) m #[(.int p1), (.int p2)] below meth c T253 _ _ _ := X253
    have ch253 := ch251.trans hR253
    obtain ⟨a253, b253, k253, rfl, N253q, K253, u253_1, u253_2, u253_3, u253_4⟩ := hQ253
    have N253 := Fr.app N252 N253q
    have c253_9 := c251_9.keep K253
    have c253_10 := c251_10.keep K253 nin0
    have c253_11 := c251_11.keep K253 nin0
    have c253_12 := c251_12.keep K253 nin0
    have c253_13 := c251_13.keep K253
    have c253_14 := c251_14.keep K253 nin0
    have c253_15 := c251_15.keep K253 nin0
    have c253_16 := c251_16.keep K253 nin0
    have c253_17 := u251_1.keep K253
    have c253_18 := u251_2.keep K253 nin0
    have c253_19 := u251_3.keep K253 nin0
    have c253_20 := u251_4.keep K253 nin0
    have KK253 : Keep h0 T253.heap [] := KK251.trans K253 all0
    have ZN253 : n0 ≤ T253.heap.size := Nat.le_trans ZN251 K253.1
    have OL253 := OL251.keep K253 all0
    refine goT st253 ?_
    show Go _ p e below s _ _ _ (T253.setTop (mkF m 52 #[.val (.int p1), .val (.int p2), .val (.ref vo0), .val (.ref vo0), .val (.ref a249), .val (.ref a250), .unset, .unset] [(.ref a253), (.ref a250)]))
    obtain ⟨cq254, kq254, q254a, q254b, q254c⟩ := isOf hZ rfl c253_13
    obtain ⟨_, _, ⟨T254, L254, k254, n254⟩, -, X254, ⟨Lc254, hQ254, l254, y254, z254⟩, st254⟩ := X253.virtualBack hx (y := (⟨"java/lang/String", "equals", "(Ljava/lang/Object;)Z"⟩ : MethodName)) (z := (⟨"java/lang/String", "equals", "(Ljava/lang/Object;)Z"⟩ : MethodName)) hown (mvT hZ (hw _ (List.mem_of_getElem? (i := 38) rfl))) (mvT hZ (hw _ (List.mem_of_getElem? (i := 39) rfl))) (notFace_of_selects (args := #[]) (mvT hZ (hw _ (List.mem_of_getElem? (i := 41) rfl)))) (mvT hZ (hw _ (List.mem_of_getElem? (i := 41) rfl))) (mvT hZ (hw _ (List.mem_of_getElem? (i := 40) rfl))) (by decide) (backOf (W := 0) (rmQ00 l Z a0 hw [] a250 a253 w0 b250 k250 b253 k253 (T253.heap) n0 ZN253 OL253 P9 c253_13 c253_14 c253_15 c253_16 u253_1 u253_2 u253_3 u253_4 hw0) hZ (hw _ (List.mem_of_getElem? (i := 42) rfl)) (hw _ (List.mem_of_getElem? (i := 26) rfl)) (by decide) (by decide)) q254a q254c (g := (mkF m 52 #[.val (.int p1), .val (.int p2), .val (.ref vo0), .val (.ref vo0), .val (.ref a249), .val (.ref a250), .unset, .unset] [(.ref a253), (.ref a250)])) rfl (by rw [hml]; rfl) (Steps.refl _) (argsL := [(.ref a253)]) (rest := []) (lenOf pd_0_2 rfl) rfl (by show 2 * 0 + _ ≤ _; exact Nat.le_of_eq rfl) (hb hby at_52) (fun _ _ => ⟨rfl, rfl, (by decide : 8 + 0 ≤ _), (by decide : 272 + 0 ≤ _)⟩)
    dsimp only [Pt.U, Pt.locs, Pt.cells, Pt.slots] at X254 l254 y254 z254 st254 hQ254
    subst l254 y254 z254
    obtain ⟨rfl, N254q, e254⟩ := hQ254
    have N254 := Fr.app N253 N254q
    refine goT st254 ?_
    show Go _ p e below s _ _ _ (T254.setTop (mkF m 55 #[.val (.int p1), .val (.int p2), .val (.ref vo0), .val (.ref vo0), .val (.ref a249), .val (.ref a250), .unset, .unset] [(.int (1 : Int32))]))
    refine go (fun _ => XS.ifNo X254.here hx rfl (hb hby at_55) rfl ((if0 _ _).trans (feq (by decide : ¬ ((1 : Int32) = (0 : Int32)))).1)) ?_
    show Go _ p e below s _ _ _ (T254.setTop (mkF m 58 #[.val (.int p1), .val (.int p2), .val (.ref vo0), .val (.ref vo0), .val (.ref a249), .val (.ref a250), .unset, .unset] []))
    refine go (fun _ => XS.iconst X254.here hx rfl (hb hby at_58)) ?_
    show Go _ p e below s _ _ _ (T254.setTop (mkF m 59 #[.val (.int p1), .val (.int p2), .val (.ref vo0), .val (.ref vo0), .val (.ref a249), .val (.ref a250), .unset, .unset] [(.int (1 : Int32))]))
    refine go (fun _ => XS.goto X254.here hx rfl (pc0 := 59) (pc' := 63) rfl (hb hby at_59) (by decide) (by decide)) ?_
    show Go _ p e below s _ _ _ (T254.setTop (mkF m 63 #[.val (.int p1), .val (.int p2), .val (.ref vo0), .val (.ref vo0), .val (.ref a249), .val (.ref a250), .unset, .unset] [(.int (1 : Int32))]))
    refine go (fun _ => XS.istore X254.here hx rfl (hb hby at_63) rfl (l' := #[.val (.int p1), .val (.int p2), .val (.ref vo0), .val (.ref vo0), .val (.ref a249), .val (.ref a250), .val (.int (1 : Int32)), .unset]) rfl) ?_
    show Go _ p e below s _ _ _ (T254.setTop (mkF m 65 #[.val (.int p1), .val (.int p2), .val (.ref vo0), .val (.ref vo0), .val (.ref a249), .val (.ref a250), .val (.int (1 : Int32)), .unset] []))
    refine go (fun _ => XS.aload X254.here hx rfl (hb hby at_65) rfl rfl) ?_
    show Go _ p e below s _ _ _ (T254.setTop (mkF m 67 #[.val (.int p1), .val (.int p2), .val (.ref vo0), .val (.ref vo0), .val (.ref a249), .val (.ref a250), .val (.int (1 : Int32)), .unset] [(.ref a249)]))
    refine go (fun _ => XS.aload X254.here hx rfl (hb hby at_67) rfl rfl) ?_
    show Go _ p e below s _ _ _ (T254.setTop (mkF m 69 #[.val (.int p1), .val (.int p2), .val (.ref vo0), .val (.ref vo0), .val (.ref a249), .val (.ref a250), .val (.int (1 : Int32)), .unset] [(.ref a250), (.ref a249)]))
    obtain ⟨cq255, kq255, q255a, q255b, q255c⟩ := isOf hZ e254 c253_9
    obtain ⟨_, _, ⟨T255, L255, k255, n255⟩, -, X255, ⟨Lc255, hQ255, l255, y255, z255⟩, st255⟩ := X254.virtualBack hx (y := (⟨"java/lang/String", "equals", "(Ljava/lang/Object;)Z"⟩ : MethodName)) (z := (⟨"java/lang/String", "equals", "(Ljava/lang/Object;)Z"⟩ : MethodName)) hown (mvT hZ (hw _ (List.mem_of_getElem? (i := 38) rfl))) (mvT hZ (hw _ (List.mem_of_getElem? (i := 39) rfl))) (notFace_of_selects (args := #[]) (mvT hZ (hw _ (List.mem_of_getElem? (i := 41) rfl)))) (mvT hZ (hw _ (List.mem_of_getElem? (i := 41) rfl))) (mvT hZ (hw _ (List.mem_of_getElem? (i := 40) rfl))) (by decide) (backOf (W := 0) (rmQ00 l Z a0 hw [] a249 a250 w0 b249 k249 b250 k250 (T253.heap) n0 ZN253 OL253 P9 c253_9 c253_10 c253_11 c253_12 c253_13 c253_14 c253_15 c253_16 hw0) hZ (hw _ (List.mem_of_getElem? (i := 42) rfl)) (hw _ (List.mem_of_getElem? (i := 26) rfl)) (by decide) (by decide)) q255a q255c (g := (mkF m 69 #[.val (.int p1), .val (.int p2), .val (.ref vo0), .val (.ref vo0), .val (.ref a249), .val (.ref a250), .val (.int (1 : Int32)), .unset] [(.ref a250), (.ref a249)])) rfl (by rw [hml]; rfl) (Steps.refl _) (argsL := [(.ref a250)]) (rest := []) (lenOf pd_0_2 rfl) rfl (by show 2 * 0 + _ ≤ _; exact Nat.le_of_eq rfl) (hb hby at_69) (fun _ _ => ⟨rfl, e254, (by decide : 8 + 0 ≤ _), (by decide : 272 + 0 ≤ _)⟩)
    dsimp only [Pt.U, Pt.locs, Pt.cells, Pt.slots] at X255 l255 y255 z255 st255 hQ255
    subst l255 y255 z255
    obtain ⟨rfl, N255q, e255⟩ := hQ255
    have N255 := Fr.app N254 N255q
    refine goT st255 ?_
    show Go _ p e below s _ _ _ (T255.setTop (mkF m 72 #[.val (.int p1), .val (.int p2), .val (.ref vo0), .val (.ref vo0), .val (.ref a249), .val (.ref a250), .val (.int (1 : Int32)), .unset] [(.int (1 : Int32))]))
    refine go (fun _ => XS.aloadN X255.here hx rfl (hb hby at_72) rfl rfl) ?_
    show Go _ p e below s _ _ _ (T255.setTop (mkF m 73 #[.val (.int p1), .val (.int p2), .val (.ref vo0), .val (.ref vo0), .val (.ref a249), .val (.ref a250), .val (.int (1 : Int32)), .unset] [(.ref vo0), (.int (1 : Int32))]))
    refine go (fun _ => XS.aloadN X255.here hx rfl (hb hby at_73) rfl rfl) ?_
    show Go _ p e below s _ _ _ (T255.setTop (mkF m 74 #[.val (.int p1), .val (.int p2), .val (.ref vo0), .val (.ref vo0), .val (.ref a249), .val (.ref a250), .val (.int (1 : Int32)), .unset] [(.ref vo0), (.ref vo0), (.int (1 : Int32))]))
    refine go (fun _ => Jvm.RoadKit.acmp (g := (mkF m 74 #[.val (.int p1), .val (.int p2), .val (.ref vo0), .val (.ref vo0), .val (.ref a249), .val (.ref a250), .val (.int (1 : Int32)), .unset] [(.ref vo0), (.ref vo0), (.int (1 : Int32))])) X255 hx rfl rfl rfl (pc0 := 74) (pc' := 77) (same := true) rfl (hb hby at_74) rfl (decide_eq_true rfl) (by decide) (by decide)) ?_
    show Go _ p e below s _ _ _ (T255.setTop (mkF m 77 #[.val (.int p1), .val (.int p2), .val (.ref vo0), .val (.ref vo0), .val (.ref a249), .val (.ref a250), .val (.int (1 : Int32)), .unset] [(.int (1 : Int32))]))
    refine go (fun _ => XS.iconst X255.here hx rfl (hb hby at_77)) ?_
    show Go _ p e below s _ _ _ (T255.setTop (mkF m 78 #[.val (.int p1), .val (.int p2), .val (.ref vo0), .val (.ref vo0), .val (.ref a249), .val (.ref a250), .val (.int (1 : Int32)), .unset] [(.int (1 : Int32)), (.int (1 : Int32))]))
    refine go (fun _ => XS.goto X255.here hx rfl (pc0 := 78) (pc' := 82) rfl (hb hby at_78) (by decide) (by decide)) ?_
    show Go _ p e below s _ _ _ (T255.setTop (mkF m 82 #[.val (.int p1), .val (.int p2), .val (.ref vo0), .val (.ref vo0), .val (.ref a249), .val (.ref a250), .val (.int (1 : Int32)), .unset] [(.int (1 : Int32)), (.int (1 : Int32))]))
    refine go (fun _ => XS.icmpNo X255.here hx rfl (hb hby at_82) rfl (teq (rfl : (1 : Int32) = (1 : Int32))).2) ?_
    show Go _ p e below s _ _ _ (T255.setTop (mkF m 85 #[.val (.int p1), .val (.int p2), .val (.ref vo0), .val (.ref vo0), .val (.ref a249), .val (.ref a250), .val (.int (1 : Int32)), .unset] []))
    refine go (fun _ => XS.iconst X255.here hx rfl (hb hby at_85)) ?_
    show Go _ p e below s _ _ _ (T255.setTop (mkF m 86 #[.val (.int p1), .val (.int p2), .val (.ref vo0), .val (.ref vo0), .val (.ref a249), .val (.ref a250), .val (.int (1 : Int32)), .unset] [(.int (1 : Int32))]))
    refine go (fun _ => XS.goto X255.here hx rfl (pc0 := 86) (pc' := 90) rfl (hb hby at_86) (by decide) (by decide)) ?_
    show Go _ p e below s _ _ _ (T255.setTop (mkF m 90 #[.val (.int p1), .val (.int p2), .val (.ref vo0), .val (.ref vo0), .val (.ref a249), .val (.ref a250), .val (.int (1 : Int32)), .unset] [(.int (1 : Int32))]))
    refine go (fun _ => XS.istore X255.here hx rfl (hb hby at_90) rfl (l' := #[.val (.int p1), .val (.int p2), .val (.ref vo0), .val (.ref vo0), .val (.ref a249), .val (.ref a250), .val (.int (1 : Int32)), .val (.int (1 : Int32))]) rfl) ?_
    show Go _ p e below s _ _ _ (T255.setTop (mkF m 92 #[.val (.int p1), .val (.int p2), .val (.ref vo0), .val (.ref vo0), .val (.ref a249), .val (.ref a250), .val (.int (1 : Int32)), .val (.int (1 : Int32))] []))
    refine go (fun _ => XS.iload X255.here hx rfl (hb hby at_92) rfl) ?_
    show Go _ p e below s _ _ _ (T255.setTop (mkF m 94 #[.val (.int p1), .val (.int p2), .val (.ref vo0), .val (.ref vo0), .val (.ref a249), .val (.ref a250), .val (.int (1 : Int32)), .val (.int (1 : Int32))] [(.int (1 : Int32))]))
    refine go (fun _ => XS.ifNo X255.here hx rfl (hb hby at_94) rfl ((if0 _ _).trans (feq (by decide : ¬ ((1 : Int32) = (0 : Int32)))).1)) ?_
    show Go _ p e below s _ _ _ (T255.setTop (mkF m 97 #[.val (.int p1), .val (.int p2), .val (.ref vo0), .val (.ref vo0), .val (.ref a249), .val (.ref a250), .val (.int (1 : Int32)), .val (.int (1 : Int32))] []))
    refine go (fun _ => XS.iload X255.here hx rfl (hb hby at_97) rfl) ?_
    show Go _ p e below s _ _ _ (T255.setTop (mkF m 99 #[.val (.int p1), .val (.int p2), .val (.ref vo0), .val (.ref vo0), .val (.ref a249), .val (.ref a250), .val (.int (1 : Int32)), .val (.int (1 : Int32))] [(.int (1 : Int32))]))
    refine go (fun _ => XS.ifNo X255.here hx rfl (hb hby at_99) rfl ((if0 _ _).trans (feq (by decide : ¬ ((1 : Int32) = (0 : Int32)))).1)) ?_
    show Go _ p e below s _ _ _ (T255.setTop (mkF m 102 #[.val (.int p1), .val (.int p2), .val (.ref vo0), .val (.ref vo0), .val (.ref a249), .val (.ref a250), .val (.int (1 : Int32)), .val (.int (1 : Int32))] []))
    refine go (fun _ => XS.iconst X255.here hx rfl (hb hby at_102)) ?_
    show Go _ p e below s _ _ _ (T255.setTop (mkF m 103 #[.val (.int p1), .val (.int p2), .val (.ref vo0), .val (.ref vo0), .val (.ref a249), .val (.ref a250), .val (.int (1 : Int32)), .val (.int (1 : Int32))] [(.int (1 : Int32))]))
    refine go (fun _ => XS.goto X255.here hx rfl (pc0 := 103) (pc' := 107) rfl (hb hby at_103) (by decide) (by decide)) ?_
    show Go _ p e below s _ _ _ (T255.setTop (mkF m 107 #[.val (.int p1), .val (.int p2), .val (.ref vo0), .val (.ref vo0), .val (.ref a249), .val (.ref a250), .val (.int (1 : Int32)), .val (.int (1 : Int32))] [(.int (1 : Int32))]))
    refine goRetH X255 hZ (own_EW hw) ch253 hh e255 hS253 (Nat.le_refl _) hx Bd.notSynchronized Bd.returns rfl (Or.inl ⟨rfl, Or.inr (Or.inl rfl), _, rfl⟩) (hb hby at_107) (by decide) (by decide) ⟨rfl, N255⟩
  · show Go _ p e below s _ _ _ (s₁.setTop (mkF m 0 #[.val (.int p1), .val (.int p2), .unset, .unset, .unset, .unset, .unset, .unset] []))
    refine go (fun _ => XS.iloadN X0.here hx rfl (hb hby at_0) rfl) ?_
    show Go _ p e below s _ _ _ (s₁.setTop (mkF m 1 #[.val (.int p1), .val (.int p2), .unset, .unset, .unset, .unset, .unset, .unset] [(.int p1)]))
    obtain ⟨_, _, ⟨T256, L256, k256, n256⟩, -, X256, ⟨Lc256, hQ256, l256, y256, z256⟩, st256⟩ := Jvm.LawKit.callS X0 hx (y := (⟨"com/example/dosisbog/dosisbog/documents/DosageReaderRootPinLaw", "pick", "(I)Lcom/example/dosisbog/dosisbog/core/Vocabulary;"⟩ : MethodName)) hown (mvT hZ (hw _ (List.mem_of_getElem? (i := 0) rfl))) (mvT hZ (hw _ (List.mem_of_getElem? (i := 1) rfl))) (mvT hZ (hw _ (List.mem_of_getElem? (i := 2) rfl))) (mvT hZ (hw _ (List.mem_of_getElem? (i := 3) rfl))) (by decide) (backOf (W := 0) (rmP0 l Z a0 hw [] p1 vo0 h0 n0 Z0 P1 P0 hpa) hZ (hw _ (List.mem_of_getElem? (i := 3) rfl)) (hw _ (List.mem_of_getElem? (i := 2) rfl)) (by decide) (by decide)) (g := (mkF m 1 #[.val (.int p1), .val (.int p2), .unset, .unset, .unset, .unset, .unset, .unset] [(.int p1)])) rfl (by rw [hml]; rfl) (argsL := [(.int p1)]) (rest := []) (lenOf pd_0_0 rfl) rfl (by show 2 * 0 + _ ≤ _; exact Nat.le_of_eq rfl) (hb hby at_1) (fun _ _ => ⟨rfl, e0, (by decide : 0 + 0 ≤ _), (by decide : 0 + 0 ≤ _)⟩)
    dsimp only [Pt.U, Pt.locs, Pt.cells, Pt.slots] at X256 l256 y256 z256 st256 hQ256
    subst l256 y256 z256
    obtain ⟨rfl, N256q, e256⟩ := hQ256
    have N256 := Fr.app N0 N256q
    refine go st256 ?_
    show Go _ p e below s _ _ _ (T256.setTop (mkF m 4 #[.val (.int p1), .val (.int p2), .unset, .unset, .unset, .unset, .unset, .unset] [(.ref vo0)]))
    refine go (fun _ => XS.astoreN X256.here hx rfl (hb hby at_4) rfl rfl (l' := #[.val (.int p1), .val (.int p2), .val (.ref vo0), .unset, .unset, .unset, .unset, .unset]) rfl) ?_
    show Go _ p e below s _ _ _ (T256.setTop (mkF m 5 #[.val (.int p1), .val (.int p2), .val (.ref vo0), .unset, .unset, .unset, .unset, .unset] []))
    refine go (fun _ => XS.iloadN X256.here hx rfl (hb hby at_5) rfl) ?_
    show Go _ p e below s _ _ _ (T256.setTop (mkF m 6 #[.val (.int p1), .val (.int p2), .val (.ref vo0), .unset, .unset, .unset, .unset, .unset] [(.int p2)]))
    obtain ⟨_, _, ⟨T257, L257, k257, n257⟩, -, X257, ⟨Lc257, hQ257, l257, y257, z257⟩, st257⟩ := Jvm.LawKit.callS X256 hx (y := (⟨"com/example/dosisbog/dosisbog/documents/DosageReaderRootPinLaw", "pick", "(I)Lcom/example/dosisbog/dosisbog/core/Vocabulary;"⟩ : MethodName)) hown (mvT hZ (hw _ (List.mem_of_getElem? (i := 0) rfl))) (mvT hZ (hw _ (List.mem_of_getElem? (i := 1) rfl))) (mvT hZ (hw _ (List.mem_of_getElem? (i := 2) rfl))) (mvT hZ (hw _ (List.mem_of_getElem? (i := 3) rfl))) (by decide) (backOf (W := 0) (rmP1 l Z a0 hw [] p2 vo1 h0 n0 Z0 P2 P0 hpb) hZ (hw _ (List.mem_of_getElem? (i := 3) rfl)) (hw _ (List.mem_of_getElem? (i := 2) rfl)) (by decide) (by decide)) (g := (mkF m 6 #[.val (.int p1), .val (.int p2), .val (.ref vo0), .unset, .unset, .unset, .unset, .unset] [(.int p2)])) rfl (by rw [hml]; rfl) (argsL := [(.int p2)]) (rest := []) (lenOf pd_0_0 rfl) rfl (by show 2 * 0 + _ ≤ _; exact Nat.le_of_eq rfl) (hb hby at_6) (fun _ _ => ⟨rfl, e256, (by decide : 0 + 0 ≤ _), (by decide : 0 + 0 ≤ _)⟩)
    dsimp only [Pt.U, Pt.locs, Pt.cells, Pt.slots] at X257 l257 y257 z257 st257 hQ257
    subst l257 y257 z257
    obtain ⟨rfl, N257q, e257⟩ := hQ257
    have N257 := Fr.app N256 N257q
    refine go st257 ?_
    show Go _ p e below s _ _ _ (T257.setTop (mkF m 9 #[.val (.int p1), .val (.int p2), .val (.ref vo0), .unset, .unset, .unset, .unset, .unset] [(.ref vo1)]))
    refine go (fun _ => XS.astoreN X257.here hx rfl (hb hby at_9) rfl rfl (l' := #[.val (.int p1), .val (.int p2), .val (.ref vo0), .val (.ref vo1), .unset, .unset, .unset, .unset]) rfl) ?_
    show Go _ p e below s _ _ _ (T257.setTop (mkF m 10 #[.val (.int p1), .val (.int p2), .val (.ref vo0), .val (.ref vo1), .unset, .unset, .unset, .unset] []))
    refine go (fun _ => XS.aloadN X257.here hx rfl (hb hby at_10) rfl rfl) ?_
    show Go _ p e below s _ _ _ (T257.setTop (mkF m 11 #[.val (.int p1), .val (.int p2), .val (.ref vo0), .val (.ref vo1), .unset, .unset, .unset, .unset] [(.ref vo0)]))
    obtain ⟨_, _, ⟨T258, L258, k258, n258⟩, -, X258, sc258, gc258, ⟨Lc258, hQ258, l258, y258, z258, hR258⟩, st258⟩ := callSS X257 hx (y := (⟨"com/example/dosisbog/dosisbog/documents/DosageReader", "root", "(Lcom/example/dosisbog/dosisbog/core/Vocabulary;)Ljava/lang/String;"⟩ : MethodName)) hown (mvT hZ (hw _ (List.mem_of_getElem? (i := 9) rfl))) (mvT hZ (hw _ (List.mem_of_getElem? (i := 10) rfl))) (mvT hZ (hw _ (List.mem_of_getElem? (i := 11) rfl))) (mvT hZ (hw _ (List.mem_of_getElem? (i := 12) rfl))) (by decide) (backOfSH (W := 0) (rmR0 l Z a0 hw [] vo0 sm ks h0 n0 Z0 P0 P3 P4 P5 P7) hZ (hw _ (List.mem_of_getElem? (i := 12) rfl)) (hw _ (List.mem_of_getElem? (i := 11) rfl)) (by decide) (by decide) (own_EW hw) ch0.1) (g := (mkF m 11 #[.val (.int p1), .val (.int p2), .val (.ref vo0), .val (.ref vo1), .unset, .unset, .unset, .unset] [(.ref vo0)])) rfl (by rw [hml]; rfl) (argsL := [(.ref vo0)]) (rest := []) (lenOf pd_0_1 rfl) rfl (by show 2 * 0 + _ ≤ _; exact Nat.le_of_eq rfl) (hb hby at_11) (fun _ _ => ⟨rfl, e257, (by decide : 0 + 2 ≤ _), (by decide : 0 + 68 ≤ _)⟩)
    dsimp only [Pt.U, Pt.locs, Pt.cells, Pt.slots] at X258 l258 y258 z258 st258 hQ258 sc258 gc258
    subst l258 y258 z258
    have hS258 : s.Since T258.vm T258.heap.size := foldS (T := T257) hS0 (by rw [e257]; exact (Nat.zero_le _)) sc258 gc258
    have hZ : Z.Warmed39 (s.setVm T258.vm).vm := State.Warmed39.trans hZ sc258.1
    have hown : (s.setVm T258.vm).vm.findClass "com/example/dosisbog/dosisbog/documents/DosageReaderRootPinLaw" = some m.cls := by rw [show (s.setVm T258.vm).vm = T258.vm from rfl, sc258.1.alike.findClass]; exact hown
    have X258 : Stand p l e room_1 (s.setVm T258.vm) m #[(.int p1), (.int p2)] below meth c T258 _ _ _ := X258
    have ch258 := ch0.trans hR258
    obtain ⟨a258, b258, k258, rfl, N258q, K258, u258_1, u258_2, u258_3, u258_4⟩ := hQ258
    have N258 := Fr.app N257 N258q
    have KK258 : Keep h0 T258.heap [] := (Keep.refl h0 []).trans K258 all0
    have ZN258 : n0 ≤ T258.heap.size := Nat.le_trans Z0 K258.1
    have OL258 := P0.keep K258 all0
    refine goT st258 ?_
    show Go _ p e below s _ _ _ (T258.setTop (mkF m 14 #[.val (.int p1), .val (.int p2), .val (.ref vo0), .val (.ref vo1), .unset, .unset, .unset, .unset] [(.ref a258)]))
    refine go (fun _ => XS.astore X258.here hx rfl (hb hby at_14) rfl rfl (l' := #[.val (.int p1), .val (.int p2), .val (.ref vo0), .val (.ref vo1), .val (.ref a258), .unset, .unset, .unset]) rfl) ?_
    show Go _ p e below s _ _ _ (T258.setTop (mkF m 16 #[.val (.int p1), .val (.int p2), .val (.ref vo0), .val (.ref vo1), .val (.ref a258), .unset, .unset, .unset] []))
    refine go (fun _ => XS.aloadN X258.here hx rfl (hb hby at_16) rfl rfl) ?_
    show Go _ p e below s _ _ _ (T258.setTop (mkF m 17 #[.val (.int p1), .val (.int p2), .val (.ref vo0), .val (.ref vo1), .val (.ref a258), .unset, .unset, .unset] [(.ref vo1)]))
    obtain ⟨_, _, ⟨T259, L259, k259, n259⟩, -, X259, sc259, gc259, ⟨Lc259, hQ259, l259, y259, z259, hR259⟩, st259⟩ := callSS X258 hx (y := (⟨"com/example/dosisbog/dosisbog/documents/DosageReader", "root", "(Lcom/example/dosisbog/dosisbog/core/Vocabulary;)Ljava/lang/String;"⟩ : MethodName)) hown (mvT hZ (hw _ (List.mem_of_getElem? (i := 9) rfl))) (mvT hZ (hw _ (List.mem_of_getElem? (i := 10) rfl))) (mvT hZ (hw _ (List.mem_of_getElem? (i := 11) rfl))) (mvT hZ (hw _ (List.mem_of_getElem? (i := 12) rfl))) (by decide) (backOfSH (W := 0) (rmR1 l Z a0 hw [] vo1 sm ks (T258.heap) n0 ZN258 OL258 P3 P4 P6 P8) hZ (hw _ (List.mem_of_getElem? (i := 12) rfl)) (hw _ (List.mem_of_getElem? (i := 11) rfl)) (by decide) (by decide) (own_EW hw) ch258.1) (g := (mkF m 17 #[.val (.int p1), .val (.int p2), .val (.ref vo0), .val (.ref vo1), .val (.ref a258), .unset, .unset, .unset] [(.ref vo1)])) rfl (by rw [hml]; rfl) (argsL := [(.ref vo1)]) (rest := []) (lenOf pd_0_1 rfl) rfl (by show 2 * 0 + _ ≤ _; exact Nat.le_of_eq rfl) (hb hby at_17) (fun _ _ => ⟨rfl, rfl, (by decide : 2 + 2 ≤ _), (by decide : 68 + 28 ≤ _)⟩)
    dsimp only [Pt.U, Pt.locs, Pt.cells, Pt.slots] at X259 l259 y259 z259 st259 hQ259 sc259 gc259
    subst l259 y259 z259
    have hS259 : s.Since T259.vm T259.heap.size := foldS (T := T258) hS258 (Nat.le_refl _) sc259 gc259
    have hZ : Z.Warmed39 (s.setVm T259.vm).vm := State.Warmed39.trans hZ sc259.1
    have hown : (s.setVm T259.vm).vm.findClass "com/example/dosisbog/dosisbog/documents/DosageReaderRootPinLaw" = some m.cls := by rw [show (s.setVm T259.vm).vm = T259.vm from rfl, sc259.1.alike.findClass]; exact hown
    have X259 : Stand p l e room_1 (s.setVm T259.vm) m #[(.int p1), (.int p2)] below meth c T259 _ _ _ := X259
    have ch259 := ch258.trans hR259
    obtain ⟨a259, b259, k259, rfl, N259q, K259, u259_1, u259_2, u259_3, u259_4⟩ := hQ259
    have N259 := Fr.app N258 N259q
    have c259_9 := u258_1.keep K259
    have c259_10 := u258_2.keep K259 nin0
    have c259_11 := u258_3.keep K259 nin0
    have c259_12 := u258_4.keep K259 nin0
    have KK259 : Keep h0 T259.heap [] := KK258.trans K259 all0
    have ZN259 : n0 ≤ T259.heap.size := Nat.le_trans ZN258 K259.1
    have OL259 := OL258.keep K259 all0
    refine goT st259 ?_
    show Go _ p e below s _ _ _ (T259.setTop (mkF m 20 #[.val (.int p1), .val (.int p2), .val (.ref vo0), .val (.ref vo1), .val (.ref a258), .unset, .unset, .unset] [(.ref a259)]))
    refine go (fun _ => XS.astore X259.here hx rfl (hb hby at_20) rfl rfl (l' := #[.val (.int p1), .val (.int p2), .val (.ref vo0), .val (.ref vo1), .val (.ref a258), .val (.ref a259), .unset, .unset]) rfl) ?_
    show Go _ p e below s _ _ _ (T259.setTop (mkF m 22 #[.val (.int p1), .val (.int p2), .val (.ref vo0), .val (.ref vo1), .val (.ref a258), .val (.ref a259), .unset, .unset] []))
    refine go (fun _ => XS.aload X259.here hx rfl (hb hby at_22) rfl rfl) ?_
    show Go _ p e below s _ _ _ (T259.setTop (mkF m 24 #[.val (.int p1), .val (.int p2), .val (.ref vo0), .val (.ref vo1), .val (.ref a258), .val (.ref a259), .unset, .unset] [(.ref a258)]))
    refine go (fun _ => XS.ifnullNo X259.here hx rfl (hb hby at_24) rfl) ?_
    show Go _ p e below s _ _ _ (T259.setTop (mkF m 27 #[.val (.int p1), .val (.int p2), .val (.ref vo0), .val (.ref vo1), .val (.ref a258), .val (.ref a259), .unset, .unset] []))
    refine go (fun _ => XS.aload X259.here hx rfl (hb hby at_27) rfl rfl) ?_
    show Go _ p e below s _ _ _ (T259.setTop (mkF m 29 #[.val (.int p1), .val (.int p2), .val (.ref vo0), .val (.ref vo1), .val (.ref a258), .val (.ref a259), .unset, .unset] [(.ref a259)]))
    refine go (fun _ => XT.ifnonnullYes X259.here hx rfl (pc0 := 29) (pc' := 34) rfl (hb hby at_29) rfl (by decide) (by decide)) ?_
    show Go _ p e below s _ _ _ (T259.setTop (mkF m 34 #[.val (.int p1), .val (.int p2), .val (.ref vo0), .val (.ref vo1), .val (.ref a258), .val (.ref a259), .unset, .unset] []))
    refine go (fun _ => XS.aload X259.here hx rfl (hb hby at_34) rfl rfl) ?_
    show Go _ p e below s _ _ _ (T259.setTop (mkF m 36 #[.val (.int p1), .val (.int p2), .val (.ref vo0), .val (.ref vo1), .val (.ref a258), .val (.ref a259), .unset, .unset] [(.ref a258)]))
    refine go (fun _ => XS.aloadN X259.here hx rfl (hb hby at_36) rfl rfl) ?_
    show Go _ p e below s _ _ _ (T259.setTop (mkF m 37 #[.val (.int p1), .val (.int p2), .val (.ref vo0), .val (.ref vo1), .val (.ref a258), .val (.ref a259), .unset, .unset] [(.ref vo0), (.ref a258)]))
    obtain ⟨_, _, ⟨T260, L260, k260, n260⟩, -, X260, sc260, gc260, ⟨Lc260, hQ260, l260, y260, z260, hR260⟩, st260⟩ := callSS X259 hx (y := (⟨"com/example/dosisbog/dosisbog/documents/DosageReaderRootPinLaw", "expected", "(Lcom/example/dosisbog/dosisbog/core/Vocabulary;)Ljava/lang/String;"⟩ : MethodName)) hown (mvT hZ (hw _ (List.mem_of_getElem? (i := 34) rfl))) (mvT hZ (hw _ (List.mem_of_getElem? (i := 35) rfl))) (mvT hZ (hw _ (List.mem_of_getElem? (i := 2) rfl))) (mvT hZ (hw _ (List.mem_of_getElem? (i := 36) rfl))) (by decide) (backOfSH (W := 1) (rmX0 l Z a0 hw [] vo0 (T259.heap) n0 ZN259 OL259 P1) hZ (hw _ (List.mem_of_getElem? (i := 36) rfl)) (hw _ (List.mem_of_getElem? (i := 2) rfl)) (by decide) (by decide) (own_EW hw) ch259.1) (g := (mkF m 37 #[.val (.int p1), .val (.int p2), .val (.ref vo0), .val (.ref vo1), .val (.ref a258), .val (.ref a259), .unset, .unset] [(.ref vo0), (.ref a258)])) rfl (by rw [hml]; rfl) (argsL := [(.ref vo0)]) (rest := [(.ref a258)]) (lenOf pd_0_1 rfl) rfl (by show 2 * 0 + _ ≤ _; exact Nat.le_of_eq rfl) (hb hby at_37) (fun _ _ => ⟨rfl, rfl, (by decide : 4 + 2 ≤ _), (by decide : 96 + 68 ≤ _)⟩)
    dsimp only [Pt.U, Pt.locs, Pt.cells, Pt.slots] at X260 l260 y260 z260 st260 hQ260 sc260 gc260
    subst l260 y260 z260
    have hS260 : s.Since T260.vm T260.heap.size := foldS (T := T259) hS259 (Nat.le_refl _) sc260 gc260
    have hZ : Z.Warmed39 (s.setVm T260.vm).vm := State.Warmed39.trans hZ sc260.1
    have hown : (s.setVm T260.vm).vm.findClass "com/example/dosisbog/dosisbog/documents/DosageReaderRootPinLaw" = some m.cls := by rw [show (s.setVm T260.vm).vm = T260.vm from rfl, sc260.1.alike.findClass]; exact hown
    have X260 : Stand p l e room_1 (s.setVm T260.vm) m #[(.int p1), (.int p2)] below meth c T260 _ _ _ := X260
    have ch260 := ch259.trans hR260
    obtain ⟨a260, b260, k260, rfl, N260q, K260, u260_1, u260_2, u260_3, u260_4⟩ := hQ260
    have N260 := Fr.app N259 N260q
    have c260_9 := c259_9.keep K260
    have c260_10 := c259_10.keep K260 nin0
    have c260_11 := c259_11.keep K260 nin0
    have c260_12 := c259_12.keep K260 nin0
    have c260_13 := u259_1.keep K260
    have c260_14 := u259_2.keep K260 nin0
    have c260_15 := u259_3.keep K260 nin0
    have c260_16 := u259_4.keep K260 nin0
    have KK260 : Keep h0 T260.heap [] := KK259.trans K260 all0
    have ZN260 : n0 ≤ T260.heap.size := Nat.le_trans ZN259 K260.1
    have OL260 := OL259.keep K260 all0
    refine goT st260 ?_
    show Go _ p e below s _ _ _ (T260.setTop (mkF m 40 #[.val (.int p1), .val (.int p2), .val (.ref vo0), .val (.ref vo1), .val (.ref a258), .val (.ref a259), .unset, .unset] [(.ref a260), (.ref a258)]))
    obtain ⟨cq261, kq261, q261a, q261b, q261c⟩ := isOf hZ rfl c260_9
    obtain ⟨_, _, ⟨T261, L261, k261, n261⟩, -, X261, ⟨Lc261, hQ261, l261, y261, z261⟩, st261⟩ := X260.virtualBack hx (y := (⟨"java/lang/String", "equals", "(Ljava/lang/Object;)Z"⟩ : MethodName)) (z := (⟨"java/lang/String", "equals", "(Ljava/lang/Object;)Z"⟩ : MethodName)) hown (mvT hZ (hw _ (List.mem_of_getElem? (i := 38) rfl))) (mvT hZ (hw _ (List.mem_of_getElem? (i := 39) rfl))) (notFace_of_selects (args := #[]) (mvT hZ (hw _ (List.mem_of_getElem? (i := 41) rfl)))) (mvT hZ (hw _ (List.mem_of_getElem? (i := 41) rfl))) (mvT hZ (hw _ (List.mem_of_getElem? (i := 40) rfl))) (by decide) (backOf (W := 0) (rmQ00 l Z a0 hw [] a258 a260 w0 b258 k258 b260 k260 (T260.heap) n0 ZN260 OL260 P9 c260_9 c260_10 c260_11 c260_12 u260_1 u260_2 u260_3 u260_4 hw0) hZ (hw _ (List.mem_of_getElem? (i := 42) rfl)) (hw _ (List.mem_of_getElem? (i := 26) rfl)) (by decide) (by decide)) q261a q261c (g := (mkF m 40 #[.val (.int p1), .val (.int p2), .val (.ref vo0), .val (.ref vo1), .val (.ref a258), .val (.ref a259), .unset, .unset] [(.ref a260), (.ref a258)])) rfl (by rw [hml]; rfl) (Steps.refl _) (argsL := [(.ref a260)]) (rest := []) (lenOf pd_0_2 rfl) rfl (by show 2 * 0 + _ ≤ _; exact Nat.le_of_eq rfl) (hb hby at_40) (fun _ _ => ⟨rfl, rfl, (by decide : 6 + 0 ≤ _), (by decide : 164 + 0 ≤ _)⟩)
    dsimp only [Pt.U, Pt.locs, Pt.cells, Pt.slots] at X261 l261 y261 z261 st261 hQ261
    subst l261 y261 z261
    obtain ⟨rfl, N261q, e261⟩ := hQ261
    have N261 := Fr.app N260 N261q
    refine goT st261 ?_
    show Go _ p e below s _ _ _ (T261.setTop (mkF m 43 #[.val (.int p1), .val (.int p2), .val (.ref vo0), .val (.ref vo1), .val (.ref a258), .val (.ref a259), .unset, .unset] [(.int (1 : Int32))]))
    refine go (fun _ => XS.ifNo X261.here hx rfl (hb hby at_43) rfl ((if0 _ _).trans (feq (by decide : ¬ ((1 : Int32) = (0 : Int32)))).1)) ?_
    show Go _ p e below s _ _ _ (T261.setTop (mkF m 46 #[.val (.int p1), .val (.int p2), .val (.ref vo0), .val (.ref vo1), .val (.ref a258), .val (.ref a259), .unset, .unset] []))
    refine go (fun _ => XS.aload X261.here hx rfl (hb hby at_46) rfl rfl) ?_
    show Go _ p e below s _ _ _ (T261.setTop (mkF m 48 #[.val (.int p1), .val (.int p2), .val (.ref vo0), .val (.ref vo1), .val (.ref a258), .val (.ref a259), .unset, .unset] [(.ref a259)]))
    refine go (fun _ => XS.aloadN X261.here hx rfl (hb hby at_48) rfl rfl) ?_
    show Go _ p e below s _ _ _ (T261.setTop (mkF m 49 #[.val (.int p1), .val (.int p2), .val (.ref vo0), .val (.ref vo1), .val (.ref a258), .val (.ref a259), .unset, .unset] [(.ref vo1), (.ref a259)]))
    obtain ⟨_, _, ⟨T262, L262, k262, n262⟩, -, X262, sc262, gc262, ⟨Lc262, hQ262, l262, y262, z262, hR262⟩, st262⟩ := callSS X261 hx (y := (⟨"com/example/dosisbog/dosisbog/documents/DosageReaderRootPinLaw", "expected", "(Lcom/example/dosisbog/dosisbog/core/Vocabulary;)Ljava/lang/String;"⟩ : MethodName)) hown (mvT hZ (hw _ (List.mem_of_getElem? (i := 34) rfl))) (mvT hZ (hw _ (List.mem_of_getElem? (i := 35) rfl))) (mvT hZ (hw _ (List.mem_of_getElem? (i := 2) rfl))) (mvT hZ (hw _ (List.mem_of_getElem? (i := 36) rfl))) (by decide) (backOfSH (W := 1) (rmX1 l Z a0 hw [] vo1 vo0 (T260.heap) n0 ZN260 OL260 P1 hne) hZ (hw _ (List.mem_of_getElem? (i := 36) rfl)) (hw _ (List.mem_of_getElem? (i := 2) rfl)) (by decide) (by decide) (own_EW hw) ch260.1) (g := (mkF m 49 #[.val (.int p1), .val (.int p2), .val (.ref vo0), .val (.ref vo1), .val (.ref a258), .val (.ref a259), .unset, .unset] [(.ref vo1), (.ref a259)])) rfl (by rw [hml]; rfl) (argsL := [(.ref vo1)]) (rest := [(.ref a259)]) (lenOf pd_0_1 rfl) rfl (by show 2 * 0 + _ ≤ _; exact Nat.le_of_eq rfl) (hb hby at_49) (fun _ _ => ⟨rfl, e261, (by decide : 6 + 2 ≤ _), (by decide : 164 + 28 ≤ _)⟩)
    dsimp only [Pt.U, Pt.locs, Pt.cells, Pt.slots] at X262 l262 y262 z262 st262 hQ262 sc262 gc262
    subst l262 y262 z262
    have hS262 : s.Since T262.vm T262.heap.size := foldS (T := T261) hS260 (by rw [e261]; exact (Nat.le_refl _)) sc262 gc262
    have hZ : Z.Warmed39 (s.setVm T262.vm).vm := State.Warmed39.trans hZ sc262.1
    have hown : (s.setVm T262.vm).vm.findClass "com/example/dosisbog/dosisbog/documents/DosageReaderRootPinLaw" = some m.cls := by rw [show (s.setVm T262.vm).vm = T262.vm from rfl, sc262.1.alike.findClass]; exact hown
    have X262 : Stand p l e room_1 (s.setVm T262.vm) m #[(.int p1), (.int p2)] below meth c T262 _ _ _ := X262
    have ch262 := ch260.trans hR262
    obtain ⟨a262, b262, k262, rfl, N262q, K262, u262_1, u262_2, u262_3, u262_4⟩ := hQ262
    have N262 := Fr.app N261 N262q
    have c262_9 := c260_9.keep K262
    have c262_10 := c260_10.keep K262 nin0
    have c262_11 := c260_11.keep K262 nin0
    have c262_12 := c260_12.keep K262 nin0
    have c262_13 := c260_13.keep K262
    have c262_14 := c260_14.keep K262 nin0
    have c262_15 := c260_15.keep K262 nin0
    have c262_16 := c260_16.keep K262 nin0
    have c262_17 := u260_1.keep K262
    have c262_18 := u260_2.keep K262 nin0
    have c262_19 := u260_3.keep K262 nin0
    have c262_20 := u260_4.keep K262 nin0
    have KK262 : Keep h0 T262.heap [] := KK260.trans K262 all0
    have ZN262 : n0 ≤ T262.heap.size := Nat.le_trans ZN260 K262.1
    have OL262 := OL260.keep K262 all0
    refine goT st262 ?_
    show Go _ p e below s _ _ _ (T262.setTop (mkF m 52 #[.val (.int p1), .val (.int p2), .val (.ref vo0), .val (.ref vo1), .val (.ref a258), .val (.ref a259), .unset, .unset] [(.ref a262), (.ref a259)]))
    obtain ⟨cq263, kq263, q263a, q263b, q263c⟩ := isOf hZ rfl c262_13
    obtain ⟨_, _, ⟨T263, L263, k263, n263⟩, -, X263, ⟨Lc263, hQ263, l263, y263, z263⟩, st263⟩ := X262.virtualBack hx (y := (⟨"java/lang/String", "equals", "(Ljava/lang/Object;)Z"⟩ : MethodName)) (z := (⟨"java/lang/String", "equals", "(Ljava/lang/Object;)Z"⟩ : MethodName)) hown (mvT hZ (hw _ (List.mem_of_getElem? (i := 38) rfl))) (mvT hZ (hw _ (List.mem_of_getElem? (i := 39) rfl))) (notFace_of_selects (args := #[]) (mvT hZ (hw _ (List.mem_of_getElem? (i := 41) rfl)))) (mvT hZ (hw _ (List.mem_of_getElem? (i := 41) rfl))) (mvT hZ (hw _ (List.mem_of_getElem? (i := 40) rfl))) (by decide) (backOf (W := 0) (rmQ11 l Z a0 hw [] a259 a262 w0 b259 k259 b262 k262 (T262.heap) n0 ZN262 OL262 P9 c262_13 c262_14 c262_15 c262_16 u262_1 u262_2 u262_3 u262_4 hw0) hZ (hw _ (List.mem_of_getElem? (i := 42) rfl)) (hw _ (List.mem_of_getElem? (i := 26) rfl)) (by decide) (by decide)) q263a q263c (g := (mkF m 52 #[.val (.int p1), .val (.int p2), .val (.ref vo0), .val (.ref vo1), .val (.ref a258), .val (.ref a259), .unset, .unset] [(.ref a262), (.ref a259)])) rfl (by rw [hml]; rfl) (Steps.refl _) (argsL := [(.ref a262)]) (rest := []) (lenOf pd_0_2 rfl) rfl (by show 2 * 0 + _ ≤ _; exact Nat.le_of_eq rfl) (hb hby at_52) (fun _ _ => ⟨rfl, rfl, (by decide : 8 + 0 ≤ _), (by decide : 192 + 0 ≤ _)⟩)
    dsimp only [Pt.U, Pt.locs, Pt.cells, Pt.slots] at X263 l263 y263 z263 st263 hQ263
    subst l263 y263 z263
    obtain ⟨rfl, N263q, e263⟩ := hQ263
    have N263 := Fr.app N262 N263q
    refine goT st263 ?_
    show Go _ p e below s _ _ _ (T263.setTop (mkF m 55 #[.val (.int p1), .val (.int p2), .val (.ref vo0), .val (.ref vo1), .val (.ref a258), .val (.ref a259), .unset, .unset] [(.int (1 : Int32))]))
    refine go (fun _ => XS.ifNo X263.here hx rfl (hb hby at_55) rfl ((if0 _ _).trans (feq (by decide : ¬ ((1 : Int32) = (0 : Int32)))).1)) ?_
    show Go _ p e below s _ _ _ (T263.setTop (mkF m 58 #[.val (.int p1), .val (.int p2), .val (.ref vo0), .val (.ref vo1), .val (.ref a258), .val (.ref a259), .unset, .unset] []))
    refine go (fun _ => XS.iconst X263.here hx rfl (hb hby at_58)) ?_
    show Go _ p e below s _ _ _ (T263.setTop (mkF m 59 #[.val (.int p1), .val (.int p2), .val (.ref vo0), .val (.ref vo1), .val (.ref a258), .val (.ref a259), .unset, .unset] [(.int (1 : Int32))]))
    refine go (fun _ => XS.goto X263.here hx rfl (pc0 := 59) (pc' := 63) rfl (hb hby at_59) (by decide) (by decide)) ?_
    show Go _ p e below s _ _ _ (T263.setTop (mkF m 63 #[.val (.int p1), .val (.int p2), .val (.ref vo0), .val (.ref vo1), .val (.ref a258), .val (.ref a259), .unset, .unset] [(.int (1 : Int32))]))
    refine go (fun _ => XS.istore X263.here hx rfl (hb hby at_63) rfl (l' := #[.val (.int p1), .val (.int p2), .val (.ref vo0), .val (.ref vo1), .val (.ref a258), .val (.ref a259), .val (.int (1 : Int32)), .unset]) rfl) ?_
    show Go _ p e below s _ _ _ (T263.setTop (mkF m 65 #[.val (.int p1), .val (.int p2), .val (.ref vo0), .val (.ref vo1), .val (.ref a258), .val (.ref a259), .val (.int (1 : Int32)), .unset] []))
    refine go (fun _ => XS.aload X263.here hx rfl (hb hby at_65) rfl rfl) ?_
    show Go _ p e below s _ _ _ (T263.setTop (mkF m 67 #[.val (.int p1), .val (.int p2), .val (.ref vo0), .val (.ref vo1), .val (.ref a258), .val (.ref a259), .val (.int (1 : Int32)), .unset] [(.ref a258)]))
    refine go (fun _ => XS.aload X263.here hx rfl (hb hby at_67) rfl rfl) ?_
    show Go _ p e below s _ _ _ (T263.setTop (mkF m 69 #[.val (.int p1), .val (.int p2), .val (.ref vo0), .val (.ref vo1), .val (.ref a258), .val (.ref a259), .val (.int (1 : Int32)), .unset] [(.ref a259), (.ref a258)]))
    obtain ⟨cq264, kq264, q264a, q264b, q264c⟩ := isOf hZ e263 c262_9
    obtain ⟨_, _, ⟨T264, L264, k264, n264⟩, -, X264, ⟨Lc264, hQ264, l264, y264, z264⟩, st264⟩ := X263.virtualBack hx (y := (⟨"java/lang/String", "equals", "(Ljava/lang/Object;)Z"⟩ : MethodName)) (z := (⟨"java/lang/String", "equals", "(Ljava/lang/Object;)Z"⟩ : MethodName)) hown (mvT hZ (hw _ (List.mem_of_getElem? (i := 38) rfl))) (mvT hZ (hw _ (List.mem_of_getElem? (i := 39) rfl))) (notFace_of_selects (args := #[]) (mvT hZ (hw _ (List.mem_of_getElem? (i := 41) rfl)))) (mvT hZ (hw _ (List.mem_of_getElem? (i := 41) rfl))) (mvT hZ (hw _ (List.mem_of_getElem? (i := 40) rfl))) (by decide) (backOf (W := 0) (rmQ01 l Z a0 hw [] a258 a259 w0 b258 k258 b259 k259 (T262.heap) n0 ZN262 OL262 P9 c262_9 c262_10 c262_11 c262_12 c262_13 c262_14 c262_15 c262_16 hw0 (own_strne c262_11 c262_15 c262_12 c262_16 (by decide))) hZ (hw _ (List.mem_of_getElem? (i := 42) rfl)) (hw _ (List.mem_of_getElem? (i := 26) rfl)) (by decide) (by decide)) q264a q264c (g := (mkF m 69 #[.val (.int p1), .val (.int p2), .val (.ref vo0), .val (.ref vo1), .val (.ref a258), .val (.ref a259), .val (.int (1 : Int32)), .unset] [(.ref a259), (.ref a258)])) rfl (by rw [hml]; rfl) (Steps.refl _) (argsL := [(.ref a259)]) (rest := []) (lenOf pd_0_2 rfl) rfl (by show 2 * 0 + _ ≤ _; exact Nat.le_of_eq rfl) (hb hby at_69) (fun _ _ => ⟨rfl, e263, (by decide : 8 + 0 ≤ _), (by decide : 192 + 0 ≤ _)⟩)
    dsimp only [Pt.U, Pt.locs, Pt.cells, Pt.slots] at X264 l264 y264 z264 st264 hQ264
    subst l264 y264 z264
    obtain ⟨rfl, N264q, e264⟩ := hQ264
    have N264 := Fr.app N263 N264q
    refine goT st264 ?_
    show Go _ p e below s _ _ _ (T264.setTop (mkF m 72 #[.val (.int p1), .val (.int p2), .val (.ref vo0), .val (.ref vo1), .val (.ref a258), .val (.ref a259), .val (.int (1 : Int32)), .unset] [(.int (0 : Int32))]))
    refine go (fun _ => XS.aloadN X264.here hx rfl (hb hby at_72) rfl rfl) ?_
    show Go _ p e below s _ _ _ (T264.setTop (mkF m 73 #[.val (.int p1), .val (.int p2), .val (.ref vo0), .val (.ref vo1), .val (.ref a258), .val (.ref a259), .val (.int (1 : Int32)), .unset] [(.ref vo0), (.int (0 : Int32))]))
    refine go (fun _ => XS.aloadN X264.here hx rfl (hb hby at_73) rfl rfl) ?_
    show Go _ p e below s _ _ _ (T264.setTop (mkF m 74 #[.val (.int p1), .val (.int p2), .val (.ref vo0), .val (.ref vo1), .val (.ref a258), .val (.ref a259), .val (.int (1 : Int32)), .unset] [(.ref vo1), (.ref vo0), (.int (0 : Int32))]))
    refine go (fun _ => Jvm.RoadKit.acmp (g := (mkF m 74 #[.val (.int p1), .val (.int p2), .val (.ref vo0), .val (.ref vo1), .val (.ref a258), .val (.ref a259), .val (.int (1 : Int32)), .unset] [(.ref vo1), (.ref vo0), (.int (0 : Int32))])) X264 hx rfl rfl rfl (pc0 := 74) (pc' := 81) (same := false) rfl (hb hby at_74) rfl (decide_eq_false fun qq => hne.symm (Value.ref.inj qq)) (by decide) (by decide)) ?_
    show Go _ p e below s _ _ _ (T264.setTop (mkF m 81 #[.val (.int p1), .val (.int p2), .val (.ref vo0), .val (.ref vo1), .val (.ref a258), .val (.ref a259), .val (.int (1 : Int32)), .unset] [(.int (0 : Int32))]))
    refine go (fun _ => XS.iconst X264.here hx rfl (hb hby at_81)) ?_
    show Go _ p e below s _ _ _ (T264.setTop (mkF m 82 #[.val (.int p1), .val (.int p2), .val (.ref vo0), .val (.ref vo1), .val (.ref a258), .val (.ref a259), .val (.int (1 : Int32)), .unset] [(.int (0 : Int32)), (.int (0 : Int32))]))
    refine go (fun _ => XS.icmpNo X264.here hx rfl (hb hby at_82) rfl (teq (rfl : (0 : Int32) = (0 : Int32))).2) ?_
    show Go _ p e below s _ _ _ (T264.setTop (mkF m 85 #[.val (.int p1), .val (.int p2), .val (.ref vo0), .val (.ref vo1), .val (.ref a258), .val (.ref a259), .val (.int (1 : Int32)), .unset] []))
    refine go (fun _ => XS.iconst X264.here hx rfl (hb hby at_85)) ?_
    show Go _ p e below s _ _ _ (T264.setTop (mkF m 86 #[.val (.int p1), .val (.int p2), .val (.ref vo0), .val (.ref vo1), .val (.ref a258), .val (.ref a259), .val (.int (1 : Int32)), .unset] [(.int (1 : Int32))]))
    refine go (fun _ => XS.goto X264.here hx rfl (pc0 := 86) (pc' := 90) rfl (hb hby at_86) (by decide) (by decide)) ?_
    show Go _ p e below s _ _ _ (T264.setTop (mkF m 90 #[.val (.int p1), .val (.int p2), .val (.ref vo0), .val (.ref vo1), .val (.ref a258), .val (.ref a259), .val (.int (1 : Int32)), .unset] [(.int (1 : Int32))]))
    refine go (fun _ => XS.istore X264.here hx rfl (hb hby at_90) rfl (l' := #[.val (.int p1), .val (.int p2), .val (.ref vo0), .val (.ref vo1), .val (.ref a258), .val (.ref a259), .val (.int (1 : Int32)), .val (.int (1 : Int32))]) rfl) ?_
    show Go _ p e below s _ _ _ (T264.setTop (mkF m 92 #[.val (.int p1), .val (.int p2), .val (.ref vo0), .val (.ref vo1), .val (.ref a258), .val (.ref a259), .val (.int (1 : Int32)), .val (.int (1 : Int32))] []))
    refine go (fun _ => XS.iload X264.here hx rfl (hb hby at_92) rfl) ?_
    show Go _ p e below s _ _ _ (T264.setTop (mkF m 94 #[.val (.int p1), .val (.int p2), .val (.ref vo0), .val (.ref vo1), .val (.ref a258), .val (.ref a259), .val (.int (1 : Int32)), .val (.int (1 : Int32))] [(.int (1 : Int32))]))
    refine go (fun _ => XS.ifNo X264.here hx rfl (hb hby at_94) rfl ((if0 _ _).trans (feq (by decide : ¬ ((1 : Int32) = (0 : Int32)))).1)) ?_
    show Go _ p e below s _ _ _ (T264.setTop (mkF m 97 #[.val (.int p1), .val (.int p2), .val (.ref vo0), .val (.ref vo1), .val (.ref a258), .val (.ref a259), .val (.int (1 : Int32)), .val (.int (1 : Int32))] []))
    refine go (fun _ => XS.iload X264.here hx rfl (hb hby at_97) rfl) ?_
    show Go _ p e below s _ _ _ (T264.setTop (mkF m 99 #[.val (.int p1), .val (.int p2), .val (.ref vo0), .val (.ref vo1), .val (.ref a258), .val (.ref a259), .val (.int (1 : Int32)), .val (.int (1 : Int32))] [(.int (1 : Int32))]))
    refine go (fun _ => XS.ifNo X264.here hx rfl (hb hby at_99) rfl ((if0 _ _).trans (feq (by decide : ¬ ((1 : Int32) = (0 : Int32)))).1)) ?_
    show Go _ p e below s _ _ _ (T264.setTop (mkF m 102 #[.val (.int p1), .val (.int p2), .val (.ref vo0), .val (.ref vo1), .val (.ref a258), .val (.ref a259), .val (.int (1 : Int32)), .val (.int (1 : Int32))] []))
    refine go (fun _ => XS.iconst X264.here hx rfl (hb hby at_102)) ?_
    show Go _ p e below s _ _ _ (T264.setTop (mkF m 103 #[.val (.int p1), .val (.int p2), .val (.ref vo0), .val (.ref vo1), .val (.ref a258), .val (.ref a259), .val (.int (1 : Int32)), .val (.int (1 : Int32))] [(.int (1 : Int32))]))
    refine go (fun _ => XS.goto X264.here hx rfl (pc0 := 103) (pc' := 107) rfl (hb hby at_103) (by decide) (by decide)) ?_
    show Go _ p e below s _ _ _ (T264.setTop (mkF m 107 #[.val (.int p1), .val (.int p2), .val (.ref vo0), .val (.ref vo1), .val (.ref a258), .val (.ref a259), .val (.int (1 : Int32)), .val (.int (1 : Int32))] [(.int (1 : Int32))]))
    refine goRetH X264 hZ (own_EW hw) ch262 hh e264 hS262 (Nat.le_refl _) hx Bd.notSynchronized Bd.returns rfl (Or.inl ⟨rfl, Or.inr (Or.inl rfl), _, rfl⟩) (hb hby at_107) (by decide) (by decide) ⟨rfl, N264⟩
  · show Go _ p e below s _ _ _ (s₁.setTop (mkF m 0 #[.val (.int p1), .val (.int p2), .unset, .unset, .unset, .unset, .unset, .unset] []))
    refine go (fun _ => XS.iloadN X0.here hx rfl (hb hby at_0) rfl) ?_
    show Go _ p e below s _ _ _ (s₁.setTop (mkF m 1 #[.val (.int p1), .val (.int p2), .unset, .unset, .unset, .unset, .unset, .unset] [(.int p1)]))
    obtain ⟨_, _, ⟨T265, L265, k265, n265⟩, -, X265, ⟨Lc265, hQ265, l265, y265, z265⟩, st265⟩ := Jvm.LawKit.callS X0 hx (y := (⟨"com/example/dosisbog/dosisbog/documents/DosageReaderRootPinLaw", "pick", "(I)Lcom/example/dosisbog/dosisbog/core/Vocabulary;"⟩ : MethodName)) hown (mvT hZ (hw _ (List.mem_of_getElem? (i := 0) rfl))) (mvT hZ (hw _ (List.mem_of_getElem? (i := 1) rfl))) (mvT hZ (hw _ (List.mem_of_getElem? (i := 2) rfl))) (mvT hZ (hw _ (List.mem_of_getElem? (i := 3) rfl))) (by decide) (backOf (W := 0) (rmP1 l Z a0 hw [] p1 vo1 h0 n0 Z0 P2 P0 hpa) hZ (hw _ (List.mem_of_getElem? (i := 3) rfl)) (hw _ (List.mem_of_getElem? (i := 2) rfl)) (by decide) (by decide)) (g := (mkF m 1 #[.val (.int p1), .val (.int p2), .unset, .unset, .unset, .unset, .unset, .unset] [(.int p1)])) rfl (by rw [hml]; rfl) (argsL := [(.int p1)]) (rest := []) (lenOf pd_0_0 rfl) rfl (by show 2 * 0 + _ ≤ _; exact Nat.le_of_eq rfl) (hb hby at_1) (fun _ _ => ⟨rfl, e0, (by decide : 0 + 0 ≤ _), (by decide : 0 + 0 ≤ _)⟩)
    dsimp only [Pt.U, Pt.locs, Pt.cells, Pt.slots] at X265 l265 y265 z265 st265 hQ265
    subst l265 y265 z265
    obtain ⟨rfl, N265q, e265⟩ := hQ265
    have N265 := Fr.app N0 N265q
    refine go st265 ?_
    show Go _ p e below s _ _ _ (T265.setTop (mkF m 4 #[.val (.int p1), .val (.int p2), .unset, .unset, .unset, .unset, .unset, .unset] [(.ref vo1)]))
    refine go (fun _ => XS.astoreN X265.here hx rfl (hb hby at_4) rfl rfl (l' := #[.val (.int p1), .val (.int p2), .val (.ref vo1), .unset, .unset, .unset, .unset, .unset]) rfl) ?_
    show Go _ p e below s _ _ _ (T265.setTop (mkF m 5 #[.val (.int p1), .val (.int p2), .val (.ref vo1), .unset, .unset, .unset, .unset, .unset] []))
    refine go (fun _ => XS.iloadN X265.here hx rfl (hb hby at_5) rfl) ?_
    show Go _ p e below s _ _ _ (T265.setTop (mkF m 6 #[.val (.int p1), .val (.int p2), .val (.ref vo1), .unset, .unset, .unset, .unset, .unset] [(.int p2)]))
    obtain ⟨_, _, ⟨T266, L266, k266, n266⟩, -, X266, ⟨Lc266, hQ266, l266, y266, z266⟩, st266⟩ := Jvm.LawKit.callS X265 hx (y := (⟨"com/example/dosisbog/dosisbog/documents/DosageReaderRootPinLaw", "pick", "(I)Lcom/example/dosisbog/dosisbog/core/Vocabulary;"⟩ : MethodName)) hown (mvT hZ (hw _ (List.mem_of_getElem? (i := 0) rfl))) (mvT hZ (hw _ (List.mem_of_getElem? (i := 1) rfl))) (mvT hZ (hw _ (List.mem_of_getElem? (i := 2) rfl))) (mvT hZ (hw _ (List.mem_of_getElem? (i := 3) rfl))) (by decide) (backOf (W := 0) (rmP0 l Z a0 hw [] p2 vo0 h0 n0 Z0 P1 P0 hpb) hZ (hw _ (List.mem_of_getElem? (i := 3) rfl)) (hw _ (List.mem_of_getElem? (i := 2) rfl)) (by decide) (by decide)) (g := (mkF m 6 #[.val (.int p1), .val (.int p2), .val (.ref vo1), .unset, .unset, .unset, .unset, .unset] [(.int p2)])) rfl (by rw [hml]; rfl) (argsL := [(.int p2)]) (rest := []) (lenOf pd_0_0 rfl) rfl (by show 2 * 0 + _ ≤ _; exact Nat.le_of_eq rfl) (hb hby at_6) (fun _ _ => ⟨rfl, e265, (by decide : 0 + 0 ≤ _), (by decide : 0 + 0 ≤ _)⟩)
    dsimp only [Pt.U, Pt.locs, Pt.cells, Pt.slots] at X266 l266 y266 z266 st266 hQ266
    subst l266 y266 z266
    obtain ⟨rfl, N266q, e266⟩ := hQ266
    have N266 := Fr.app N265 N266q
    refine go st266 ?_
    show Go _ p e below s _ _ _ (T266.setTop (mkF m 9 #[.val (.int p1), .val (.int p2), .val (.ref vo1), .unset, .unset, .unset, .unset, .unset] [(.ref vo0)]))
    refine go (fun _ => XS.astoreN X266.here hx rfl (hb hby at_9) rfl rfl (l' := #[.val (.int p1), .val (.int p2), .val (.ref vo1), .val (.ref vo0), .unset, .unset, .unset, .unset]) rfl) ?_
    show Go _ p e below s _ _ _ (T266.setTop (mkF m 10 #[.val (.int p1), .val (.int p2), .val (.ref vo1), .val (.ref vo0), .unset, .unset, .unset, .unset] []))
    refine go (fun _ => XS.aloadN X266.here hx rfl (hb hby at_10) rfl rfl) ?_
    show Go _ p e below s _ _ _ (T266.setTop (mkF m 11 #[.val (.int p1), .val (.int p2), .val (.ref vo1), .val (.ref vo0), .unset, .unset, .unset, .unset] [(.ref vo1)]))
    obtain ⟨_, _, ⟨T267, L267, k267, n267⟩, -, X267, sc267, gc267, ⟨Lc267, hQ267, l267, y267, z267, hR267⟩, st267⟩ := callSS X266 hx (y := (⟨"com/example/dosisbog/dosisbog/documents/DosageReader", "root", "(Lcom/example/dosisbog/dosisbog/core/Vocabulary;)Ljava/lang/String;"⟩ : MethodName)) hown (mvT hZ (hw _ (List.mem_of_getElem? (i := 9) rfl))) (mvT hZ (hw _ (List.mem_of_getElem? (i := 10) rfl))) (mvT hZ (hw _ (List.mem_of_getElem? (i := 11) rfl))) (mvT hZ (hw _ (List.mem_of_getElem? (i := 12) rfl))) (by decide) (backOfSH (W := 0) (rmR1 l Z a0 hw [] vo1 sm ks h0 n0 Z0 P0 P3 P4 P6 P8) hZ (hw _ (List.mem_of_getElem? (i := 12) rfl)) (hw _ (List.mem_of_getElem? (i := 11) rfl)) (by decide) (by decide) (own_EW hw) ch0.1) (g := (mkF m 11 #[.val (.int p1), .val (.int p2), .val (.ref vo1), .val (.ref vo0), .unset, .unset, .unset, .unset] [(.ref vo1)])) rfl (by rw [hml]; rfl) (argsL := [(.ref vo1)]) (rest := []) (lenOf pd_0_1 rfl) rfl (by show 2 * 0 + _ ≤ _; exact Nat.le_of_eq rfl) (hb hby at_11) (fun _ _ => ⟨rfl, e266, (by decide : 0 + 2 ≤ _), (by decide : 0 + 28 ≤ _)⟩)
    dsimp only [Pt.U, Pt.locs, Pt.cells, Pt.slots] at X267 l267 y267 z267 st267 hQ267 sc267 gc267
    subst l267 y267 z267
    have hS267 : s.Since T267.vm T267.heap.size := foldS (T := T266) hS0 (by rw [e266]; exact (Nat.zero_le _)) sc267 gc267
    have hZ : Z.Warmed39 (s.setVm T267.vm).vm := State.Warmed39.trans hZ sc267.1
    have hown : (s.setVm T267.vm).vm.findClass "com/example/dosisbog/dosisbog/documents/DosageReaderRootPinLaw" = some m.cls := by rw [show (s.setVm T267.vm).vm = T267.vm from rfl, sc267.1.alike.findClass]; exact hown
    have X267 : Stand p l e room_1 (s.setVm T267.vm) m #[(.int p1), (.int p2)] below meth c T267 _ _ _ := X267
    have ch267 := ch0.trans hR267
    obtain ⟨a267, b267, k267, rfl, N267q, K267, u267_1, u267_2, u267_3, u267_4⟩ := hQ267
    have N267 := Fr.app N266 N267q
    have KK267 : Keep h0 T267.heap [] := (Keep.refl h0 []).trans K267 all0
    have ZN267 : n0 ≤ T267.heap.size := Nat.le_trans Z0 K267.1
    have OL267 := P0.keep K267 all0
    refine goT st267 ?_
    show Go _ p e below s _ _ _ (T267.setTop (mkF m 14 #[.val (.int p1), .val (.int p2), .val (.ref vo1), .val (.ref vo0), .unset, .unset, .unset, .unset] [(.ref a267)]))
    refine go (fun _ => XS.astore X267.here hx rfl (hb hby at_14) rfl rfl (l' := #[.val (.int p1), .val (.int p2), .val (.ref vo1), .val (.ref vo0), .val (.ref a267), .unset, .unset, .unset]) rfl) ?_
    show Go _ p e below s _ _ _ (T267.setTop (mkF m 16 #[.val (.int p1), .val (.int p2), .val (.ref vo1), .val (.ref vo0), .val (.ref a267), .unset, .unset, .unset] []))
    refine go (fun _ => XS.aloadN X267.here hx rfl (hb hby at_16) rfl rfl) ?_
    show Go _ p e below s _ _ _ (T267.setTop (mkF m 17 #[.val (.int p1), .val (.int p2), .val (.ref vo1), .val (.ref vo0), .val (.ref a267), .unset, .unset, .unset] [(.ref vo0)]))
    obtain ⟨_, _, ⟨T268, L268, k268, n268⟩, -, X268, sc268, gc268, ⟨Lc268, hQ268, l268, y268, z268, hR268⟩, st268⟩ := callSS X267 hx (y := (⟨"com/example/dosisbog/dosisbog/documents/DosageReader", "root", "(Lcom/example/dosisbog/dosisbog/core/Vocabulary;)Ljava/lang/String;"⟩ : MethodName)) hown (mvT hZ (hw _ (List.mem_of_getElem? (i := 9) rfl))) (mvT hZ (hw _ (List.mem_of_getElem? (i := 10) rfl))) (mvT hZ (hw _ (List.mem_of_getElem? (i := 11) rfl))) (mvT hZ (hw _ (List.mem_of_getElem? (i := 12) rfl))) (by decide) (backOfSH (W := 0) (rmR0 l Z a0 hw [] vo0 sm ks (T267.heap) n0 ZN267 OL267 P3 P4 P5 P7) hZ (hw _ (List.mem_of_getElem? (i := 12) rfl)) (hw _ (List.mem_of_getElem? (i := 11) rfl)) (by decide) (by decide) (own_EW hw) ch267.1) (g := (mkF m 17 #[.val (.int p1), .val (.int p2), .val (.ref vo1), .val (.ref vo0), .val (.ref a267), .unset, .unset, .unset] [(.ref vo0)])) rfl (by rw [hml]; rfl) (argsL := [(.ref vo0)]) (rest := []) (lenOf pd_0_1 rfl) rfl (by show 2 * 0 + _ ≤ _; exact Nat.le_of_eq rfl) (hb hby at_17) (fun _ _ => ⟨rfl, rfl, (by decide : 2 + 2 ≤ _), (by decide : 28 + 68 ≤ _)⟩)
    dsimp only [Pt.U, Pt.locs, Pt.cells, Pt.slots] at X268 l268 y268 z268 st268 hQ268 sc268 gc268
    subst l268 y268 z268
    have hS268 : s.Since T268.vm T268.heap.size := foldS (T := T267) hS267 (Nat.le_refl _) sc268 gc268
    have hZ : Z.Warmed39 (s.setVm T268.vm).vm := State.Warmed39.trans hZ sc268.1
    have hown : (s.setVm T268.vm).vm.findClass "com/example/dosisbog/dosisbog/documents/DosageReaderRootPinLaw" = some m.cls := by rw [show (s.setVm T268.vm).vm = T268.vm from rfl, sc268.1.alike.findClass]; exact hown
    have X268 : Stand p l e room_1 (s.setVm T268.vm) m #[(.int p1), (.int p2)] below meth c T268 _ _ _ := X268
    have ch268 := ch267.trans hR268
    obtain ⟨a268, b268, k268, rfl, N268q, K268, u268_1, u268_2, u268_3, u268_4⟩ := hQ268
    have N268 := Fr.app N267 N268q
    have c268_9 := u267_1.keep K268
    have c268_10 := u267_2.keep K268 nin0
    have c268_11 := u267_3.keep K268 nin0
    have c268_12 := u267_4.keep K268 nin0
    have KK268 : Keep h0 T268.heap [] := KK267.trans K268 all0
    have ZN268 : n0 ≤ T268.heap.size := Nat.le_trans ZN267 K268.1
    have OL268 := OL267.keep K268 all0
    refine goT st268 ?_
    show Go _ p e below s _ _ _ (T268.setTop (mkF m 20 #[.val (.int p1), .val (.int p2), .val (.ref vo1), .val (.ref vo0), .val (.ref a267), .unset, .unset, .unset] [(.ref a268)]))
    refine go (fun _ => XS.astore X268.here hx rfl (hb hby at_20) rfl rfl (l' := #[.val (.int p1), .val (.int p2), .val (.ref vo1), .val (.ref vo0), .val (.ref a267), .val (.ref a268), .unset, .unset]) rfl) ?_
    show Go _ p e below s _ _ _ (T268.setTop (mkF m 22 #[.val (.int p1), .val (.int p2), .val (.ref vo1), .val (.ref vo0), .val (.ref a267), .val (.ref a268), .unset, .unset] []))
    refine go (fun _ => XS.aload X268.here hx rfl (hb hby at_22) rfl rfl) ?_
    show Go _ p e below s _ _ _ (T268.setTop (mkF m 24 #[.val (.int p1), .val (.int p2), .val (.ref vo1), .val (.ref vo0), .val (.ref a267), .val (.ref a268), .unset, .unset] [(.ref a267)]))
    refine go (fun _ => XS.ifnullNo X268.here hx rfl (hb hby at_24) rfl) ?_
    show Go _ p e below s _ _ _ (T268.setTop (mkF m 27 #[.val (.int p1), .val (.int p2), .val (.ref vo1), .val (.ref vo0), .val (.ref a267), .val (.ref a268), .unset, .unset] []))
    refine go (fun _ => XS.aload X268.here hx rfl (hb hby at_27) rfl rfl) ?_
    show Go _ p e below s _ _ _ (T268.setTop (mkF m 29 #[.val (.int p1), .val (.int p2), .val (.ref vo1), .val (.ref vo0), .val (.ref a267), .val (.ref a268), .unset, .unset] [(.ref a268)]))
    refine go (fun _ => XT.ifnonnullYes X268.here hx rfl (pc0 := 29) (pc' := 34) rfl (hb hby at_29) rfl (by decide) (by decide)) ?_
    show Go _ p e below s _ _ _ (T268.setTop (mkF m 34 #[.val (.int p1), .val (.int p2), .val (.ref vo1), .val (.ref vo0), .val (.ref a267), .val (.ref a268), .unset, .unset] []))
    refine go (fun _ => XS.aload X268.here hx rfl (hb hby at_34) rfl rfl) ?_
    show Go _ p e below s _ _ _ (T268.setTop (mkF m 36 #[.val (.int p1), .val (.int p2), .val (.ref vo1), .val (.ref vo0), .val (.ref a267), .val (.ref a268), .unset, .unset] [(.ref a267)]))
    refine go (fun _ => XS.aloadN X268.here hx rfl (hb hby at_36) rfl rfl) ?_
    show Go _ p e below s _ _ _ (T268.setTop (mkF m 37 #[.val (.int p1), .val (.int p2), .val (.ref vo1), .val (.ref vo0), .val (.ref a267), .val (.ref a268), .unset, .unset] [(.ref vo1), (.ref a267)]))
    obtain ⟨_, _, ⟨T269, L269, k269, n269⟩, -, X269, sc269, gc269, ⟨Lc269, hQ269, l269, y269, z269, hR269⟩, st269⟩ := callSS X268 hx (y := (⟨"com/example/dosisbog/dosisbog/documents/DosageReaderRootPinLaw", "expected", "(Lcom/example/dosisbog/dosisbog/core/Vocabulary;)Ljava/lang/String;"⟩ : MethodName)) hown (mvT hZ (hw _ (List.mem_of_getElem? (i := 34) rfl))) (mvT hZ (hw _ (List.mem_of_getElem? (i := 35) rfl))) (mvT hZ (hw _ (List.mem_of_getElem? (i := 2) rfl))) (mvT hZ (hw _ (List.mem_of_getElem? (i := 36) rfl))) (by decide) (backOfSH (W := 1) (rmX1 l Z a0 hw [] vo1 vo0 (T268.heap) n0 ZN268 OL268 P1 hne) hZ (hw _ (List.mem_of_getElem? (i := 36) rfl)) (hw _ (List.mem_of_getElem? (i := 2) rfl)) (by decide) (by decide) (own_EW hw) ch268.1) (g := (mkF m 37 #[.val (.int p1), .val (.int p2), .val (.ref vo1), .val (.ref vo0), .val (.ref a267), .val (.ref a268), .unset, .unset] [(.ref vo1), (.ref a267)])) rfl (by rw [hml]; rfl) (argsL := [(.ref vo1)]) (rest := [(.ref a267)]) (lenOf pd_0_1 rfl) rfl (by show 2 * 0 + _ ≤ _; exact Nat.le_of_eq rfl) (hb hby at_37) (fun _ _ => ⟨rfl, rfl, (by decide : 4 + 2 ≤ _), (by decide : 96 + 28 ≤ _)⟩)
    dsimp only [Pt.U, Pt.locs, Pt.cells, Pt.slots] at X269 l269 y269 z269 st269 hQ269 sc269 gc269
    subst l269 y269 z269
    have hS269 : s.Since T269.vm T269.heap.size := foldS (T := T268) hS268 (Nat.le_refl _) sc269 gc269
    have hZ : Z.Warmed39 (s.setVm T269.vm).vm := State.Warmed39.trans hZ sc269.1
    have hown : (s.setVm T269.vm).vm.findClass "com/example/dosisbog/dosisbog/documents/DosageReaderRootPinLaw" = some m.cls := by rw [show (s.setVm T269.vm).vm = T269.vm from rfl, sc269.1.alike.findClass]; exact hown
    have X269 : Stand p l e room_1 (s.setVm T269.vm) m #[(.int p1), (.int p2)] below meth c T269 _ _ _ := X269
    have ch269 := ch268.trans hR269
    obtain ⟨a269, b269, k269, rfl, N269q, K269, u269_1, u269_2, u269_3, u269_4⟩ := hQ269
    have N269 := Fr.app N268 N269q
    have c269_9 := c268_9.keep K269
    have c269_10 := c268_10.keep K269 nin0
    have c269_11 := c268_11.keep K269 nin0
    have c269_12 := c268_12.keep K269 nin0
    have c269_13 := u268_1.keep K269
    have c269_14 := u268_2.keep K269 nin0
    have c269_15 := u268_3.keep K269 nin0
    have c269_16 := u268_4.keep K269 nin0
    have KK269 : Keep h0 T269.heap [] := KK268.trans K269 all0
    have ZN269 : n0 ≤ T269.heap.size := Nat.le_trans ZN268 K269.1
    have OL269 := OL268.keep K269 all0
    refine goT st269 ?_
    show Go _ p e below s _ _ _ (T269.setTop (mkF m 40 #[.val (.int p1), .val (.int p2), .val (.ref vo1), .val (.ref vo0), .val (.ref a267), .val (.ref a268), .unset, .unset] [(.ref a269), (.ref a267)]))
    obtain ⟨cq270, kq270, q270a, q270b, q270c⟩ := isOf hZ rfl c269_9
    obtain ⟨_, _, ⟨T270, L270, k270, n270⟩, -, X270, ⟨Lc270, hQ270, l270, y270, z270⟩, st270⟩ := X269.virtualBack hx (y := (⟨"java/lang/String", "equals", "(Ljava/lang/Object;)Z"⟩ : MethodName)) (z := (⟨"java/lang/String", "equals", "(Ljava/lang/Object;)Z"⟩ : MethodName)) hown (mvT hZ (hw _ (List.mem_of_getElem? (i := 38) rfl))) (mvT hZ (hw _ (List.mem_of_getElem? (i := 39) rfl))) (notFace_of_selects (args := #[]) (mvT hZ (hw _ (List.mem_of_getElem? (i := 41) rfl)))) (mvT hZ (hw _ (List.mem_of_getElem? (i := 41) rfl))) (mvT hZ (hw _ (List.mem_of_getElem? (i := 40) rfl))) (by decide) (backOf (W := 0) (rmQ11 l Z a0 hw [] a267 a269 w0 b267 k267 b269 k269 (T269.heap) n0 ZN269 OL269 P9 c269_9 c269_10 c269_11 c269_12 u269_1 u269_2 u269_3 u269_4 hw0) hZ (hw _ (List.mem_of_getElem? (i := 42) rfl)) (hw _ (List.mem_of_getElem? (i := 26) rfl)) (by decide) (by decide)) q270a q270c (g := (mkF m 40 #[.val (.int p1), .val (.int p2), .val (.ref vo1), .val (.ref vo0), .val (.ref a267), .val (.ref a268), .unset, .unset] [(.ref a269), (.ref a267)])) rfl (by rw [hml]; rfl) (Steps.refl _) (argsL := [(.ref a269)]) (rest := []) (lenOf pd_0_2 rfl) rfl (by show 2 * 0 + _ ≤ _; exact Nat.le_of_eq rfl) (hb hby at_40) (fun _ _ => ⟨rfl, rfl, (by decide : 6 + 0 ≤ _), (by decide : 124 + 0 ≤ _)⟩)
    dsimp only [Pt.U, Pt.locs, Pt.cells, Pt.slots] at X270 l270 y270 z270 st270 hQ270
    subst l270 y270 z270
    obtain ⟨rfl, N270q, e270⟩ := hQ270
    have N270 := Fr.app N269 N270q
    refine goT st270 ?_
    show Go _ p e below s _ _ _ (T270.setTop (mkF m 43 #[.val (.int p1), .val (.int p2), .val (.ref vo1), .val (.ref vo0), .val (.ref a267), .val (.ref a268), .unset, .unset] [(.int (1 : Int32))]))
    refine go (fun _ => XS.ifNo X270.here hx rfl (hb hby at_43) rfl ((if0 _ _).trans (feq (by decide : ¬ ((1 : Int32) = (0 : Int32)))).1)) ?_
    show Go _ p e below s _ _ _ (T270.setTop (mkF m 46 #[.val (.int p1), .val (.int p2), .val (.ref vo1), .val (.ref vo0), .val (.ref a267), .val (.ref a268), .unset, .unset] []))
    refine go (fun _ => XS.aload X270.here hx rfl (hb hby at_46) rfl rfl) ?_
    show Go _ p e below s _ _ _ (T270.setTop (mkF m 48 #[.val (.int p1), .val (.int p2), .val (.ref vo1), .val (.ref vo0), .val (.ref a267), .val (.ref a268), .unset, .unset] [(.ref a268)]))
    refine go (fun _ => XS.aloadN X270.here hx rfl (hb hby at_48) rfl rfl) ?_
    show Go _ p e below s _ _ _ (T270.setTop (mkF m 49 #[.val (.int p1), .val (.int p2), .val (.ref vo1), .val (.ref vo0), .val (.ref a267), .val (.ref a268), .unset, .unset] [(.ref vo0), (.ref a268)]))
    obtain ⟨_, _, ⟨T271, L271, k271, n271⟩, -, X271, sc271, gc271, ⟨Lc271, hQ271, l271, y271, z271, hR271⟩, st271⟩ := callSS X270 hx (y := (⟨"com/example/dosisbog/dosisbog/documents/DosageReaderRootPinLaw", "expected", "(Lcom/example/dosisbog/dosisbog/core/Vocabulary;)Ljava/lang/String;"⟩ : MethodName)) hown (mvT hZ (hw _ (List.mem_of_getElem? (i := 34) rfl))) (mvT hZ (hw _ (List.mem_of_getElem? (i := 35) rfl))) (mvT hZ (hw _ (List.mem_of_getElem? (i := 2) rfl))) (mvT hZ (hw _ (List.mem_of_getElem? (i := 36) rfl))) (by decide) (backOfSH (W := 1) (rmX0 l Z a0 hw [] vo0 (T269.heap) n0 ZN269 OL269 P1) hZ (hw _ (List.mem_of_getElem? (i := 36) rfl)) (hw _ (List.mem_of_getElem? (i := 2) rfl)) (by decide) (by decide) (own_EW hw) ch269.1) (g := (mkF m 49 #[.val (.int p1), .val (.int p2), .val (.ref vo1), .val (.ref vo0), .val (.ref a267), .val (.ref a268), .unset, .unset] [(.ref vo0), (.ref a268)])) rfl (by rw [hml]; rfl) (argsL := [(.ref vo0)]) (rest := [(.ref a268)]) (lenOf pd_0_1 rfl) rfl (by show 2 * 0 + _ ≤ _; exact Nat.le_of_eq rfl) (hb hby at_49) (fun _ _ => ⟨rfl, e270, (by decide : 6 + 2 ≤ _), (by decide : 124 + 68 ≤ _)⟩)
    dsimp only [Pt.U, Pt.locs, Pt.cells, Pt.slots] at X271 l271 y271 z271 st271 hQ271 sc271 gc271
    subst l271 y271 z271
    have hS271 : s.Since T271.vm T271.heap.size := foldS (T := T270) hS269 (by rw [e270]; exact (Nat.le_refl _)) sc271 gc271
    have hZ : Z.Warmed39 (s.setVm T271.vm).vm := State.Warmed39.trans hZ sc271.1
    have hown : (s.setVm T271.vm).vm.findClass "com/example/dosisbog/dosisbog/documents/DosageReaderRootPinLaw" = some m.cls := by rw [show (s.setVm T271.vm).vm = T271.vm from rfl, sc271.1.alike.findClass]; exact hown
    have X271 : Stand p l e room_1 (s.setVm T271.vm) m #[(.int p1), (.int p2)] below meth c T271 _ _ _ := X271
    have ch271 := ch269.trans hR271
    obtain ⟨a271, b271, k271, rfl, N271q, K271, u271_1, u271_2, u271_3, u271_4⟩ := hQ271
    have N271 := Fr.app N270 N271q
    have c271_9 := c269_9.keep K271
    have c271_10 := c269_10.keep K271 nin0
    have c271_11 := c269_11.keep K271 nin0
    have c271_12 := c269_12.keep K271 nin0
    have c271_13 := c269_13.keep K271
    have c271_14 := c269_14.keep K271 nin0
    have c271_15 := c269_15.keep K271 nin0
    have c271_16 := c269_16.keep K271 nin0
    have c271_17 := u269_1.keep K271
    have c271_18 := u269_2.keep K271 nin0
    have c271_19 := u269_3.keep K271 nin0
    have c271_20 := u269_4.keep K271 nin0
    have KK271 : Keep h0 T271.heap [] := KK269.trans K271 all0
    have ZN271 : n0 ≤ T271.heap.size := Nat.le_trans ZN269 K271.1
    have OL271 := OL269.keep K271 all0
    refine goT st271 ?_
    show Go _ p e below s _ _ _ (T271.setTop (mkF m 52 #[.val (.int p1), .val (.int p2), .val (.ref vo1), .val (.ref vo0), .val (.ref a267), .val (.ref a268), .unset, .unset] [(.ref a271), (.ref a268)]))
    obtain ⟨cq272, kq272, q272a, q272b, q272c⟩ := isOf hZ rfl c271_13
    obtain ⟨_, _, ⟨T272, L272, k272, n272⟩, -, X272, ⟨Lc272, hQ272, l272, y272, z272⟩, st272⟩ := X271.virtualBack hx (y := (⟨"java/lang/String", "equals", "(Ljava/lang/Object;)Z"⟩ : MethodName)) (z := (⟨"java/lang/String", "equals", "(Ljava/lang/Object;)Z"⟩ : MethodName)) hown (mvT hZ (hw _ (List.mem_of_getElem? (i := 38) rfl))) (mvT hZ (hw _ (List.mem_of_getElem? (i := 39) rfl))) (notFace_of_selects (args := #[]) (mvT hZ (hw _ (List.mem_of_getElem? (i := 41) rfl)))) (mvT hZ (hw _ (List.mem_of_getElem? (i := 41) rfl))) (mvT hZ (hw _ (List.mem_of_getElem? (i := 40) rfl))) (by decide) (backOf (W := 0) (rmQ00 l Z a0 hw [] a268 a271 w0 b268 k268 b271 k271 (T271.heap) n0 ZN271 OL271 P9 c271_13 c271_14 c271_15 c271_16 u271_1 u271_2 u271_3 u271_4 hw0) hZ (hw _ (List.mem_of_getElem? (i := 42) rfl)) (hw _ (List.mem_of_getElem? (i := 26) rfl)) (by decide) (by decide)) q272a q272c (g := (mkF m 52 #[.val (.int p1), .val (.int p2), .val (.ref vo1), .val (.ref vo0), .val (.ref a267), .val (.ref a268), .unset, .unset] [(.ref a271), (.ref a268)])) rfl (by rw [hml]; rfl) (Steps.refl _) (argsL := [(.ref a271)]) (rest := []) (lenOf pd_0_2 rfl) rfl (by show 2 * 0 + _ ≤ _; exact Nat.le_of_eq rfl) (hb hby at_52) (fun _ _ => ⟨rfl, rfl, (by decide : 8 + 0 ≤ _), (by decide : 192 + 0 ≤ _)⟩)
    dsimp only [Pt.U, Pt.locs, Pt.cells, Pt.slots] at X272 l272 y272 z272 st272 hQ272
    subst l272 y272 z272
    obtain ⟨rfl, N272q, e272⟩ := hQ272
    have N272 := Fr.app N271 N272q
    refine goT st272 ?_
    show Go _ p e below s _ _ _ (T272.setTop (mkF m 55 #[.val (.int p1), .val (.int p2), .val (.ref vo1), .val (.ref vo0), .val (.ref a267), .val (.ref a268), .unset, .unset] [(.int (1 : Int32))]))
    refine go (fun _ => XS.ifNo X272.here hx rfl (hb hby at_55) rfl ((if0 _ _).trans (feq (by decide : ¬ ((1 : Int32) = (0 : Int32)))).1)) ?_
    show Go _ p e below s _ _ _ (T272.setTop (mkF m 58 #[.val (.int p1), .val (.int p2), .val (.ref vo1), .val (.ref vo0), .val (.ref a267), .val (.ref a268), .unset, .unset] []))
    refine go (fun _ => XS.iconst X272.here hx rfl (hb hby at_58)) ?_
    show Go _ p e below s _ _ _ (T272.setTop (mkF m 59 #[.val (.int p1), .val (.int p2), .val (.ref vo1), .val (.ref vo0), .val (.ref a267), .val (.ref a268), .unset, .unset] [(.int (1 : Int32))]))
    refine go (fun _ => XS.goto X272.here hx rfl (pc0 := 59) (pc' := 63) rfl (hb hby at_59) (by decide) (by decide)) ?_
    show Go _ p e below s _ _ _ (T272.setTop (mkF m 63 #[.val (.int p1), .val (.int p2), .val (.ref vo1), .val (.ref vo0), .val (.ref a267), .val (.ref a268), .unset, .unset] [(.int (1 : Int32))]))
    refine go (fun _ => XS.istore X272.here hx rfl (hb hby at_63) rfl (l' := #[.val (.int p1), .val (.int p2), .val (.ref vo1), .val (.ref vo0), .val (.ref a267), .val (.ref a268), .val (.int (1 : Int32)), .unset]) rfl) ?_
    show Go _ p e below s _ _ _ (T272.setTop (mkF m 65 #[.val (.int p1), .val (.int p2), .val (.ref vo1), .val (.ref vo0), .val (.ref a267), .val (.ref a268), .val (.int (1 : Int32)), .unset] []))
    refine go (fun _ => XS.aload X272.here hx rfl (hb hby at_65) rfl rfl) ?_
    show Go _ p e below s _ _ _ (T272.setTop (mkF m 67 #[.val (.int p1), .val (.int p2), .val (.ref vo1), .val (.ref vo0), .val (.ref a267), .val (.ref a268), .val (.int (1 : Int32)), .unset] [(.ref a267)]))
    refine go (fun _ => XS.aload X272.here hx rfl (hb hby at_67) rfl rfl) ?_
    show Go _ p e below s _ _ _ (T272.setTop (mkF m 69 #[.val (.int p1), .val (.int p2), .val (.ref vo1), .val (.ref vo0), .val (.ref a267), .val (.ref a268), .val (.int (1 : Int32)), .unset] [(.ref a268), (.ref a267)]))
    obtain ⟨cq273, kq273, q273a, q273b, q273c⟩ := isOf hZ e272 c271_9
    obtain ⟨_, _, ⟨T273, L273, k273, n273⟩, -, X273, ⟨Lc273, hQ273, l273, y273, z273⟩, st273⟩ := X272.virtualBack hx (y := (⟨"java/lang/String", "equals", "(Ljava/lang/Object;)Z"⟩ : MethodName)) (z := (⟨"java/lang/String", "equals", "(Ljava/lang/Object;)Z"⟩ : MethodName)) hown (mvT hZ (hw _ (List.mem_of_getElem? (i := 38) rfl))) (mvT hZ (hw _ (List.mem_of_getElem? (i := 39) rfl))) (notFace_of_selects (args := #[]) (mvT hZ (hw _ (List.mem_of_getElem? (i := 41) rfl)))) (mvT hZ (hw _ (List.mem_of_getElem? (i := 41) rfl))) (mvT hZ (hw _ (List.mem_of_getElem? (i := 40) rfl))) (by decide) (backOf (W := 0) (rmQ10 l Z a0 hw [] a267 a268 w0 b267 k267 b268 k268 (T271.heap) n0 ZN271 OL271 P9 c271_9 c271_10 c271_11 c271_12 c271_13 c271_14 c271_15 c271_16 hw0 (own_strne c271_11 c271_15 c271_12 c271_16 (by decide))) hZ (hw _ (List.mem_of_getElem? (i := 42) rfl)) (hw _ (List.mem_of_getElem? (i := 26) rfl)) (by decide) (by decide)) q273a q273c (g := (mkF m 69 #[.val (.int p1), .val (.int p2), .val (.ref vo1), .val (.ref vo0), .val (.ref a267), .val (.ref a268), .val (.int (1 : Int32)), .unset] [(.ref a268), (.ref a267)])) rfl (by rw [hml]; rfl) (Steps.refl _) (argsL := [(.ref a268)]) (rest := []) (lenOf pd_0_2 rfl) rfl (by show 2 * 0 + _ ≤ _; exact Nat.le_of_eq rfl) (hb hby at_69) (fun _ _ => ⟨rfl, e272, (by decide : 8 + 0 ≤ _), (by decide : 192 + 0 ≤ _)⟩)
    dsimp only [Pt.U, Pt.locs, Pt.cells, Pt.slots] at X273 l273 y273 z273 st273 hQ273
    subst l273 y273 z273
    obtain ⟨rfl, N273q, e273⟩ := hQ273
    have N273 := Fr.app N272 N273q
    refine goT st273 ?_
    show Go _ p e below s _ _ _ (T273.setTop (mkF m 72 #[.val (.int p1), .val (.int p2), .val (.ref vo1), .val (.ref vo0), .val (.ref a267), .val (.ref a268), .val (.int (1 : Int32)), .unset] [(.int (0 : Int32))]))
    refine go (fun _ => XS.aloadN X273.here hx rfl (hb hby at_72) rfl rfl) ?_
    show Go _ p e below s _ _ _ (T273.setTop (mkF m 73 #[.val (.int p1), .val (.int p2), .val (.ref vo1), .val (.ref vo0), .val (.ref a267), .val (.ref a268), .val (.int (1 : Int32)), .unset] [(.ref vo1), (.int (0 : Int32))]))
    refine go (fun _ => XS.aloadN X273.here hx rfl (hb hby at_73) rfl rfl) ?_
    show Go _ p e below s _ _ _ (T273.setTop (mkF m 74 #[.val (.int p1), .val (.int p2), .val (.ref vo1), .val (.ref vo0), .val (.ref a267), .val (.ref a268), .val (.int (1 : Int32)), .unset] [(.ref vo0), (.ref vo1), (.int (0 : Int32))]))
    refine go (fun _ => Jvm.RoadKit.acmp (g := (mkF m 74 #[.val (.int p1), .val (.int p2), .val (.ref vo1), .val (.ref vo0), .val (.ref a267), .val (.ref a268), .val (.int (1 : Int32)), .unset] [(.ref vo0), (.ref vo1), (.int (0 : Int32))])) X273 hx rfl rfl rfl (pc0 := 74) (pc' := 81) (same := false) rfl (hb hby at_74) rfl (decide_eq_false fun qq => hne (Value.ref.inj qq)) (by decide) (by decide)) ?_
    show Go _ p e below s _ _ _ (T273.setTop (mkF m 81 #[.val (.int p1), .val (.int p2), .val (.ref vo1), .val (.ref vo0), .val (.ref a267), .val (.ref a268), .val (.int (1 : Int32)), .unset] [(.int (0 : Int32))]))
    refine go (fun _ => XS.iconst X273.here hx rfl (hb hby at_81)) ?_
    show Go _ p e below s _ _ _ (T273.setTop (mkF m 82 #[.val (.int p1), .val (.int p2), .val (.ref vo1), .val (.ref vo0), .val (.ref a267), .val (.ref a268), .val (.int (1 : Int32)), .unset] [(.int (0 : Int32)), (.int (0 : Int32))]))
    refine go (fun _ => XS.icmpNo X273.here hx rfl (hb hby at_82) rfl (teq (rfl : (0 : Int32) = (0 : Int32))).2) ?_
    show Go _ p e below s _ _ _ (T273.setTop (mkF m 85 #[.val (.int p1), .val (.int p2), .val (.ref vo1), .val (.ref vo0), .val (.ref a267), .val (.ref a268), .val (.int (1 : Int32)), .unset] []))
    refine go (fun _ => XS.iconst X273.here hx rfl (hb hby at_85)) ?_
    show Go _ p e below s _ _ _ (T273.setTop (mkF m 86 #[.val (.int p1), .val (.int p2), .val (.ref vo1), .val (.ref vo0), .val (.ref a267), .val (.ref a268), .val (.int (1 : Int32)), .unset] [(.int (1 : Int32))]))
    refine go (fun _ => XS.goto X273.here hx rfl (pc0 := 86) (pc' := 90) rfl (hb hby at_86) (by decide) (by decide)) ?_
    show Go _ p e below s _ _ _ (T273.setTop (mkF m 90 #[.val (.int p1), .val (.int p2), .val (.ref vo1), .val (.ref vo0), .val (.ref a267), .val (.ref a268), .val (.int (1 : Int32)), .unset] [(.int (1 : Int32))]))
    refine go (fun _ => XS.istore X273.here hx rfl (hb hby at_90) rfl (l' := #[.val (.int p1), .val (.int p2), .val (.ref vo1), .val (.ref vo0), .val (.ref a267), .val (.ref a268), .val (.int (1 : Int32)), .val (.int (1 : Int32))]) rfl) ?_
    show Go _ p e below s _ _ _ (T273.setTop (mkF m 92 #[.val (.int p1), .val (.int p2), .val (.ref vo1), .val (.ref vo0), .val (.ref a267), .val (.ref a268), .val (.int (1 : Int32)), .val (.int (1 : Int32))] []))
    refine go (fun _ => XS.iload X273.here hx rfl (hb hby at_92) rfl) ?_
    show Go _ p e below s _ _ _ (T273.setTop (mkF m 94 #[.val (.int p1), .val (.int p2), .val (.ref vo1), .val (.ref vo0), .val (.ref a267), .val (.ref a268), .val (.int (1 : Int32)), .val (.int (1 : Int32))] [(.int (1 : Int32))]))
    refine go (fun _ => XS.ifNo X273.here hx rfl (hb hby at_94) rfl ((if0 _ _).trans (feq (by decide : ¬ ((1 : Int32) = (0 : Int32)))).1)) ?_
    show Go _ p e below s _ _ _ (T273.setTop (mkF m 97 #[.val (.int p1), .val (.int p2), .val (.ref vo1), .val (.ref vo0), .val (.ref a267), .val (.ref a268), .val (.int (1 : Int32)), .val (.int (1 : Int32))] []))
    refine go (fun _ => XS.iload X273.here hx rfl (hb hby at_97) rfl) ?_
    show Go _ p e below s _ _ _ (T273.setTop (mkF m 99 #[.val (.int p1), .val (.int p2), .val (.ref vo1), .val (.ref vo0), .val (.ref a267), .val (.ref a268), .val (.int (1 : Int32)), .val (.int (1 : Int32))] [(.int (1 : Int32))]))
    refine go (fun _ => XS.ifNo X273.here hx rfl (hb hby at_99) rfl ((if0 _ _).trans (feq (by decide : ¬ ((1 : Int32) = (0 : Int32)))).1)) ?_
    show Go _ p e below s _ _ _ (T273.setTop (mkF m 102 #[.val (.int p1), .val (.int p2), .val (.ref vo1), .val (.ref vo0), .val (.ref a267), .val (.ref a268), .val (.int (1 : Int32)), .val (.int (1 : Int32))] []))
    refine go (fun _ => XS.iconst X273.here hx rfl (hb hby at_102)) ?_
    show Go _ p e below s _ _ _ (T273.setTop (mkF m 103 #[.val (.int p1), .val (.int p2), .val (.ref vo1), .val (.ref vo0), .val (.ref a267), .val (.ref a268), .val (.int (1 : Int32)), .val (.int (1 : Int32))] [(.int (1 : Int32))]))
    refine go (fun _ => XS.goto X273.here hx rfl (pc0 := 103) (pc' := 107) rfl (hb hby at_103) (by decide) (by decide)) ?_
    show Go _ p e below s _ _ _ (T273.setTop (mkF m 107 #[.val (.int p1), .val (.int p2), .val (.ref vo1), .val (.ref vo0), .val (.ref a267), .val (.ref a268), .val (.int (1 : Int32)), .val (.int (1 : Int32))] [(.int (1 : Int32))]))
    refine goRetH X273 hZ (own_EW hw) ch271 hh e273 hS271 (Nat.le_refl _) hx Bd.notSynchronized Bd.returns rfl (Or.inl ⟨rfl, Or.inr (Or.inl rfl), _, rfl⟩) (hb hby at_107) (by decide) (by decide) ⟨rfl, N273⟩
  · show Go _ p e below s _ _ _ (s₁.setTop (mkF m 0 #[.val (.int p1), .val (.int p2), .unset, .unset, .unset, .unset, .unset, .unset] []))
    refine go (fun _ => XS.iloadN X0.here hx rfl (hb hby at_0) rfl) ?_
    show Go _ p e below s _ _ _ (s₁.setTop (mkF m 1 #[.val (.int p1), .val (.int p2), .unset, .unset, .unset, .unset, .unset, .unset] [(.int p1)]))
    obtain ⟨_, _, ⟨T274, L274, k274, n274⟩, -, X274, ⟨Lc274, hQ274, l274, y274, z274⟩, st274⟩ := Jvm.LawKit.callS X0 hx (y := (⟨"com/example/dosisbog/dosisbog/documents/DosageReaderRootPinLaw", "pick", "(I)Lcom/example/dosisbog/dosisbog/core/Vocabulary;"⟩ : MethodName)) hown (mvT hZ (hw _ (List.mem_of_getElem? (i := 0) rfl))) (mvT hZ (hw _ (List.mem_of_getElem? (i := 1) rfl))) (mvT hZ (hw _ (List.mem_of_getElem? (i := 2) rfl))) (mvT hZ (hw _ (List.mem_of_getElem? (i := 3) rfl))) (by decide) (backOf (W := 0) (rmP1 l Z a0 hw [] p1 vo1 h0 n0 Z0 P2 P0 hpa) hZ (hw _ (List.mem_of_getElem? (i := 3) rfl)) (hw _ (List.mem_of_getElem? (i := 2) rfl)) (by decide) (by decide)) (g := (mkF m 1 #[.val (.int p1), .val (.int p2), .unset, .unset, .unset, .unset, .unset, .unset] [(.int p1)])) rfl (by rw [hml]; rfl) (argsL := [(.int p1)]) (rest := []) (lenOf pd_0_0 rfl) rfl (by show 2 * 0 + _ ≤ _; exact Nat.le_of_eq rfl) (hb hby at_1) (fun _ _ => ⟨rfl, e0, (by decide : 0 + 0 ≤ _), (by decide : 0 + 0 ≤ _)⟩)
    dsimp only [Pt.U, Pt.locs, Pt.cells, Pt.slots] at X274 l274 y274 z274 st274 hQ274
    subst l274 y274 z274
    obtain ⟨rfl, N274q, e274⟩ := hQ274
    have N274 := Fr.app N0 N274q
    refine go st274 ?_
    show Go _ p e below s _ _ _ (T274.setTop (mkF m 4 #[.val (.int p1), .val (.int p2), .unset, .unset, .unset, .unset, .unset, .unset] [(.ref vo1)]))
    refine go (fun _ => XS.astoreN X274.here hx rfl (hb hby at_4) rfl rfl (l' := #[.val (.int p1), .val (.int p2), .val (.ref vo1), .unset, .unset, .unset, .unset, .unset]) rfl) ?_
    show Go _ p e below s _ _ _ (T274.setTop (mkF m 5 #[.val (.int p1), .val (.int p2), .val (.ref vo1), .unset, .unset, .unset, .unset, .unset] []))
    refine go (fun _ => XS.iloadN X274.here hx rfl (hb hby at_5) rfl) ?_
    show Go _ p e below s _ _ _ (T274.setTop (mkF m 6 #[.val (.int p1), .val (.int p2), .val (.ref vo1), .unset, .unset, .unset, .unset, .unset] [(.int p2)]))
    obtain ⟨_, _, ⟨T275, L275, k275, n275⟩, -, X275, ⟨Lc275, hQ275, l275, y275, z275⟩, st275⟩ := Jvm.LawKit.callS X274 hx (y := (⟨"com/example/dosisbog/dosisbog/documents/DosageReaderRootPinLaw", "pick", "(I)Lcom/example/dosisbog/dosisbog/core/Vocabulary;"⟩ : MethodName)) hown (mvT hZ (hw _ (List.mem_of_getElem? (i := 0) rfl))) (mvT hZ (hw _ (List.mem_of_getElem? (i := 1) rfl))) (mvT hZ (hw _ (List.mem_of_getElem? (i := 2) rfl))) (mvT hZ (hw _ (List.mem_of_getElem? (i := 3) rfl))) (by decide) (backOf (W := 0) (rmP1 l Z a0 hw [] p2 vo1 h0 n0 Z0 P2 P0 hpb) hZ (hw _ (List.mem_of_getElem? (i := 3) rfl)) (hw _ (List.mem_of_getElem? (i := 2) rfl)) (by decide) (by decide)) (g := (mkF m 6 #[.val (.int p1), .val (.int p2), .val (.ref vo1), .unset, .unset, .unset, .unset, .unset] [(.int p2)])) rfl (by rw [hml]; rfl) (argsL := [(.int p2)]) (rest := []) (lenOf pd_0_0 rfl) rfl (by show 2 * 0 + _ ≤ _; exact Nat.le_of_eq rfl) (hb hby at_6) (fun _ _ => ⟨rfl, e274, (by decide : 0 + 0 ≤ _), (by decide : 0 + 0 ≤ _)⟩)
    dsimp only [Pt.U, Pt.locs, Pt.cells, Pt.slots] at X275 l275 y275 z275 st275 hQ275
    subst l275 y275 z275
    obtain ⟨rfl, N275q, e275⟩ := hQ275
    have N275 := Fr.app N274 N275q
    refine go st275 ?_
    show Go _ p e below s _ _ _ (T275.setTop (mkF m 9 #[.val (.int p1), .val (.int p2), .val (.ref vo1), .unset, .unset, .unset, .unset, .unset] [(.ref vo1)]))
    refine go (fun _ => XS.astoreN X275.here hx rfl (hb hby at_9) rfl rfl (l' := #[.val (.int p1), .val (.int p2), .val (.ref vo1), .val (.ref vo1), .unset, .unset, .unset, .unset]) rfl) ?_
    show Go _ p e below s _ _ _ (T275.setTop (mkF m 10 #[.val (.int p1), .val (.int p2), .val (.ref vo1), .val (.ref vo1), .unset, .unset, .unset, .unset] []))
    refine go (fun _ => XS.aloadN X275.here hx rfl (hb hby at_10) rfl rfl) ?_
    show Go _ p e below s _ _ _ (T275.setTop (mkF m 11 #[.val (.int p1), .val (.int p2), .val (.ref vo1), .val (.ref vo1), .unset, .unset, .unset, .unset] [(.ref vo1)]))
    obtain ⟨_, _, ⟨T276, L276, k276, n276⟩, -, X276, sc276, gc276, ⟨Lc276, hQ276, l276, y276, z276, hR276⟩, st276⟩ := callSS X275 hx (y := (⟨"com/example/dosisbog/dosisbog/documents/DosageReader", "root", "(Lcom/example/dosisbog/dosisbog/core/Vocabulary;)Ljava/lang/String;"⟩ : MethodName)) hown (mvT hZ (hw _ (List.mem_of_getElem? (i := 9) rfl))) (mvT hZ (hw _ (List.mem_of_getElem? (i := 10) rfl))) (mvT hZ (hw _ (List.mem_of_getElem? (i := 11) rfl))) (mvT hZ (hw _ (List.mem_of_getElem? (i := 12) rfl))) (by decide) (backOfSH (W := 0) (rmR1 l Z a0 hw [] vo1 sm ks h0 n0 Z0 P0 P3 P4 P6 P8) hZ (hw _ (List.mem_of_getElem? (i := 12) rfl)) (hw _ (List.mem_of_getElem? (i := 11) rfl)) (by decide) (by decide) (own_EW hw) ch0.1) (g := (mkF m 11 #[.val (.int p1), .val (.int p2), .val (.ref vo1), .val (.ref vo1), .unset, .unset, .unset, .unset] [(.ref vo1)])) rfl (by rw [hml]; rfl) (argsL := [(.ref vo1)]) (rest := []) (lenOf pd_0_1 rfl) rfl (by show 2 * 0 + _ ≤ _; exact Nat.le_of_eq rfl) (hb hby at_11) (fun _ _ => ⟨rfl, e275, (by decide : 0 + 2 ≤ _), (by decide : 0 + 28 ≤ _)⟩)
    dsimp only [Pt.U, Pt.locs, Pt.cells, Pt.slots] at X276 l276 y276 z276 st276 hQ276 sc276 gc276
    subst l276 y276 z276
    have hS276 : s.Since T276.vm T276.heap.size := foldS (T := T275) hS0 (by rw [e275]; exact (Nat.zero_le _)) sc276 gc276
    have hZ : Z.Warmed39 (s.setVm T276.vm).vm := State.Warmed39.trans hZ sc276.1
    have hown : (s.setVm T276.vm).vm.findClass "com/example/dosisbog/dosisbog/documents/DosageReaderRootPinLaw" = some m.cls := by rw [show (s.setVm T276.vm).vm = T276.vm from rfl, sc276.1.alike.findClass]; exact hown
    have X276 : Stand p l e room_1 (s.setVm T276.vm) m #[(.int p1), (.int p2)] below meth c T276 _ _ _ := X276
    have ch276 := ch0.trans hR276
    obtain ⟨a276, b276, k276, rfl, N276q, K276, u276_1, u276_2, u276_3, u276_4⟩ := hQ276
    have N276 := Fr.app N275 N276q
    have KK276 : Keep h0 T276.heap [] := (Keep.refl h0 []).trans K276 all0
    have ZN276 : n0 ≤ T276.heap.size := Nat.le_trans Z0 K276.1
    have OL276 := P0.keep K276 all0
    refine goT st276 ?_
    show Go _ p e below s _ _ _ (T276.setTop (mkF m 14 #[.val (.int p1), .val (.int p2), .val (.ref vo1), .val (.ref vo1), .unset, .unset, .unset, .unset] [(.ref a276)]))
    refine go (fun _ => XS.astore X276.here hx rfl (hb hby at_14) rfl rfl (l' := #[.val (.int p1), .val (.int p2), .val (.ref vo1), .val (.ref vo1), .val (.ref a276), .unset, .unset, .unset]) rfl) ?_
    show Go _ p e below s _ _ _ (T276.setTop (mkF m 16 #[.val (.int p1), .val (.int p2), .val (.ref vo1), .val (.ref vo1), .val (.ref a276), .unset, .unset, .unset] []))
    refine go (fun _ => XS.aloadN X276.here hx rfl (hb hby at_16) rfl rfl) ?_
    show Go _ p e below s _ _ _ (T276.setTop (mkF m 17 #[.val (.int p1), .val (.int p2), .val (.ref vo1), .val (.ref vo1), .val (.ref a276), .unset, .unset, .unset] [(.ref vo1)]))
    obtain ⟨_, _, ⟨T277, L277, k277, n277⟩, -, X277, sc277, gc277, ⟨Lc277, hQ277, l277, y277, z277, hR277⟩, st277⟩ := callSS X276 hx (y := (⟨"com/example/dosisbog/dosisbog/documents/DosageReader", "root", "(Lcom/example/dosisbog/dosisbog/core/Vocabulary;)Ljava/lang/String;"⟩ : MethodName)) hown (mvT hZ (hw _ (List.mem_of_getElem? (i := 9) rfl))) (mvT hZ (hw _ (List.mem_of_getElem? (i := 10) rfl))) (mvT hZ (hw _ (List.mem_of_getElem? (i := 11) rfl))) (mvT hZ (hw _ (List.mem_of_getElem? (i := 12) rfl))) (by decide) (backOfSH (W := 0) (rmR1 l Z a0 hw [] vo1 sm ks (T276.heap) n0 ZN276 OL276 P3 P4 P6 P8) hZ (hw _ (List.mem_of_getElem? (i := 12) rfl)) (hw _ (List.mem_of_getElem? (i := 11) rfl)) (by decide) (by decide) (own_EW hw) ch276.1) (g := (mkF m 17 #[.val (.int p1), .val (.int p2), .val (.ref vo1), .val (.ref vo1), .val (.ref a276), .unset, .unset, .unset] [(.ref vo1)])) rfl (by rw [hml]; rfl) (argsL := [(.ref vo1)]) (rest := []) (lenOf pd_0_1 rfl) rfl (by show 2 * 0 + _ ≤ _; exact Nat.le_of_eq rfl) (hb hby at_17) (fun _ _ => ⟨rfl, rfl, (by decide : 2 + 2 ≤ _), (by decide : 28 + 28 ≤ _)⟩)
    dsimp only [Pt.U, Pt.locs, Pt.cells, Pt.slots] at X277 l277 y277 z277 st277 hQ277 sc277 gc277
    subst l277 y277 z277
    have hS277 : s.Since T277.vm T277.heap.size := foldS (T := T276) hS276 (Nat.le_refl _) sc277 gc277
    have hZ : Z.Warmed39 (s.setVm T277.vm).vm := State.Warmed39.trans hZ sc277.1
    have hown : (s.setVm T277.vm).vm.findClass "com/example/dosisbog/dosisbog/documents/DosageReaderRootPinLaw" = some m.cls := by rw [show (s.setVm T277.vm).vm = T277.vm from rfl, sc277.1.alike.findClass]; exact hown
    have X277 : Stand p l e room_1 (s.setVm T277.vm) m #[(.int p1), (.int p2)] below meth c T277 _ _ _ := X277
    have ch277 := ch276.trans hR277
    obtain ⟨a277, b277, k277, rfl, N277q, K277, u277_1, u277_2, u277_3, u277_4⟩ := hQ277
    have N277 := Fr.app N276 N277q
    have c277_9 := u276_1.keep K277
    have c277_10 := u276_2.keep K277 nin0
    have c277_11 := u276_3.keep K277 nin0
    have c277_12 := u276_4.keep K277 nin0
    have KK277 : Keep h0 T277.heap [] := KK276.trans K277 all0
    have ZN277 : n0 ≤ T277.heap.size := Nat.le_trans ZN276 K277.1
    have OL277 := OL276.keep K277 all0
    refine goT st277 ?_
    show Go _ p e below s _ _ _ (T277.setTop (mkF m 20 #[.val (.int p1), .val (.int p2), .val (.ref vo1), .val (.ref vo1), .val (.ref a276), .unset, .unset, .unset] [(.ref a277)]))
    refine go (fun _ => XS.astore X277.here hx rfl (hb hby at_20) rfl rfl (l' := #[.val (.int p1), .val (.int p2), .val (.ref vo1), .val (.ref vo1), .val (.ref a276), .val (.ref a277), .unset, .unset]) rfl) ?_
    show Go _ p e below s _ _ _ (T277.setTop (mkF m 22 #[.val (.int p1), .val (.int p2), .val (.ref vo1), .val (.ref vo1), .val (.ref a276), .val (.ref a277), .unset, .unset] []))
    refine go (fun _ => XS.aload X277.here hx rfl (hb hby at_22) rfl rfl) ?_
    show Go _ p e below s _ _ _ (T277.setTop (mkF m 24 #[.val (.int p1), .val (.int p2), .val (.ref vo1), .val (.ref vo1), .val (.ref a276), .val (.ref a277), .unset, .unset] [(.ref a276)]))
    refine go (fun _ => XS.ifnullNo X277.here hx rfl (hb hby at_24) rfl) ?_
    show Go _ p e below s _ _ _ (T277.setTop (mkF m 27 #[.val (.int p1), .val (.int p2), .val (.ref vo1), .val (.ref vo1), .val (.ref a276), .val (.ref a277), .unset, .unset] []))
    refine go (fun _ => XS.aload X277.here hx rfl (hb hby at_27) rfl rfl) ?_
    show Go _ p e below s _ _ _ (T277.setTop (mkF m 29 #[.val (.int p1), .val (.int p2), .val (.ref vo1), .val (.ref vo1), .val (.ref a276), .val (.ref a277), .unset, .unset] [(.ref a277)]))
    refine go (fun _ => XT.ifnonnullYes X277.here hx rfl (pc0 := 29) (pc' := 34) rfl (hb hby at_29) rfl (by decide) (by decide)) ?_
    show Go _ p e below s _ _ _ (T277.setTop (mkF m 34 #[.val (.int p1), .val (.int p2), .val (.ref vo1), .val (.ref vo1), .val (.ref a276), .val (.ref a277), .unset, .unset] []))
    refine go (fun _ => XS.aload X277.here hx rfl (hb hby at_34) rfl rfl) ?_
    show Go _ p e below s _ _ _ (T277.setTop (mkF m 36 #[.val (.int p1), .val (.int p2), .val (.ref vo1), .val (.ref vo1), .val (.ref a276), .val (.ref a277), .unset, .unset] [(.ref a276)]))
    refine go (fun _ => XS.aloadN X277.here hx rfl (hb hby at_36) rfl rfl) ?_
    show Go _ p e below s _ _ _ (T277.setTop (mkF m 37 #[.val (.int p1), .val (.int p2), .val (.ref vo1), .val (.ref vo1), .val (.ref a276), .val (.ref a277), .unset, .unset] [(.ref vo1), (.ref a276)]))
    obtain ⟨_, _, ⟨T278, L278, k278, n278⟩, -, X278, sc278, gc278, ⟨Lc278, hQ278, l278, y278, z278, hR278⟩, st278⟩ := callSS X277 hx (y := (⟨"com/example/dosisbog/dosisbog/documents/DosageReaderRootPinLaw", "expected", "(Lcom/example/dosisbog/dosisbog/core/Vocabulary;)Ljava/lang/String;"⟩ : MethodName)) hown (mvT hZ (hw _ (List.mem_of_getElem? (i := 34) rfl))) (mvT hZ (hw _ (List.mem_of_getElem? (i := 35) rfl))) (mvT hZ (hw _ (List.mem_of_getElem? (i := 2) rfl))) (mvT hZ (hw _ (List.mem_of_getElem? (i := 36) rfl))) (by decide) (backOfSH (W := 1) (rmX1 l Z a0 hw [] vo1 vo0 (T277.heap) n0 ZN277 OL277 P1 hne) hZ (hw _ (List.mem_of_getElem? (i := 36) rfl)) (hw _ (List.mem_of_getElem? (i := 2) rfl)) (by decide) (by decide) (own_EW hw) ch277.1) (g := (mkF m 37 #[.val (.int p1), .val (.int p2), .val (.ref vo1), .val (.ref vo1), .val (.ref a276), .val (.ref a277), .unset, .unset] [(.ref vo1), (.ref a276)])) rfl (by rw [hml]; rfl) (argsL := [(.ref vo1)]) (rest := [(.ref a276)]) (lenOf pd_0_1 rfl) rfl (by show 2 * 0 + _ ≤ _; exact Nat.le_of_eq rfl) (hb hby at_37) (fun _ _ => ⟨rfl, rfl, (by decide : 4 + 2 ≤ _), (by decide : 56 + 28 ≤ _)⟩)
    dsimp only [Pt.U, Pt.locs, Pt.cells, Pt.slots] at X278 l278 y278 z278 st278 hQ278 sc278 gc278
    subst l278 y278 z278
    have hS278 : s.Since T278.vm T278.heap.size := foldS (T := T277) hS277 (Nat.le_refl _) sc278 gc278
    have hZ : Z.Warmed39 (s.setVm T278.vm).vm := State.Warmed39.trans hZ sc278.1
    have hown : (s.setVm T278.vm).vm.findClass "com/example/dosisbog/dosisbog/documents/DosageReaderRootPinLaw" = some m.cls := by rw [show (s.setVm T278.vm).vm = T278.vm from rfl, sc278.1.alike.findClass]; exact hown
    have X278 : Stand p l e room_1 (s.setVm T278.vm) m #[(.int p1), (.int p2)] below meth c T278 _ _ _ := X278
    have ch278 := ch277.trans hR278
    obtain ⟨a278, b278, k278, rfl, N278q, K278, u278_1, u278_2, u278_3, u278_4⟩ := hQ278
    have N278 := Fr.app N277 N278q
    have c278_9 := c277_9.keep K278
    have c278_10 := c277_10.keep K278 nin0
    have c278_11 := c277_11.keep K278 nin0
    have c278_12 := c277_12.keep K278 nin0
    have c278_13 := u277_1.keep K278
    have c278_14 := u277_2.keep K278 nin0
    have c278_15 := u277_3.keep K278 nin0
    have c278_16 := u277_4.keep K278 nin0
    have KK278 : Keep h0 T278.heap [] := KK277.trans K278 all0
    have ZN278 : n0 ≤ T278.heap.size := Nat.le_trans ZN277 K278.1
    have OL278 := OL277.keep K278 all0
    refine goT st278 ?_
    show Go _ p e below s _ _ _ (T278.setTop (mkF m 40 #[.val (.int p1), .val (.int p2), .val (.ref vo1), .val (.ref vo1), .val (.ref a276), .val (.ref a277), .unset, .unset] [(.ref a278), (.ref a276)]))
    obtain ⟨cq279, kq279, q279a, q279b, q279c⟩ := isOf hZ rfl c278_9
    obtain ⟨_, _, ⟨T279, L279, k279, n279⟩, -, X279, ⟨Lc279, hQ279, l279, y279, z279⟩, st279⟩ := X278.virtualBack hx (y := (⟨"java/lang/String", "equals", "(Ljava/lang/Object;)Z"⟩ : MethodName)) (z := (⟨"java/lang/String", "equals", "(Ljava/lang/Object;)Z"⟩ : MethodName)) hown (mvT hZ (hw _ (List.mem_of_getElem? (i := 38) rfl))) (mvT hZ (hw _ (List.mem_of_getElem? (i := 39) rfl))) (notFace_of_selects (args := #[]) (mvT hZ (hw _ (List.mem_of_getElem? (i := 41) rfl)))) (mvT hZ (hw _ (List.mem_of_getElem? (i := 41) rfl))) (mvT hZ (hw _ (List.mem_of_getElem? (i := 40) rfl))) (by decide) (backOf (W := 0) (rmQ11 l Z a0 hw [] a276 a278 w0 b276 k276 b278 k278 (T278.heap) n0 ZN278 OL278 P9 c278_9 c278_10 c278_11 c278_12 u278_1 u278_2 u278_3 u278_4 hw0) hZ (hw _ (List.mem_of_getElem? (i := 42) rfl)) (hw _ (List.mem_of_getElem? (i := 26) rfl)) (by decide) (by decide)) q279a q279c (g := (mkF m 40 #[.val (.int p1), .val (.int p2), .val (.ref vo1), .val (.ref vo1), .val (.ref a276), .val (.ref a277), .unset, .unset] [(.ref a278), (.ref a276)])) rfl (by rw [hml]; rfl) (Steps.refl _) (argsL := [(.ref a278)]) (rest := []) (lenOf pd_0_2 rfl) rfl (by show 2 * 0 + _ ≤ _; exact Nat.le_of_eq rfl) (hb hby at_40) (fun _ _ => ⟨rfl, rfl, (by decide : 6 + 0 ≤ _), (by decide : 84 + 0 ≤ _)⟩)
    dsimp only [Pt.U, Pt.locs, Pt.cells, Pt.slots] at X279 l279 y279 z279 st279 hQ279
    subst l279 y279 z279
    obtain ⟨rfl, N279q, e279⟩ := hQ279
    have N279 := Fr.app N278 N279q
    refine goT st279 ?_
    show Go _ p e below s _ _ _ (T279.setTop (mkF m 43 #[.val (.int p1), .val (.int p2), .val (.ref vo1), .val (.ref vo1), .val (.ref a276), .val (.ref a277), .unset, .unset] [(.int (1 : Int32))]))
    refine go (fun _ => XS.ifNo X279.here hx rfl (hb hby at_43) rfl ((if0 _ _).trans (feq (by decide : ¬ ((1 : Int32) = (0 : Int32)))).1)) ?_
    show Go _ p e below s _ _ _ (T279.setTop (mkF m 46 #[.val (.int p1), .val (.int p2), .val (.ref vo1), .val (.ref vo1), .val (.ref a276), .val (.ref a277), .unset, .unset] []))
    refine go (fun _ => XS.aload X279.here hx rfl (hb hby at_46) rfl rfl) ?_
    show Go _ p e below s _ _ _ (T279.setTop (mkF m 48 #[.val (.int p1), .val (.int p2), .val (.ref vo1), .val (.ref vo1), .val (.ref a276), .val (.ref a277), .unset, .unset] [(.ref a277)]))
    refine go (fun _ => XS.aloadN X279.here hx rfl (hb hby at_48) rfl rfl) ?_
    show Go _ p e below s _ _ _ (T279.setTop (mkF m 49 #[.val (.int p1), .val (.int p2), .val (.ref vo1), .val (.ref vo1), .val (.ref a276), .val (.ref a277), .unset, .unset] [(.ref vo1), (.ref a277)]))
    obtain ⟨_, _, ⟨T280, L280, k280, n280⟩, -, X280, sc280, gc280, ⟨Lc280, hQ280, l280, y280, z280, hR280⟩, st280⟩ := callSS X279 hx (y := (⟨"com/example/dosisbog/dosisbog/documents/DosageReaderRootPinLaw", "expected", "(Lcom/example/dosisbog/dosisbog/core/Vocabulary;)Ljava/lang/String;"⟩ : MethodName)) hown (mvT hZ (hw _ (List.mem_of_getElem? (i := 34) rfl))) (mvT hZ (hw _ (List.mem_of_getElem? (i := 35) rfl))) (mvT hZ (hw _ (List.mem_of_getElem? (i := 2) rfl))) (mvT hZ (hw _ (List.mem_of_getElem? (i := 36) rfl))) (by decide) (backOfSH (W := 1) (rmX1 l Z a0 hw [] vo1 vo0 (T278.heap) n0 ZN278 OL278 P1 hne) hZ (hw _ (List.mem_of_getElem? (i := 36) rfl)) (hw _ (List.mem_of_getElem? (i := 2) rfl)) (by decide) (by decide) (own_EW hw) ch278.1) (g := (mkF m 49 #[.val (.int p1), .val (.int p2), .val (.ref vo1), .val (.ref vo1), .val (.ref a276), .val (.ref a277), .unset, .unset] [(.ref vo1), (.ref a277)])) rfl (by rw [hml]; rfl) (argsL := [(.ref vo1)]) (rest := [(.ref a277)]) (lenOf pd_0_1 rfl) rfl (by show 2 * 0 + _ ≤ _; exact Nat.le_of_eq rfl) (hb hby at_49) (fun _ _ => ⟨rfl, e279, (by decide : 6 + 2 ≤ _), (by decide : 84 + 28 ≤ _)⟩)
    dsimp only [Pt.U, Pt.locs, Pt.cells, Pt.slots] at X280 l280 y280 z280 st280 hQ280 sc280 gc280
    subst l280 y280 z280
    have hS280 : s.Since T280.vm T280.heap.size := foldS (T := T279) hS278 (by rw [e279]; exact (Nat.le_refl _)) sc280 gc280
    have hZ : Z.Warmed39 (s.setVm T280.vm).vm := State.Warmed39.trans hZ sc280.1
    have hown : (s.setVm T280.vm).vm.findClass "com/example/dosisbog/dosisbog/documents/DosageReaderRootPinLaw" = some m.cls := by rw [show (s.setVm T280.vm).vm = T280.vm from rfl, sc280.1.alike.findClass]; exact hown
    have X280 : Stand p l e room_1 (s.setVm T280.vm) m #[(.int p1), (.int p2)] below meth c T280 _ _ _ := X280
    have ch280 := ch278.trans hR280
    obtain ⟨a280, b280, k280, rfl, N280q, K280, u280_1, u280_2, u280_3, u280_4⟩ := hQ280
    have N280 := Fr.app N279 N280q
    have c280_9 := c278_9.keep K280
    have c280_10 := c278_10.keep K280 nin0
    have c280_11 := c278_11.keep K280 nin0
    have c280_12 := c278_12.keep K280 nin0
    have c280_13 := c278_13.keep K280
    have c280_14 := c278_14.keep K280 nin0
    have c280_15 := c278_15.keep K280 nin0
    have c280_16 := c278_16.keep K280 nin0
    have c280_17 := u278_1.keep K280
    have c280_18 := u278_2.keep K280 nin0
    have c280_19 := u278_3.keep K280 nin0
    have c280_20 := u278_4.keep K280 nin0
    have KK280 : Keep h0 T280.heap [] := KK278.trans K280 all0
    have ZN280 : n0 ≤ T280.heap.size := Nat.le_trans ZN278 K280.1
    have OL280 := OL278.keep K280 all0
    refine goT st280 ?_
    show Go _ p e below s _ _ _ (T280.setTop (mkF m 52 #[.val (.int p1), .val (.int p2), .val (.ref vo1), .val (.ref vo1), .val (.ref a276), .val (.ref a277), .unset, .unset] [(.ref a280), (.ref a277)]))
    obtain ⟨cq281, kq281, q281a, q281b, q281c⟩ := isOf hZ rfl c280_13
    obtain ⟨_, _, ⟨T281, L281, k281, n281⟩, -, X281, ⟨Lc281, hQ281, l281, y281, z281⟩, st281⟩ := X280.virtualBack hx (y := (⟨"java/lang/String", "equals", "(Ljava/lang/Object;)Z"⟩ : MethodName)) (z := (⟨"java/lang/String", "equals", "(Ljava/lang/Object;)Z"⟩ : MethodName)) hown (mvT hZ (hw _ (List.mem_of_getElem? (i := 38) rfl))) (mvT hZ (hw _ (List.mem_of_getElem? (i := 39) rfl))) (notFace_of_selects (args := #[]) (mvT hZ (hw _ (List.mem_of_getElem? (i := 41) rfl)))) (mvT hZ (hw _ (List.mem_of_getElem? (i := 41) rfl))) (mvT hZ (hw _ (List.mem_of_getElem? (i := 40) rfl))) (by decide) (backOf (W := 0) (rmQ11 l Z a0 hw [] a277 a280 w0 b277 k277 b280 k280 (T280.heap) n0 ZN280 OL280 P9 c280_13 c280_14 c280_15 c280_16 u280_1 u280_2 u280_3 u280_4 hw0) hZ (hw _ (List.mem_of_getElem? (i := 42) rfl)) (hw _ (List.mem_of_getElem? (i := 26) rfl)) (by decide) (by decide)) q281a q281c (g := (mkF m 52 #[.val (.int p1), .val (.int p2), .val (.ref vo1), .val (.ref vo1), .val (.ref a276), .val (.ref a277), .unset, .unset] [(.ref a280), (.ref a277)])) rfl (by rw [hml]; rfl) (Steps.refl _) (argsL := [(.ref a280)]) (rest := []) (lenOf pd_0_2 rfl) rfl (by show 2 * 0 + _ ≤ _; exact Nat.le_of_eq rfl) (hb hby at_52) (fun _ _ => ⟨rfl, rfl, (by decide : 8 + 0 ≤ _), (by decide : 112 + 0 ≤ _)⟩)
    dsimp only [Pt.U, Pt.locs, Pt.cells, Pt.slots] at X281 l281 y281 z281 st281 hQ281
    subst l281 y281 z281
    obtain ⟨rfl, N281q, e281⟩ := hQ281
    have N281 := Fr.app N280 N281q
    refine goT st281 ?_
    show Go _ p e below s _ _ _ (T281.setTop (mkF m 55 #[.val (.int p1), .val (.int p2), .val (.ref vo1), .val (.ref vo1), .val (.ref a276), .val (.ref a277), .unset, .unset] [(.int (1 : Int32))]))
    refine go (fun _ => XS.ifNo X281.here hx rfl (hb hby at_55) rfl ((if0 _ _).trans (feq (by decide : ¬ ((1 : Int32) = (0 : Int32)))).1)) ?_
    show Go _ p e below s _ _ _ (T281.setTop (mkF m 58 #[.val (.int p1), .val (.int p2), .val (.ref vo1), .val (.ref vo1), .val (.ref a276), .val (.ref a277), .unset, .unset] []))
    refine go (fun _ => XS.iconst X281.here hx rfl (hb hby at_58)) ?_
    show Go _ p e below s _ _ _ (T281.setTop (mkF m 59 #[.val (.int p1), .val (.int p2), .val (.ref vo1), .val (.ref vo1), .val (.ref a276), .val (.ref a277), .unset, .unset] [(.int (1 : Int32))]))
    refine go (fun _ => XS.goto X281.here hx rfl (pc0 := 59) (pc' := 63) rfl (hb hby at_59) (by decide) (by decide)) ?_
    show Go _ p e below s _ _ _ (T281.setTop (mkF m 63 #[.val (.int p1), .val (.int p2), .val (.ref vo1), .val (.ref vo1), .val (.ref a276), .val (.ref a277), .unset, .unset] [(.int (1 : Int32))]))
    refine go (fun _ => XS.istore X281.here hx rfl (hb hby at_63) rfl (l' := #[.val (.int p1), .val (.int p2), .val (.ref vo1), .val (.ref vo1), .val (.ref a276), .val (.ref a277), .val (.int (1 : Int32)), .unset]) rfl) ?_
    show Go _ p e below s _ _ _ (T281.setTop (mkF m 65 #[.val (.int p1), .val (.int p2), .val (.ref vo1), .val (.ref vo1), .val (.ref a276), .val (.ref a277), .val (.int (1 : Int32)), .unset] []))
    refine go (fun _ => XS.aload X281.here hx rfl (hb hby at_65) rfl rfl) ?_
    show Go _ p e below s _ _ _ (T281.setTop (mkF m 67 #[.val (.int p1), .val (.int p2), .val (.ref vo1), .val (.ref vo1), .val (.ref a276), .val (.ref a277), .val (.int (1 : Int32)), .unset] [(.ref a276)]))
    refine go (fun _ => XS.aload X281.here hx rfl (hb hby at_67) rfl rfl) ?_
    show Go _ p e below s _ _ _ (T281.setTop (mkF m 69 #[.val (.int p1), .val (.int p2), .val (.ref vo1), .val (.ref vo1), .val (.ref a276), .val (.ref a277), .val (.int (1 : Int32)), .unset] [(.ref a277), (.ref a276)]))
    obtain ⟨cq282, kq282, q282a, q282b, q282c⟩ := isOf hZ e281 c280_9
    obtain ⟨_, _, ⟨T282, L282, k282, n282⟩, -, X282, ⟨Lc282, hQ282, l282, y282, z282⟩, st282⟩ := X281.virtualBack hx (y := (⟨"java/lang/String", "equals", "(Ljava/lang/Object;)Z"⟩ : MethodName)) (z := (⟨"java/lang/String", "equals", "(Ljava/lang/Object;)Z"⟩ : MethodName)) hown (mvT hZ (hw _ (List.mem_of_getElem? (i := 38) rfl))) (mvT hZ (hw _ (List.mem_of_getElem? (i := 39) rfl))) (notFace_of_selects (args := #[]) (mvT hZ (hw _ (List.mem_of_getElem? (i := 41) rfl)))) (mvT hZ (hw _ (List.mem_of_getElem? (i := 41) rfl))) (mvT hZ (hw _ (List.mem_of_getElem? (i := 40) rfl))) (by decide) (backOf (W := 0) (rmQ11 l Z a0 hw [] a276 a277 w0 b276 k276 b277 k277 (T280.heap) n0 ZN280 OL280 P9 c280_9 c280_10 c280_11 c280_12 c280_13 c280_14 c280_15 c280_16 hw0) hZ (hw _ (List.mem_of_getElem? (i := 42) rfl)) (hw _ (List.mem_of_getElem? (i := 26) rfl)) (by decide) (by decide)) q282a q282c (g := (mkF m 69 #[.val (.int p1), .val (.int p2), .val (.ref vo1), .val (.ref vo1), .val (.ref a276), .val (.ref a277), .val (.int (1 : Int32)), .unset] [(.ref a277), (.ref a276)])) rfl (by rw [hml]; rfl) (Steps.refl _) (argsL := [(.ref a277)]) (rest := []) (lenOf pd_0_2 rfl) rfl (by show 2 * 0 + _ ≤ _; exact Nat.le_of_eq rfl) (hb hby at_69) (fun _ _ => ⟨rfl, e281, (by decide : 8 + 0 ≤ _), (by decide : 112 + 0 ≤ _)⟩)
    dsimp only [Pt.U, Pt.locs, Pt.cells, Pt.slots] at X282 l282 y282 z282 st282 hQ282
    subst l282 y282 z282
    obtain ⟨rfl, N282q, e282⟩ := hQ282
    have N282 := Fr.app N281 N282q
    refine goT st282 ?_
    show Go _ p e below s _ _ _ (T282.setTop (mkF m 72 #[.val (.int p1), .val (.int p2), .val (.ref vo1), .val (.ref vo1), .val (.ref a276), .val (.ref a277), .val (.int (1 : Int32)), .unset] [(.int (1 : Int32))]))
    refine go (fun _ => XS.aloadN X282.here hx rfl (hb hby at_72) rfl rfl) ?_
    show Go _ p e below s _ _ _ (T282.setTop (mkF m 73 #[.val (.int p1), .val (.int p2), .val (.ref vo1), .val (.ref vo1), .val (.ref a276), .val (.ref a277), .val (.int (1 : Int32)), .unset] [(.ref vo1), (.int (1 : Int32))]))
    refine go (fun _ => XS.aloadN X282.here hx rfl (hb hby at_73) rfl rfl) ?_
    show Go _ p e below s _ _ _ (T282.setTop (mkF m 74 #[.val (.int p1), .val (.int p2), .val (.ref vo1), .val (.ref vo1), .val (.ref a276), .val (.ref a277), .val (.int (1 : Int32)), .unset] [(.ref vo1), (.ref vo1), (.int (1 : Int32))]))
    refine go (fun _ => Jvm.RoadKit.acmp (g := (mkF m 74 #[.val (.int p1), .val (.int p2), .val (.ref vo1), .val (.ref vo1), .val (.ref a276), .val (.ref a277), .val (.int (1 : Int32)), .unset] [(.ref vo1), (.ref vo1), (.int (1 : Int32))])) X282 hx rfl rfl rfl (pc0 := 74) (pc' := 77) (same := true) rfl (hb hby at_74) rfl (decide_eq_true rfl) (by decide) (by decide)) ?_
    show Go _ p e below s _ _ _ (T282.setTop (mkF m 77 #[.val (.int p1), .val (.int p2), .val (.ref vo1), .val (.ref vo1), .val (.ref a276), .val (.ref a277), .val (.int (1 : Int32)), .unset] [(.int (1 : Int32))]))
    refine go (fun _ => XS.iconst X282.here hx rfl (hb hby at_77)) ?_
    show Go _ p e below s _ _ _ (T282.setTop (mkF m 78 #[.val (.int p1), .val (.int p2), .val (.ref vo1), .val (.ref vo1), .val (.ref a276), .val (.ref a277), .val (.int (1 : Int32)), .unset] [(.int (1 : Int32)), (.int (1 : Int32))]))
    refine go (fun _ => XS.goto X282.here hx rfl (pc0 := 78) (pc' := 82) rfl (hb hby at_78) (by decide) (by decide)) ?_
    show Go _ p e below s _ _ _ (T282.setTop (mkF m 82 #[.val (.int p1), .val (.int p2), .val (.ref vo1), .val (.ref vo1), .val (.ref a276), .val (.ref a277), .val (.int (1 : Int32)), .unset] [(.int (1 : Int32)), (.int (1 : Int32))]))
    refine go (fun _ => XS.icmpNo X282.here hx rfl (hb hby at_82) rfl (teq (rfl : (1 : Int32) = (1 : Int32))).2) ?_
    show Go _ p e below s _ _ _ (T282.setTop (mkF m 85 #[.val (.int p1), .val (.int p2), .val (.ref vo1), .val (.ref vo1), .val (.ref a276), .val (.ref a277), .val (.int (1 : Int32)), .unset] []))
    refine go (fun _ => XS.iconst X282.here hx rfl (hb hby at_85)) ?_
    show Go _ p e below s _ _ _ (T282.setTop (mkF m 86 #[.val (.int p1), .val (.int p2), .val (.ref vo1), .val (.ref vo1), .val (.ref a276), .val (.ref a277), .val (.int (1 : Int32)), .unset] [(.int (1 : Int32))]))
    refine go (fun _ => XS.goto X282.here hx rfl (pc0 := 86) (pc' := 90) rfl (hb hby at_86) (by decide) (by decide)) ?_
    show Go _ p e below s _ _ _ (T282.setTop (mkF m 90 #[.val (.int p1), .val (.int p2), .val (.ref vo1), .val (.ref vo1), .val (.ref a276), .val (.ref a277), .val (.int (1 : Int32)), .unset] [(.int (1 : Int32))]))
    refine go (fun _ => XS.istore X282.here hx rfl (hb hby at_90) rfl (l' := #[.val (.int p1), .val (.int p2), .val (.ref vo1), .val (.ref vo1), .val (.ref a276), .val (.ref a277), .val (.int (1 : Int32)), .val (.int (1 : Int32))]) rfl) ?_
    show Go _ p e below s _ _ _ (T282.setTop (mkF m 92 #[.val (.int p1), .val (.int p2), .val (.ref vo1), .val (.ref vo1), .val (.ref a276), .val (.ref a277), .val (.int (1 : Int32)), .val (.int (1 : Int32))] []))
    refine go (fun _ => XS.iload X282.here hx rfl (hb hby at_92) rfl) ?_
    show Go _ p e below s _ _ _ (T282.setTop (mkF m 94 #[.val (.int p1), .val (.int p2), .val (.ref vo1), .val (.ref vo1), .val (.ref a276), .val (.ref a277), .val (.int (1 : Int32)), .val (.int (1 : Int32))] [(.int (1 : Int32))]))
    refine go (fun _ => XS.ifNo X282.here hx rfl (hb hby at_94) rfl ((if0 _ _).trans (feq (by decide : ¬ ((1 : Int32) = (0 : Int32)))).1)) ?_
    show Go _ p e below s _ _ _ (T282.setTop (mkF m 97 #[.val (.int p1), .val (.int p2), .val (.ref vo1), .val (.ref vo1), .val (.ref a276), .val (.ref a277), .val (.int (1 : Int32)), .val (.int (1 : Int32))] []))
    refine go (fun _ => XS.iload X282.here hx rfl (hb hby at_97) rfl) ?_
    show Go _ p e below s _ _ _ (T282.setTop (mkF m 99 #[.val (.int p1), .val (.int p2), .val (.ref vo1), .val (.ref vo1), .val (.ref a276), .val (.ref a277), .val (.int (1 : Int32)), .val (.int (1 : Int32))] [(.int (1 : Int32))]))
    refine go (fun _ => XS.ifNo X282.here hx rfl (hb hby at_99) rfl ((if0 _ _).trans (feq (by decide : ¬ ((1 : Int32) = (0 : Int32)))).1)) ?_
    show Go _ p e below s _ _ _ (T282.setTop (mkF m 102 #[.val (.int p1), .val (.int p2), .val (.ref vo1), .val (.ref vo1), .val (.ref a276), .val (.ref a277), .val (.int (1 : Int32)), .val (.int (1 : Int32))] []))
    refine go (fun _ => XS.iconst X282.here hx rfl (hb hby at_102)) ?_
    show Go _ p e below s _ _ _ (T282.setTop (mkF m 103 #[.val (.int p1), .val (.int p2), .val (.ref vo1), .val (.ref vo1), .val (.ref a276), .val (.ref a277), .val (.int (1 : Int32)), .val (.int (1 : Int32))] [(.int (1 : Int32))]))
    refine go (fun _ => XS.goto X282.here hx rfl (pc0 := 103) (pc' := 107) rfl (hb hby at_103) (by decide) (by decide)) ?_
    show Go _ p e below s _ _ _ (T282.setTop (mkF m 107 #[.val (.int p1), .val (.int p2), .val (.ref vo1), .val (.ref vo1), .val (.ref a276), .val (.ref a277), .val (.int (1 : Int32)), .val (.int (1 : Int32))] [(.int (1 : Int32))]))
    refine goRetH X282 hZ (own_EW hw) ch280 hh e282 hS280 (Nat.le_refl _) hx Bd.notSynchronized Bd.returns rfl (Or.inl ⟨rfl, Or.inr (Or.inl rfl), _, rfl⟩) (hb hby at_107) (by decide) (by decide) ⟨rfl, N282⟩
set_option maxRecDepth 65536 in
set_option maxHeartbeats 40000000 in
theorem comes_1 {Post : Tables → Env → Array Value → State → Outcome → State → Prop} (hpost : ∀ tb e args s v u, (limb_1_1.after args s (.returned v) u = true ∧ limb_1_2.after args s (.returned v) u = true ∧ True) → ReturnedEndW s (.returned v) u (Jvm.fieldLocs frame_1_writes args s ++ Jvm.arrayLocs frame_1_arrays args s ++ Jvm.staticLocs frame_1_statics s) 8 4160 → Post tb e args s (.returned v) u) :
    ArmFor flags0 classFile x code maxLocals ret World_1 tables_1 room_1 Calls_1 rest_1 Pre_1 Post := by
  intro l hfl _ _ p e ha hc hk s m args below hf hA hF happ hP
  obtain ⟨hcalls, hrest, hpre⟩ := hP
  obtain ⟨-, -, -, hnamed, -, -, -, hat⟩ := (Spec.applies_iff hf).mp happ
  obtain ⟨hg, hn⟩ := and_e (Cond.before_iff.mp (show (Jvm.Cond.and given_1 narrow_1).before args s = true from hpre))
  obtain ⟨q0, r0⟩ := and_e hg
  obtain ⟨q1, r1⟩ := and_e r0
  obtain ⟨w0, w1, rfl⟩ : ∃ w0 w1 : Value, args = #[w0, w1] := by
    have hs : args.size = 2 := by simpa [Cond.value, given_1] using q0
    obtain ⟨L⟩ := args
    match L, hs with
    | [w0, w1], _ => exact ⟨w0, w1, rfl⟩
  have hw := fun d (hd : d ∈ tables_1) => atoms_spec (ws := Jvm.Cond.code x code maxLocals ret :: tables_1) hat d (List.mem_cons_of_mem _ hd)
  have hfit : Fit s := fun {y c} hc i hi => by
    obtain ⟨ha, rfl⟩ := Array.getElem?_eq_some_iff.mp hc
    have q := List.all_eq_true.mp ((Array.all_eq_true_iff_forall_mem.mp hF) _ (Array.getElem_mem ha)) i (List.mem_range.mpr hi)
    simpa [Array.getElem?_eq_getElem hi] using q
  obtain ⟨hsets, hown0⟩ := atoms_of _ (rest_1_c_eq ▸ (show rest_1_c.before _ s = true from hrest))
  obtain ⟨i0, ei0⟩ := is_v q1
  obtain rfl : w0 = (.int i0) := Option.some.inj ei0
  obtain ⟨i1, ei1⟩ := is_v r1
  obtain rfl : w1 = (.int i1) := Option.some.inj ei1
  obtain ⟨m0, u0⟩ := and_e hn
  obtain ⟨m1, u1⟩ := and_e u0
  obtain ⟨m2, u2⟩ := and_e u1
  obtain ⟨m3, u3⟩ := and_e u2
  obtain ⟨m4, u4⟩ := and_e u3
  obtain ⟨m5, u5⟩ := and_e u4
  obtain ⟨m6, u6⟩ := and_e u5
  obtain ⟨vo0, v0⟩ := exa_v m0
  obtain ⟨vo1, v1⟩ := exa_v m1
  obtain ⟨sm, v2⟩ := arr_v m2
  obtain ⟨c2, A2⟩ := Arr.start v2 m2
  obtain ⟨l1, l2⟩ := own_len v2 A2 m3
  have S0 := Sta.start v0 (Or.inr ⟨(hw _ (List.mem_of_getElem? (i := 5) rfl)), (hw _ (List.mem_of_getElem? (i := 6) rfl))⟩)
  have S1 := Sta.start v1 (Or.inr ⟨(hw _ (List.mem_of_getElem? (i := 5) rfl)), (hw _ (List.mem_of_getElem? (i := 8) rfl))⟩)
  have S2 := Sta.start v2 (Or.inr ⟨(hw _ (List.mem_of_getElem? (i := 14) rfl)), (hw _ (List.mem_of_getElem? (i := 15) rfl))⟩)
  have V2 : Arv s s.heap sm c2.cls .int (2 : Int32) [(.int (1 : Int32)), (.int (2 : Int32))] (.int (0 : Int32)) := Arv.start hfit A2 l1 l2 (by decide) (by decide) ⟨own_el v2 A2 m5, own_el v2 A2 u6, trivial⟩
  have F0 := own_fI v0 m4
  have F1 := own_fI v1 m6
  obtain ⟨w0, ew0⟩ := is_v (Cond.before_iff.mp (hsets _ (List.mem_of_getElem? (i := 1) rfl)))
  have hw0 : ¬ w0 = 0 := own_neI (Cond.before_iff.mp (hsets _ (List.mem_of_getElem? (i := 2) rfl))) ew0
  have S3 : Sta s s.heap "java/lang/String" "COMPACT_STRINGS" "Z" (.int w0) := Sta.start ew0 (Or.inl (hsets _ (List.mem_of_getElem? (i := 0) rfl)))
  have hne : vo1 ≠ vo0 := Fld.ne F1 F0 (by decide)
  have hCH : CHv s own_EL s.vm s.heap := CHv.start (own_EW hw) hcalls.1 (hsets _ (List.mem_of_getElem? (i := 2) rfl)) (hw _ (List.mem_of_getElem? (i := 28) rfl)) (hw _ (List.mem_of_getElem? (i := 27) rfl))
  obtain ⟨n, o, h1, h2, h3, _, L, rfl, ⟨rfl, N⟩, _, hq⟩ := rm0 l s _ hw tables_1 i0 i1 vo0 vo1 sm c2.cls w0 s.heap s.heap.size (Nat.le_refl _) (Old.start s) S0 S1 S2 V2 (Exa.start v0 m0) (Exa.start v1 m1) F0 F1 S3 hw0 hne p e ha hc hk s m _ below hf ((Spec.applies_iff_loose hf).mp happ).1 ⟨rfl, State.Warmed39.refl s, rfl, hCH⟩ trivial
  refine ⟨n, _, h1, h2, h3, hpost _ _ _ _ _ _ ⟨Cond.after_iff.mpr rfl, Cond.after_iff.mpr (eq_i res_at (Term.int_eval (1)) rfl), trivial⟩ ⟨hq.1, hq.2.1, hq.2.2.1, (hq.2.2.2.sift fun y hy => Or.inr (N y hy)).mono (by decide) (by decide)⟩⟩
theorem main_1_1 : Claimed_1_1 := comes_1 fun _ _ _ _ _ _ h hF => ⟨h.1, hF⟩
theorem main_1_2 : Claimed_1_2 := comes_1 fun _ _ _ _ _ _ h hF => ⟨h.2.1, hF⟩
end Jvm.Pilot.@@N@@
namespace Jvm.Pilot.@@N@@
open Jvm Jvm.ClassFile Sem Op Lib Jvm.Free Jvm.Stand Jvm.Pilot.@@N@@.Jvm.D
/-! MADE BY PROGRAM (witnessworld.py) out of the Statement's table words and the real class files: 20 classes; the members and pool entries that the words name. The judged class is class 1, her method 3. -/
namespace start1
open Jvm.ClassFile
def u (s : String) : CpInfo := .utf8 (stringToUtf16 s)
/-- a pool by its gaps: so many unusable entries, then the entry; so many at the end -/
def gap : Nat → List CpInfo → List CpInfo
  | 0, r => r
  | n + 1, r => .unusable :: gap n r
def poolList (es : List (Nat × CpInfo)) (last : Nat) : List CpInfo := es.foldr (fun e r => gap e.1 (e.2 :: r)) (gap last [])
def pool (es : List (Nat × CpInfo)) (last : Nat) : Array CpInfo := ⟨poolList es last⟩
def fileOf (pool : Array CpInfo) (this : Nat) (attrs : Array Attribute := #[]) (ms : Array MethodInfo := #[]) (fl : Nat := 33) (sup : Nat := 0) (ifs : Array Nat := #[]) (fds : Array FieldInfo := #[]) : ClassFile where
  minorVersion := 0
  majorVersion := 65
  constantPool := pool
  accessFlags := fl
  thisClass := this
  superClass := sup
  interfaces := ifs
  fields := fds
  methods := ms
  attributes := attrs
def plain (name : String) (sup : Option ClassId) : Class where
  name := name
  kind := .ordinary
  loader := none
  accessFlags := 33
  super := sup
  interfaces := #[]
  cf := none
  fields := #[]
  methods := #[]
  instanceTypes := #[]
  staticTypes := #[]
  resolved := #[]
  callSites := []
  init := .initialized
  statics := none
  mirror := none

def pool0 : Array CpInfo := pool [(5, u "<init>"), (0, u "()V"), (1, .class_ 10), (1, u "java/lang/Object")] 113

def k0m0 : Method := { name := "<init>", desc := "()V", sig := { parameters := [], returnType := none }, accessFlags := 1, code := none }
/-- java/lang/Object -/
def k0 : Class := { plain "java/lang/Object" none with
  accessFlags := 33
  interfaces := #[]
  cf := some (fileOf pool0 8 #[] #[{ accessFlags := 1, nameIndex := 5, descriptorIndex := 6, attributes := #[] }] 33 0 #[] #[])
  fields := #[]
  methods := #[k0m0]
  instanceTypes := #[]
  staticTypes := #[]
  resolved := Array.replicate 124 none
  statics := none }

def pool1 : Array CpInfo := pool [(2, .class_ 4), (1, u "java/lang/Object"), (0, u "<init>"), (0, u "()V"), (0, .fieldref 8 9), (0, .class_ 10), (0, .nameAndType 11 12), (0, u "com/example/dosisbog/dosisbog/core/Vocabulary"), (0, u "DOSAGE_STRUCTURES"), (0, u "Lcom/example/dosisbog/dosisbog/core/Vocabulary;"), (0, .fieldref 8 14), (0, .nameAndType 15 12), (0, u "DOSAGE"), (0, .string 17), (0, u "DosageStructures"), (0, .string 19), (0, u "Dosage"), (0, .methodref 21 22), (0, .class_ 23), (0, .nameAndType 24 25), (0, u "com/example/dosisbog/dosisbog/documents/DosageReaderRootPinLaw"), (0, u "pick"), (0, u "(I)Lcom/example/dosisbog/dosisbog/core/Vocabulary;"), (0, .methodref 27 28), (0, .class_ 29), (0, .nameAndType 30 31), (0, u "com/example/dosisbog/dosisbog/documents/DosageReader"), (0, u "root"), (0, u "(Lcom/example/dosisbog/dosisbog/core/Vocabulary;)Ljava/lang/String;"), (0, .methodref 21 33), (0, .nameAndType 34 31), (0, u "expected"), (0, .methodref 36 37), (0, .class_ 38), (0, .nameAndType 39 40), (0, u "java/lang/String"), (0, u "equals"), (0, u "(Ljava/lang/Object;)Z"), (3, u "law"), (0, u "(II)Z")] 2

def k1m0 : Method := { name := "<init>", desc := "()V", sig := { parameters := [], returnType := none }, accessFlags := 2, code := none }
def k1c1 : Code := { maxStack := 2, maxLocals := 1, code := method_2_code, exceptionTable := #[], attributes := #[] }
def k1m1 : Method := { name := "pick", desc := "(I)Lcom/example/dosisbog/dosisbog/core/Vocabulary;", sig := { parameters := [.int], returnType := some (.object "com/example/dosisbog/dosisbog/core/Vocabulary") }, accessFlags := 10, code := some k1c1 }
def k1c2 : Code := { maxStack := 2, maxLocals := 1, code := method_3_code, exceptionTable := #[], attributes := #[] }
def k1m2 : Method := { name := "expected", desc := "(Lcom/example/dosisbog/dosisbog/core/Vocabulary;)Ljava/lang/String;", sig := { parameters := [(.object "com/example/dosisbog/dosisbog/core/Vocabulary")], returnType := some (.object "java/lang/String") }, accessFlags := 10, code := some k1c2 }
def k1c3 : Code := { maxStack := 3, maxLocals := 8, code := code, exceptionTable := #[], attributes := #[] }
def k1m3 : Method := { name := "law", desc := "(II)Z", sig := { parameters := [.int, .int], returnType := some .boolean }, accessFlags := 9, code := some k1c3 }
/-- com/example/dosisbog/dosisbog/documents/DosageReaderRootPinLaw -/
def k1 : Class := { plain "com/example/dosisbog/dosisbog/documents/DosageReaderRootPinLaw" (some 0) with
  accessFlags := 49
  interfaces := #[]
  cf := some (fileOf pool1 21 #[] #[{ accessFlags := 2, nameIndex := 5, descriptorIndex := 6, attributes := #[] }, { accessFlags := 10, nameIndex := 24, descriptorIndex := 25, attributes := #[] }, { accessFlags := 10, nameIndex := 34, descriptorIndex := 31, attributes := #[] }, { accessFlags := 9, nameIndex := 44, descriptorIndex := 45, attributes := #[] }] 49 2 #[] #[])
  fields := #[]
  methods := #[k1m0, k1m1, k1m2, k1m3]
  instanceTypes := #[]
  staticTypes := #[]
  resolved := Array.replicate 48 none
  statics := none }

def pool2 : Array CpInfo := pool [(1, .class_ 2), (0, u "java/lang/constant/Constable"), (0, .class_ 4), (0, u "java/lang/Object")] 6

/-- java/lang/constant/Constable -/
def k2 : Class := { plain "java/lang/constant/Constable" (some 0) with
  accessFlags := 1537
  interfaces := #[]
  cf := some (fileOf pool2 1 #[] #[] 1537 3 #[] #[])
  fields := #[]
  methods := #[]
  instanceTypes := #[]
  staticTypes := #[]
  resolved := Array.replicate 11 none
  statics := none }

def pool3 : Array CpInfo := pool [(1, .class_ 2), (0, u "java/lang/Comparable"), (0, .class_ 4), (0, u "java/lang/Object")] 7

/-- java/lang/Comparable -/
def k3 : Class := { plain "java/lang/Comparable" (some 0) with
  accessFlags := 1537
  interfaces := #[]
  cf := some (fileOf pool3 1 #[] #[] 1537 3 #[] #[])
  fields := #[]
  methods := #[]
  instanceTypes := #[]
  staticTypes := #[]
  resolved := Array.replicate 12 none
  statics := none }

def pool4 : Array CpInfo := pool [(1, .class_ 2), (0, u "java/io/Serializable"), (0, .class_ 4), (0, u "java/lang/Object")] 2

/-- java/io/Serializable -/
def k4 : Class := { plain "java/io/Serializable" (some 0) with
  accessFlags := 1537
  interfaces := #[]
  cf := some (fileOf pool4 1 #[] #[] 1537 3 #[] #[])
  fields := #[]
  methods := #[]
  instanceTypes := #[]
  staticTypes := #[]
  resolved := Array.replicate 7 none
  statics := none }

def pool5 : Array CpInfo := pool [(2, .class_ 4), (1, u "java/lang/Enum"), (0, u "name"), (0, u "Ljava/lang/String;"), (0, .fieldref 2 8), (0, .nameAndType 9 10), (0, u "ordinal"), (0, u "I"), (1, .class_ 14), (1, u "java/lang/Object"), (4, u "hash"), (86, .class_ 108), (1, u "java/lang/Enum$EnumDesc"), (2, .class_ 112), (0, u "java/lang/constant/Constable"), (0, .class_ 114), (0, u "java/lang/Comparable"), (0, .class_ 116), (0, u "java/io/Serializable"), (9, u "()I")] 77

def k5c0 : Code := { maxStack := 1, maxLocals := 1, code := jdk_37_method_2_code, exceptionTable := #[], attributes := #[] }
def k5m0 : Method := { name := "ordinal", desc := "()I", sig := { parameters := [], returnType := some .int }, accessFlags := 17, code := some k5c0 }
/-- java/lang/Enum -/
def k5 : Class := { plain "java/lang/Enum" (some 0) with
  accessFlags := 1057
  interfaces := #[2, 3, 4]
  cf := some (fileOf pool5 2 #[.nestMembers #[106]] #[{ accessFlags := 17, nameIndex := 9, descriptorIndex := 126, attributes := #[] }] 1057 12 #[111, 113, 115] #[{ accessFlags := 18, nameIndex := 5, descriptorIndex := 6, attributes := #[] }, { accessFlags := 18, nameIndex := 9, descriptorIndex := 10, attributes := #[] }, { accessFlags := 2, nameIndex := 19, descriptorIndex := 10, attributes := #[] }])
  fields := #[{ name := "name", type := (.object "java/lang/String"), accessFlags := 18, slot := 0, constantValue := 0 }, { name := "ordinal", type := .int, accessFlags := 18, slot := 1, constantValue := 0 }, { name := "hash", type := .int, accessFlags := 2, slot := 2, constantValue := 0 }]
  methods := #[k5m0]
  instanceTypes := #[(.object "java/lang/String"), .int, .int]
  staticTypes := #[]
  resolved := Array.replicate 204 none
  statics := none }

def pool6 : Array CpInfo := pool [(1, .class_ 2), (0, u "com/example/dosisbog/dosisbog/core/Vocabulary"), (2, u "DOSAGE_STRUCTURES"), (0, u "Lcom/example/dosisbog/dosisbog/core/Vocabulary;"), (2, u "DOSAGE"), (2, u "$VALUES"), (0, u "[Lcom/example/dosisbog/dosisbog/core/Vocabulary;"), (6, .class_ 22), (1, u "java/lang/Enum")] 24

/-- com/example/dosisbog/dosisbog/core/Vocabulary -/
def k6 : Class := { plain "com/example/dosisbog/dosisbog/core/Vocabulary" (some 5) with
  accessFlags := 16433
  interfaces := #[]
  cf := some (fileOf pool6 1 #[] #[] 16433 20 #[] #[{ accessFlags := 16409, nameIndex := 5, descriptorIndex := 6, attributes := #[] }, { accessFlags := 16409, nameIndex := 9, descriptorIndex := 6, attributes := #[] }, { accessFlags := 4122, nameIndex := 12, descriptorIndex := 13, attributes := #[] }])
  fields := #[{ name := "DOSAGE_STRUCTURES", type := (.object "com/example/dosisbog/dosisbog/core/Vocabulary"), accessFlags := 16409, slot := 0, constantValue := 0 }, { name := "DOSAGE", type := (.object "com/example/dosisbog/dosisbog/core/Vocabulary"), accessFlags := 16409, slot := 1, constantValue := 0 }, { name := "$VALUES", type := (.array (.object "com/example/dosisbog/dosisbog/core/Vocabulary")), accessFlags := 4122, slot := 2, constantValue := 0 }]
  methods := #[]
  instanceTypes := #[(.object "java/lang/String"), .int, .int]
  staticTypes := #[(.object "com/example/dosisbog/dosisbog/core/Vocabulary"), (.object "com/example/dosisbog/dosisbog/core/Vocabulary"), (.array (.object "com/example/dosisbog/dosisbog/core/Vocabulary"))]
  resolved := Array.replicate 47 none
  statics := some 0 }

def pool7 : Array CpInfo := pool [(2, .class_ 4), (1, u "java/lang/Object"), (0, u "<init>"), (0, u "()V"), (0, .fieldref 8 9), (0, .class_ 10), (0, .nameAndType 11 12), (0, u "com/example/dosisbog/dosisbog/documents/DosageReader$1"), (0, u "$SwitchMap$com$example$dosisbog$dosisbog$core$Vocabulary"), (0, u "[I"), (0, .methodref 14 15), (0, .class_ 16), (0, .nameAndType 17 18), (0, u "com/example/dosisbog/dosisbog/core/Vocabulary"), (0, u "ordinal"), (0, u "()I"), (5, .string 25), (0, u "DosageStructures"), (0, .string 27), (0, u "Dosage"), (3, .class_ 33), (1, u "com/example/dosisbog/dosisbog/documents/DosageReader"), (0, u "KIND"), (0, u "Lcom/example/dosisbog/dosisbog/documents/XmlCursor$Kind;"), (22, u "root"), (0, u "(Lcom/example/dosisbog/dosisbog/core/Vocabulary;)Ljava/lang/String;"), (26, .class_ 87), (0, u "com/example/dosisbog/dosisbog/documents/DosageReader$Given"), (336, u "MOST_DIGITS"), (0, u "I")] 86

def k7m0 : Method := { name := "<init>", desc := "()V", sig := { parameters := [], returnType := none }, accessFlags := 2, code := none }
def k7c1 : Code := { maxStack := 4, maxLocals := 1, code := prog_125_method_2_code, exceptionTable := #[], attributes := #[] }
def k7m1 : Method := { name := "root", desc := "(Lcom/example/dosisbog/dosisbog/core/Vocabulary;)Ljava/lang/String;", sig := { parameters := [(.object "com/example/dosisbog/dosisbog/core/Vocabulary")], returnType := some (.object "java/lang/String") }, accessFlags := 8, code := some k7c1 }
/-- com/example/dosisbog/dosisbog/documents/DosageReader -/
def k7 : Class := { plain "com/example/dosisbog/dosisbog/documents/DosageReader" (some 0) with
  accessFlags := 49
  interfaces := #[]
  cf := some (fileOf pool7 31 #[.nestMembers #[8, 86]] #[{ accessFlags := 2, nameIndex := 5, descriptorIndex := 6, attributes := #[] }, { accessFlags := 8, nameIndex := 58, descriptorIndex := 59, attributes := #[] }] 49 2 #[] #[{ accessFlags := 24, nameIndex := 34, descriptorIndex := 35, attributes := #[] }, { accessFlags := 26, nameIndex := 424, descriptorIndex := 425, attributes := #[] }])
  fields := #[{ name := "KIND", type := (.object "com/example/dosisbog/dosisbog/documents/XmlCursor$Kind"), accessFlags := 24, slot := 0, constantValue := 0 }, { name := "MOST_DIGITS", type := .int, accessFlags := 26, slot := 1, constantValue := 0 }]
  methods := #[k7m0, k7m1]
  instanceTypes := #[]
  staticTypes := #[(.object "com/example/dosisbog/dosisbog/documents/XmlCursor$Kind"), .int]
  resolved := Array.replicate 512 none
  statics := none }

def pool8 : Array CpInfo := pool [(8, .class_ 10), (1, u "com/example/dosisbog/dosisbog/documents/DosageReader$1"), (0, u "$SwitchMap$com$example$dosisbog$dosisbog$core$Vocabulary"), (0, u "[I"), (13, .class_ 27), (0, u "java/lang/Object"), (8, .class_ 37), (0, u "com/example/dosisbog/dosisbog/documents/DosageReader")] 2

/-- com/example/dosisbog/dosisbog/documents/DosageReader$1 -/
def k8 : Class := { plain "com/example/dosisbog/dosisbog/documents/DosageReader$1" (some 0) with
  accessFlags := 4128
  interfaces := #[]
  cf := some (fileOf pool8 8 #[.nestHost 36] #[] 4128 26 #[] #[{ accessFlags := 4120, nameIndex := 11, descriptorIndex := 12, attributes := #[] }])
  fields := #[{ name := "$SwitchMap$com$example$dosisbog$dosisbog$core$Vocabulary", type := (.array .int), accessFlags := 4120, slot := 0, constantValue := 0 }]
  methods := #[]
  instanceTypes := #[]
  staticTypes := #[(.array .int)]
  resolved := Array.replicate 40 none
  statics := some 1 }

def pool9 : Array CpInfo := pool [(2, .class_ 4), (1, u "java/lang/CharSequence"), (42, .class_ 48), (0, u "java/lang/CharSequence$1CodePointIterator"), (10, .class_ 60), (0, u "java/lang/CharSequence$1CharIterator"), (5, .class_ 67), (0, u "java/lang/Object")] 63

/-- java/lang/CharSequence -/
def k9 : Class := { plain "java/lang/CharSequence" (some 0) with
  accessFlags := 1537
  interfaces := #[]
  cf := some (fileOf pool9 2 #[.nestMembers #[47, 59]] #[] 1537 66 #[] #[])
  fields := #[]
  methods := #[]
  instanceTypes := #[]
  staticTypes := #[]
  resolved := Array.replicate 131 none
  statics := none }

def pool10 : Array CpInfo := pool [(1, .class_ 2), (0, u "java/lang/constant/ConstantDesc"), (0, .class_ 4), (0, u "java/lang/Object")] 32

/-- java/lang/constant/ConstantDesc -/
def k10 : Class := { plain "java/lang/constant/ConstantDesc" (some 0) with
  accessFlags := 1537
  interfaces := #[]
  cf := some (fileOf pool10 1 #[] #[] 1537 3 #[] #[])
  fields := #[]
  methods := #[]
  instanceTypes := #[]
  staticTypes := #[]
  resolved := Array.replicate 37 none
  statics := none }

def pool11 : Array CpInfo := pool [(2, .class_ 4), (1, u "java/lang/Object"), (0, u "<init>"), (0, u "()V"), (2, .fieldref 10 11), (0, .class_ 12), (0, .nameAndType 13 14), (0, u "java/lang/String"), (0, u "value"), (0, u "[B"), (0, .fieldref 10 16), (0, .nameAndType 17 18), (0, u "coder"), (0, u "B"), (2, u "hash"), (0, u "I"), (2, u "hashIsZero"), (0, u "Z"), (11, .fieldref 10 39), (0, .nameAndType 40 26), (0, u "COMPACT_STRINGS"), (66, .class_ 109), (1, u "java/lang/StringLatin1"), (431, .methodref 107 542), (0, .nameAndType 543 544), (0, u "equals"), (0, u "([B[B)Z"), (28, u "(Ljava/lang/Object;)Z"), (1, .class_ 576), (0, u "java/lang/CharSequence"), (22, u "CASE_INSENSITIVE_ORDER"), (0, u "Ljava/util/Comparator;"), (500, u "serialPersistentFields"), (0, u "[Ljava/io/ObjectStreamField;"), (0, .class_ 1104), (0, u "java/lang/String$CaseInsensitiveComparator"), (1, .class_ 1107), (0, u "java/io/Serializable"), (0, .class_ 1109), (0, u "java/lang/Comparable"), (0, .class_ 1111), (0, u "java/lang/constant/Constable"), (0, .class_ 1113), (0, u "java/lang/constant/ConstantDesc"), (2, u "serialVersionUID"), (0, u "J"), (3, u "REPL"), (0, u "C"), (2, u "LATIN1"), (1, u "UTF16")] 323

def k11m0 : Method := { name := "<init>", desc := "()V", sig := { parameters := [], returnType := none }, accessFlags := 1, code := none }
def k11c1 : Code := { maxStack := 2, maxLocals := 3, code := jdk_42_method_66_code, exceptionTable := #[], attributes := #[] }
def k11m1 : Method := { name := "equals", desc := "(Ljava/lang/Object;)Z", sig := { parameters := [(.object "java/lang/Object")], returnType := some .boolean }, accessFlags := 1, code := some k11c1 }
/-- java/lang/String -/
def k11 : Class := { plain "java/lang/String" (some 0) with
  accessFlags := 49
  interfaces := #[4, 3, 9, 2, 10]
  cf := some (fileOf pool11 10 #[.nestMembers #[1103]] #[{ accessFlags := 1, nameIndex := 5, descriptorIndex := 6, attributes := #[] }, { accessFlags := 1, nameIndex := 543, descriptorIndex := 573, attributes := #[] }] 49 2 #[1106, 1108, 575, 1110, 1112] #[{ accessFlags := 18, nameIndex := 13, descriptorIndex := 14, attributes := #[] }, { accessFlags := 18, nameIndex := 17, descriptorIndex := 18, attributes := #[] }, { accessFlags := 2, nameIndex := 21, descriptorIndex := 22, attributes := #[] }, { accessFlags := 2, nameIndex := 25, descriptorIndex := 26, attributes := #[] }, { accessFlags := 26, nameIndex := 1116, descriptorIndex := 1117, attributes := #[] }, { accessFlags := 24, nameIndex := 40, descriptorIndex := 26, attributes := #[] }, { accessFlags := 26, nameIndex := 1101, descriptorIndex := 1102, attributes := #[] }, { accessFlags := 26, nameIndex := 1121, descriptorIndex := 1122, attributes := #[] }, { accessFlags := 25, nameIndex := 599, descriptorIndex := 600, attributes := #[] }, { accessFlags := 24, nameIndex := 1125, descriptorIndex := 18, attributes := #[] }, { accessFlags := 24, nameIndex := 1127, descriptorIndex := 18, attributes := #[] }])
  fields := #[{ name := "value", type := (.array .byte), accessFlags := 18, slot := 0, constantValue := 0 }, { name := "coder", type := .byte, accessFlags := 18, slot := 1, constantValue := 0 }, { name := "hash", type := .int, accessFlags := 2, slot := 2, constantValue := 0 }, { name := "hashIsZero", type := .boolean, accessFlags := 2, slot := 3, constantValue := 0 }, { name := "serialVersionUID", type := .long, accessFlags := 26, slot := 0, constantValue := 0 }, { name := "COMPACT_STRINGS", type := .boolean, accessFlags := 24, slot := 1, constantValue := 0 }, { name := "serialPersistentFields", type := (.array (.object "java/io/ObjectStreamField")), accessFlags := 26, slot := 2, constantValue := 0 }, { name := "REPL", type := .char, accessFlags := 26, slot := 3, constantValue := 0 }, { name := "CASE_INSENSITIVE_ORDER", type := (.object "java/util/Comparator"), accessFlags := 25, slot := 4, constantValue := 0 }, { name := "LATIN1", type := .byte, accessFlags := 24, slot := 5, constantValue := 0 }, { name := "UTF16", type := .byte, accessFlags := 24, slot := 6, constantValue := 0 }]
  methods := #[k11m0, k11m1]
  instanceTypes := #[(.array .byte), .byte, .int, .boolean]
  staticTypes := #[.long, .boolean, (.array (.object "java/io/ObjectStreamField")), .char, (.object "java/util/Comparator"), .byte, .byte]
  resolved := Array.replicate 1451 none
  statics := some 2 }

def pool12 : Array CpInfo := pool [(4, .class_ 6), (1, u "java/lang/Object"), (0, u "<init>"), (0, u "()V"), (5, .class_ 16), (1, u "java/lang/StringLatin1"), (104, u "$assertionsDisabled"), (0, u "Z"), (98, .class_ 223), (1, u "java/lang/StringLatin1$LinesSpliterator"), (57, u "equals"), (0, u "([B[B)Z"), (107, .class_ 391), (0, u "java/lang/StringLatin1$CharsSpliterator")] 3

def k12m0 : Method := { name := "<init>", desc := "()V", sig := { parameters := [], returnType := none }, accessFlags := 0, code := none }
def k12c1 : Code := { maxStack := 3, maxLocals := 3, code := jdk_43_method_13_code, exceptionTable := #[], attributes := #[] }
def k12m1 : Method := { name := "equals", desc := "([B[B)Z", sig := { parameters := [(.array .byte), (.array .byte)], returnType := some .boolean }, accessFlags := 9, code := some k12c1 }
/-- java/lang/StringLatin1 -/
def k12 : Class := { plain "java/lang/StringLatin1" (some 0) with
  accessFlags := 48
  interfaces := #[]
  cf := some (fileOf pool12 14 #[.nestMembers #[390, 221]] #[{ accessFlags := 0, nameIndex := 7, descriptorIndex := 8, attributes := #[] }, { accessFlags := 9, nameIndex := 281, descriptorIndex := 282, attributes := #[] }] 48 4 #[] #[{ accessFlags := 4120, nameIndex := 121, descriptorIndex := 122, attributes := #[] }])
  fields := #[{ name := "$assertionsDisabled", type := .boolean, accessFlags := 4120, slot := 0, constantValue := 0 }]
  methods := #[k12m0, k12m1]
  instanceTypes := #[]
  staticTypes := #[.boolean]
  resolved := Array.replicate 395 none
  statics := none }

def pool13 : Array CpInfo := pool [(2, .class_ 4), (1, u "java/lang/Object"), (0, u "<init>"), (0, u "()V"), (17, .class_ 26), (1, u "jdk/internal/util/Preconditions"), (28, .class_ 56), (0, u "jdk/internal/util/Preconditions$4"), (57, .class_ 115), (0, u "jdk/internal/util/Preconditions$1"), (7, u "SIOOBE_FORMATTER"), (0, u "Ljava/util/function/BiFunction;"), (0, .class_ 126), (0, u "jdk/internal/util/Preconditions$2"), (3, u "AIOOBE_FORMATTER"), (0, .class_ 132), (0, u "jdk/internal/util/Preconditions$3"), (3, u "IOOBE_FORMATTER")] 57

def k13m0 : Method := { name := "<init>", desc := "()V", sig := { parameters := [], returnType := none }, accessFlags := 1, code := none }
/-- jdk/internal/util/Preconditions -/
def k13 : Class := { plain "jdk/internal/util/Preconditions" (some 0) with
  accessFlags := 33
  interfaces := #[]
  cf := some (fileOf pool13 24 #[.nestMembers #[55, 131, 125, 114]] #[{ accessFlags := 1, nameIndex := 5, descriptorIndex := 6, attributes := #[] }] 33 2 #[] #[{ accessFlags := 25, nameIndex := 123, descriptorIndex := 124, attributes := #[] }, { accessFlags := 25, nameIndex := 130, descriptorIndex := 124, attributes := #[] }, { accessFlags := 25, nameIndex := 136, descriptorIndex := 124, attributes := #[] }])
  fields := #[{ name := "SIOOBE_FORMATTER", type := (.object "java/util/function/BiFunction"), accessFlags := 25, slot := 0, constantValue := 0 }, { name := "AIOOBE_FORMATTER", type := (.object "java/util/function/BiFunction"), accessFlags := 25, slot := 1, constantValue := 0 }, { name := "IOOBE_FORMATTER", type := (.object "java/util/function/BiFunction"), accessFlags := 25, slot := 2, constantValue := 0 }]
  methods := #[k13m0]
  instanceTypes := #[]
  staticTypes := #[(.object "java/util/function/BiFunction"), (.object "java/util/function/BiFunction"), (.object "java/util/function/BiFunction")]
  resolved := Array.replicate 194 none
  statics := some 3 }

def pool14 : Array CpInfo := pool [(9, u "<init>"), (6, .class_ 18), (1, u "java/lang/Object"), (0, u "()V"), (1, .class_ 23), (1, u "jdk/internal/util/ArraysSupport"), (0, u "LOG2_ARRAY_LONG_INDEX_SCALE"), (0, u "I"), (2, u "U"), (0, u "Ljdk/internal/misc/Unsafe;"), (8, u "BIG_ENDIAN"), (0, u "Z"), (8, u "LOG2_BYTE_BIT_SIZE"), (4, u "LOG2_ARRAY_INT_INDEX_SCALE"), (54, u "JLA"), (0, u "Ljdk/internal/access/JavaLangAccess;"), (11, u "LOG2_ARRAY_BOOLEAN_INDEX_SCALE"), (9, u "LOG2_ARRAY_BYTE_INDEX_SCALE"), (5, u "LOG2_ARRAY_CHAR_INDEX_SCALE"), (5, u "LOG2_ARRAY_SHORT_INDEX_SCALE"), (18, u "LOG2_ARRAY_FLOAT_INDEX_SCALE"), (24, u "LOG2_ARRAY_DOUBLE_INDEX_SCALE"), (89, u "T_BOOLEAN"), (2, u "T_CHAR"), (1, u "T_FLOAT"), (1, u "T_DOUBLE"), (1, u "T_BYTE"), (1, u "T_SHORT"), (1, u "T_INT"), (1, u "T_LONG"), (1, u "SOFT_MAX_ARRAY_LENGTH")] 83

def k14m0 : Method := { name := "<init>", desc := "()V", sig := { parameters := [], returnType := none }, accessFlags := 2, code := none }
/-- jdk/internal/util/ArraysSupport -/
def k14 : Class := { plain "jdk/internal/util/ArraysSupport" (some 0) with
  accessFlags := 33
  interfaces := #[]
  cf := some (fileOf pool14 21 #[] #[{ accessFlags := 2, nameIndex := 9, descriptorIndex := 19, attributes := #[] }] 33 16 #[] #[{ accessFlags := 24, nameIndex := 28, descriptorIndex := 29, attributes := #[] }, { accessFlags := 26, nameIndex := 38, descriptorIndex := 39, attributes := #[] }, { accessFlags := 25, nameIndex := 121, descriptorIndex := 25, attributes := #[] }, { accessFlags := 25, nameIndex := 131, descriptorIndex := 25, attributes := #[] }, { accessFlags := 25, nameIndex := 137, descriptorIndex := 25, attributes := #[] }, { accessFlags := 25, nameIndex := 143, descriptorIndex := 25, attributes := #[] }, { accessFlags := 25, nameIndex := 53, descriptorIndex := 25, attributes := #[] }, { accessFlags := 25, nameIndex := 24, descriptorIndex := 25, attributes := #[] }, { accessFlags := 25, nameIndex := 162, descriptorIndex := 25, attributes := #[] }, { accessFlags := 25, nameIndex := 187, descriptorIndex := 25, attributes := #[] }, { accessFlags := 26, nameIndex := 48, descriptorIndex := 25, attributes := #[] }, { accessFlags := 25, nameIndex := 277, descriptorIndex := 25, attributes := #[] }, { accessFlags := 25, nameIndex := 280, descriptorIndex := 25, attributes := #[] }, { accessFlags := 25, nameIndex := 282, descriptorIndex := 25, attributes := #[] }, { accessFlags := 25, nameIndex := 284, descriptorIndex := 25, attributes := #[] }, { accessFlags := 25, nameIndex := 286, descriptorIndex := 25, attributes := #[] }, { accessFlags := 25, nameIndex := 288, descriptorIndex := 25, attributes := #[] }, { accessFlags := 25, nameIndex := 290, descriptorIndex := 25, attributes := #[] }, { accessFlags := 25, nameIndex := 292, descriptorIndex := 25, attributes := #[] }, { accessFlags := 26, nameIndex := 108, descriptorIndex := 109, attributes := #[] }, { accessFlags := 25, nameIndex := 294, descriptorIndex := 25, attributes := #[] }])
  fields := #[{ name := "U", type := (.object "jdk/internal/misc/Unsafe"), accessFlags := 24, slot := 0, constantValue := 0 }, { name := "BIG_ENDIAN", type := .boolean, accessFlags := 26, slot := 1, constantValue := 0 }, { name := "LOG2_ARRAY_BOOLEAN_INDEX_SCALE", type := .int, accessFlags := 25, slot := 2, constantValue := 0 }, { name := "LOG2_ARRAY_BYTE_INDEX_SCALE", type := .int, accessFlags := 25, slot := 3, constantValue := 0 }, { name := "LOG2_ARRAY_CHAR_INDEX_SCALE", type := .int, accessFlags := 25, slot := 4, constantValue := 0 }, { name := "LOG2_ARRAY_SHORT_INDEX_SCALE", type := .int, accessFlags := 25, slot := 5, constantValue := 0 }, { name := "LOG2_ARRAY_INT_INDEX_SCALE", type := .int, accessFlags := 25, slot := 6, constantValue := 0 }, { name := "LOG2_ARRAY_LONG_INDEX_SCALE", type := .int, accessFlags := 25, slot := 7, constantValue := 0 }, { name := "LOG2_ARRAY_FLOAT_INDEX_SCALE", type := .int, accessFlags := 25, slot := 8, constantValue := 0 }, { name := "LOG2_ARRAY_DOUBLE_INDEX_SCALE", type := .int, accessFlags := 25, slot := 9, constantValue := 0 }, { name := "LOG2_BYTE_BIT_SIZE", type := .int, accessFlags := 26, slot := 10, constantValue := 0 }, { name := "T_BOOLEAN", type := .int, accessFlags := 25, slot := 11, constantValue := 0 }, { name := "T_CHAR", type := .int, accessFlags := 25, slot := 12, constantValue := 0 }, { name := "T_FLOAT", type := .int, accessFlags := 25, slot := 13, constantValue := 0 }, { name := "T_DOUBLE", type := .int, accessFlags := 25, slot := 14, constantValue := 0 }, { name := "T_BYTE", type := .int, accessFlags := 25, slot := 15, constantValue := 0 }, { name := "T_SHORT", type := .int, accessFlags := 25, slot := 16, constantValue := 0 }, { name := "T_INT", type := .int, accessFlags := 25, slot := 17, constantValue := 0 }, { name := "T_LONG", type := .int, accessFlags := 25, slot := 18, constantValue := 0 }, { name := "JLA", type := (.object "jdk/internal/access/JavaLangAccess"), accessFlags := 26, slot := 19, constantValue := 0 }, { name := "SOFT_MAX_ARRAY_LENGTH", type := .int, accessFlags := 25, slot := 20, constantValue := 0 }]
  methods := #[k14m0]
  instanceTypes := #[]
  staticTypes := #[(.object "jdk/internal/misc/Unsafe"), .boolean, .int, .int, .int, .int, .int, .int, .int, .int, .int, .int, .int, .int, .int, .int, .int, .int, .int, (.object "jdk/internal/access/JavaLangAccess"), .int]
  resolved := Array.replicate 378 none
  statics := none }

def pool15 : Array CpInfo := pool [(1, u "java/lang/Cloneable"), (0, .class_ 1), (0, u "java/lang/Object"), (0, .class_ 3)] 3

/-- java/lang/Cloneable -/
def k15 : Class := { plain "java/lang/Cloneable" (some 0) with
  accessFlags := 1537
  interfaces := #[]
  cf := some (fileOf pool15 2 #[] #[] 1537 4 #[] #[])
  fields := #[]
  methods := #[]
  instanceTypes := #[]
  staticTypes := #[]
  resolved := Array.replicate 8 none
  statics := none }

/-- the primitive byte -/
def k16 : Class := { plain "byte" none with kind := .primitive 'B', accessFlags := 0x411 }
/-- [B -/
def k17 : Class := { plain "[B" (some 0) with kind := .array 16 .byte, interfaces := #[15, 4], accessFlags := 1041 }

/-- the primitive int -/
def k18 : Class := { plain "int" none with kind := .primitive 'I', accessFlags := 0x411 }
/-- [I -/
def k19 : Class := { plain "[I" (some 0) with kind := .array 18 .int, interfaces := #[15, 4], accessFlags := 1041 }

def heap : Heap := #[{ cls := 6, slots := #[.ref 4, .ref 5, .null], vm := .statics 6 },
  { cls := 8, slots := #[.ref 6], vm := .statics 8 },
  { cls := 11, slots := #[.long 0, .int 1, .null, .int 0, .null, .int 0, .int 0], vm := .statics 11 },
  { cls := 13, slots := #[.null, .null, .null], vm := .statics 13 },
  { cls := 6, slots := #[.null, .int 0, .int 0], vm := .none },
  { cls := 6, slots := #[.null, .int 1, .int 0], vm := .none },
  { cls := 19, slots := #[.int 1, .int 2], vm := .none }]
def classes : Array Class := #[k0, k1, k2, k3, k4, k5, k6, k7, k8, k9, k10, k11, k12, k13, k14, k15, k16, k17, k18, k19]
def interned : List (Array UInt16 × Addr) := []
def slotsUsed : Nat := 22
def theMethod : MethodId := ⟨1, 3⟩
def args0 : Array Value := #[.int 5, .int 7]
def aboutOver (below : List Frame) : State where
  vm := { classes := classes, interned := interned.toArray }
  heap := heap
  slotsUsed := slotsUsed
  threads := #[{ frames := .invoking theMethod args0 :: below }]
def below0 : List Frame := [.native { method := ⟨0, 0⟩, args := #[] }]
def about1 : State := aboutOver below0
def p0 : Program := .bare "" "" ""
def e0 : Env := launch0.env 0 0 0
theorem w_frames : about1.frames = Frame.invoking theMethod args0 :: below0 := rfl
set_option maxRecDepth 65536 in
theorem w_args : argsFit about1.vm theMethod args0 = true := by decide +kernel
set_option maxRecDepth 65536 in
theorem w_heap : heapFits about1 = true := by decide +kernel
set_option maxRecDepth 65536 in
theorem w_runnable : about1.curStatus? = some .runnable := by decide +kernel
set_option maxRecDepth 65536 in
theorem w_alone : about1.alone = true := by decide +kernel
set_option maxRecDepth 65536 in
theorem w_named : about1.methodNamed? x = some theMethod := by decide +kernel
set_option maxRecDepth 65536 in
theorem w_hears : about1.hears theMethod below0 = true := by decide +kernel
set_option maxRecDepth 65536 in
theorem w_ripe : about1.ripe theMethod args0 below0 = true := by decide +kernel
theorem w_running : about1.status = .running := rfl
set_option maxRecDepth 65536 in
theorem w_room : about1.hasRoom e0.platform room_1 = true :=
  launch0.hasRoom_least _ room_1 (by decide +kernel) (by decide +kernel) (by decide +kernel) (by decide +kernel) (by decide +kernel) (by decide +kernel)
theorem allAtoms_all (ts : List Jvm.Cond) (a : Array Jvm.Value) (st : Jvm.State) : (allAtoms ts).before a st = ts.all (fun c => c.before a st) := by
  induction ts with
  | nil => rfl
  | cons c t ih =>
    show (Jvm.Cond.and c (allAtoms t)).before a st = _
    rw [Jvm.Cond.before_and, ih, List.all_cons]
def words1 : List Jvm.Cond := Jvm.Cond.code x code maxLocals ret :: tables_1
/-- a 'code' word, met by the world's own term for the bytes: nothing is compared byte by byte -/
theorem code_word {y : MethodName} {bytes : ByteArray} {mx : Nat} {rt : Option FieldType} {a : Array Value} {s : State} {m : MethodId} {meth : Method} {c : Code} (h1 : s.methodNamed? y = some m) (h2 : s.vm.method? m = some meth) (h3 : meth.code = some c) (h4 : c.code = bytes)
    (h5 : (c.maxLocals == mx && c.exceptionTable.isEmpty && decide (c.maxStack ≤ mostOperands) && decide (meth.sig.returnType = rt) && !meth.locks && decide (parseMethodDescriptor y.desc = some meth.sig)) = true) : (Jvm.Cond.code y bytes mx rt).before a s = true := by
  simp only [Bool.and_eq_true, beq_iff_eq, Bool.not_eq_true', decide_eq_true_eq] at h5
  obtain ⟨⟨⟨⟨⟨g1, g2⟩, g3⟩, g4⟩, g5⟩, g6⟩ := h5
  simp [Cond.before, Cond.holds, Cond.value, h1, h2, h3, h4, g1, g2, g3, g4, g5, g6]
def isCode : Jvm.Cond → Bool
  | .code _ _ _ _ => true
  | _ => false
theorem all_split {L : List Jvm.Cond} {P : Jvm.Cond → Bool} (h1 : L.all (fun c => isCode c || P c) = true) (h2 : ∀ c ∈ L.filter isCode, P c = true) : L.all P = true := by
  refine List.all_eq_true.mpr fun c hc => ?_
  have h := List.all_eq_true.mp h1 c hc
  rcases Bool.eq_false_or_eq_true (isCode c) with hi | hi
  · exact h2 c (List.mem_filter.mpr ⟨hc, hi⟩)
  · simpa [hi] using h
set_option maxRecDepth 65536 in
theorem w_c0 : (Jvm.Cond.code x code maxLocals ret).before args0 about1 = true := code_word (m := ⟨1, 3⟩) (meth := k1m3) (c := k1c3) (by decide +kernel) rfl rfl rfl (by decide +kernel)
set_option maxRecDepth 65536 in
theorem w_c1 : (Jvm.Cond.code ({ cls := "com/example/dosisbog/dosisbog/documents/DosageReaderRootPinLaw", name := "pick", desc := "(I)Lcom/example/dosisbog/dosisbog/core/Vocabulary;" } : Jvm.MethodName) method_2_code (1 : Nat) (Option.some (Jvm.ClassFile.FieldType.object "com/example/dosisbog/dosisbog/core/Vocabulary"))).before args0 about1 = true := code_word (m := ⟨1, 1⟩) (meth := k1m1) (c := k1c1) (by decide +kernel) rfl rfl rfl (by decide +kernel)
set_option maxRecDepth 65536 in
theorem w_c2 : (Jvm.Cond.code ({ cls := "com/example/dosisbog/dosisbog/documents/DosageReader", name := "root", desc := "(Lcom/example/dosisbog/dosisbog/core/Vocabulary;)Ljava/lang/String;" } : Jvm.MethodName) prog_125_method_2_code (1 : Nat) (Option.some (Jvm.ClassFile.FieldType.object "java/lang/String"))).before args0 about1 = true := code_word (m := ⟨7, 1⟩) (meth := k7m1) (c := k7c1) (by decide +kernel) rfl rfl rfl (by decide +kernel)
set_option maxRecDepth 65536 in
theorem w_c3 : (Jvm.Cond.code ({ cls := "java/lang/Enum", name := "ordinal", desc := "()I" } : Jvm.MethodName) jdk_37_method_2_code (1 : Nat) (Option.some Jvm.ClassFile.FieldType.int)).before args0 about1 = true := code_word (m := ⟨5, 0⟩) (meth := k5m0) (c := k5c0) (by decide +kernel) rfl rfl rfl (by decide +kernel)
set_option maxRecDepth 65536 in
theorem w_c4 : (Jvm.Cond.code ({ cls := "com/example/dosisbog/dosisbog/documents/DosageReaderRootPinLaw", name := "expected", desc := "(Lcom/example/dosisbog/dosisbog/core/Vocabulary;)Ljava/lang/String;" } : Jvm.MethodName) method_3_code (1 : Nat) (Option.some (Jvm.ClassFile.FieldType.object "java/lang/String"))).before args0 about1 = true := code_word (m := ⟨1, 2⟩) (meth := k1m2) (c := k1c2) (by decide +kernel) rfl rfl rfl (by decide +kernel)
set_option maxRecDepth 65536 in
theorem w_c5 : (Jvm.Cond.code ({ cls := "java/lang/String", name := "equals", desc := "(Ljava/lang/Object;)Z" } : Jvm.MethodName) jdk_42_method_66_code (3 : Nat) (Option.some Jvm.ClassFile.FieldType.boolean)).before args0 about1 = true := code_word (m := ⟨11, 1⟩) (meth := k11m1) (c := k11c1) (by decide +kernel) rfl rfl rfl (by decide +kernel)
set_option maxRecDepth 65536 in
theorem w_c6 : (Jvm.Cond.code ({ cls := "java/lang/StringLatin1", name := "equals", desc := "([B[B)Z" } : Jvm.MethodName) jdk_43_method_13_code (3 : Nat) (Option.some Jvm.ClassFile.FieldType.boolean)).before args0 about1 = true := code_word (m := ⟨12, 1⟩) (meth := k12m1) (c := k12c1) (by decide +kernel) rfl rfl rfl (by decide +kernel)
def codes1 : List Jvm.Cond := [Jvm.Cond.code x code maxLocals ret, Jvm.Cond.code ({ cls := "com/example/dosisbog/dosisbog/documents/DosageReaderRootPinLaw", name := "pick", desc := "(I)Lcom/example/dosisbog/dosisbog/core/Vocabulary;" } : Jvm.MethodName) method_2_code (1 : Nat) (Option.some (Jvm.ClassFile.FieldType.object "com/example/dosisbog/dosisbog/core/Vocabulary")), Jvm.Cond.code ({ cls := "com/example/dosisbog/dosisbog/documents/DosageReader", name := "root", desc := "(Lcom/example/dosisbog/dosisbog/core/Vocabulary;)Ljava/lang/String;" } : Jvm.MethodName) prog_125_method_2_code (1 : Nat) (Option.some (Jvm.ClassFile.FieldType.object "java/lang/String")), Jvm.Cond.code ({ cls := "java/lang/Enum", name := "ordinal", desc := "()I" } : Jvm.MethodName) jdk_37_method_2_code (1 : Nat) (Option.some Jvm.ClassFile.FieldType.int), Jvm.Cond.code ({ cls := "com/example/dosisbog/dosisbog/documents/DosageReaderRootPinLaw", name := "expected", desc := "(Lcom/example/dosisbog/dosisbog/core/Vocabulary;)Ljava/lang/String;" } : Jvm.MethodName) method_3_code (1 : Nat) (Option.some (Jvm.ClassFile.FieldType.object "java/lang/String")), Jvm.Cond.code ({ cls := "java/lang/String", name := "equals", desc := "(Ljava/lang/Object;)Z" } : Jvm.MethodName) jdk_42_method_66_code (3 : Nat) (Option.some Jvm.ClassFile.FieldType.boolean), Jvm.Cond.code ({ cls := "java/lang/StringLatin1", name := "equals", desc := "([B[B)Z" } : Jvm.MethodName) jdk_43_method_13_code (3 : Nat) (Option.some Jvm.ClassFile.FieldType.boolean)]
set_option maxRecDepth 65536 in
theorem codes_eq : words1.filter isCode = codes1 := rfl
theorem w_codes : ∀ c ∈ words1.filter isCode, c.before args0 about1 = true := by
  rw [codes_eq]
  intro c hc
  simp only [codes1, List.mem_cons, List.not_mem_nil, or_false] at hc
  rcases hc with rfl | rfl | rfl | rfl | rfl | rfl | rfl
  · exact w_c0
  · exact w_c1
  · exact w_c2
  · exact w_c3
  · exact w_c4
  · exact w_c5
  · exact w_c6
set_option maxRecDepth 65536 in
theorem w_t1 : (words1.take 24).all (fun c => isCode c || c.before args0 about1) = true := by decide +kernel
set_option maxRecDepth 65536 in
theorem w_t2 : ((words1.drop 24).take 24).all (fun c => isCode c || c.before args0 about1) = true := by decide +kernel
set_option maxRecDepth 65536 in
theorem w_t3 : ((words1.drop 24).drop 24).all (fun c => isCode c || c.before args0 about1) = true := by decide +kernel
theorem w_tables : (allAtoms (Jvm.Cond.code x code maxLocals ret :: tables_1)).before args0 about1 = true := by
  rw [allAtoms_all]
  show words1.all (fun c => c.before args0 about1) = true
  refine all_split ?_ w_codes
  rw [← List.take_append_drop 24 words1, List.all_append, w_t1, ← List.take_append_drop 24 (words1.drop 24), List.all_append, w_t2, w_t3]
  rfl
set_option maxRecDepth 65536 in
theorem w_rest : rest_1_c.before args0 about1 = true := by decide +kernel
set_option maxRecDepth 65536 in
theorem w_case : (Jvm.Cond.and given_1 narrow_1).before args0 about1 = true := by decide +kernel
set_option maxRecDepth 65536 in
theorem w_consts : constsHeld consts_1 about1 := Jvm.Lit.constsHeldB_iff.mp (by decide +kernel)
theorem w_applies : (headSpec (Jvm.Cond.code x code maxLocals ret :: tables_1) room_1).applies x e0.platform about1 = true :=
  (Spec.applies_iff w_frames).mpr ⟨w_running, w_runnable, w_alone, w_named, w_hears, w_ripe, w_room, w_tables⟩
theorem atStart : AtStart classFile x code maxLocals ret World_1 tables_1 room_1 Calls_1 rest_1 Pre_1 launch0 p0 e0 about1 theMethod args0 below0 :=
  ⟨lists_1, trivial, launch0.admits_env _ _ _, launch0.least_env, fairChoices_fair.cas, fairChoices_fair.clock, w_frames, w_args, w_heap, w_applies, ⟨w_consts, trivial⟩, w_rest, w_case⟩
end start1
theorem witness_1 : WitnessClaimed_1 := ⟨start1.p0, start1.e0, start1.about1, start1.theMethod, start1.args0, start1.below0, start1.atStart⟩
end Jvm.Pilot.@@N@@
