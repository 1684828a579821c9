import JvmDerived
import JvmDerived.Pilot.@@N@@Statement
import JvmDerived.Pilot.@@N@@Code
set_option linter.unusedVariables false
set_option linter.unusedSimpArgs false
@@BLOCK:NumsL.lean.txt@@
namespace Jvm.Pilot.@@N@@
open Jvm Jvm.ClassFile Sem Op Lib Jvm.Free Jvm.Stand Jvm.LawKit Jvm.RoadKit Bundle Jvm.Pilot.@@N@@.Jvm.D
section Own
variable {p : Program} {l : Launch} {e : Env} {R : Room} {s : State} {m : MethodId} {args : Array Value} {below : List Frame} {meth : Method} {c : Code} {T : State} {locs : List Loc} {cells slots : Nat}
/-- the walk from the state t ends as the contract Q says; End: the narrow frame or the wide one -/
def Go (End : State → Outcome → State → List Loc → Nat → Nat → Prop) (p : Program) (e : Env) (below : List Frame) (s : State) (rc rs : Nat) (Q : Option Value → Heap → List Loc → Prop) (t : State) : Prop :=
  ∃ s₂ o, Steps p.tables e below t s₂ ∧ s₂.status = .running ∧ Ended s₂ below o ∧ ∃ v L, o = .returned v ∧ Q v s₂.heap L ∧ End s o s₂ L rc rs
variable {End : State → Outcome → State → List Loc → Nat → Nat → Prop}
theorem go {rc rs : Nat} {Q : Option Value → Heap → List Loc → Prop} {t t' : State} (k : ∀ target, Steps p.tables e below t' target → Steps p.tables e below t target) (h : Go End p e below s rc rs Q t') : Go End p e below s rc rs Q t := by
  obtain ⟨s₂, o, h1, h2⟩ := h
  exact ⟨s₂, o, k _ h1, h2⟩
theorem goT {rc rs : Nat} {Q : Option Value → Heap → List Loc → Prop} {t t' : State} (k : Steps p.tables e below t t') (h : Go End p e below s rc rs Q t') : Go End p e below s rc rs Q t := by
  obtain ⟨s₂, o, h1, h2⟩ := h
  exact ⟨s₂, o, k.trans h1, h2⟩
theorem goRet {rc rs : Nat} {Q : Option Value → Heap → List Loc → Prop} (X : Stand p l e R s m args below meth c T locs cells slots) (hx : p.tables.exec = Jvm.exec) (hlk : meth.locks = false) {pc : Nat} {Ls : Array Slot} {w : Value} {t : FieldType} {i : Instr} {rest : List Value} (hret : meth.sig.returnType = some t) (hn : narrow t w = w)
    (hi : (i = .ireturn ∧ (t = .int ∨ t = .boolean ∨ t = .byte ∨ t = .char ∨ t = .short) ∧ ∃ z, w = .int z) ∨ (i = .lreturn ∧ t = .long ∧ ∃ z, w = .long z) ∨ (i = .dreturn ∧ t = .double ∧ ∃ z, w = .double z) ∨ (i = .freturn ∧ t = .float ∧ ∃ z, w = .float z) ∨ (i = .areturn ∧ t.isReference = true ∧ w.isRef = true))
    (hd : decode c.code pc = .ok (i, 1)) (hc : cells ≤ rc) (hs : slots ≤ rs) (hq : Q (some w) T.heap locs) : Go FrameEnd p e below s rc rs Q (T.setTop (mkF m pc Ls (w :: rest))) := by
  obtain ⟨fs, hr, hrun, hended, hW, hsame⟩ := X.leave (v := some w) (fun h => by rw [hret] at h; cases h) hlk
  refine ⟨_, _, retOut X hx hret hn hi hd hr, hrun, hended, _, _, rfl, ?_, ⟨_, rfl⟩, hW, hsame.mono hc hs⟩
  show Q _ T.heap _
  exact hq
theorem goRet0 {rc rs : Nat} {Q : Option Value → Heap → List Loc → Prop} (X : Stand p l e R s m args below meth c T locs cells slots) (hx : p.tables.exec = Jvm.exec) (hlk : meth.locks = false) {pc : Nat} {Ls : Array Slot} (hret : meth.sig.returnType = none)
    (hd : decode c.code pc = .ok (.return_, 1)) (hc : cells ≤ rc) (hs : slots ≤ rs) (hq : Q none T.heap locs) : Go FrameEnd p e below s rc rs Q (T.setTop (mkF m pc Ls [])) := by
  obtain ⟨fs, hr, hrun, hended, hW, hsame⟩ := X.leave (v := none) (fun _ => rfl) hlk
  refine ⟨_, _, X.returnOut hx hret hd hr, hrun, hended, _, _, rfl, ?_, ⟨_, rfl⟩, hW, hsame.mono hc hs⟩
  show Q _ T.heap _
  exact hq
end Own
section OwnStart
variable {args : Array Value} {s : State} {a : Addr} {t : Term} {C n d : String} {k : Int32}
theorem own_eqI (h : (Cond.eq t (.int k)).value args s none s [] = some true) : t.eval args s none [] s = some (.int k) := by
  cases ht : t.eval args s none [] s with
  | none => simp [Cond.value, ht] at h
  | some x => cases x <;> simp [Cond.value, ht, Term.int_eval] at h ⊢; exact h
theorem own_neI (h : (Cond.not (Cond.eq t (.int k))).value args s none s [] = some true) {x : Int32} (e : t.eval args s none [] s = some (.int x)) : ¬ x = k := fun q => by
  subst q; simp [Cond.value, e, Term.int_eval] at h
theorem own_fI (ev : t.eval args s none [] s = some (.ref a)) (h : (Cond.eq (.field t C n d) (.int k)).value args s none s [] = some true) : Fld s s.heap a C n d (.int k) :=
  Fld.start ((fld_at ev).symm.trans (own_eqI h))
theorem own_fR {b : Addr} (ev : t.eval args s none [] s = some (.ref a)) (h : (Term.field t C n d).eval args s none [] s = some (.ref b)) : Fld s s.heap a C n d (.ref b) :=
  Fld.start ((fld_at ev).symm.trans h)
theorem own_len {c : Cell} {ty : FieldType} (ev : t.eval args s none [] s = some (.ref a)) (A : Arr s s.heap a c ty) (h : (Cond.eq (.length t) (.int k)).value args s none s [] = some true) : c.slots.size < 2 ^ 31 ∧ c.slots.size.toInt32 = k := by
  have e := own_eqI h
  have ha : s.arrayAt? a = some c := IntBox.arrayAt_of A.1 A.2.1 A.2.2
  by_cases hl : c.slots.size < 2 ^ 31
  · rw [len_f ev ha hl] at e; exact ⟨hl, by injection e with e; injection e⟩
  · simp [Term.eval, ev, ha, hl] at e
theorem own_el {c : Cell} {ty : FieldType} {j : Int32} {v : Int32} (ev : t.eval args s none [] s = some (.ref a)) (A : Arr s s.heap a c ty) (h : (Cond.eq (.elem t (.int j)) (.int v)).value args s none s [] = some true) : c.slots[j.toNatClampNeg]? = some (.int v) :=
  (elem_in (own_eqI h) ev (Term.int_eval j) A.1).2
end OwnStart
theorem own_four (x : Int32) : (x &&& 3) = 0 ∨ (x &&& 3) = 1 ∨ (x &&& 3) = 2 ∨ (x &&& 3) = 3 := by
  have h := Jvm.Kit.i32_mask x 3 (k := 2) (by decide) (by decide)
  simp only [← Int32.toInt_inj, show (0 : Int32).toInt = 0 from by decide, show (1 : Int32).toInt = 1 from by decide, show (2 : Int32).toInt = 2 from by decide, show (3 : Int32).toInt = 3 from by decide, h]
  omega
theorem own_255 (x : Int32) : ¬ (255 : Int32) < (x &&& 255) := by
  have h := Jvm.Kit.i32_mask x 255 (k := 8) (by decide) (by decide)
  rw [Int32.lt_iff_toInt_lt, h, show (255 : Int32).toInt = 255 from by decide]; omega
def own_min (a b : Int32) : Int32 := if b < a then b else a
theorem d1_0 : decode jdk_29_method_69_code 0 = .ok (.iload_n 0, 1) := by decide +kernel
theorem d1_1 : decode jdk_29_method_69_code 1 = .ok (.iload_n 1, 1) := by decide +kernel
theorem d1_2 : decode jdk_29_method_69_code 2 = .ok (.if_icmp .gt 7, 3) := by decide +kernel
theorem d1_5 : decode jdk_29_method_69_code 5 = .ok (.iload_n 0, 1) := by decide +kernel
theorem d1_6 : decode jdk_29_method_69_code 6 = .ok (.goto 4, 3) := by decide +kernel
theorem d1_9 : decode jdk_29_method_69_code 9 = .ok (.iload_n 1, 1) := by decide +kernel
theorem d1_10 : decode jdk_29_method_69_code 10 = .ok (.ireturn, 1) := by decide +kernel
theorem ef_1 (m : MethodId) (p1 : Int32) (p2 : Int32) : entryFrame m #[(.int p1), (.int p2)] 2 = mkF m 0 #[.val (.int p1), .val (.int p2)] [] := by first | (simp [entryFrame, mkF, argsToLocals, Value.category]; done) | rfl
def Q1 (Z : State) (p1 : Int32) (p2 : Int32) (h0 : Heap) (n0 : Nat) (v : Option Value) (h : Heap) (L : List Loc) : Prop := v = some (.int (own_min p1 p2)) ∧ Fr n0 L ∧ (h = h0)
set_option maxRecDepth 65536 in
set_option maxHeartbeats 40000000 in
theorem rm1 (l : Launch) (Z : State) (a0 : Array Value) (hw : ∀ d ∈ tables_1, d.before a0 Z = true) (ws : List Jvm.Cond) (p1 : Int32) (p2 : Int32) (h0 : Heap) (n0 : Nat) (Z0 : n0 ≤ h0.size)  :
    MetFree l (⟨"java/lang/Math", "min", "(II)I"⟩ : MethodName) (head1 (Jvm.Cond.code (⟨"java/lang/Math", "min", "(II)I"⟩ : MethodName) jdk_29_method_69_code 2 (some .int) :: ws) ({ frames := 0, cells := 0, slots := 0, locals := 0 } : Room)) (fun a U => a = #[(.int p1), (.int p2)] ∧ Z.Warmed39 U.vm ∧ U.heap = h0) (fun _ _ _ _ _ => True) (fun _ U o U' => ∃ v L, o = .returned v ∧ Q1 Z p1 p2 h0 n0 v U'.heap L ∧ FrameEnd U o U' L ({ frames := 0, cells := 0, slots := 0, locals := 0 } : Room).cells ({ frames := 0, cells := 0, slots := 0, locals := 0 } : Room).slots) := by
  refine MetFree.of_bodySF (Jvm.Free.JP.mathPlain rfl (by decide +kernel)) hisR ?_
  intro p e s m args below meth c s₁ Bd hml0 hP hK
  obtain ⟨rfl, hZ, hh⟩ := hP
  have hx := Bd.exec
  have hby := Bd.bytes
  have hml : c.maxLocals = 2 := hml0
  have hown : s.vm.findClass "java/lang/Math" = some m.cls := findClass_of_methodNamed Bd.named
  have hnm := (name_of_methodNamed Bd.named Bd.method).1
  have X0 : Stand p l e ({ frames := 0, cells := 0, slots := 0, locals := 0 } : Room) s m #[(.int p1), (.int p2)] below meth c s₁ [] 0 0 := Stand.of_body Bd
  have e0 : s₁.heap = h0 := by rw [← hh, Bd.state]; rfl
  have N0 := Fr.nil n0
  have hS0 : s.Since s.vm 0 := (State.WarmedH.refl s).since 0
  show Go FrameEnd p e below s ({ frames := 0, cells := 0, slots := 0, locals := 0 } : Room).cells ({ frames := 0, cells := 0, slots := 0, locals := 0 } : Room).slots (Q1 Z p1 p2 h0 n0) (s₁.setTop (entryFrame m #[(.int p1), (.int p2)] 2))
  refine go (fun _ k => castTop (ef_1 m p1 p2) k) ?_
  show Go _ p e below s _ _ _ (s₁.setTop (mkF m 0 #[.val (.int p1), .val (.int p2)] []))
  refine go (fun _ => XS.iloadN X0.here hx rfl (hb hby d1_0) rfl) ?_
  show Go _ p e below s _ _ _ (s₁.setTop (mkF m 1 #[.val (.int p1), .val (.int p2)] [(.int p1)]))
  refine go (fun _ => XS.iloadN X0.here hx rfl (hb hby d1_1) rfl) ?_
  show Go _ p e below s _ _ _ (s₁.setTop (mkF m 2 #[.val (.int p1), .val (.int p2)] [(.int p2), (.int p1)]))
  by_cases hc2_2 : p2 < p1
  · refine go (fun _ => XS.icmpYes X0.here hx rfl (pc0 := 2) (pc' := 9) rfl (hb hby d1_2) rfl (tlt hc2_2).2.2.1 (by decide) (by decide)) ?_
    show Go _ p e below s _ _ _ (s₁.setTop (mkF m 9 #[.val (.int p1), .val (.int p2)] []))
    refine go (fun _ => XS.iloadN X0.here hx rfl (hb hby d1_9) rfl) ?_
    show Go _ p e below s _ _ _ (s₁.setTop (mkF m 10 #[.val (.int p1), .val (.int p2)] [(.int p2)]))
    refine goRet X0 hx Bd.notSynchronized Bd.returns rfl (Or.inl ⟨rfl, Or.inl rfl, _, rfl⟩) (hb hby d1_10) (by decide) (by decide) (by rw [e0]; refine ⟨(by unfold own_min; rw [if_pos hc2_2]), N0, rfl⟩)
  · refine go (fun _ => XS.icmpNo X0.here hx rfl (hb hby d1_2) rfl (flt hc2_2).2.2.1) ?_
    show Go _ p e below s _ _ _ (s₁.setTop (mkF m 5 #[.val (.int p1), .val (.int p2)] []))
    refine go (fun _ => XS.iloadN X0.here hx rfl (hb hby d1_5) rfl) ?_
    show Go _ p e below s _ _ _ (s₁.setTop (mkF m 6 #[.val (.int p1), .val (.int p2)] [(.int p1)]))
    refine go (fun _ => XS.goto X0.here hx rfl (pc0 := 6) (pc' := 10) rfl (hb hby d1_6) (by decide) (by decide)) ?_
    show Go _ p e below s _ _ _ (s₁.setTop (mkF m 10 #[.val (.int p1), .val (.int p2)] [(.int p1)]))
    refine goRet X0 hx Bd.notSynchronized Bd.returns rfl (Or.inl ⟨rfl, Or.inl rfl, _, rfl⟩) (hb hby d1_10) (by decide) (by decide) (by rw [e0]; refine ⟨(by unfold own_min; rw [if_neg hc2_2]), N0, rfl⟩)
theorem d3_0 : decode jdk_43_method_3_code 0 = .ok (.iload_n 0, 1) := by decide +kernel
theorem d3_1 : decode jdk_43_method_3_code 1 = .ok (.sipush 255, 3) := by decide +kernel
theorem d3_4 : decode jdk_43_method_3_code 4 = .ok (.if_icmp .gt 7, 3) := by decide +kernel
theorem d3_7 : decode jdk_43_method_3_code 7 = .ok (.iconst 1, 1) := by decide +kernel
theorem d3_8 : decode jdk_43_method_3_code 8 = .ok (.goto 4, 3) := by decide +kernel
theorem d3_12 : decode jdk_43_method_3_code 12 = .ok (.ireturn, 1) := by decide +kernel
theorem pn_3 : plainName "java/lang/StringLatin1" = true := by first | (simp [plainName, overriddenIn]; done) | decide +kernel
theorem ef_3 (m : MethodId) (p1 : Int32) : entryFrame m #[(.int p1)] 1 = mkF m 0 #[.val (.int p1)] [] := by first | (simp [entryFrame, mkF, argsToLocals, Value.category]; done) | rfl
def Q3 (Z : State) (p1 : Int32) (h0 : Heap) (n0 : Nat) (v : Option Value) (h : Heap) (L : List Loc) : Prop := v = some (.int (1 : Int32)) ∧ Fr n0 L ∧ (h = h0)
set_option maxRecDepth 65536 in
set_option maxHeartbeats 40000000 in
theorem rm3 (l : Launch) (Z : State) (a0 : Array Value) (hw : ∀ d ∈ tables_1, d.before a0 Z = true) (ws : List Jvm.Cond) (p1 : Int32) (h0 : Heap) (n0 : Nat) (Z0 : n0 ≤ h0.size) (h1 : ¬ (255 : Int32) < p1) :
    MetFree l (⟨"java/lang/StringLatin1", "canEncode", "(C)Z"⟩ : MethodName) (head1 (Jvm.Cond.code (⟨"java/lang/StringLatin1", "canEncode", "(C)Z"⟩ : MethodName) jdk_43_method_3_code 1 (some .boolean) :: ws) ({ frames := 0, cells := 0, slots := 0, locals := 0 } : Room)) (fun a U => a = #[(.int p1)] ∧ Z.Warmed39 U.vm ∧ U.heap = h0) (fun _ _ _ _ _ => True) (fun _ U o U' => ∃ v L, o = .returned v ∧ Q3 Z p1 h0 n0 v U'.heap L ∧ FrameEnd U o U' L ({ frames := 0, cells := 0, slots := 0, locals := 0 } : Room).cells ({ frames := 0, cells := 0, slots := 0, locals := 0 } : Room).slots) := by
  refine MetFree.of_bodySF (plainFor_of_name pn_3) hisR ?_
  intro p e s m args below meth c s₁ Bd hml0 hP hK
  obtain ⟨rfl, hZ, hh⟩ := hP
  have hx := Bd.exec
  have hby := Bd.bytes
  have hml : c.maxLocals = 1 := hml0
  have hown : s.vm.findClass "java/lang/StringLatin1" = some m.cls := findClass_of_methodNamed Bd.named
  have hnm := (name_of_methodNamed Bd.named Bd.method).1
  have X0 : Stand p l e ({ frames := 0, cells := 0, slots := 0, locals := 0 } : Room) s m #[(.int p1)] below meth c s₁ [] 0 0 := Stand.of_body Bd
  have e0 : s₁.heap = h0 := by rw [← hh, Bd.state]; rfl
  have N0 := Fr.nil n0
  have hS0 : s.Since s.vm 0 := (State.WarmedH.refl s).since 0
  show Go FrameEnd p e below s ({ frames := 0, cells := 0, slots := 0, locals := 0 } : Room).cells ({ frames := 0, cells := 0, slots := 0, locals := 0 } : Room).slots (Q3 Z p1 h0 n0) (s₁.setTop (entryFrame m #[(.int p1)] 1))
  refine go (fun _ k => castTop (ef_3 m p1) k) ?_
  show Go _ p e below s _ _ _ (s₁.setTop (mkF m 0 #[.val (.int p1)] []))
  refine go (fun _ => XS.iloadN X0.here hx rfl (hb hby d3_0) rfl) ?_
  show Go _ p e below s _ _ _ (s₁.setTop (mkF m 1 #[.val (.int p1)] [(.int p1)]))
  refine go (fun _ => XS.sipush X0.here hx rfl (hb hby d3_1)) ?_
  show Go _ p e below s _ _ _ (s₁.setTop (mkF m 4 #[.val (.int p1)] [(.int (255 : Int32)), (.int p1)]))
  refine go (fun _ => XS.icmpNo X0.here hx rfl (hb hby d3_4) rfl (flt h1).2.2.1) ?_
  show Go _ p e below s _ _ _ (s₁.setTop (mkF m 7 #[.val (.int p1)] []))
  refine go (fun _ => XS.iconst X0.here hx rfl (hb hby d3_7)) ?_
  show Go _ p e below s _ _ _ (s₁.setTop (mkF m 8 #[.val (.int p1)] [(.int (1 : Int32))]))
  refine go (fun _ => XS.goto X0.here hx rfl (pc0 := 8) (pc' := 12) rfl (hb hby d3_8) (by decide) (by decide)) ?_
  show Go _ p e below s _ _ _ (s₁.setTop (mkF m 12 #[.val (.int p1)] [(.int (1 : Int32))]))
  refine goRet X0 hx Bd.notSynchronized Bd.returns rfl (Or.inl ⟨rfl, Or.inr (Or.inl rfl), _, rfl⟩) (hb hby d3_12) (by decide) (by decide) (by rw [e0]; refine ⟨rfl, N0, rfl⟩)
theorem d4_0 : decode jdk_43_method_46_code 0 = .ok (.iconst 1, 1) := by decide +kernel
theorem d4_1 : decode jdk_43_method_46_code 1 = .ok (.newarray .byte, 2) := by decide +kernel
theorem d4_3 : decode jdk_43_method_46_code 3 = .ok (.dup, 1) := by decide +kernel
theorem d4_4 : decode jdk_43_method_46_code 4 = .ok (.iconst 0, 1) := by decide +kernel
theorem d4_5 : decode jdk_43_method_46_code 5 = .ok (.iload_n 0, 1) := by decide +kernel
theorem d4_6 : decode jdk_43_method_46_code 6 = .ok (.i2b, 1) := by decide +kernel
theorem d4_7 : decode jdk_43_method_46_code 7 = .ok (.bastore, 1) := by decide +kernel
theorem d4_8 : decode jdk_43_method_46_code 8 = .ok (.areturn, 1) := by decide +kernel
theorem pn_4 : plainName "java/lang/StringLatin1" = true := by first | (simp [plainName, overriddenIn]; done) | decide +kernel
theorem ef_4 (m : MethodId) (p1 : Int32) : entryFrame m #[(.int p1)] 1 = mkF m 0 #[.val (.int p1)] [] := by first | (simp [entryFrame, mkF, argsToLocals, Value.category]; done) | rfl
def Q4 (Z : State) (p1 : Int32) (h0 : Heap) (n0 : Nat) (v : Option Value) (h : Heap) (L : List Loc) : Prop := ∃ (b : Addr), v = some (.ref b) ∧ Fr n0 L ∧ (h0.size ≤ b) ∧ (n0 ≤ b) ∧ (Keep h0 h []) ∧ (Exa Z h b "[B")
set_option maxRecDepth 65536 in
set_option maxHeartbeats 40000000 in
theorem rm4 (l : Launch) (Z : State) (a0 : Array Value) (hw : ∀ d ∈ tables_1, d.before a0 Z = true) (ws : List Jvm.Cond) (p1 : Int32) (h0 : Heap) (n0 : Nat) (Z0 : n0 ≤ h0.size)  :
    MetFree l (⟨"java/lang/StringLatin1", "toBytes", "(C)[B"⟩ : MethodName) (head1 (Jvm.Cond.code (⟨"java/lang/StringLatin1", "toBytes", "(C)[B"⟩ : MethodName) jdk_43_method_46_code 1 (some (.array .byte)) :: ws) ({ frames := 0, cells := 1, slots := 1, locals := 0 } : Room)) (fun a U => a = #[(.int p1)] ∧ Z.Warmed39 U.vm ∧ U.heap = h0) (fun _ _ _ _ _ => True) (fun _ U o U' => ∃ v L, o = .returned v ∧ Q4 Z p1 h0 n0 v U'.heap L ∧ FrameEnd U o U' L ({ frames := 0, cells := 1, slots := 1, locals := 0 } : Room).cells ({ frames := 0, cells := 1, slots := 1, locals := 0 } : Room).slots) := by
  refine MetFree.of_bodySF (plainFor_of_name pn_4) hisR ?_
  intro p e s m args below meth c s₁ Bd hml0 hP hK
  obtain ⟨rfl, hZ, hh⟩ := hP
  have hx := Bd.exec
  have hby := Bd.bytes
  have hml : c.maxLocals = 1 := hml0
  have hown : s.vm.findClass "java/lang/StringLatin1" = some m.cls := findClass_of_methodNamed Bd.named
  have hnm := (name_of_methodNamed Bd.named Bd.method).1
  have X0 : Stand p l e ({ frames := 0, cells := 1, slots := 1, locals := 0 } : Room) s m #[(.int p1)] below meth c s₁ [] 0 0 := Stand.of_body Bd
  have e0 : s₁.heap = h0 := by rw [← hh, Bd.state]; rfl
  have N0 := Fr.nil n0
  have hS0 : s.Since s.vm 0 := (State.WarmedH.refl s).since 0
  show Go FrameEnd p e below s ({ frames := 0, cells := 1, slots := 1, locals := 0 } : Room).cells ({ frames := 0, cells := 1, slots := 1, locals := 0 } : Room).slots (Q4 Z p1 h0 n0) (s₁.setTop (entryFrame m #[(.int p1)] 1))
  refine go (fun _ k => castTop (ef_4 m p1) k) ?_
  show Go _ p e below s _ _ _ (s₁.setTop (mkF m 0 #[.val (.int p1)] []))
  refine go (fun _ => XS.iconst X0.here hx rfl (hb hby d4_0)) ?_
  show Go _ p e below s _ _ _ (s₁.setTop (mkF m 1 #[.val (.int p1)] [(.int (1 : Int32))]))
  obtain ⟨T5, h5, k5, X5, e5, E5, A5, AE5, st5⟩ := newPE X0 hx hZ (hw _ (List.mem_of_getElem? (i := 18) rfl)) e0 (g := (mkF m 1 #[.val (.int p1)] [(.int (1 : Int32))])) rfl (hb hby d4_1) rfl (by decide) (cap := 1) (by decide) (by decide) (by decide) (by decide) (ad := "[B") (by first | rfl | decide)
  obtain ⟨b5, g5⟩ : ∃ z, z = h0.size := ⟨_, rfl⟩
  rw [← g5] at A5 AE5 st5
  have G_b5 : n0 ≤ b5 := Nat.le_trans Z0 (Nat.le_of_eq g5.symm)
  have SZ_b5 : h0.size ≤ b5 := Nat.le_trans (Keep.refl h0 []).1 (Nat.le_of_eq g5.symm)
  have KK5 : Keep h0 h5 [] := (Keep.refl h0 []).ext E5
  have ZN5 : n0 ≤ h5.size := Nat.le_trans Z0 E5.1
  have V5 : Arv Z h5 b5 k5 .byte (1 : Int32) [(.int (0 : Int32))] (.int (0 : Int32)) := (Arv.new A5 (by decide)).pad (pad_rep [] (.int (0 : Int32)) 1)
  refine go st5 ?_
  show Go _ p e below s _ _ _ (T5.setTop (mkF m 3 #[.val (.int p1)] [(.ref b5)]))
  refine go (fun _ => XS.dup X5.here hx rfl (hb hby d4_3) rfl rfl) ?_
  show Go _ p e below s _ _ _ (T5.setTop (mkF m 4 #[.val (.int p1)] [(.ref b5), (.ref b5)]))
  refine go (fun _ => XS.iconst X5.here hx rfl (hb hby d4_4)) ?_
  show Go _ p e below s _ _ _ (T5.setTop (mkF m 5 #[.val (.int p1)] [(.int (0 : Int32)), (.ref b5), (.ref b5)]))
  refine go (fun _ => XS.iloadN X5.here hx rfl (hb hby d4_5) rfl) ?_
  show Go _ p e below s _ _ _ (T5.setTop (mkF m 6 #[.val (.int p1)] [(.int p1), (.int (0 : Int32)), (.ref b5), (.ref b5)]))
  refine go (fun _ => XS.i2b X5.here hx rfl (hb hby d4_6) rfl) ?_
  show Go _ p e below s _ _ _ (T5.setTop (mkF m 7 #[.val (.int p1)] [(.int (p1.toInt8.toInt32)), (.int (0 : Int32)), (.ref b5), (.ref b5)]))
  obtain ⟨cl6, Ar6, q6, Sz6, Nz6, Hs6, Gs6⟩ := id V5
  have hin6 : ¬ ((0 : Int32) < 0 ∨ cl6.slots.size ≤ ((0 : Int32)).toNatClampNeg) := inb_of Sz6 ⟨by decide, by decide⟩
  obtain ⟨T6, h6, X6, e6, W6, st6⟩ := stB X5 hx hZ e5 Ar6 (j := (0 : Int32)) hin6 (g := (mkF m 7 #[.val (.int p1)] [(.int (p1.toInt8.toInt32)), (.int (0 : Int32)), (.ref b5), (.ref b5)])) rfl rfl (hb hby d4_7)
  have V6 := Arv.set Ar6 q6 Sz6 Nz6 Hs6 Gs6 (fits_nar_byte _) W6 0 rfl (Nat.le_of_ble_eq_true rfl)
  have VV6 : Arv Z h6 b5 k5 .byte (1 : Int32) [(.int (nar .byte (p1.toInt8.toInt32)))] (.int (0 : Int32)) := V6
  have c6_0 := AE5.wr W6
  have KK6 : Keep h0 h6 [] := KK5.wr W6 (Or.inr SZ_b5)
  have ZN6 : n0 ≤ h6.size := Nat.le_trans ZN5 (Keep.of_wr W6).1
  have NN6 := Fr.snoc X6 N0 G_b5
  refine go st6 ?_
  show Go _ p e below s _ _ _ (T6.setTop (mkF m 8 #[.val (.int p1)] [(.ref b5)]))
  refine goRet X6 hx Bd.notSynchronized Bd.returns rfl (Or.inr (Or.inr (Or.inr (Or.inr ⟨rfl, rfl, rfl⟩)))) (hb hby d4_8) (by decide) (by decide) (by rw [e6]; refine ⟨b5, rfl, NN6, SZ_b5, G_b5, KK6, c6_0⟩)
theorem d5_0 : decode jdk_42_method_151_code 0 = .ok (.aload_n 0, 1) := by decide +kernel
theorem d5_1 : decode jdk_42_method_151_code 1 = .ok (.invokespecial 1, 3) := by decide +kernel
theorem d5_4 : decode jdk_42_method_151_code 4 = .ok (.aload_n 0, 1) := by decide +kernel
theorem d5_5 : decode jdk_42_method_151_code 5 = .ok (.aload_n 1, 1) := by decide +kernel
theorem d5_6 : decode jdk_42_method_151_code 6 = .ok (.putfield 9, 3) := by decide +kernel
theorem d5_9 : decode jdk_42_method_151_code 9 = .ok (.aload_n 0, 1) := by decide +kernel
theorem d5_10 : decode jdk_42_method_151_code 10 = .ok (.iload_n 2, 1) := by decide +kernel
theorem d5_11 : decode jdk_42_method_151_code 11 = .ok (.putfield 15, 3) := by decide +kernel
theorem d5_14 : decode jdk_42_method_151_code 14 = .ok (.return_, 1) := by decide +kernel
theorem pn_5 : plainName "java/lang/String" = true := by first | (simp [plainName, overriddenIn]; done) | decide +kernel
theorem ef_5 (m : MethodId) (a1 : Addr) (a2 : Addr) : entryFrame m #[(.ref a1), (.ref a2), (.int (0 : Int32))] 3 = mkF m 0 #[.val (.ref a1), .val (.ref a2), .val (.int (0 : Int32))] [] := by first | (simp [entryFrame, mkF, argsToLocals, Value.category]; done) | rfl
def Q5 (Z : State) (a1 : Addr) (a2 : Addr) (u1 : Value) (u2 : Value) (h0 : Heap) (n0 : Nat) (v : Option Value) (h : Heap) (L : List Loc) : Prop := v = none ∧ Fr n0 L ∧ (Keep h0 h [a1])
set_option maxRecDepth 65536 in
set_option maxHeartbeats 40000000 in
theorem rm5 (l : Launch) (Z : State) (a0 : Array Value) (hw : ∀ d ∈ tables_1, d.before a0 Z = true) (ws : List Jvm.Cond) (a1 : Addr) (a2 : Addr) (u1 : Value) (u2 : Value) (h0 : Heap) (n0 : Nat) (Z0 : n0 ≤ h0.size) (P0 : Exa Z h0 a1 "java/lang/String") (P1 : Fld Z h0 a1 "java/lang/String" "value" "[B" u1) (P2 : Fld Z h0 a1 "java/lang/String" "coder" "B" u2) (P3 : n0 ≤ a1) :
    MetFree l (⟨"java/lang/String", "<init>", "([BB)V"⟩ : MethodName) (head1 (Jvm.Cond.code (⟨"java/lang/String", "<init>", "([BB)V"⟩ : MethodName) jdk_42_method_151_code 3 none :: ws) ({ frames := 1, cells := 0, slots := 0, locals := 12 } : Room)) (fun a U => a = #[(.ref a1), (.ref a2), (.int (0 : Int32))] ∧ Z.Warmed39 U.vm ∧ U.heap = h0) (fun _ _ _ _ _ => True) (fun _ U o U' => ∃ v L, o = .returned v ∧ Q5 Z a1 a2 u1 u2 h0 n0 v U'.heap L ∧ FrameEnd U o U' L ({ frames := 1, cells := 0, slots := 0, locals := 12 } : Room).cells ({ frames := 1, cells := 0, slots := 0, locals := 12 } : Room).slots) := by
  refine MetFree.of_bodySF (plainFor_of_name pn_5) hisR ?_
  intro p e s m args below meth c s₁ Bd hml0 hP hK
  obtain ⟨rfl, hZ, hh⟩ := hP
  have hx := Bd.exec
  have hby := Bd.bytes
  have hml : c.maxLocals = 3 := hml0
  have hown : s.vm.findClass "java/lang/String" = some m.cls := findClass_of_methodNamed Bd.named
  have hnm := (name_of_methodNamed Bd.named Bd.method).1
  have X0 : Stand p l e ({ frames := 1, cells := 0, slots := 0, locals := 12 } : Room) s m #[(.ref a1), (.ref a2), (.int (0 : Int32))] below meth c s₁ [] 0 0 := Stand.of_body Bd
  have e0 : s₁.heap = h0 := by rw [← hh, Bd.state]; rfl
  have N0 := Fr.nil n0
  have hS0 : s.Since s.vm 0 := (State.WarmedH.refl s).since 0
  show Go FrameEnd p e below s ({ frames := 1, cells := 0, slots := 0, locals := 12 } : Room).cells ({ frames := 1, cells := 0, slots := 0, locals := 12 } : Room).slots (Q5 Z a1 a2 u1 u2 h0 n0) (s₁.setTop (entryFrame m #[(.ref a1), (.ref a2), (.int (0 : Int32))] 3))
  refine go (fun _ k => castTop (ef_5 m a1 a2) k) ?_
  show Go _ p e below s _ _ _ (s₁.setTop (mkF m 0 #[.val (.ref a1), .val (.ref a2), .val (.int (0 : Int32))] []))
  refine go (fun _ => XS.aloadN X0.here hx rfl (hb hby d5_0) rfl rfl) ?_
  show Go _ p e below s _ _ _ (s₁.setTop (mkF m 1 #[.val (.ref a1), .val (.ref a2), .val (.int (0 : Int32))] [(.ref a1)]))
  obtain ⟨T10, X10, e10, st10⟩ := initO X0 hx hZ hown (hw _ (List.mem_of_getElem? (i := 23) rfl)) (hw _ (List.mem_of_getElem? (i := 24) rfl)) (hw _ (List.mem_of_getElem? (i := 25) rfl)) e0 (g := (mkF m 1 #[.val (.ref a1), .val (.ref a2), .val (.int (0 : Int32))] [(.ref a1)])) rfl (by rw [hml]; rfl) rfl (hb hby d5_1) (by decide) (W := 0) (by show 2 * 0 + _ ≤ _; exact Nat.le_of_eq rfl) (by decide)
  refine go st10 ?_
  show Go _ p e below s _ _ _ (T10.setTop (mkF m 4 #[.val (.ref a1), .val (.ref a2), .val (.int (0 : Int32))] []))
  refine go (fun _ => XS.aloadN X10.here hx rfl (hb hby d5_4) rfl rfl) ?_
  show Go _ p e below s _ _ _ (T10.setTop (mkF m 5 #[.val (.ref a1), .val (.ref a2), .val (.int (0 : Int32))] [(.ref a1)]))
  refine go (fun _ => XS.aloadN X10.here hx rfl (hb hby d5_5) rfl rfl) ?_
  show Go _ p e below s _ _ _ (T10.setTop (mkF m 6 #[.val (.ref a1), .val (.ref a2), .val (.int (0 : Int32))] [(.ref a2), (.ref a1)]))
  obtain ⟨T11, h11, X11, e11, W11, st11⟩ := putF X10 hx hZ hown (host := "") (Or.inl (hw _ (List.mem_of_getElem? (i := 26) rfl))) Via.refl e10 P1 P0 (Or.inr ⟨(hw _ (List.mem_of_getElem? (i := 27) rfl)), rfl, hnm⟩) (hw _ (List.mem_of_getElem? (i := 14) rfl)) (ty := (.array .byte)) (by decide) rfl rfl (g := (mkF m 6 #[.val (.ref a1), .val (.ref a2), .val (.int (0 : Int32))] [(.ref a2), (.ref a1)])) rfl rfl (hb hby d5_6)
  have Fw11 := P1.same W11
  have c11_0 := P0.wr W11
  have c11_2 := P2.other W11 (Or.inr (slot_ne (Or.inr (hw _ (List.mem_of_getElem? (i := 29) rfl))) (Or.inr (hw _ (List.mem_of_getElem? (i := 27) rfl))) (by decide) (t := .byte) (t' := (.array .byte)) (by decide) (by decide)))
  have KK11 : Keep h0 h11 [a1] := (Keep.refl h0 [a1]).wr W11 (Or.inl (List.mem_of_getElem? (i := 0) rfl))
  have ZN11 : n0 ≤ h11.size := Nat.le_trans Z0 (Keep.of_wr W11).1
  have NN11 := Fr.snoc X11 N0 P3
  refine go st11 ?_
  show Go _ p e below s _ _ _ (T11.setTop (mkF m 9 #[.val (.ref a1), .val (.ref a2), .val (.int (0 : Int32))] []))
  refine go (fun _ => XS.aloadN X11.here hx rfl (hb hby d5_9) rfl rfl) ?_
  show Go _ p e below s _ _ _ (T11.setTop (mkF m 10 #[.val (.ref a1), .val (.ref a2), .val (.int (0 : Int32))] [(.ref a1)]))
  refine go (fun _ => XS.iloadN X11.here hx rfl (hb hby d5_10) rfl) ?_
  show Go _ p e below s _ _ _ (T11.setTop (mkF m 11 #[.val (.ref a1), .val (.ref a2), .val (.int (0 : Int32))] [(.int (0 : Int32)), (.ref a1)]))
  obtain ⟨T12, h12, X12, e12, W12, st12⟩ := putFN X11 hx hZ hown (hw _ (List.mem_of_getElem? (i := 28) rfl)) Via.refl e11 c11_2 c11_0 (Or.inr ⟨(hw _ (List.mem_of_getElem? (i := 29) rfl)), rfl, hnm⟩) (hw _ (List.mem_of_getElem? (i := 14) rfl)) (ty := .byte) (v' := (.int (0 : Int32))) (by decide) rfl rfl (g := (mkF m 11 #[.val (.ref a1), .val (.ref a2), .val (.int (0 : Int32))] [(.int (0 : Int32)), (.ref a1)])) rfl rfl (hb hby d5_11)
  have Fw12 := c11_2.same W12
  have c12_0 := c11_0.wr W12
  have c12_1 := Fw11.other W12 (Or.inr (slot_ne (Or.inr (hw _ (List.mem_of_getElem? (i := 27) rfl))) (Or.inr (hw _ (List.mem_of_getElem? (i := 29) rfl))) (by decide) (t := (.array .byte)) (t' := .byte) (by decide) (by decide)))
  have KK12 : Keep h0 h12 [a1] := KK11.wr W12 (Or.inl (List.mem_of_getElem? (i := 0) rfl))
  have ZN12 : n0 ≤ h12.size := Nat.le_trans ZN11 (Keep.of_wr W12).1
  have NN12 := Fr.snoc X12 NN11 P3
  refine go st12 ?_
  show Go _ p e below s _ _ _ (T12.setTop (mkF m 14 #[.val (.ref a1), .val (.ref a2), .val (.int (0 : Int32))] []))
  refine goRet0 X12 hx Bd.notSynchronized Bd.returns (hb hby d5_14) (by decide) (by decide) (by rw [e12]; refine ⟨rfl, NN12, KK12⟩)
theorem d2_0 : decode jdk_42_method_139_code 0 = .ok (.getstatic 38, 3) := by decide +kernel
theorem d2_3 : decode jdk_42_method_139_code 3 = .ok (.ifCond .eq 23, 3) := by decide +kernel
theorem d2_6 : decode jdk_42_method_139_code 6 = .ok (.iload_n 0, 1) := by decide +kernel
theorem d2_7 : decode jdk_42_method_139_code 7 = .ok (.invokestatic 1015, 3) := by decide +kernel
theorem d2_10 : decode jdk_42_method_139_code 10 = .ok (.ifCond .eq 16, 3) := by decide +kernel
theorem d2_13 : decode jdk_42_method_139_code 13 = .ok (.new 10, 3) := by decide +kernel
theorem d2_16 : decode jdk_42_method_139_code 16 = .ok (.dup, 1) := by decide +kernel
theorem d2_17 : decode jdk_42_method_139_code 17 = .ok (.iload_n 0, 1) := by decide +kernel
theorem d2_18 : decode jdk_42_method_139_code 18 = .ok (.invokestatic 1018, 3) := by decide +kernel
theorem d2_21 : decode jdk_42_method_139_code 21 = .ok (.iconst 0, 1) := by decide +kernel
theorem d2_22 : decode jdk_42_method_139_code 22 = .ok (.invokespecial 209, 3) := by decide +kernel
theorem d2_25 : decode jdk_42_method_139_code 25 = .ok (.areturn, 1) := by decide +kernel
theorem pn_2 : plainName "java/lang/String" = true := by first | (simp [plainName, overriddenIn]; done) | decide +kernel
theorem pd_2_0 : parseMethodDescriptor "(C)Z" = some ⟨[.char], some .boolean⟩ := by decide +kernel
theorem pd_2_1 : parseMethodDescriptor "(C)[B" = some ⟨[.char], some (.array .byte)⟩ := by decide +kernel
theorem pd_2_2 : parseMethodDescriptor "([BB)V" = some ⟨[(.array .byte), .byte], none⟩ := by decide +kernel
theorem ef_2 (m : MethodId) (p1 : Int32) : entryFrame m #[(.int p1)] 1 = mkF m 0 #[.val (.int p1)] [] := by first | (simp [entryFrame, mkF, argsToLocals, Value.category]; done) | rfl
def Q2 (Z : State) (p1 : Int32) (w0 : Int32) (h0 : Heap) (n0 : Nat) (v : Option Value) (h : Heap) (L : List Loc) : Prop := ∃ (b : Addr), v = some (.ref b) ∧ Fr n0 L ∧ (h0.size ≤ b) ∧ (n0 ≤ b) ∧ (Keep h0 h []) ∧ (Exa Z h b "java/lang/String")
set_option maxRecDepth 65536 in
set_option maxHeartbeats 40000000 in
theorem rm2 (l : Launch) (Z : State) (a0 : Array Value) (hw : ∀ d ∈ tables_1, d.before a0 Z = true) (ws : List Jvm.Cond) (p1 : Int32) (w0 : Int32) (h0 : Heap) (n0 : Nat) (Z0 : n0 ≤ h0.size) (P0 : Sta Z Z.heap "java/lang/String" "COMPACT_STRINGS" "Z" (.int w0)) (P1 : Old Z n0 h0) (hw0 : ¬ w0 = 0) (h1 : ¬ (255 : Int32) < p1) :
    MetFree l (⟨"java/lang/String", "valueOf", "(C)Ljava/lang/String;"⟩ : MethodName) (head1 (Jvm.Cond.code (⟨"java/lang/String", "valueOf", "(C)Ljava/lang/String;"⟩ : MethodName) jdk_42_method_139_code 1 (some (.object "java/lang/String")) :: ws) ({ frames := 2, cells := 2, slots := 5, locals := 27 } : Room)) (fun a U => a = #[(.int p1)] ∧ Z.Warmed39 U.vm ∧ U.heap = h0) (fun _ _ _ _ _ => True) (fun _ U o U' => ∃ v L, o = .returned v ∧ Q2 Z p1 w0 h0 n0 v U'.heap L ∧ FrameEnd U o U' L ({ frames := 2, cells := 2, slots := 5, locals := 27 } : Room).cells ({ frames := 2, cells := 2, slots := 5, locals := 27 } : Room).slots) := by
  refine MetFree.of_bodySF (plainFor_of_name pn_2) hisR ?_
  intro p e s m args below meth c s₁ Bd hml0 hP hK
  obtain ⟨rfl, hZ, hh⟩ := hP
  have hx := Bd.exec
  have hby := Bd.bytes
  have hml : c.maxLocals = 1 := hml0
  have hown : s.vm.findClass "java/lang/String" = some m.cls := findClass_of_methodNamed Bd.named
  have hnm := (name_of_methodNamed Bd.named Bd.method).1
  have X0 : Stand p l e ({ frames := 2, cells := 2, slots := 5, locals := 27 } : Room) s m #[(.int p1)] below meth c s₁ [] 0 0 := Stand.of_body Bd
  have e0 : s₁.heap = h0 := by rw [← hh, Bd.state]; rfl
  have N0 := Fr.nil n0
  have hS0 : s.Since s.vm 0 := (State.WarmedH.refl s).since 0
  show Go FrameEnd p e below s ({ frames := 2, cells := 2, slots := 5, locals := 27 } : Room).cells ({ frames := 2, cells := 2, slots := 5, locals := 27 } : Room).slots (Q2 Z p1 w0 h0 n0) (s₁.setTop (entryFrame m #[(.int p1)] 1))
  refine go (fun _ k => castTop (ef_2 m p1) k) ?_
  show Go _ p e below s _ _ _ (s₁.setTop (mkF m 0 #[.val (.int p1)] []))
  obtain ⟨T18, X18, e18, st18⟩ := getS2 X0 hx hZ hown (host := "") (Or.inl (hw _ (List.mem_of_getElem? (i := 8) rfl))) Via.refl e0 (P0.ext P1.2) (g := (mkF m 0 #[.val (.int p1)] [])) rfl (hb hby d2_0)
  refine go st18 ?_
  show Go _ p e below s _ _ _ (T18.setTop (mkF m 3 #[.val (.int p1)] [(.int w0)]))
  refine go (fun _ => XS.ifNo X18.here hx rfl (hb hby d2_3) rfl ((if0 _ _).trans (feq hw0).1)) ?_
  show Go _ p e below s _ _ _ (T18.setTop (mkF m 6 #[.val (.int p1)] []))
  refine go (fun _ => XS.iloadN X18.here hx rfl (hb hby d2_6) rfl) ?_
  show Go _ p e below s _ _ _ (T18.setTop (mkF m 7 #[.val (.int p1)] [(.int p1)]))
  obtain ⟨_, _, ⟨T19, L19, k19, n19⟩, -, X19, ⟨Lc19, hQ19, l19, y19, z19⟩, st19⟩ := Jvm.LawKit.callS X18 hx (y := (⟨"java/lang/StringLatin1", "canEncode", "(C)Z"⟩ : MethodName)) hown (mvT hZ (hw _ (List.mem_of_getElem? (i := 9) rfl))) (mvT hZ (hw _ (List.mem_of_getElem? (i := 10) rfl))) (mvT hZ (hw _ (List.mem_of_getElem? (i := 11) rfl))) (mvT hZ (hw _ (List.mem_of_getElem? (i := 12) rfl))) (by decide) (backOf (W := 0) (rm3 l Z a0 hw [] p1 h0 n0 Z0 h1) hZ (hw _ (List.mem_of_getElem? (i := 12) rfl)) (hw _ (List.mem_of_getElem? (i := 11) rfl)) (by decide) (by decide)) (g := (mkF m 7 #[.val (.int p1)] [(.int p1)])) rfl (by rw [hml]; rfl) (argsL := [(.int p1)]) (rest := []) (lenOf pd_2_0 rfl) rfl (by show 2 * 0 + _ ≤ _; exact Nat.le_of_eq rfl) (hb hby d2_7) (fun _ _ => ⟨rfl, e18, (by decide : 0 + 0 ≤ _), (by decide : 0 + 0 ≤ _)⟩)
  dsimp only [Pt.U, Pt.locs, Pt.cells, Pt.slots] at X19 l19 y19 z19 st19 hQ19
  subst l19 y19 z19
  obtain ⟨rfl, N19q, e19⟩ := hQ19
  have N19 := Fr.app N0 N19q
  refine go st19 ?_
  show Go _ p e below s _ _ _ (T19.setTop (mkF m 10 #[.val (.int p1)] [(.int (1 : Int32))]))
  refine go (fun _ => XS.ifNo X19.here hx rfl (hb hby d2_10) rfl ((if0 _ _).trans (feq (by decide : ¬ ((1 : Int32) = (0 : Int32)))).1)) ?_
  show Go _ p e below s _ _ _ (T19.setTop (mkF m 13 #[.val (.int p1)] []))
  obtain ⟨T20, h20, X20, e20, E20, A20, D20, -, st20⟩ := newO X19 hx hZ hown (hw _ (List.mem_of_getElem? (i := 13) rfl)) (hw _ (List.mem_of_getElem? (i := 14) rfl)) (hw _ (List.mem_of_getElem? (i := 6) rfl)) e19 (g := (mkF m 13 #[.val (.int p1)] [])) rfl (hb hby d2_13) (by decide) (by decide)
  obtain ⟨b20, g20⟩ : ∃ z, z = h0.size := ⟨_, rfl⟩
  rw [← g20] at A20 D20 st20
  have G_b20 : n0 ≤ b20 := Nat.le_trans Z0 (Nat.le_of_eq g20.symm)
  have SZ_b20 : h0.size ≤ b20 := Nat.le_trans (Keep.refl h0 []).1 (Nat.le_of_eq g20.symm)
  have KK20 : Keep h0 h20 [] := (Keep.refl h0 []).ext E20
  have ZN20 : n0 ≤ h20.size := Nat.le_trans Z0 E20.1
  have OL20 := P1.ext E20
  have F20_27 : Fld Z h20 b20 "java/lang/String" "value" "[B" .null := D20 (Or.inr (hw _ (List.mem_of_getElem? (i := 27) rfl))) (ty := (.array .byte)) (by decide)
  have F20_29 : Fld Z h20 b20 "java/lang/String" "coder" "B" (.int (0 : Int32)) := D20 (Or.inr (hw _ (List.mem_of_getElem? (i := 29) rfl))) (ty := .byte) (by decide)
  refine go st20 ?_
  show Go _ p e below s _ _ _ (T20.setTop (mkF m 16 #[.val (.int p1)] [(.ref b20)]))
  refine go (fun _ => XS.dup X20.here hx rfl (hb hby d2_16) rfl rfl) ?_
  show Go _ p e below s _ _ _ (T20.setTop (mkF m 17 #[.val (.int p1)] [(.ref b20), (.ref b20)]))
  refine go (fun _ => XS.iloadN X20.here hx rfl (hb hby d2_17) rfl) ?_
  show Go _ p e below s _ _ _ (T20.setTop (mkF m 18 #[.val (.int p1)] [(.int p1), (.ref b20), (.ref b20)]))
  obtain ⟨_, _, ⟨T21, L21, k21, n21⟩, -, X21, ⟨Lc21, hQ21, l21, y21, z21⟩, st21⟩ := Jvm.LawKit.callS X20 hx (y := (⟨"java/lang/StringLatin1", "toBytes", "(C)[B"⟩ : MethodName)) hown (mvT hZ (hw _ (List.mem_of_getElem? (i := 15) rfl))) (mvT hZ (hw _ (List.mem_of_getElem? (i := 16) rfl))) (mvT hZ (hw _ (List.mem_of_getElem? (i := 11) rfl))) (mvT hZ (hw _ (List.mem_of_getElem? (i := 17) rfl))) (by decide) (backOf (W := 2) (rm4 l Z a0 hw [] p1 h20 n0 ZN20 ) hZ (hw _ (List.mem_of_getElem? (i := 17) rfl)) (hw _ (List.mem_of_getElem? (i := 11) rfl)) (by decide) (by decide)) (g := (mkF m 18 #[.val (.int p1)] [(.int p1), (.ref b20), (.ref b20)])) rfl (by rw [hml]; rfl) (argsL := [(.int p1)]) (rest := [(.ref b20), (.ref b20)]) (lenOf pd_2_1 rfl) rfl (by show 2 * 0 + _ ≤ _; exact Nat.le_of_eq rfl) (hb hby d2_18) (fun _ _ => ⟨rfl, e20, (by decide : 1 + 1 ≤ _), (by decide : 4 + 1 ≤ _)⟩)
  dsimp only [Pt.U, Pt.locs, Pt.cells, Pt.slots] at X21 l21 y21 z21 st21 hQ21
  subst l21 y21 z21
  obtain ⟨b21, rfl, N21q, u21_0, u21_1, K21, u21_3⟩ := hQ21
  have N21 := Fr.app N19 N21q
  have lt21_b20_b21 : b20 < b21 := Nat.lt_of_lt_of_le A20.lt u21_0
  have G_b21 : n0 ≤ b21 := Nat.le_trans ZN20 u21_0
  have SZ_b21 : h0.size ≤ b21 := Nat.le_trans KK20.1 u21_0
  have c21_1 := A20.keep K21
  have c21_2 := F20_27.keep K21 nin0
  have c21_3 := F20_29.keep K21 nin0
  have KK21 : Keep h0 T21.heap [] := KK20.trans K21 all0
  have ZN21 : n0 ≤ T21.heap.size := Nat.le_trans ZN20 K21.1
  have OL21 := OL20.keep K21 all0
  refine go st21 ?_
  show Go _ p e below s _ _ _ (T21.setTop (mkF m 21 #[.val (.int p1)] [(.ref b21), (.ref b20), (.ref b20)]))
  refine go (fun _ => XS.iconst X21.here hx rfl (hb hby d2_21)) ?_
  show Go _ p e below s _ _ _ (T21.setTop (mkF m 22 #[.val (.int p1)] [(.int (0 : Int32)), (.ref b21), (.ref b20), (.ref b20)]))
  obtain ⟨_, _, ⟨T22, L22, k22, n22⟩, -, X22, ⟨Lc22, hQ22, l22, y22, z22⟩, st22⟩ := X21.specialBack hx (y := (⟨"java/lang/String", "<init>", "([BB)V"⟩ : MethodName)) rfl hown (mvT hZ (hw _ (List.mem_of_getElem? (i := 19) rfl))) (mvT hZ (hw _ (List.mem_of_getElem? (i := 20) rfl))) (mvT hZ (hw _ (List.mem_of_getElem? (i := 22) rfl))) (by decide) (backOf (W := 1) (rm5 l Z a0 hw [] b20 b21 .null (.int (0 : Int32)) (T21.heap) n0 ZN21 c21_1 c21_2 c21_3 G_b20) hZ (hw _ (List.mem_of_getElem? (i := 22) rfl)) (hw _ (List.mem_of_getElem? (i := 6) rfl)) (by decide) (by decide)) (g := (mkF m 22 #[.val (.int p1)] [(.int (0 : Int32)), (.ref b21), (.ref b20), (.ref b20)])) rfl (by rw [hml]; rfl) (Steps.refl _) (a := b20) (argsL := [(.ref b21), (.int (0 : Int32))]) (rest := [(.ref b20)]) (lenOf pd_2_2 rfl) rfl (by show 2 * 0 + _ ≤ _; exact Nat.le_of_eq rfl) (hb hby d2_22) (fun _ _ => ⟨rfl, rfl, (by decide : 2 + 0 ≤ _), (by decide : 5 + 0 ≤ _)⟩)
  dsimp only [Pt.U, Pt.locs, Pt.cells, Pt.slots] at X22 l22 y22 z22 st22 hQ22
  subst l22 y22 z22
  obtain ⟨rfl, N22q, K22⟩ := hQ22
  have N22 := Fr.app N21 N22q
  have c22_1 := c21_1.keep K22
  have c22_2 := u21_3.keep K22
  have KK22 : Keep h0 T22.heap [] := KK21.trans K22 (allS (P := fun x => x ∈ [] ∨ h0.size ≤ x) (Or.inr SZ_b20) all0)
  have ZN22 : n0 ≤ T22.heap.size := Nat.le_trans ZN21 K22.1
  have OL22 := OL21.keep K22 (allS G_b20 all0)
  refine goT st22 ?_
  show Go _ p e below s _ _ _ (T22.setTop (mkF m 25 #[.val (.int p1)] [(.ref b20)]))
  refine goRet X22 hx Bd.notSynchronized Bd.returns rfl (Or.inr (Or.inr (Or.inr (Or.inr ⟨rfl, rfl, rfl⟩)))) (hb hby d2_25) (by decide) (by decide) (by refine ⟨b20, rfl, N22, SZ_b20, G_b20, KK22, c22_1⟩)
theorem d10_0 : decode jdk_42_method_66_code 0 = .ok (.aload_n 0, 1) := by decide +kernel
theorem d10_1 : decode jdk_42_method_66_code 1 = .ok (.aload_n 1, 1) := by decide +kernel
theorem d10_2 : decode jdk_42_method_66_code 2 = .ok (.if_acmp .ne 5, 3) := by decide +kernel
theorem d10_5 : decode jdk_42_method_66_code 5 = .ok (.iconst 1, 1) := by decide +kernel
theorem d10_6 : decode jdk_42_method_66_code 6 = .ok (.ireturn, 1) := by decide +kernel
theorem pn_10 : plainName "java/lang/String" = true := by first | (simp [plainName, overriddenIn]; done) | decide +kernel
theorem ef_10 (m : MethodId) (a1 : Addr) (a2 : Addr) : entryFrame m #[(.ref a1), (.ref a2)] 3 = mkF m 0 #[.val (.ref a1), .val (.ref a2), .unset] [] := by first | (simp [entryFrame, mkF, argsToLocals, Value.category]; done) | rfl
def Q10 (Z : State) (a1 : Addr) (a2 : Addr) (h0 : Heap) (n0 : Nat) (v : Option Value) (h : Heap) (L : List Loc) : Prop := v = some (.int (1 : Int32)) ∧ Fr n0 L ∧ (h = h0)
set_option maxRecDepth 65536 in
set_option maxHeartbeats 40000000 in
theorem rm10 (l : Launch) (Z : State) (a0 : Array Value) (hw : ∀ d ∈ tables_1, d.before a0 Z = true) (ws : List Jvm.Cond) (a1 : Addr) (a2 : Addr) (h0 : Heap) (n0 : Nat) (Z0 : n0 ≤ h0.size) (he : a1 = a2) :
    MetFree l (⟨"java/lang/String", "equals", "(Ljava/lang/Object;)Z"⟩ : MethodName) (head1 (Jvm.Cond.code (⟨"java/lang/String", "equals", "(Ljava/lang/Object;)Z"⟩ : MethodName) jdk_42_method_66_code 3 (some .boolean) :: ws) ({ frames := 0, cells := 0, slots := 0, locals := 0 } : Room)) (fun a U => a = #[(.ref a1), (.ref a2)] ∧ Z.Warmed39 U.vm ∧ U.heap = h0) (fun _ _ _ _ _ => True) (fun _ U o U' => ∃ v L, o = .returned v ∧ Q10 Z a1 a2 h0 n0 v U'.heap L ∧ FrameEnd U o U' L ({ frames := 0, cells := 0, slots := 0, locals := 0 } : Room).cells ({ frames := 0, cells := 0, slots := 0, locals := 0 } : Room).slots) := by
  refine MetFree.of_bodySF (plainFor_of_name pn_10) hisR ?_
  intro p e s m args below meth c s₁ Bd hml0 hP hK
  obtain ⟨rfl, hZ, hh⟩ := hP
  have hx := Bd.exec
  have hby := Bd.bytes
  have hml : c.maxLocals = 3 := hml0
  have hown : s.vm.findClass "java/lang/String" = some m.cls := findClass_of_methodNamed Bd.named
  have hnm := (name_of_methodNamed Bd.named Bd.method).1
  have X0 : Stand p l e ({ frames := 0, cells := 0, slots := 0, locals := 0 } : Room) s m #[(.ref a1), (.ref a2)] below meth c s₁ [] 0 0 := Stand.of_body Bd
  have e0 : s₁.heap = h0 := by rw [← hh, Bd.state]; rfl
  have N0 := Fr.nil n0
  have hS0 : s.Since s.vm 0 := (State.WarmedH.refl s).since 0
  show Go FrameEnd p e below s ({ frames := 0, cells := 0, slots := 0, locals := 0 } : Room).cells ({ frames := 0, cells := 0, slots := 0, locals := 0 } : Room).slots (Q10 Z a1 a2 h0 n0) (s₁.setTop (entryFrame m #[(.ref a1), (.ref a2)] 3))
  refine go (fun _ k => castTop (ef_10 m a1 a2) k) ?_
  show Go _ p e below s _ _ _ (s₁.setTop (mkF m 0 #[.val (.ref a1), .val (.ref a2), .unset] []))
  refine go (fun _ => XS.aloadN X0.here hx rfl (hb hby d10_0) rfl rfl) ?_
  show Go _ p e below s _ _ _ (s₁.setTop (mkF m 1 #[.val (.ref a1), .val (.ref a2), .unset] [(.ref a1)]))
  refine go (fun _ => XS.aloadN X0.here hx rfl (hb hby d10_1) rfl rfl) ?_
  show Go _ p e below s _ _ _ (s₁.setTop (mkF m 2 #[.val (.ref a1), .val (.ref a2), .unset] [(.ref a2), (.ref a1)]))
  refine go (fun _ => Jvm.RoadKit.acmp (g := (mkF m 2 #[.val (.ref a1), .val (.ref a2), .unset] [(.ref a2), (.ref a1)])) X0 hx rfl rfl rfl (pc0 := 2) (pc' := 5) (same := true) rfl (hb hby d10_2) rfl (decide_eq_true (congrArg Value.ref he)) (by decide) (by decide)) ?_
  show Go _ p e below s _ _ _ (s₁.setTop (mkF m 5 #[.val (.ref a1), .val (.ref a2), .unset] []))
  refine go (fun _ => XS.iconst X0.here hx rfl (hb hby d10_5)) ?_
  show Go _ p e below s _ _ _ (s₁.setTop (mkF m 6 #[.val (.ref a1), .val (.ref a2), .unset] [(.int (1 : Int32))]))
  refine goRet X0 hx Bd.notSynchronized Bd.returns rfl (Or.inl ⟨rfl, Or.inr (Or.inl rfl), _, rfl⟩) (hb hby d10_6) (by decide) (by decide) (by rw [e0]; refine ⟨rfl, N0, rfl⟩)
theorem d7_0 : decode prog_16_method_1_code 0 = .ok (.aload_n 0, 1) := by decide +kernel
theorem d7_1 : decode prog_16_method_1_code 1 = .ok (.invokespecial 1, 3) := by decide +kernel
theorem d7_4 : decode prog_16_method_1_code 4 = .ok (.aload_n 0, 1) := by decide +kernel
theorem d7_5 : decode prog_16_method_1_code 5 = .ok (.aload_n 1, 1) := by decide +kernel
theorem d7_6 : decode prog_16_method_1_code 6 = .ok (.invokevirtual 7, 3) := by decide +kernel
theorem d7_9 : decode prog_16_method_1_code 9 = .ok (.checkcast 8, 3) := by decide +kernel
theorem d7_12 : decode prog_16_method_1_code 12 = .ok (.putfield 13, 3) := by decide +kernel
theorem d7_15 : decode prog_16_method_1_code 15 = .ok (.return_, 1) := by decide +kernel
theorem pn_I0 : plainName "com/example/sunder/sunder/cli/Arguments" = true := by first | (simp [plainName, overriddenIn]; done) | decide +kernel
theorem ef_I0 (m : MethodId) (a1 : Addr) (a2 : Addr) : entryFrame m #[(.ref a1), (.ref a2)] 2 = mkF m 0 #[.val (.ref a1), .val (.ref a2)] [] := by first | (simp [entryFrame, mkF, argsToLocals, Value.category]; done) | rfl
def QI0 (Z : State) (a1 : Addr) (a2 : Addr) (k1 : ClassId) (y1 : Value) (h0 : Heap) (n0 : Nat) (v : Option Value) (h : Heap) (L : List Loc) : Prop := ∃ (b : Addr), v = none ∧ Fr n0 L ∧ (h0.size ≤ b) ∧ (n0 ≤ b) ∧ (Keep h0 h [a1]) ∧ (Fld Z h a1 "com/example/sunder/sunder/cli/Arguments" "args" "[Ljava/lang/String;" (.ref b)) ∧ (Fld Z h a1 "com/example/sunder/sunder/cli/Arguments" "next" "I" (.int (0 : Int32))) ∧ (Exa Z h b "[Ljava/lang/String;") ∧ (Arv Z h b k1 (.object "java/lang/String") (0 : Int32) [] .null)
set_option maxRecDepth 65536 in
set_option maxHeartbeats 40000000 in
theorem rmI0 (l : Launch) (Z : State) (a0 : Array Value) (hw : ∀ d ∈ tables_1, d.before a0 Z = true) (ws : List Jvm.Cond) (a1 : Addr) (a2 : Addr) (k1 : ClassId) (y1 : Value) (h0 : Heap) (n0 : Nat) (Z0 : n0 ≤ h0.size) (P0 : Exa Z h0 a1 "com/example/sunder/sunder/cli/Arguments") (P1 : Fld Z h0 a1 "com/example/sunder/sunder/cli/Arguments" "args" "[Ljava/lang/String;" y1) (P2 : Fld Z h0 a1 "com/example/sunder/sunder/cli/Arguments" "next" "I" (.int (0 : Int32))) (P3 : n0 ≤ a1) (P4 : Exa Z h0 a2 "[Ljava/lang/String;") (P5 : Arv Z h0 a2 k1 (.object "java/lang/String") (0 : Int32) [] .null) (P6 : a1 ≠ a2) :
    MetFree l (⟨"com/example/sunder/sunder/cli/Arguments", "<init>", "([Ljava/lang/String;)V"⟩ : MethodName) (head1 (Jvm.Cond.code (⟨"com/example/sunder/sunder/cli/Arguments", "<init>", "([Ljava/lang/String;)V"⟩ : MethodName) prog_16_method_1_code 2 none :: ws) ({ frames := 1, cells := 1, slots := 0, locals := 15 } : Room)) (fun a U => a = #[(.ref a1), (.ref a2)] ∧ Z.Warmed39 U.vm ∧ U.heap = h0) (fun _ _ _ _ _ => True) (fun _ U o U' => ∃ v L, o = .returned v ∧ QI0 Z a1 a2 k1 y1 h0 n0 v U'.heap L ∧ FrameEnd U o U' L ({ frames := 1, cells := 1, slots := 0, locals := 15 } : Room).cells ({ frames := 1, cells := 1, slots := 0, locals := 15 } : Room).slots) := by
  refine MetFree.of_bodySF (plainFor_of_name pn_I0) hisR ?_
  intro p e s m args below meth c s₁ Bd hml0 hP hK
  obtain ⟨rfl, hZ, hh⟩ := hP
  have hx := Bd.exec
  have hby := Bd.bytes
  have hml : c.maxLocals = 2 := hml0
  have hown : s.vm.findClass "com/example/sunder/sunder/cli/Arguments" = some m.cls := findClass_of_methodNamed Bd.named
  have hnm := (name_of_methodNamed Bd.named Bd.method).1
  have X0 : Stand p l e ({ frames := 1, cells := 1, slots := 0, locals := 15 } : Room) s m #[(.ref a1), (.ref a2)] below meth c s₁ [] 0 0 := Stand.of_body Bd
  have e0 : s₁.heap = h0 := by rw [← hh, Bd.state]; rfl
  have N0 := Fr.nil n0
  have hS0 : s.Since s.vm 0 := (State.WarmedH.refl s).since 0
  show Go FrameEnd p e below s ({ frames := 1, cells := 1, slots := 0, locals := 15 } : Room).cells ({ frames := 1, cells := 1, slots := 0, locals := 15 } : Room).slots (QI0 Z a1 a2 k1 y1 h0 n0) (s₁.setTop (entryFrame m #[(.ref a1), (.ref a2)] 2))
  refine go (fun _ k => castTop (ef_I0 m a1 a2) k) ?_
  show Go _ p e below s _ _ _ (s₁.setTop (mkF m 0 #[.val (.ref a1), .val (.ref a2)] []))
  refine go (fun _ => XS.aloadN X0.here hx rfl (hb hby d7_0) rfl rfl) ?_
  show Go _ p e below s _ _ _ (s₁.setTop (mkF m 1 #[.val (.ref a1), .val (.ref a2)] [(.ref a1)]))
  obtain ⟨T27, X27, e27, st27⟩ := initO X0 hx hZ hown (hw _ (List.mem_of_getElem? (i := 38) rfl)) (hw _ (List.mem_of_getElem? (i := 24) rfl)) (hw _ (List.mem_of_getElem? (i := 25) rfl)) e0 (g := (mkF m 1 #[.val (.ref a1), .val (.ref a2)] [(.ref a1)])) rfl (by rw [hml]; rfl) rfl (hb hby d7_1) (by decide) (W := 0) (by show 2 * 0 + _ ≤ _; exact Nat.le_of_eq rfl) (by decide)
  refine go st27 ?_
  show Go _ p e below s _ _ _ (T27.setTop (mkF m 4 #[.val (.ref a1), .val (.ref a2)] []))
  refine go (fun _ => XS.aloadN X27.here hx rfl (hb hby d7_4) rfl rfl) ?_
  show Go _ p e below s _ _ _ (T27.setTop (mkF m 5 #[.val (.ref a1), .val (.ref a2)] [(.ref a1)]))
  refine go (fun _ => XS.aloadN X27.here hx rfl (hb hby d7_5) rfl rfl) ?_
  show Go _ p e below s _ _ _ (T27.setTop (mkF m 6 #[.val (.ref a1), .val (.ref a2)] [(.ref a2), (.ref a1)]))
  obtain ⟨T28, h28, X28, e28, E28, A28, AE28, st28⟩ := cloneH X27 hx hZ (ad := "[Ljava/lang/String;") hown (hw _ (List.mem_of_getElem? (i := 39) rfl)) (hw _ (List.mem_of_getElem? (i := 40) rfl)) (hw _ (List.mem_of_getElem? (i := 44) rfl)) (hw _ (List.mem_of_getElem? (i := 42) rfl)) (hw _ (List.mem_of_getElem? (i := 43) rfl)) (hw _ (List.mem_of_getElem? (i := 45) rfl)) e27 P5.arh P4 (g := (mkF m 6 #[.val (.ref a1), .val (.ref a2)] [(.ref a2), (.ref a1)])) rfl (by rw [hml]; rfl) rfl (hb hby d7_6) (by decide) (W := 1) (cap := 0) (by show 2 * 0 + _ ≤ _; exact Nat.le_of_eq rfl) (by decide) (by decide) (by decide) (by decide)
  obtain ⟨b28, g28⟩ : ∃ z, z = h0.size := ⟨_, rfl⟩
  rw [← g28] at A28 AE28 st28
  have lt28_a1_b28 : a1 < b28 := Nat.lt_of_lt_of_le P0.lt (Nat.le_of_eq g28.symm)
  have lt28_a2_b28 : a2 < b28 := Nat.lt_of_lt_of_le P4.lt (Nat.le_of_eq g28.symm)
  have G_b28 : n0 ≤ b28 := Nat.le_trans Z0 (Nat.le_of_eq g28.symm)
  have SZ_b28 : h0.size ≤ b28 := Nat.le_trans (Keep.refl h0 [a1]).1 (Nat.le_of_eq g28.symm)
  have c28_0 := P0.ext E28
  have c28_1 := P1.ext E28
  have c28_2 := P2.ext E28
  have c28_3 := P4.ext E28
  have c28_4 := P5.ext E28
  have KK28 : Keep h0 h28 [a1] := (Keep.refl h0 [a1]).ext E28
  have ZN28 : n0 ≤ h28.size := Nat.le_trans Z0 E28.1
  have V28 : Arv Z h28 b28 k1 (.object "java/lang/String") (0 : Int32) [] .null := A28
  refine go st28 ?_
  show Go _ p e below s _ _ _ (T28.setTop (mkF m 9 #[.val (.ref a1), .val (.ref a2)] [(.ref b28), (.ref a1)]))
  obtain ⟨T29, X29, e29, st29⟩ := castY X28 hx hZ hown (hw _ (List.mem_of_getElem? (i := 46) rfl)) e28 (Ins.self AE28) (g := (mkF m 9 #[.val (.ref a1), .val (.ref a2)] [(.ref b28), (.ref a1)])) rfl rfl (hb hby d7_9)
  refine go st29 ?_
  show Go _ p e below s _ _ _ (T29.setTop (mkF m 12 #[.val (.ref a1), .val (.ref a2)] [(.ref b28), (.ref a1)]))
  obtain ⟨T30, h30, X30, e30, W30, st30⟩ := putF X29 hx hZ hown (host := "") (Or.inl (hw _ (List.mem_of_getElem? (i := 48) rfl))) Via.refl e29 c28_1 c28_0 (Or.inr ⟨(hw _ (List.mem_of_getElem? (i := 49) rfl)), rfl, hnm⟩) (hw _ (List.mem_of_getElem? (i := 33) rfl)) (ty := (.array (.object "java/lang/String"))) (by decide) rfl rfl (g := (mkF m 12 #[.val (.ref a1), .val (.ref a2)] [(.ref b28), (.ref a1)])) rfl rfl (hb hby d7_12)
  have Fw30 := c28_1.same W30
  have c30_0 := c28_0.wr W30
  have c30_2 := c28_2.other W30 (Or.inr (slot_ne (Or.inl (hw _ (List.mem_of_getElem? (i := 56) rfl))) (Or.inr (hw _ (List.mem_of_getElem? (i := 49) rfl))) (by decide) (t := .int) (t' := (.array (.object "java/lang/String"))) (by decide) (by decide)))
  have c30_3 := c28_3.wr W30
  have c30_4 := c28_4.other W30 (Ne.symm P6)
  have c30_5 := AE28.wr W30
  have c30_6 := V28.other W30 (Ne.symm (Nat.ne_of_lt lt28_a1_b28))
  have KK30 : Keep h0 h30 [a1] := KK28.wr W30 (Or.inl (List.mem_of_getElem? (i := 0) rfl))
  have ZN30 : n0 ≤ h30.size := Nat.le_trans ZN28 (Keep.of_wr W30).1
  have NN30 := Fr.snoc X30 N0 P3
  refine go st30 ?_
  show Go _ p e below s _ _ _ (T30.setTop (mkF m 15 #[.val (.ref a1), .val (.ref a2)] []))
  refine goRet0 X30 hx Bd.notSynchronized Bd.returns (hb hby d7_15) (by decide) (by decide) (by rw [e30]; refine ⟨b28, rfl, NN30, SZ_b28, G_b28, KK30, Fw30, c30_2, c30_5, c30_6⟩)
theorem d8_0 : decode prog_16_method_2_code 0 = .ok (.aload_n 0, 1) := by decide +kernel
theorem d8_1 : decode prog_16_method_2_code 1 = .ok (.getfield 18, 3) := by decide +kernel
theorem d8_4 : decode prog_16_method_2_code 4 = .ok (.aload_n 0, 1) := by decide +kernel
theorem d8_5 : decode prog_16_method_2_code 5 = .ok (.getfield 13, 3) := by decide +kernel
theorem d8_8 : decode prog_16_method_2_code 8 = .ok (.arraylength, 1) := by decide +kernel
theorem d8_9 : decode prog_16_method_2_code 9 = .ok (.if_icmp .ge 7, 3) := by decide +kernel
theorem d8_16 : decode prog_16_method_2_code 16 = .ok (.iconst 0, 1) := by decide +kernel
theorem d8_17 : decode prog_16_method_2_code 17 = .ok (.ireturn, 1) := by decide +kernel
theorem pn_H0_0 : plainName "com/example/sunder/sunder/cli/Arguments" = true := by first | (simp [plainName, overriddenIn]; done) | decide +kernel
theorem ef_H0_0 (m : MethodId) (a1 : Addr) : entryFrame m #[(.ref a1)] 1 = mkF m 0 #[.val (.ref a1)] [] := by first | (simp [entryFrame, mkF, argsToLocals, Value.category]; done) | rfl
def QH0_0 (Z : State) (a1 : Addr) (b : Addr) (k1 : ClassId) (h0 : Heap) (n0 : Nat) (v : Option Value) (h : Heap) (L : List Loc) : Prop := v = some (.int (0 : Int32)) ∧ Fr n0 L ∧ (h = h0)
set_option maxRecDepth 65536 in
set_option maxHeartbeats 40000000 in
theorem rmH0_0 (l : Launch) (Z : State) (a0 : Array Value) (hw : ∀ d ∈ tables_1, d.before a0 Z = true) (ws : List Jvm.Cond) (a1 : Addr) (b : Addr) (k1 : ClassId) (h0 : Heap) (n0 : Nat) (Z0 : n0 ≤ h0.size) (P0 : Fld Z h0 a1 "com/example/sunder/sunder/cli/Arguments" "args" "[Ljava/lang/String;" (.ref b)) (P1 : Fld Z h0 a1 "com/example/sunder/sunder/cli/Arguments" "next" "I" (.int (0 : Int32))) (P2 : Arv Z h0 b k1 (.object "java/lang/String") (0 : Int32) [] .null) :
    MetFree l (⟨"com/example/sunder/sunder/cli/Arguments", "hasNext", "()Z"⟩ : MethodName) (head1 (Jvm.Cond.code (⟨"com/example/sunder/sunder/cli/Arguments", "hasNext", "()Z"⟩ : MethodName) prog_16_method_2_code 1 (some .boolean) :: ws) ({ frames := 0, cells := 0, slots := 0, locals := 0 } : Room)) (fun a U => a = #[(.ref a1)] ∧ Z.Warmed39 U.vm ∧ U.heap = h0) (fun _ _ _ _ _ => True) (fun _ U o U' => ∃ v L, o = .returned v ∧ QH0_0 Z a1 b k1 h0 n0 v U'.heap L ∧ FrameEnd U o U' L ({ frames := 0, cells := 0, slots := 0, locals := 0 } : Room).cells ({ frames := 0, cells := 0, slots := 0, locals := 0 } : Room).slots) := by
  refine MetFree.of_bodySF (plainFor_of_name pn_H0_0) hisR ?_
  intro p e s m args below meth c s₁ Bd hml0 hP hK
  obtain ⟨rfl, hZ, hh⟩ := hP
  have hx := Bd.exec
  have hby := Bd.bytes
  have hml : c.maxLocals = 1 := hml0
  have hown : s.vm.findClass "com/example/sunder/sunder/cli/Arguments" = some m.cls := findClass_of_methodNamed Bd.named
  have hnm := (name_of_methodNamed Bd.named Bd.method).1
  have X0 : Stand p l e ({ frames := 0, cells := 0, slots := 0, locals := 0 } : Room) s m #[(.ref a1)] below meth c s₁ [] 0 0 := Stand.of_body Bd
  have e0 : s₁.heap = h0 := by rw [← hh, Bd.state]; rfl
  have N0 := Fr.nil n0
  have hS0 : s.Since s.vm 0 := (State.WarmedH.refl s).since 0
  show Go FrameEnd p e below s ({ frames := 0, cells := 0, slots := 0, locals := 0 } : Room).cells ({ frames := 0, cells := 0, slots := 0, locals := 0 } : Room).slots (QH0_0 Z a1 b k1 h0 n0) (s₁.setTop (entryFrame m #[(.ref a1)] 1))
  refine go (fun _ k => castTop (ef_H0_0 m a1) k) ?_
  show Go _ p e below s _ _ _ (s₁.setTop (mkF m 0 #[.val (.ref a1)] []))
  refine go (fun _ => XS.aloadN X0.here hx rfl (hb hby d8_0) rfl rfl) ?_
  show Go _ p e below s _ _ _ (s₁.setTop (mkF m 1 #[.val (.ref a1)] [(.ref a1)]))
  obtain ⟨T34, X34, e34, st34⟩ := getF X0 hx hZ hown (host := "") (Or.inl (hw _ (List.mem_of_getElem? (i := 55) rfl))) Via.refl e0 P1 (g := (mkF m 1 #[.val (.ref a1)] [(.ref a1)])) rfl rfl (hb hby d8_1)
  refine go st34 ?_
  show Go _ p e below s _ _ _ (T34.setTop (mkF m 4 #[.val (.ref a1)] [(.int (0 : Int32))]))
  refine go (fun _ => XS.aloadN X34.here hx rfl (hb hby d8_4) rfl rfl) ?_
  show Go _ p e below s _ _ _ (T34.setTop (mkF m 5 #[.val (.ref a1)] [(.ref a1), (.int (0 : Int32))]))
  obtain ⟨T35, X35, e35, st35⟩ := getF X34 hx hZ hown (host := "") (Or.inl (hw _ (List.mem_of_getElem? (i := 48) rfl))) Via.refl e34 P0 (g := (mkF m 5 #[.val (.ref a1)] [(.ref a1), (.int (0 : Int32))])) rfl rfl (hb hby d8_5)
  refine go st35 ?_
  show Go _ p e below s _ _ _ (T35.setTop (mkF m 8 #[.val (.ref a1)] [(.ref b), (.int (0 : Int32))]))
  obtain ⟨cl36, Ar36, -, Sz36, Nz36, -, -⟩ := id P2
  refine go (X35.arraylength hx (by rw [e35]; exact Ar36.1) (State.isArrayOf_alike hZ.alike Ar36.2.1) (g := (mkF m 8 #[.val (.ref a1)] [(.ref b), (.int (0 : Int32))])) rfl rfl (hb hby d8_8)) ?_
  rw [len_of Sz36 Nz36]
  show Go _ p e below s _ _ _ (T35.setTop (mkF m 9 #[.val (.ref a1)] [(.int (0 : Int32)), (.int (0 : Int32))]))
  refine go (fun _ => XS.icmpYes X35.here hx rfl (pc0 := 9) (pc' := 16) rfl (hb hby d8_9) rfl (flt (by decide : ¬ ((0 : Int32) < (0 : Int32)))).2.1 (by decide) (by decide)) ?_
  show Go _ p e below s _ _ _ (T35.setTop (mkF m 16 #[.val (.ref a1)] []))
  refine go (fun _ => XS.iconst X35.here hx rfl (hb hby d8_16)) ?_
  show Go _ p e below s _ _ _ (T35.setTop (mkF m 17 #[.val (.ref a1)] [(.int (0 : Int32))]))
  refine goRet X35 hx Bd.notSynchronized Bd.returns rfl (Or.inl ⟨rfl, Or.inr (Or.inl rfl), _, rfl⟩) (hb hby d8_17) (by decide) (by decide) (by rw [e35]; refine ⟨rfl, N0, rfl⟩)
theorem pn_I1 : plainName "com/example/sunder/sunder/cli/Arguments" = true := by first | (simp [plainName, overriddenIn]; done) | decide +kernel
theorem ef_I1 (m : MethodId) (a1 : Addr) (a2 : Addr) : entryFrame m #[(.ref a1), (.ref a2)] 2 = mkF m 0 #[.val (.ref a1), .val (.ref a2)] [] := by first | (simp [entryFrame, mkF, argsToLocals, Value.category]; done) | rfl
def QI1 (Z : State) (a1 : Addr) (a2 : Addr) (k1 : ClassId) (v0 : Addr) (y1 : Value) (h0 : Heap) (n0 : Nat) (v : Option Value) (h : Heap) (L : List Loc) : Prop := ∃ (b : Addr), v = none ∧ Fr n0 L ∧ (h0.size ≤ b) ∧ (n0 ≤ b) ∧ (Keep h0 h [a1]) ∧ (Fld Z h a1 "com/example/sunder/sunder/cli/Arguments" "args" "[Ljava/lang/String;" (.ref b)) ∧ (Fld Z h a1 "com/example/sunder/sunder/cli/Arguments" "next" "I" (.int (0 : Int32))) ∧ (Exa Z h b "[Ljava/lang/String;") ∧ (Arv Z h b k1 (.object "java/lang/String") (1 : Int32) [(.ref v0)] .null)
set_option maxRecDepth 65536 in
set_option maxHeartbeats 40000000 in
theorem rmI1 (l : Launch) (Z : State) (a0 : Array Value) (hw : ∀ d ∈ tables_1, d.before a0 Z = true) (ws : List Jvm.Cond) (a1 : Addr) (a2 : Addr) (k1 : ClassId) (v0 : Addr) (y1 : Value) (h0 : Heap) (n0 : Nat) (Z0 : n0 ≤ h0.size) (P0 : Exa Z h0 a1 "com/example/sunder/sunder/cli/Arguments") (P1 : Fld Z h0 a1 "com/example/sunder/sunder/cli/Arguments" "args" "[Ljava/lang/String;" y1) (P2 : Fld Z h0 a1 "com/example/sunder/sunder/cli/Arguments" "next" "I" (.int (0 : Int32))) (P3 : n0 ≤ a1) (P4 : Exa Z h0 a2 "[Ljava/lang/String;") (P5 : Arv Z h0 a2 k1 (.object "java/lang/String") (1 : Int32) [(.ref v0)] .null) (P6 : a1 ≠ a2) :
    MetFree l (⟨"com/example/sunder/sunder/cli/Arguments", "<init>", "([Ljava/lang/String;)V"⟩ : MethodName) (head1 (Jvm.Cond.code (⟨"com/example/sunder/sunder/cli/Arguments", "<init>", "([Ljava/lang/String;)V"⟩ : MethodName) prog_16_method_1_code 2 none :: ws) ({ frames := 1, cells := 1, slots := 1, locals := 15 } : Room)) (fun a U => a = #[(.ref a1), (.ref a2)] ∧ Z.Warmed39 U.vm ∧ U.heap = h0) (fun _ _ _ _ _ => True) (fun _ U o U' => ∃ v L, o = .returned v ∧ QI1 Z a1 a2 k1 v0 y1 h0 n0 v U'.heap L ∧ FrameEnd U o U' L ({ frames := 1, cells := 1, slots := 1, locals := 15 } : Room).cells ({ frames := 1, cells := 1, slots := 1, locals := 15 } : Room).slots) := by
  refine MetFree.of_bodySF (plainFor_of_name pn_I1) hisR ?_
  intro p e s m args below meth c s₁ Bd hml0 hP hK
  obtain ⟨rfl, hZ, hh⟩ := hP
  have hx := Bd.exec
  have hby := Bd.bytes
  have hml : c.maxLocals = 2 := hml0
  have hown : s.vm.findClass "com/example/sunder/sunder/cli/Arguments" = some m.cls := findClass_of_methodNamed Bd.named
  have hnm := (name_of_methodNamed Bd.named Bd.method).1
  have X0 : Stand p l e ({ frames := 1, cells := 1, slots := 1, locals := 15 } : Room) s m #[(.ref a1), (.ref a2)] below meth c s₁ [] 0 0 := Stand.of_body Bd
  have e0 : s₁.heap = h0 := by rw [← hh, Bd.state]; rfl
  have N0 := Fr.nil n0
  have hS0 : s.Since s.vm 0 := (State.WarmedH.refl s).since 0
  show Go FrameEnd p e below s ({ frames := 1, cells := 1, slots := 1, locals := 15 } : Room).cells ({ frames := 1, cells := 1, slots := 1, locals := 15 } : Room).slots (QI1 Z a1 a2 k1 v0 y1 h0 n0) (s₁.setTop (entryFrame m #[(.ref a1), (.ref a2)] 2))
  refine go (fun _ k => castTop (ef_I1 m a1 a2) k) ?_
  show Go _ p e below s _ _ _ (s₁.setTop (mkF m 0 #[.val (.ref a1), .val (.ref a2)] []))
  refine go (fun _ => XS.aloadN X0.here hx rfl (hb hby d7_0) rfl rfl) ?_
  show Go _ p e below s _ _ _ (s₁.setTop (mkF m 1 #[.val (.ref a1), .val (.ref a2)] [(.ref a1)]))
  obtain ⟨T41, X41, e41, st41⟩ := initO X0 hx hZ hown (hw _ (List.mem_of_getElem? (i := 38) rfl)) (hw _ (List.mem_of_getElem? (i := 24) rfl)) (hw _ (List.mem_of_getElem? (i := 25) rfl)) e0 (g := (mkF m 1 #[.val (.ref a1), .val (.ref a2)] [(.ref a1)])) rfl (by rw [hml]; rfl) rfl (hb hby d7_1) (by decide) (W := 0) (by show 2 * 0 + _ ≤ _; exact Nat.le_of_eq rfl) (by decide)
  refine go st41 ?_
  show Go _ p e below s _ _ _ (T41.setTop (mkF m 4 #[.val (.ref a1), .val (.ref a2)] []))
  refine go (fun _ => XS.aloadN X41.here hx rfl (hb hby d7_4) rfl rfl) ?_
  show Go _ p e below s _ _ _ (T41.setTop (mkF m 5 #[.val (.ref a1), .val (.ref a2)] [(.ref a1)]))
  refine go (fun _ => XS.aloadN X41.here hx rfl (hb hby d7_5) rfl rfl) ?_
  show Go _ p e below s _ _ _ (T41.setTop (mkF m 6 #[.val (.ref a1), .val (.ref a2)] [(.ref a2), (.ref a1)]))
  obtain ⟨T42, h42, X42, e42, E42, A42, AE42, st42⟩ := cloneH X41 hx hZ (ad := "[Ljava/lang/String;") hown (hw _ (List.mem_of_getElem? (i := 39) rfl)) (hw _ (List.mem_of_getElem? (i := 40) rfl)) (hw _ (List.mem_of_getElem? (i := 44) rfl)) (hw _ (List.mem_of_getElem? (i := 42) rfl)) (hw _ (List.mem_of_getElem? (i := 43) rfl)) (hw _ (List.mem_of_getElem? (i := 45) rfl)) e41 P5.arh P4 (g := (mkF m 6 #[.val (.ref a1), .val (.ref a2)] [(.ref a2), (.ref a1)])) rfl (by rw [hml]; rfl) rfl (hb hby d7_6) (by decide) (W := 1) (cap := 1) (by show 2 * 0 + _ ≤ _; exact Nat.le_of_eq rfl) (by decide) (by decide) (by decide) (by decide)
  obtain ⟨b42, g42⟩ : ∃ z, z = h0.size := ⟨_, rfl⟩
  rw [← g42] at A42 AE42 st42
  have lt42_a1_b42 : a1 < b42 := Nat.lt_of_lt_of_le P0.lt (Nat.le_of_eq g42.symm)
  have lt42_a2_b42 : a2 < b42 := Nat.lt_of_lt_of_le P4.lt (Nat.le_of_eq g42.symm)
  have G_b42 : n0 ≤ b42 := Nat.le_trans Z0 (Nat.le_of_eq g42.symm)
  have SZ_b42 : h0.size ≤ b42 := Nat.le_trans (Keep.refl h0 [a1]).1 (Nat.le_of_eq g42.symm)
  have c42_0 := P0.ext E42
  have c42_1 := P1.ext E42
  have c42_2 := P2.ext E42
  have c42_3 := P4.ext E42
  have c42_4 := P5.ext E42
  have KK42 : Keep h0 h42 [a1] := (Keep.refl h0 [a1]).ext E42
  have ZN42 : n0 ≤ h42.size := Nat.le_trans Z0 E42.1
  have V42 : Arv Z h42 b42 k1 (.object "java/lang/String") (1 : Int32) [(.ref v0)] .null := A42
  refine go st42 ?_
  show Go _ p e below s _ _ _ (T42.setTop (mkF m 9 #[.val (.ref a1), .val (.ref a2)] [(.ref b42), (.ref a1)]))
  obtain ⟨T43, X43, e43, st43⟩ := castY X42 hx hZ hown (hw _ (List.mem_of_getElem? (i := 46) rfl)) e42 (Ins.self AE42) (g := (mkF m 9 #[.val (.ref a1), .val (.ref a2)] [(.ref b42), (.ref a1)])) rfl rfl (hb hby d7_9)
  refine go st43 ?_
  show Go _ p e below s _ _ _ (T43.setTop (mkF m 12 #[.val (.ref a1), .val (.ref a2)] [(.ref b42), (.ref a1)]))
  obtain ⟨T44, h44, X44, e44, W44, st44⟩ := putF X43 hx hZ hown (host := "") (Or.inl (hw _ (List.mem_of_getElem? (i := 48) rfl))) Via.refl e43 c42_1 c42_0 (Or.inr ⟨(hw _ (List.mem_of_getElem? (i := 49) rfl)), rfl, hnm⟩) (hw _ (List.mem_of_getElem? (i := 33) rfl)) (ty := (.array (.object "java/lang/String"))) (by decide) rfl rfl (g := (mkF m 12 #[.val (.ref a1), .val (.ref a2)] [(.ref b42), (.ref a1)])) rfl rfl (hb hby d7_12)
  have Fw44 := c42_1.same W44
  have c44_0 := c42_0.wr W44
  have c44_2 := c42_2.other W44 (Or.inr (slot_ne (Or.inl (hw _ (List.mem_of_getElem? (i := 56) rfl))) (Or.inr (hw _ (List.mem_of_getElem? (i := 49) rfl))) (by decide) (t := .int) (t' := (.array (.object "java/lang/String"))) (by decide) (by decide)))
  have c44_3 := c42_3.wr W44
  have c44_4 := c42_4.other W44 (Ne.symm P6)
  have c44_5 := AE42.wr W44
  have c44_6 := V42.other W44 (Ne.symm (Nat.ne_of_lt lt42_a1_b42))
  have KK44 : Keep h0 h44 [a1] := KK42.wr W44 (Or.inl (List.mem_of_getElem? (i := 0) rfl))
  have ZN44 : n0 ≤ h44.size := Nat.le_trans ZN42 (Keep.of_wr W44).1
  have NN44 := Fr.snoc X44 N0 P3
  refine go st44 ?_
  show Go _ p e below s _ _ _ (T44.setTop (mkF m 15 #[.val (.ref a1), .val (.ref a2)] []))
  refine goRet0 X44 hx Bd.notSynchronized Bd.returns (hb hby d7_15) (by decide) (by decide) (by rw [e44]; refine ⟨b42, rfl, NN44, SZ_b42, G_b42, KK44, Fw44, c44_2, c44_5, c44_6⟩)
theorem d8_12 : decode prog_16_method_2_code 12 = .ok (.iconst 1, 1) := by decide +kernel
theorem d8_13 : decode prog_16_method_2_code 13 = .ok (.goto 4, 3) := by decide +kernel
theorem pn_H1_0 : plainName "com/example/sunder/sunder/cli/Arguments" = true := by first | (simp [plainName, overriddenIn]; done) | decide +kernel
theorem ef_H1_0 (m : MethodId) (a1 : Addr) : entryFrame m #[(.ref a1)] 1 = mkF m 0 #[.val (.ref a1)] [] := by first | (simp [entryFrame, mkF, argsToLocals, Value.category]; done) | rfl
def QH1_0 (Z : State) (a1 : Addr) (b : Addr) (k1 : ClassId) (v0 : Addr) (h0 : Heap) (n0 : Nat) (v : Option Value) (h : Heap) (L : List Loc) : Prop := v = some (.int (1 : Int32)) ∧ Fr n0 L ∧ (h = h0)
set_option maxRecDepth 65536 in
set_option maxHeartbeats 40000000 in
theorem rmH1_0 (l : Launch) (Z : State) (a0 : Array Value) (hw : ∀ d ∈ tables_1, d.before a0 Z = true) (ws : List Jvm.Cond) (a1 : Addr) (b : Addr) (k1 : ClassId) (v0 : Addr) (h0 : Heap) (n0 : Nat) (Z0 : n0 ≤ h0.size) (P0 : Fld Z h0 a1 "com/example/sunder/sunder/cli/Arguments" "args" "[Ljava/lang/String;" (.ref b)) (P1 : Fld Z h0 a1 "com/example/sunder/sunder/cli/Arguments" "next" "I" (.int (0 : Int32))) (P2 : Arv Z h0 b k1 (.object "java/lang/String") (1 : Int32) [(.ref v0)] .null) :
    MetFree l (⟨"com/example/sunder/sunder/cli/Arguments", "hasNext", "()Z"⟩ : MethodName) (head1 (Jvm.Cond.code (⟨"com/example/sunder/sunder/cli/Arguments", "hasNext", "()Z"⟩ : MethodName) prog_16_method_2_code 1 (some .boolean) :: ws) ({ frames := 0, cells := 0, slots := 0, locals := 0 } : Room)) (fun a U => a = #[(.ref a1)] ∧ Z.Warmed39 U.vm ∧ U.heap = h0) (fun _ _ _ _ _ => True) (fun _ U o U' => ∃ v L, o = .returned v ∧ QH1_0 Z a1 b k1 v0 h0 n0 v U'.heap L ∧ FrameEnd U o U' L ({ frames := 0, cells := 0, slots := 0, locals := 0 } : Room).cells ({ frames := 0, cells := 0, slots := 0, locals := 0 } : Room).slots) := by
  refine MetFree.of_bodySF (plainFor_of_name pn_H1_0) hisR ?_
  intro p e s m args below meth c s₁ Bd hml0 hP hK
  obtain ⟨rfl, hZ, hh⟩ := hP
  have hx := Bd.exec
  have hby := Bd.bytes
  have hml : c.maxLocals = 1 := hml0
  have hown : s.vm.findClass "com/example/sunder/sunder/cli/Arguments" = some m.cls := findClass_of_methodNamed Bd.named
  have hnm := (name_of_methodNamed Bd.named Bd.method).1
  have X0 : Stand p l e ({ frames := 0, cells := 0, slots := 0, locals := 0 } : Room) s m #[(.ref a1)] below meth c s₁ [] 0 0 := Stand.of_body Bd
  have e0 : s₁.heap = h0 := by rw [← hh, Bd.state]; rfl
  have N0 := Fr.nil n0
  have hS0 : s.Since s.vm 0 := (State.WarmedH.refl s).since 0
  show Go FrameEnd p e below s ({ frames := 0, cells := 0, slots := 0, locals := 0 } : Room).cells ({ frames := 0, cells := 0, slots := 0, locals := 0 } : Room).slots (QH1_0 Z a1 b k1 v0 h0 n0) (s₁.setTop (entryFrame m #[(.ref a1)] 1))
  refine go (fun _ k => castTop (ef_H1_0 m a1) k) ?_
  show Go _ p e below s _ _ _ (s₁.setTop (mkF m 0 #[.val (.ref a1)] []))
  refine go (fun _ => XS.aloadN X0.here hx rfl (hb hby d8_0) rfl rfl) ?_
  show Go _ p e below s _ _ _ (s₁.setTop (mkF m 1 #[.val (.ref a1)] [(.ref a1)]))
  obtain ⟨T48, X48, e48, st48⟩ := getF X0 hx hZ hown (host := "") (Or.inl (hw _ (List.mem_of_getElem? (i := 55) rfl))) Via.refl e0 P1 (g := (mkF m 1 #[.val (.ref a1)] [(.ref a1)])) rfl rfl (hb hby d8_1)
  refine go st48 ?_
  show Go _ p e below s _ _ _ (T48.setTop (mkF m 4 #[.val (.ref a1)] [(.int (0 : Int32))]))
  refine go (fun _ => XS.aloadN X48.here hx rfl (hb hby d8_4) rfl rfl) ?_
  show Go _ p e below s _ _ _ (T48.setTop (mkF m 5 #[.val (.ref a1)] [(.ref a1), (.int (0 : Int32))]))
  obtain ⟨T49, X49, e49, st49⟩ := getF X48 hx hZ hown (host := "") (Or.inl (hw _ (List.mem_of_getElem? (i := 48) rfl))) Via.refl e48 P0 (g := (mkF m 5 #[.val (.ref a1)] [(.ref a1), (.int (0 : Int32))])) rfl rfl (hb hby d8_5)
  refine go st49 ?_
  show Go _ p e below s _ _ _ (T49.setTop (mkF m 8 #[.val (.ref a1)] [(.ref b), (.int (0 : Int32))]))
  obtain ⟨cl50, Ar50, -, Sz50, Nz50, -, -⟩ := id P2
  refine go (X49.arraylength hx (by rw [e49]; exact Ar50.1) (State.isArrayOf_alike hZ.alike Ar50.2.1) (g := (mkF m 8 #[.val (.ref a1)] [(.ref b), (.int (0 : Int32))])) rfl rfl (hb hby d8_8)) ?_
  rw [len_of Sz50 Nz50]
  show Go _ p e below s _ _ _ (T49.setTop (mkF m 9 #[.val (.ref a1)] [(.int (1 : Int32)), (.int (0 : Int32))]))
  refine go (fun _ => XS.icmpNo X49.here hx rfl (hb hby d8_9) rfl (tlt (by decide : ((0 : Int32) < (1 : Int32)))).2.1) ?_
  show Go _ p e below s _ _ _ (T49.setTop (mkF m 12 #[.val (.ref a1)] []))
  refine go (fun _ => XS.iconst X49.here hx rfl (hb hby d8_12)) ?_
  show Go _ p e below s _ _ _ (T49.setTop (mkF m 13 #[.val (.ref a1)] [(.int (1 : Int32))]))
  refine go (fun _ => XS.goto X49.here hx rfl (pc0 := 13) (pc' := 17) rfl (hb hby d8_13) (by decide) (by decide)) ?_
  show Go _ p e below s _ _ _ (T49.setTop (mkF m 17 #[.val (.ref a1)] [(.int (1 : Int32))]))
  refine goRet X49 hx Bd.notSynchronized Bd.returns rfl (Or.inl ⟨rfl, Or.inr (Or.inl rfl), _, rfl⟩) (hb hby d8_17) (by decide) (by decide) (by rw [e49]; refine ⟨rfl, N0, rfl⟩)
theorem d9_0 : decode prog_16_method_3_code 0 = .ok (.aload_n 0, 1) := by decide +kernel
theorem d9_1 : decode prog_16_method_3_code 1 = .ok (.invokevirtual 22, 3) := by decide +kernel
theorem d9_4 : decode prog_16_method_3_code 4 = .ok (.ifCond .ne 11, 3) := by decide +kernel
theorem d9_15 : decode prog_16_method_3_code 15 = .ok (.aload_n 0, 1) := by decide +kernel
theorem d9_16 : decode prog_16_method_3_code 16 = .ok (.getfield 13, 3) := by decide +kernel
theorem d9_19 : decode prog_16_method_3_code 19 = .ok (.aload_n 0, 1) := by decide +kernel
theorem d9_20 : decode prog_16_method_3_code 20 = .ok (.dup, 1) := by decide +kernel
theorem d9_21 : decode prog_16_method_3_code 21 = .ok (.getfield 18, 3) := by decide +kernel
theorem d9_24 : decode prog_16_method_3_code 24 = .ok (.dup_x1, 1) := by decide +kernel
theorem d9_25 : decode prog_16_method_3_code 25 = .ok (.iconst 1, 1) := by decide +kernel
theorem d9_26 : decode prog_16_method_3_code 26 = .ok (.iadd, 1) := by decide +kernel
theorem d9_27 : decode prog_16_method_3_code 27 = .ok (.putfield 18, 3) := by decide +kernel
theorem d9_30 : decode prog_16_method_3_code 30 = .ok (.aaload, 1) := by decide +kernel
theorem d9_31 : decode prog_16_method_3_code 31 = .ok (.areturn, 1) := by decide +kernel
theorem pn_N1_0 : plainName "com/example/sunder/sunder/cli/Arguments" = true := by first | (simp [plainName, overriddenIn]; done) | decide +kernel
theorem pd_9_0 : parseMethodDescriptor "()Z" = some ⟨[], some .boolean⟩ := by decide +kernel
theorem ef_N1_0 (m : MethodId) (a1 : Addr) : entryFrame m #[(.ref a1)] 1 = mkF m 0 #[.val (.ref a1)] [] := by first | (simp [entryFrame, mkF, argsToLocals, Value.category]; done) | rfl
def QN1_0 (Z : State) (a1 : Addr) (b : Addr) (k1 : ClassId) (v0 : Addr) (h0 : Heap) (n0 : Nat) (v : Option Value) (h : Heap) (L : List Loc) : Prop := v = some (.ref v0) ∧ Fr n0 L ∧ (Keep h0 h [a1]) ∧ (Fld Z h a1 "com/example/sunder/sunder/cli/Arguments" "args" "[Ljava/lang/String;" (.ref b)) ∧ (Fld Z h a1 "com/example/sunder/sunder/cli/Arguments" "next" "I" (.int (1 : Int32)))
set_option maxRecDepth 65536 in
set_option maxHeartbeats 40000000 in
theorem rmN1_0 (l : Launch) (Z : State) (a0 : Array Value) (hw : ∀ d ∈ tables_1, d.before a0 Z = true) (ws : List Jvm.Cond) (a1 : Addr) (b : Addr) (k1 : ClassId) (v0 : Addr) (h0 : Heap) (n0 : Nat) (Z0 : n0 ≤ h0.size) (P0 : Exa Z h0 a1 "com/example/sunder/sunder/cli/Arguments") (P1 : Fld Z h0 a1 "com/example/sunder/sunder/cli/Arguments" "args" "[Ljava/lang/String;" (.ref b)) (P2 : Fld Z h0 a1 "com/example/sunder/sunder/cli/Arguments" "next" "I" (.int (0 : Int32))) (P3 : n0 ≤ a1) (P4 : Arv Z h0 b k1 (.object "java/lang/String") (1 : Int32) [(.ref v0)] .null) (P5 : a1 ≠ b) :
    MetFree l (⟨"com/example/sunder/sunder/cli/Arguments", "next", "()Ljava/lang/String;"⟩ : MethodName) (head1 (Jvm.Cond.code (⟨"com/example/sunder/sunder/cli/Arguments", "next", "()Ljava/lang/String;"⟩ : MethodName) prog_16_method_3_code 1 (some (.object "java/lang/String")) :: ws) ({ frames := 1, cells := 0, slots := 0, locals := 12 } : Room)) (fun a U => a = #[(.ref a1)] ∧ Z.Warmed39 U.vm ∧ U.heap = h0) (fun _ _ _ _ _ => True) (fun _ U o U' => ∃ v L, o = .returned v ∧ QN1_0 Z a1 b k1 v0 h0 n0 v U'.heap L ∧ FrameEnd U o U' L ({ frames := 1, cells := 0, slots := 0, locals := 12 } : Room).cells ({ frames := 1, cells := 0, slots := 0, locals := 12 } : Room).slots) := by
  refine MetFree.of_bodySF (plainFor_of_name pn_N1_0) hisR ?_
  intro p e s m args below meth c s₁ Bd hml0 hP hK
  obtain ⟨rfl, hZ, hh⟩ := hP
  have hx := Bd.exec
  have hby := Bd.bytes
  have hml : c.maxLocals = 1 := hml0
  have hown : s.vm.findClass "com/example/sunder/sunder/cli/Arguments" = some m.cls := findClass_of_methodNamed Bd.named
  have hnm := (name_of_methodNamed Bd.named Bd.method).1
  have X0 : Stand p l e ({ frames := 1, cells := 0, slots := 0, locals := 12 } : Room) s m #[(.ref a1)] below meth c s₁ [] 0 0 := Stand.of_body Bd
  have e0 : s₁.heap = h0 := by rw [← hh, Bd.state]; rfl
  have N0 := Fr.nil n0
  have hS0 : s.Since s.vm 0 := (State.WarmedH.refl s).since 0
  show Go FrameEnd p e below s ({ frames := 1, cells := 0, slots := 0, locals := 12 } : Room).cells ({ frames := 1, cells := 0, slots := 0, locals := 12 } : Room).slots (QN1_0 Z a1 b k1 v0 h0 n0) (s₁.setTop (entryFrame m #[(.ref a1)] 1))
  refine go (fun _ k => castTop (ef_N1_0 m a1) k) ?_
  show Go _ p e below s _ _ _ (s₁.setTop (mkF m 0 #[.val (.ref a1)] []))
  refine go (fun _ => XS.aloadN X0.here hx rfl (hb hby d9_0) rfl rfl) ?_
  show Go _ p e below s _ _ _ (s₁.setTop (mkF m 1 #[.val (.ref a1)] [(.ref a1)]))
  obtain ⟨cq56, kq56, q56a, q56b, q56c⟩ := isOf hZ e0 P0
  obtain ⟨_, _, ⟨T56, L56, k56, n56⟩, -, X56, ⟨Lc56, hQ56, l56, y56, z56⟩, st56⟩ := X0.virtualBack hx (y := (⟨"com/example/sunder/sunder/cli/Arguments", "hasNext", "()Z"⟩ : MethodName)) (z := (⟨"com/example/sunder/sunder/cli/Arguments", "hasNext", "()Z"⟩ : MethodName)) hown (mvT hZ (hw _ (List.mem_of_getElem? (i := 62) rfl))) (mvT hZ (hw _ (List.mem_of_getElem? (i := 51) rfl))) (notFace_of_selects (args := #[]) (mvT hZ (hw _ (List.mem_of_getElem? (i := 53) rfl)))) (mvT hZ (hw _ (List.mem_of_getElem? (i := 53) rfl))) (mvT hZ (hw _ (List.mem_of_getElem? (i := 52) rfl))) (by decide) (backOf (W := 0) (rmH1_0 l Z a0 hw [] a1 b k1 v0 h0 n0 Z0 P1 P2 P4) hZ (hw _ (List.mem_of_getElem? (i := 54) rfl)) (hw _ (List.mem_of_getElem? (i := 34) rfl)) (by decide) (by decide)) q56a q56c (g := (mkF m 1 #[.val (.ref a1)] [(.ref a1)])) rfl (by rw [hml]; rfl) (Steps.refl _) (argsL := []) (rest := []) (lenOf pd_9_0 rfl) rfl (by show 2 * 0 + _ ≤ _; exact Nat.le_of_eq rfl) (hb hby d9_1) (fun _ _ => ⟨rfl, e0, (by decide : 0 + 0 ≤ _), (by decide : 0 + 0 ≤ _)⟩)
  dsimp only [Pt.U, Pt.locs, Pt.cells, Pt.slots] at X56 l56 y56 z56 st56 hQ56
  subst l56 y56 z56
  obtain ⟨rfl, N56q, e56⟩ := hQ56
  have N56 := Fr.app N0 N56q
  refine goT st56 ?_
  show Go _ p e below s _ _ _ (T56.setTop (mkF m 4 #[.val (.ref a1)] [(.int (1 : Int32))]))
  refine go (fun _ => XS.ifYes X56.here hx rfl (pc0 := 4) (pc' := 15) rfl (hb hby d9_4) rfl ((if0 _ _).trans (feq (by decide : ¬ ((1 : Int32) = (0 : Int32)))).2) (by decide) (by decide)) ?_
  show Go _ p e below s _ _ _ (T56.setTop (mkF m 15 #[.val (.ref a1)] []))
  refine go (fun _ => XS.aloadN X56.here hx rfl (hb hby d9_15) rfl rfl) ?_
  show Go _ p e below s _ _ _ (T56.setTop (mkF m 16 #[.val (.ref a1)] [(.ref a1)]))
  obtain ⟨T57, X57, e57, st57⟩ := getF X56 hx hZ hown (host := "") (Or.inl (hw _ (List.mem_of_getElem? (i := 48) rfl))) Via.refl e56 P1 (g := (mkF m 16 #[.val (.ref a1)] [(.ref a1)])) rfl rfl (hb hby d9_16)
  refine go st57 ?_
  show Go _ p e below s _ _ _ (T57.setTop (mkF m 19 #[.val (.ref a1)] [(.ref b)]))
  refine go (fun _ => XS.aloadN X57.here hx rfl (hb hby d9_19) rfl rfl) ?_
  show Go _ p e below s _ _ _ (T57.setTop (mkF m 20 #[.val (.ref a1)] [(.ref a1), (.ref b)]))
  refine go (fun _ => XS.dup X57.here hx rfl (hb hby d9_20) rfl rfl) ?_
  show Go _ p e below s _ _ _ (T57.setTop (mkF m 21 #[.val (.ref a1)] [(.ref a1), (.ref a1), (.ref b)]))
  obtain ⟨T58, X58, e58, st58⟩ := getF X57 hx hZ hown (host := "") (Or.inl (hw _ (List.mem_of_getElem? (i := 55) rfl))) Via.refl e57 P2 (g := (mkF m 21 #[.val (.ref a1)] [(.ref a1), (.ref a1), (.ref b)])) rfl rfl (hb hby d9_21)
  refine go st58 ?_
  show Go _ p e below s _ _ _ (T58.setTop (mkF m 24 #[.val (.ref a1)] [(.int (0 : Int32)), (.ref a1), (.ref b)]))
  refine go (fun _ => XS.dupX1 X58.here hx rfl (hb hby d9_24) rfl rfl rfl) ?_
  show Go _ p e below s _ _ _ (T58.setTop (mkF m 25 #[.val (.ref a1)] [(.int (0 : Int32)), (.ref a1), (.int (0 : Int32)), (.ref b)]))
  refine go (fun _ => XS.iconst X58.here hx rfl (hb hby d9_25)) ?_
  show Go _ p e below s _ _ _ (T58.setTop (mkF m 26 #[.val (.ref a1)] [(.int (1 : Int32)), (.int (0 : Int32)), (.ref a1), (.int (0 : Int32)), (.ref b)]))
  refine go (fun _ => XS.iadd X58.here hx rfl (hb hby d9_26) rfl) ?_
  show Go _ p e below s _ _ _ (T58.setTop (mkF m 27 #[.val (.ref a1)] [(.int (1 : Int32)), (.ref a1), (.int (0 : Int32)), (.ref b)]))
  obtain ⟨T59, h59, X59, e59, W59, st59⟩ := putF X58 hx hZ hown (host := "") (Or.inl (hw _ (List.mem_of_getElem? (i := 55) rfl))) Via.refl e58 P2 P0 (Or.inl (hw _ (List.mem_of_getElem? (i := 56) rfl))) (hw _ (List.mem_of_getElem? (i := 33) rfl)) (ty := .int) (by decide) rfl rfl (g := (mkF m 27 #[.val (.ref a1)] [(.int (1 : Int32)), (.ref a1), (.int (0 : Int32)), (.ref b)])) rfl rfl (hb hby d9_27)
  have Fw59 := P2.same W59
  have c59_0 := P0.wr W59
  have c59_1 := P1.other W59 (Or.inr (slot_ne (Or.inr (hw _ (List.mem_of_getElem? (i := 49) rfl))) (Or.inl (hw _ (List.mem_of_getElem? (i := 56) rfl))) (by decide) (t := (.array (.object "java/lang/String"))) (t' := .int) (by decide) (by decide)))
  have c59_3 := P4.other W59 (Ne.symm P5)
  have KK59 : Keep h0 h59 [a1] := (Keep.refl h0 [a1]).wr W59 (Or.inl (List.mem_of_getElem? (i := 0) rfl))
  have ZN59 : n0 ≤ h59.size := Nat.le_trans Z0 (Keep.of_wr W59).1
  have NN59 := Fr.snoc X59 N56 P3
  refine go st59 ?_
  show Go _ p e below s _ _ _ (T59.setTop (mkF m 30 #[.val (.ref a1)] [(.int (0 : Int32)), (.ref b)]))
  obtain ⟨cl60, Ar60, q60, Sz60, Nz60, Hs60, Gs60⟩ := id c59_3
  have hin60 : ¬ ((0 : Int32) < 0 ∨ cl60.slots.size ≤ ((0 : Int32)).toNatClampNeg) := inb_of Sz60 ⟨by decide, by decide⟩
  refine go (X59.aaload hx (j := (0 : Int32)) (v := (.ref v0)) (by rw [e59]; exact Ar60.1) (State.isArrayOf_alike hZ.alike Ar60.2.1) rfl Ar60.2.2 hin60 (Hs60.at hin60 rfl) (g := (mkF m 30 #[.val (.ref a1)] [(.int (0 : Int32)), (.ref b)])) rfl rfl (hb hby d9_30)) ?_
  show Go _ p e below s _ _ _ (T59.setTop (mkF m 31 #[.val (.ref a1)] [(.ref v0)]))
  refine goRet X59 hx Bd.notSynchronized Bd.returns rfl (Or.inr (Or.inr (Or.inr (Or.inr ⟨rfl, rfl, rfl⟩)))) (hb hby d9_31) (by decide) (by decide) (by rw [e59]; refine ⟨rfl, NN59, KK59, c59_1, Fw59⟩)
theorem pn_H1_1 : plainName "com/example/sunder/sunder/cli/Arguments" = true := by first | (simp [plainName, overriddenIn]; done) | decide +kernel
theorem ef_H1_1 (m : MethodId) (a1 : Addr) : entryFrame m #[(.ref a1)] 1 = mkF m 0 #[.val (.ref a1)] [] := by first | (simp [entryFrame, mkF, argsToLocals, Value.category]; done) | rfl
def QH1_1 (Z : State) (a1 : Addr) (b : Addr) (k1 : ClassId) (v0 : Addr) (h0 : Heap) (n0 : Nat) (v : Option Value) (h : Heap) (L : List Loc) : Prop := v = some (.int (0 : Int32)) ∧ Fr n0 L ∧ (h = h0)
set_option maxRecDepth 65536 in
set_option maxHeartbeats 40000000 in
theorem rmH1_1 (l : Launch) (Z : State) (a0 : Array Value) (hw : ∀ d ∈ tables_1, d.before a0 Z = true) (ws : List Jvm.Cond) (a1 : Addr) (b : Addr) (k1 : ClassId) (v0 : Addr) (h0 : Heap) (n0 : Nat) (Z0 : n0 ≤ h0.size) (P0 : Fld Z h0 a1 "com/example/sunder/sunder/cli/Arguments" "args" "[Ljava/lang/String;" (.ref b)) (P1 : Fld Z h0 a1 "com/example/sunder/sunder/cli/Arguments" "next" "I" (.int (1 : Int32))) (P2 : Arv Z h0 b k1 (.object "java/lang/String") (1 : Int32) [(.ref v0)] .null) :
    MetFree l (⟨"com/example/sunder/sunder/cli/Arguments", "hasNext", "()Z"⟩ : MethodName) (head1 (Jvm.Cond.code (⟨"com/example/sunder/sunder/cli/Arguments", "hasNext", "()Z"⟩ : MethodName) prog_16_method_2_code 1 (some .boolean) :: ws) ({ frames := 0, cells := 0, slots := 0, locals := 0 } : Room)) (fun a U => a = #[(.ref a1)] ∧ Z.Warmed39 U.vm ∧ U.heap = h0) (fun _ _ _ _ _ => True) (fun _ U o U' => ∃ v L, o = .returned v ∧ QH1_1 Z a1 b k1 v0 h0 n0 v U'.heap L ∧ FrameEnd U o U' L ({ frames := 0, cells := 0, slots := 0, locals := 0 } : Room).cells ({ frames := 0, cells := 0, slots := 0, locals := 0 } : Room).slots) := by
  refine MetFree.of_bodySF (plainFor_of_name pn_H1_1) hisR ?_
  intro p e s m args below meth c s₁ Bd hml0 hP hK
  obtain ⟨rfl, hZ, hh⟩ := hP
  have hx := Bd.exec
  have hby := Bd.bytes
  have hml : c.maxLocals = 1 := hml0
  have hown : s.vm.findClass "com/example/sunder/sunder/cli/Arguments" = some m.cls := findClass_of_methodNamed Bd.named
  have hnm := (name_of_methodNamed Bd.named Bd.method).1
  have X0 : Stand p l e ({ frames := 0, cells := 0, slots := 0, locals := 0 } : Room) s m #[(.ref a1)] below meth c s₁ [] 0 0 := Stand.of_body Bd
  have e0 : s₁.heap = h0 := by rw [← hh, Bd.state]; rfl
  have N0 := Fr.nil n0
  have hS0 : s.Since s.vm 0 := (State.WarmedH.refl s).since 0
  show Go FrameEnd p e below s ({ frames := 0, cells := 0, slots := 0, locals := 0 } : Room).cells ({ frames := 0, cells := 0, slots := 0, locals := 0 } : Room).slots (QH1_1 Z a1 b k1 v0 h0 n0) (s₁.setTop (entryFrame m #[(.ref a1)] 1))
  refine go (fun _ k => castTop (ef_H1_1 m a1) k) ?_
  show Go _ p e below s _ _ _ (s₁.setTop (mkF m 0 #[.val (.ref a1)] []))
  refine go (fun _ => XS.aloadN X0.here hx rfl (hb hby d8_0) rfl rfl) ?_
  show Go _ p e below s _ _ _ (s₁.setTop (mkF m 1 #[.val (.ref a1)] [(.ref a1)]))
  obtain ⟨T64, X64, e64, st64⟩ := getF X0 hx hZ hown (host := "") (Or.inl (hw _ (List.mem_of_getElem? (i := 55) rfl))) Via.refl e0 P1 (g := (mkF m 1 #[.val (.ref a1)] [(.ref a1)])) rfl rfl (hb hby d8_1)
  refine go st64 ?_
  show Go _ p e below s _ _ _ (T64.setTop (mkF m 4 #[.val (.ref a1)] [(.int (1 : Int32))]))
  refine go (fun _ => XS.aloadN X64.here hx rfl (hb hby d8_4) rfl rfl) ?_
  show Go _ p e below s _ _ _ (T64.setTop (mkF m 5 #[.val (.ref a1)] [(.ref a1), (.int (1 : Int32))]))
  obtain ⟨T65, X65, e65, st65⟩ := getF X64 hx hZ hown (host := "") (Or.inl (hw _ (List.mem_of_getElem? (i := 48) rfl))) Via.refl e64 P0 (g := (mkF m 5 #[.val (.ref a1)] [(.ref a1), (.int (1 : Int32))])) rfl rfl (hb hby d8_5)
  refine go st65 ?_
  show Go _ p e below s _ _ _ (T65.setTop (mkF m 8 #[.val (.ref a1)] [(.ref b), (.int (1 : Int32))]))
  obtain ⟨cl66, Ar66, -, Sz66, Nz66, -, -⟩ := id P2
  refine go (X65.arraylength hx (by rw [e65]; exact Ar66.1) (State.isArrayOf_alike hZ.alike Ar66.2.1) (g := (mkF m 8 #[.val (.ref a1)] [(.ref b), (.int (1 : Int32))])) rfl rfl (hb hby d8_8)) ?_
  rw [len_of Sz66 Nz66]
  show Go _ p e below s _ _ _ (T65.setTop (mkF m 9 #[.val (.ref a1)] [(.int (1 : Int32)), (.int (1 : Int32))]))
  refine go (fun _ => XS.icmpYes X65.here hx rfl (pc0 := 9) (pc' := 16) rfl (hb hby d8_9) rfl (flt (by decide : ¬ ((1 : Int32) < (1 : Int32)))).2.1 (by decide) (by decide)) ?_
  show Go _ p e below s _ _ _ (T65.setTop (mkF m 16 #[.val (.ref a1)] []))
  refine go (fun _ => XS.iconst X65.here hx rfl (hb hby d8_16)) ?_
  show Go _ p e below s _ _ _ (T65.setTop (mkF m 17 #[.val (.ref a1)] [(.int (0 : Int32))]))
  refine goRet X65 hx Bd.notSynchronized Bd.returns rfl (Or.inl ⟨rfl, Or.inr (Or.inl rfl), _, rfl⟩) (hb hby d8_17) (by decide) (by decide) (by rw [e65]; refine ⟨rfl, N0, rfl⟩)
theorem pn_I2 : plainName "com/example/sunder/sunder/cli/Arguments" = true := by first | (simp [plainName, overriddenIn]; done) | decide +kernel
theorem ef_I2 (m : MethodId) (a1 : Addr) (a2 : Addr) : entryFrame m #[(.ref a1), (.ref a2)] 2 = mkF m 0 #[.val (.ref a1), .val (.ref a2)] [] := by first | (simp [entryFrame, mkF, argsToLocals, Value.category]; done) | rfl
def QI2 (Z : State) (a1 : Addr) (a2 : Addr) (k1 : ClassId) (v0 : Addr) (v1 : Addr) (y1 : Value) (h0 : Heap) (n0 : Nat) (v : Option Value) (h : Heap) (L : List Loc) : Prop := ∃ (b : Addr), v = none ∧ Fr n0 L ∧ (h0.size ≤ b) ∧ (n0 ≤ b) ∧ (Keep h0 h [a1]) ∧ (Fld Z h a1 "com/example/sunder/sunder/cli/Arguments" "args" "[Ljava/lang/String;" (.ref b)) ∧ (Fld Z h a1 "com/example/sunder/sunder/cli/Arguments" "next" "I" (.int (0 : Int32))) ∧ (Exa Z h b "[Ljava/lang/String;") ∧ (Arv Z h b k1 (.object "java/lang/String") (2 : Int32) [(.ref v0), (.ref v1)] .null)
set_option maxRecDepth 65536 in
set_option maxHeartbeats 40000000 in
theorem rmI2 (l : Launch) (Z : State) (a0 : Array Value) (hw : ∀ d ∈ tables_1, d.before a0 Z = true) (ws : List Jvm.Cond) (a1 : Addr) (a2 : Addr) (k1 : ClassId) (v0 : Addr) (v1 : Addr) (y1 : Value) (h0 : Heap) (n0 : Nat) (Z0 : n0 ≤ h0.size) (P0 : Exa Z h0 a1 "com/example/sunder/sunder/cli/Arguments") (P1 : Fld Z h0 a1 "com/example/sunder/sunder/cli/Arguments" "args" "[Ljava/lang/String;" y1) (P2 : Fld Z h0 a1 "com/example/sunder/sunder/cli/Arguments" "next" "I" (.int (0 : Int32))) (P3 : n0 ≤ a1) (P4 : Exa Z h0 a2 "[Ljava/lang/String;") (P5 : Arv Z h0 a2 k1 (.object "java/lang/String") (2 : Int32) [(.ref v0), (.ref v1)] .null) (P6 : a1 ≠ a2) :
    MetFree l (⟨"com/example/sunder/sunder/cli/Arguments", "<init>", "([Ljava/lang/String;)V"⟩ : MethodName) (head1 (Jvm.Cond.code (⟨"com/example/sunder/sunder/cli/Arguments", "<init>", "([Ljava/lang/String;)V"⟩ : MethodName) prog_16_method_1_code 2 none :: ws) ({ frames := 1, cells := 1, slots := 2, locals := 15 } : Room)) (fun a U => a = #[(.ref a1), (.ref a2)] ∧ Z.Warmed39 U.vm ∧ U.heap = h0) (fun _ _ _ _ _ => True) (fun _ U o U' => ∃ v L, o = .returned v ∧ QI2 Z a1 a2 k1 v0 v1 y1 h0 n0 v U'.heap L ∧ FrameEnd U o U' L ({ frames := 1, cells := 1, slots := 2, locals := 15 } : Room).cells ({ frames := 1, cells := 1, slots := 2, locals := 15 } : Room).slots) := by
  refine MetFree.of_bodySF (plainFor_of_name pn_I2) hisR ?_
  intro p e s m args below meth c s₁ Bd hml0 hP hK
  obtain ⟨rfl, hZ, hh⟩ := hP
  have hx := Bd.exec
  have hby := Bd.bytes
  have hml : c.maxLocals = 2 := hml0
  have hown : s.vm.findClass "com/example/sunder/sunder/cli/Arguments" = some m.cls := findClass_of_methodNamed Bd.named
  have hnm := (name_of_methodNamed Bd.named Bd.method).1
  have X0 : Stand p l e ({ frames := 1, cells := 1, slots := 2, locals := 15 } : Room) s m #[(.ref a1), (.ref a2)] below meth c s₁ [] 0 0 := Stand.of_body Bd
  have e0 : s₁.heap = h0 := by rw [← hh, Bd.state]; rfl
  have N0 := Fr.nil n0
  have hS0 : s.Since s.vm 0 := (State.WarmedH.refl s).since 0
  show Go FrameEnd p e below s ({ frames := 1, cells := 1, slots := 2, locals := 15 } : Room).cells ({ frames := 1, cells := 1, slots := 2, locals := 15 } : Room).slots (QI2 Z a1 a2 k1 v0 v1 y1 h0 n0) (s₁.setTop (entryFrame m #[(.ref a1), (.ref a2)] 2))
  refine go (fun _ k => castTop (ef_I2 m a1 a2) k) ?_
  show Go _ p e below s _ _ _ (s₁.setTop (mkF m 0 #[.val (.ref a1), .val (.ref a2)] []))
  refine go (fun _ => XS.aloadN X0.here hx rfl (hb hby d7_0) rfl rfl) ?_
  show Go _ p e below s _ _ _ (s₁.setTop (mkF m 1 #[.val (.ref a1), .val (.ref a2)] [(.ref a1)]))
  obtain ⟨T71, X71, e71, st71⟩ := initO X0 hx hZ hown (hw _ (List.mem_of_getElem? (i := 38) rfl)) (hw _ (List.mem_of_getElem? (i := 24) rfl)) (hw _ (List.mem_of_getElem? (i := 25) rfl)) e0 (g := (mkF m 1 #[.val (.ref a1), .val (.ref a2)] [(.ref a1)])) rfl (by rw [hml]; rfl) rfl (hb hby d7_1) (by decide) (W := 0) (by show 2 * 0 + _ ≤ _; exact Nat.le_of_eq rfl) (by decide)
  refine go st71 ?_
  show Go _ p e below s _ _ _ (T71.setTop (mkF m 4 #[.val (.ref a1), .val (.ref a2)] []))
  refine go (fun _ => XS.aloadN X71.here hx rfl (hb hby d7_4) rfl rfl) ?_
  show Go _ p e below s _ _ _ (T71.setTop (mkF m 5 #[.val (.ref a1), .val (.ref a2)] [(.ref a1)]))
  refine go (fun _ => XS.aloadN X71.here hx rfl (hb hby d7_5) rfl rfl) ?_
  show Go _ p e below s _ _ _ (T71.setTop (mkF m 6 #[.val (.ref a1), .val (.ref a2)] [(.ref a2), (.ref a1)]))
  obtain ⟨T72, h72, X72, e72, E72, A72, AE72, st72⟩ := cloneH X71 hx hZ (ad := "[Ljava/lang/String;") hown (hw _ (List.mem_of_getElem? (i := 39) rfl)) (hw _ (List.mem_of_getElem? (i := 40) rfl)) (hw _ (List.mem_of_getElem? (i := 44) rfl)) (hw _ (List.mem_of_getElem? (i := 42) rfl)) (hw _ (List.mem_of_getElem? (i := 43) rfl)) (hw _ (List.mem_of_getElem? (i := 45) rfl)) e71 P5.arh P4 (g := (mkF m 6 #[.val (.ref a1), .val (.ref a2)] [(.ref a2), (.ref a1)])) rfl (by rw [hml]; rfl) rfl (hb hby d7_6) (by decide) (W := 1) (cap := 2) (by show 2 * 0 + _ ≤ _; exact Nat.le_of_eq rfl) (by decide) (by decide) (by decide) (by decide)
  obtain ⟨b72, g72⟩ : ∃ z, z = h0.size := ⟨_, rfl⟩
  rw [← g72] at A72 AE72 st72
  have lt72_a1_b72 : a1 < b72 := Nat.lt_of_lt_of_le P0.lt (Nat.le_of_eq g72.symm)
  have lt72_a2_b72 : a2 < b72 := Nat.lt_of_lt_of_le P4.lt (Nat.le_of_eq g72.symm)
  have G_b72 : n0 ≤ b72 := Nat.le_trans Z0 (Nat.le_of_eq g72.symm)
  have SZ_b72 : h0.size ≤ b72 := Nat.le_trans (Keep.refl h0 [a1]).1 (Nat.le_of_eq g72.symm)
  have c72_0 := P0.ext E72
  have c72_1 := P1.ext E72
  have c72_2 := P2.ext E72
  have c72_3 := P4.ext E72
  have c72_4 := P5.ext E72
  have KK72 : Keep h0 h72 [a1] := (Keep.refl h0 [a1]).ext E72
  have ZN72 : n0 ≤ h72.size := Nat.le_trans Z0 E72.1
  have V72 : Arv Z h72 b72 k1 (.object "java/lang/String") (2 : Int32) [(.ref v0), (.ref v1)] .null := A72
  refine go st72 ?_
  show Go _ p e below s _ _ _ (T72.setTop (mkF m 9 #[.val (.ref a1), .val (.ref a2)] [(.ref b72), (.ref a1)]))
  obtain ⟨T73, X73, e73, st73⟩ := castY X72 hx hZ hown (hw _ (List.mem_of_getElem? (i := 46) rfl)) e72 (Ins.self AE72) (g := (mkF m 9 #[.val (.ref a1), .val (.ref a2)] [(.ref b72), (.ref a1)])) rfl rfl (hb hby d7_9)
  refine go st73 ?_
  show Go _ p e below s _ _ _ (T73.setTop (mkF m 12 #[.val (.ref a1), .val (.ref a2)] [(.ref b72), (.ref a1)]))
  obtain ⟨T74, h74, X74, e74, W74, st74⟩ := putF X73 hx hZ hown (host := "") (Or.inl (hw _ (List.mem_of_getElem? (i := 48) rfl))) Via.refl e73 c72_1 c72_0 (Or.inr ⟨(hw _ (List.mem_of_getElem? (i := 49) rfl)), rfl, hnm⟩) (hw _ (List.mem_of_getElem? (i := 33) rfl)) (ty := (.array (.object "java/lang/String"))) (by decide) rfl rfl (g := (mkF m 12 #[.val (.ref a1), .val (.ref a2)] [(.ref b72), (.ref a1)])) rfl rfl (hb hby d7_12)
  have Fw74 := c72_1.same W74
  have c74_0 := c72_0.wr W74
  have c74_2 := c72_2.other W74 (Or.inr (slot_ne (Or.inl (hw _ (List.mem_of_getElem? (i := 56) rfl))) (Or.inr (hw _ (List.mem_of_getElem? (i := 49) rfl))) (by decide) (t := .int) (t' := (.array (.object "java/lang/String"))) (by decide) (by decide)))
  have c74_3 := c72_3.wr W74
  have c74_4 := c72_4.other W74 (Ne.symm P6)
  have c74_5 := AE72.wr W74
  have c74_6 := V72.other W74 (Ne.symm (Nat.ne_of_lt lt72_a1_b72))
  have KK74 : Keep h0 h74 [a1] := KK72.wr W74 (Or.inl (List.mem_of_getElem? (i := 0) rfl))
  have ZN74 : n0 ≤ h74.size := Nat.le_trans ZN72 (Keep.of_wr W74).1
  have NN74 := Fr.snoc X74 N0 P3
  refine go st74 ?_
  show Go _ p e below s _ _ _ (T74.setTop (mkF m 15 #[.val (.ref a1), .val (.ref a2)] []))
  refine goRet0 X74 hx Bd.notSynchronized Bd.returns (hb hby d7_15) (by decide) (by decide) (by rw [e74]; refine ⟨b72, rfl, NN74, SZ_b72, G_b72, KK74, Fw74, c74_2, c74_5, c74_6⟩)
theorem pn_H2_0 : plainName "com/example/sunder/sunder/cli/Arguments" = true := by first | (simp [plainName, overriddenIn]; done) | decide +kernel
theorem ef_H2_0 (m : MethodId) (a1 : Addr) : entryFrame m #[(.ref a1)] 1 = mkF m 0 #[.val (.ref a1)] [] := by first | (simp [entryFrame, mkF, argsToLocals, Value.category]; done) | rfl
def QH2_0 (Z : State) (a1 : Addr) (b : Addr) (k1 : ClassId) (v0 : Addr) (v1 : Addr) (h0 : Heap) (n0 : Nat) (v : Option Value) (h : Heap) (L : List Loc) : Prop := v = some (.int (1 : Int32)) ∧ Fr n0 L ∧ (h = h0)
set_option maxRecDepth 65536 in
set_option maxHeartbeats 40000000 in
theorem rmH2_0 (l : Launch) (Z : State) (a0 : Array Value) (hw : ∀ d ∈ tables_1, d.before a0 Z = true) (ws : List Jvm.Cond) (a1 : Addr) (b : Addr) (k1 : ClassId) (v0 : Addr) (v1 : Addr) (h0 : Heap) (n0 : Nat) (Z0 : n0 ≤ h0.size) (P0 : Fld Z h0 a1 "com/example/sunder/sunder/cli/Arguments" "args" "[Ljava/lang/String;" (.ref b)) (P1 : Fld Z h0 a1 "com/example/sunder/sunder/cli/Arguments" "next" "I" (.int (0 : Int32))) (P2 : Arv Z h0 b k1 (.object "java/lang/String") (2 : Int32) [(.ref v0), (.ref v1)] .null) :
    MetFree l (⟨"com/example/sunder/sunder/cli/Arguments", "hasNext", "()Z"⟩ : MethodName) (head1 (Jvm.Cond.code (⟨"com/example/sunder/sunder/cli/Arguments", "hasNext", "()Z"⟩ : MethodName) prog_16_method_2_code 1 (some .boolean) :: ws) ({ frames := 0, cells := 0, slots := 0, locals := 0 } : Room)) (fun a U => a = #[(.ref a1)] ∧ Z.Warmed39 U.vm ∧ U.heap = h0) (fun _ _ _ _ _ => True) (fun _ U o U' => ∃ v L, o = .returned v ∧ QH2_0 Z a1 b k1 v0 v1 h0 n0 v U'.heap L ∧ FrameEnd U o U' L ({ frames := 0, cells := 0, slots := 0, locals := 0 } : Room).cells ({ frames := 0, cells := 0, slots := 0, locals := 0 } : Room).slots) := by
  refine MetFree.of_bodySF (plainFor_of_name pn_H2_0) hisR ?_
  intro p e s m args below meth c s₁ Bd hml0 hP hK
  obtain ⟨rfl, hZ, hh⟩ := hP
  have hx := Bd.exec
  have hby := Bd.bytes
  have hml : c.maxLocals = 1 := hml0
  have hown : s.vm.findClass "com/example/sunder/sunder/cli/Arguments" = some m.cls := findClass_of_methodNamed Bd.named
  have hnm := (name_of_methodNamed Bd.named Bd.method).1
  have X0 : Stand p l e ({ frames := 0, cells := 0, slots := 0, locals := 0 } : Room) s m #[(.ref a1)] below meth c s₁ [] 0 0 := Stand.of_body Bd
  have e0 : s₁.heap = h0 := by rw [← hh, Bd.state]; rfl
  have N0 := Fr.nil n0
  have hS0 : s.Since s.vm 0 := (State.WarmedH.refl s).since 0
  show Go FrameEnd p e below s ({ frames := 0, cells := 0, slots := 0, locals := 0 } : Room).cells ({ frames := 0, cells := 0, slots := 0, locals := 0 } : Room).slots (QH2_0 Z a1 b k1 v0 v1 h0 n0) (s₁.setTop (entryFrame m #[(.ref a1)] 1))
  refine go (fun _ k => castTop (ef_H2_0 m a1) k) ?_
  show Go _ p e below s _ _ _ (s₁.setTop (mkF m 0 #[.val (.ref a1)] []))
  refine go (fun _ => XS.aloadN X0.here hx rfl (hb hby d8_0) rfl rfl) ?_
  show Go _ p e below s _ _ _ (s₁.setTop (mkF m 1 #[.val (.ref a1)] [(.ref a1)]))
  obtain ⟨T78, X78, e78, st78⟩ := getF X0 hx hZ hown (host := "") (Or.inl (hw _ (List.mem_of_getElem? (i := 55) rfl))) Via.refl e0 P1 (g := (mkF m 1 #[.val (.ref a1)] [(.ref a1)])) rfl rfl (hb hby d8_1)
  refine go st78 ?_
  show Go _ p e below s _ _ _ (T78.setTop (mkF m 4 #[.val (.ref a1)] [(.int (0 : Int32))]))
  refine go (fun _ => XS.aloadN X78.here hx rfl (hb hby d8_4) rfl rfl) ?_
  show Go _ p e below s _ _ _ (T78.setTop (mkF m 5 #[.val (.ref a1)] [(.ref a1), (.int (0 : Int32))]))
  obtain ⟨T79, X79, e79, st79⟩ := getF X78 hx hZ hown (host := "") (Or.inl (hw _ (List.mem_of_getElem? (i := 48) rfl))) Via.refl e78 P0 (g := (mkF m 5 #[.val (.ref a1)] [(.ref a1), (.int (0 : Int32))])) rfl rfl (hb hby d8_5)
  refine go st79 ?_
  show Go _ p e below s _ _ _ (T79.setTop (mkF m 8 #[.val (.ref a1)] [(.ref b), (.int (0 : Int32))]))
  obtain ⟨cl80, Ar80, -, Sz80, Nz80, -, -⟩ := id P2
  refine go (X79.arraylength hx (by rw [e79]; exact Ar80.1) (State.isArrayOf_alike hZ.alike Ar80.2.1) (g := (mkF m 8 #[.val (.ref a1)] [(.ref b), (.int (0 : Int32))])) rfl rfl (hb hby d8_8)) ?_
  rw [len_of Sz80 Nz80]
  show Go _ p e below s _ _ _ (T79.setTop (mkF m 9 #[.val (.ref a1)] [(.int (2 : Int32)), (.int (0 : Int32))]))
  refine go (fun _ => XS.icmpNo X79.here hx rfl (hb hby d8_9) rfl (tlt (by decide : ((0 : Int32) < (2 : Int32)))).2.1) ?_
  show Go _ p e below s _ _ _ (T79.setTop (mkF m 12 #[.val (.ref a1)] []))
  refine go (fun _ => XS.iconst X79.here hx rfl (hb hby d8_12)) ?_
  show Go _ p e below s _ _ _ (T79.setTop (mkF m 13 #[.val (.ref a1)] [(.int (1 : Int32))]))
  refine go (fun _ => XS.goto X79.here hx rfl (pc0 := 13) (pc' := 17) rfl (hb hby d8_13) (by decide) (by decide)) ?_
  show Go _ p e below s _ _ _ (T79.setTop (mkF m 17 #[.val (.ref a1)] [(.int (1 : Int32))]))
  refine goRet X79 hx Bd.notSynchronized Bd.returns rfl (Or.inl ⟨rfl, Or.inr (Or.inl rfl), _, rfl⟩) (hb hby d8_17) (by decide) (by decide) (by rw [e79]; refine ⟨rfl, N0, rfl⟩)
theorem pn_N2_0 : plainName "com/example/sunder/sunder/cli/Arguments" = true := by first | (simp [plainName, overriddenIn]; done) | decide +kernel
theorem ef_N2_0 (m : MethodId) (a1 : Addr) : entryFrame m #[(.ref a1)] 1 = mkF m 0 #[.val (.ref a1)] [] := by first | (simp [entryFrame, mkF, argsToLocals, Value.category]; done) | rfl
def QN2_0 (Z : State) (a1 : Addr) (b : Addr) (k1 : ClassId) (v0 : Addr) (v1 : Addr) (h0 : Heap) (n0 : Nat) (v : Option Value) (h : Heap) (L : List Loc) : Prop := v = some (.ref v0) ∧ Fr n0 L ∧ (Keep h0 h [a1]) ∧ (Fld Z h a1 "com/example/sunder/sunder/cli/Arguments" "args" "[Ljava/lang/String;" (.ref b)) ∧ (Fld Z h a1 "com/example/sunder/sunder/cli/Arguments" "next" "I" (.int (1 : Int32)))
set_option maxRecDepth 65536 in
set_option maxHeartbeats 40000000 in
theorem rmN2_0 (l : Launch) (Z : State) (a0 : Array Value) (hw : ∀ d ∈ tables_1, d.before a0 Z = true) (ws : List Jvm.Cond) (a1 : Addr) (b : Addr) (k1 : ClassId) (v0 : Addr) (v1 : Addr) (h0 : Heap) (n0 : Nat) (Z0 : n0 ≤ h0.size) (P0 : Exa Z h0 a1 "com/example/sunder/sunder/cli/Arguments") (P1 : Fld Z h0 a1 "com/example/sunder/sunder/cli/Arguments" "args" "[Ljava/lang/String;" (.ref b)) (P2 : Fld Z h0 a1 "com/example/sunder/sunder/cli/Arguments" "next" "I" (.int (0 : Int32))) (P3 : n0 ≤ a1) (P4 : Arv Z h0 b k1 (.object "java/lang/String") (2 : Int32) [(.ref v0), (.ref v1)] .null) (P5 : a1 ≠ b) :
    MetFree l (⟨"com/example/sunder/sunder/cli/Arguments", "next", "()Ljava/lang/String;"⟩ : MethodName) (head1 (Jvm.Cond.code (⟨"com/example/sunder/sunder/cli/Arguments", "next", "()Ljava/lang/String;"⟩ : MethodName) prog_16_method_3_code 1 (some (.object "java/lang/String")) :: ws) ({ frames := 1, cells := 0, slots := 0, locals := 12 } : Room)) (fun a U => a = #[(.ref a1)] ∧ Z.Warmed39 U.vm ∧ U.heap = h0) (fun _ _ _ _ _ => True) (fun _ U o U' => ∃ v L, o = .returned v ∧ QN2_0 Z a1 b k1 v0 v1 h0 n0 v U'.heap L ∧ FrameEnd U o U' L ({ frames := 1, cells := 0, slots := 0, locals := 12 } : Room).cells ({ frames := 1, cells := 0, slots := 0, locals := 12 } : Room).slots) := by
  refine MetFree.of_bodySF (plainFor_of_name pn_N2_0) hisR ?_
  intro p e s m args below meth c s₁ Bd hml0 hP hK
  obtain ⟨rfl, hZ, hh⟩ := hP
  have hx := Bd.exec
  have hby := Bd.bytes
  have hml : c.maxLocals = 1 := hml0
  have hown : s.vm.findClass "com/example/sunder/sunder/cli/Arguments" = some m.cls := findClass_of_methodNamed Bd.named
  have hnm := (name_of_methodNamed Bd.named Bd.method).1
  have X0 : Stand p l e ({ frames := 1, cells := 0, slots := 0, locals := 12 } : Room) s m #[(.ref a1)] below meth c s₁ [] 0 0 := Stand.of_body Bd
  have e0 : s₁.heap = h0 := by rw [← hh, Bd.state]; rfl
  have N0 := Fr.nil n0
  have hS0 : s.Since s.vm 0 := (State.WarmedH.refl s).since 0
  show Go FrameEnd p e below s ({ frames := 1, cells := 0, slots := 0, locals := 12 } : Room).cells ({ frames := 1, cells := 0, slots := 0, locals := 12 } : Room).slots (QN2_0 Z a1 b k1 v0 v1 h0 n0) (s₁.setTop (entryFrame m #[(.ref a1)] 1))
  refine go (fun _ k => castTop (ef_N2_0 m a1) k) ?_
  show Go _ p e below s _ _ _ (s₁.setTop (mkF m 0 #[.val (.ref a1)] []))
  refine go (fun _ => XS.aloadN X0.here hx rfl (hb hby d9_0) rfl rfl) ?_
  show Go _ p e below s _ _ _ (s₁.setTop (mkF m 1 #[.val (.ref a1)] [(.ref a1)]))
  obtain ⟨cq86, kq86, q86a, q86b, q86c⟩ := isOf hZ e0 P0
  obtain ⟨_, _, ⟨T86, L86, k86, n86⟩, -, X86, ⟨Lc86, hQ86, l86, y86, z86⟩, st86⟩ := X0.virtualBack hx (y := (⟨"com/example/sunder/sunder/cli/Arguments", "hasNext", "()Z"⟩ : MethodName)) (z := (⟨"com/example/sunder/sunder/cli/Arguments", "hasNext", "()Z"⟩ : MethodName)) hown (mvT hZ (hw _ (List.mem_of_getElem? (i := 62) rfl))) (mvT hZ (hw _ (List.mem_of_getElem? (i := 51) rfl))) (notFace_of_selects (args := #[]) (mvT hZ (hw _ (List.mem_of_getElem? (i := 53) rfl)))) (mvT hZ (hw _ (List.mem_of_getElem? (i := 53) rfl))) (mvT hZ (hw _ (List.mem_of_getElem? (i := 52) rfl))) (by decide) (backOf (W := 0) (rmH2_0 l Z a0 hw [] a1 b k1 v0 v1 h0 n0 Z0 P1 P2 P4) hZ (hw _ (List.mem_of_getElem? (i := 54) rfl)) (hw _ (List.mem_of_getElem? (i := 34) rfl)) (by decide) (by decide)) q86a q86c (g := (mkF m 1 #[.val (.ref a1)] [(.ref a1)])) rfl (by rw [hml]; rfl) (Steps.refl _) (argsL := []) (rest := []) (lenOf pd_9_0 rfl) rfl (by show 2 * 0 + _ ≤ _; exact Nat.le_of_eq rfl) (hb hby d9_1) (fun _ _ => ⟨rfl, e0, (by decide : 0 + 0 ≤ _), (by decide : 0 + 0 ≤ _)⟩)
  dsimp only [Pt.U, Pt.locs, Pt.cells, Pt.slots] at X86 l86 y86 z86 st86 hQ86
  subst l86 y86 z86
  obtain ⟨rfl, N86q, e86⟩ := hQ86
  have N86 := Fr.app N0 N86q
  refine goT st86 ?_
  show Go _ p e below s _ _ _ (T86.setTop (mkF m 4 #[.val (.ref a1)] [(.int (1 : Int32))]))
  refine go (fun _ => XS.ifYes X86.here hx rfl (pc0 := 4) (pc' := 15) rfl (hb hby d9_4) rfl ((if0 _ _).trans (feq (by decide : ¬ ((1 : Int32) = (0 : Int32)))).2) (by decide) (by decide)) ?_
  show Go _ p e below s _ _ _ (T86.setTop (mkF m 15 #[.val (.ref a1)] []))
  refine go (fun _ => XS.aloadN X86.here hx rfl (hb hby d9_15) rfl rfl) ?_
  show Go _ p e below s _ _ _ (T86.setTop (mkF m 16 #[.val (.ref a1)] [(.ref a1)]))
  obtain ⟨T87, X87, e87, st87⟩ := getF X86 hx hZ hown (host := "") (Or.inl (hw _ (List.mem_of_getElem? (i := 48) rfl))) Via.refl e86 P1 (g := (mkF m 16 #[.val (.ref a1)] [(.ref a1)])) rfl rfl (hb hby d9_16)
  refine go st87 ?_
  show Go _ p e below s _ _ _ (T87.setTop (mkF m 19 #[.val (.ref a1)] [(.ref b)]))
  refine go (fun _ => XS.aloadN X87.here hx rfl (hb hby d9_19) rfl rfl) ?_
  show Go _ p e below s _ _ _ (T87.setTop (mkF m 20 #[.val (.ref a1)] [(.ref a1), (.ref b)]))
  refine go (fun _ => XS.dup X87.here hx rfl (hb hby d9_20) rfl rfl) ?_
  show Go _ p e below s _ _ _ (T87.setTop (mkF m 21 #[.val (.ref a1)] [(.ref a1), (.ref a1), (.ref b)]))
  obtain ⟨T88, X88, e88, st88⟩ := getF X87 hx hZ hown (host := "") (Or.inl (hw _ (List.mem_of_getElem? (i := 55) rfl))) Via.refl e87 P2 (g := (mkF m 21 #[.val (.ref a1)] [(.ref a1), (.ref a1), (.ref b)])) rfl rfl (hb hby d9_21)
  refine go st88 ?_
  show Go _ p e below s _ _ _ (T88.setTop (mkF m 24 #[.val (.ref a1)] [(.int (0 : Int32)), (.ref a1), (.ref b)]))
  refine go (fun _ => XS.dupX1 X88.here hx rfl (hb hby d9_24) rfl rfl rfl) ?_
  show Go _ p e below s _ _ _ (T88.setTop (mkF m 25 #[.val (.ref a1)] [(.int (0 : Int32)), (.ref a1), (.int (0 : Int32)), (.ref b)]))
  refine go (fun _ => XS.iconst X88.here hx rfl (hb hby d9_25)) ?_
  show Go _ p e below s _ _ _ (T88.setTop (mkF m 26 #[.val (.ref a1)] [(.int (1 : Int32)), (.int (0 : Int32)), (.ref a1), (.int (0 : Int32)), (.ref b)]))
  refine go (fun _ => XS.iadd X88.here hx rfl (hb hby d9_26) rfl) ?_
  show Go _ p e below s _ _ _ (T88.setTop (mkF m 27 #[.val (.ref a1)] [(.int (1 : Int32)), (.ref a1), (.int (0 : Int32)), (.ref b)]))
  obtain ⟨T89, h89, X89, e89, W89, st89⟩ := putF X88 hx hZ hown (host := "") (Or.inl (hw _ (List.mem_of_getElem? (i := 55) rfl))) Via.refl e88 P2 P0 (Or.inl (hw _ (List.mem_of_getElem? (i := 56) rfl))) (hw _ (List.mem_of_getElem? (i := 33) rfl)) (ty := .int) (by decide) rfl rfl (g := (mkF m 27 #[.val (.ref a1)] [(.int (1 : Int32)), (.ref a1), (.int (0 : Int32)), (.ref b)])) rfl rfl (hb hby d9_27)
  have Fw89 := P2.same W89
  have c89_0 := P0.wr W89
  have c89_1 := P1.other W89 (Or.inr (slot_ne (Or.inr (hw _ (List.mem_of_getElem? (i := 49) rfl))) (Or.inl (hw _ (List.mem_of_getElem? (i := 56) rfl))) (by decide) (t := (.array (.object "java/lang/String"))) (t' := .int) (by decide) (by decide)))
  have c89_3 := P4.other W89 (Ne.symm P5)
  have KK89 : Keep h0 h89 [a1] := (Keep.refl h0 [a1]).wr W89 (Or.inl (List.mem_of_getElem? (i := 0) rfl))
  have ZN89 : n0 ≤ h89.size := Nat.le_trans Z0 (Keep.of_wr W89).1
  have NN89 := Fr.snoc X89 N86 P3
  refine go st89 ?_
  show Go _ p e below s _ _ _ (T89.setTop (mkF m 30 #[.val (.ref a1)] [(.int (0 : Int32)), (.ref b)]))
  obtain ⟨cl90, Ar90, q90, Sz90, Nz90, Hs90, Gs90⟩ := id c89_3
  have hin90 : ¬ ((0 : Int32) < 0 ∨ cl90.slots.size ≤ ((0 : Int32)).toNatClampNeg) := inb_of Sz90 ⟨by decide, by decide⟩
  refine go (X89.aaload hx (j := (0 : Int32)) (v := (.ref v0)) (by rw [e89]; exact Ar90.1) (State.isArrayOf_alike hZ.alike Ar90.2.1) rfl Ar90.2.2 hin90 (Hs90.at hin90 rfl) (g := (mkF m 30 #[.val (.ref a1)] [(.int (0 : Int32)), (.ref b)])) rfl rfl (hb hby d9_30)) ?_
  show Go _ p e below s _ _ _ (T89.setTop (mkF m 31 #[.val (.ref a1)] [(.ref v0)]))
  refine goRet X89 hx Bd.notSynchronized Bd.returns rfl (Or.inr (Or.inr (Or.inr (Or.inr ⟨rfl, rfl, rfl⟩)))) (hb hby d9_31) (by decide) (by decide) (by rw [e89]; refine ⟨rfl, NN89, KK89, c89_1, Fw89⟩)
theorem pn_H2_1 : plainName "com/example/sunder/sunder/cli/Arguments" = true := by first | (simp [plainName, overriddenIn]; done) | decide +kernel
theorem ef_H2_1 (m : MethodId) (a1 : Addr) : entryFrame m #[(.ref a1)] 1 = mkF m 0 #[.val (.ref a1)] [] := by first | (simp [entryFrame, mkF, argsToLocals, Value.category]; done) | rfl
def QH2_1 (Z : State) (a1 : Addr) (b : Addr) (k1 : ClassId) (v0 : Addr) (v1 : Addr) (h0 : Heap) (n0 : Nat) (v : Option Value) (h : Heap) (L : List Loc) : Prop := v = some (.int (1 : Int32)) ∧ Fr n0 L ∧ (h = h0)
set_option maxRecDepth 65536 in
set_option maxHeartbeats 40000000 in
theorem rmH2_1 (l : Launch) (Z : State) (a0 : Array Value) (hw : ∀ d ∈ tables_1, d.before a0 Z = true) (ws : List Jvm.Cond) (a1 : Addr) (b : Addr) (k1 : ClassId) (v0 : Addr) (v1 : Addr) (h0 : Heap) (n0 : Nat) (Z0 : n0 ≤ h0.size) (P0 : Fld Z h0 a1 "com/example/sunder/sunder/cli/Arguments" "args" "[Ljava/lang/String;" (.ref b)) (P1 : Fld Z h0 a1 "com/example/sunder/sunder/cli/Arguments" "next" "I" (.int (1 : Int32))) (P2 : Arv Z h0 b k1 (.object "java/lang/String") (2 : Int32) [(.ref v0), (.ref v1)] .null) :
    MetFree l (⟨"com/example/sunder/sunder/cli/Arguments", "hasNext", "()Z"⟩ : MethodName) (head1 (Jvm.Cond.code (⟨"com/example/sunder/sunder/cli/Arguments", "hasNext", "()Z"⟩ : MethodName) prog_16_method_2_code 1 (some .boolean) :: ws) ({ frames := 0, cells := 0, slots := 0, locals := 0 } : Room)) (fun a U => a = #[(.ref a1)] ∧ Z.Warmed39 U.vm ∧ U.heap = h0) (fun _ _ _ _ _ => True) (fun _ U o U' => ∃ v L, o = .returned v ∧ QH2_1 Z a1 b k1 v0 v1 h0 n0 v U'.heap L ∧ FrameEnd U o U' L ({ frames := 0, cells := 0, slots := 0, locals := 0 } : Room).cells ({ frames := 0, cells := 0, slots := 0, locals := 0 } : Room).slots) := by
  refine MetFree.of_bodySF (plainFor_of_name pn_H2_1) hisR ?_
  intro p e s m args below meth c s₁ Bd hml0 hP hK
  obtain ⟨rfl, hZ, hh⟩ := hP
  have hx := Bd.exec
  have hby := Bd.bytes
  have hml : c.maxLocals = 1 := hml0
  have hown : s.vm.findClass "com/example/sunder/sunder/cli/Arguments" = some m.cls := findClass_of_methodNamed Bd.named
  have hnm := (name_of_methodNamed Bd.named Bd.method).1
  have X0 : Stand p l e ({ frames := 0, cells := 0, slots := 0, locals := 0 } : Room) s m #[(.ref a1)] below meth c s₁ [] 0 0 := Stand.of_body Bd
  have e0 : s₁.heap = h0 := by rw [← hh, Bd.state]; rfl
  have N0 := Fr.nil n0
  have hS0 : s.Since s.vm 0 := (State.WarmedH.refl s).since 0
  show Go FrameEnd p e below s ({ frames := 0, cells := 0, slots := 0, locals := 0 } : Room).cells ({ frames := 0, cells := 0, slots := 0, locals := 0 } : Room).slots (QH2_1 Z a1 b k1 v0 v1 h0 n0) (s₁.setTop (entryFrame m #[(.ref a1)] 1))
  refine go (fun _ k => castTop (ef_H2_1 m a1) k) ?_
  show Go _ p e below s _ _ _ (s₁.setTop (mkF m 0 #[.val (.ref a1)] []))
  refine go (fun _ => XS.aloadN X0.here hx rfl (hb hby d8_0) rfl rfl) ?_
  show Go _ p e below s _ _ _ (s₁.setTop (mkF m 1 #[.val (.ref a1)] [(.ref a1)]))
  obtain ⟨T94, X94, e94, st94⟩ := getF X0 hx hZ hown (host := "") (Or.inl (hw _ (List.mem_of_getElem? (i := 55) rfl))) Via.refl e0 P1 (g := (mkF m 1 #[.val (.ref a1)] [(.ref a1)])) rfl rfl (hb hby d8_1)
  refine go st94 ?_
  show Go _ p e below s _ _ _ (T94.setTop (mkF m 4 #[.val (.ref a1)] [(.int (1 : Int32))]))
  refine go (fun _ => XS.aloadN X94.here hx rfl (hb hby d8_4) rfl rfl) ?_
  show Go _ p e below s _ _ _ (T94.setTop (mkF m 5 #[.val (.ref a1)] [(.ref a1), (.int (1 : Int32))]))
  obtain ⟨T95, X95, e95, st95⟩ := getF X94 hx hZ hown (host := "") (Or.inl (hw _ (List.mem_of_getElem? (i := 48) rfl))) Via.refl e94 P0 (g := (mkF m 5 #[.val (.ref a1)] [(.ref a1), (.int (1 : Int32))])) rfl rfl (hb hby d8_5)
  refine go st95 ?_
  show Go _ p e below s _ _ _ (T95.setTop (mkF m 8 #[.val (.ref a1)] [(.ref b), (.int (1 : Int32))]))
  obtain ⟨cl96, Ar96, -, Sz96, Nz96, -, -⟩ := id P2
  refine go (X95.arraylength hx (by rw [e95]; exact Ar96.1) (State.isArrayOf_alike hZ.alike Ar96.2.1) (g := (mkF m 8 #[.val (.ref a1)] [(.ref b), (.int (1 : Int32))])) rfl rfl (hb hby d8_8)) ?_
  rw [len_of Sz96 Nz96]
  show Go _ p e below s _ _ _ (T95.setTop (mkF m 9 #[.val (.ref a1)] [(.int (2 : Int32)), (.int (1 : Int32))]))
  refine go (fun _ => XS.icmpNo X95.here hx rfl (hb hby d8_9) rfl (tlt (by decide : ((1 : Int32) < (2 : Int32)))).2.1) ?_
  show Go _ p e below s _ _ _ (T95.setTop (mkF m 12 #[.val (.ref a1)] []))
  refine go (fun _ => XS.iconst X95.here hx rfl (hb hby d8_12)) ?_
  show Go _ p e below s _ _ _ (T95.setTop (mkF m 13 #[.val (.ref a1)] [(.int (1 : Int32))]))
  refine go (fun _ => XS.goto X95.here hx rfl (pc0 := 13) (pc' := 17) rfl (hb hby d8_13) (by decide) (by decide)) ?_
  show Go _ p e below s _ _ _ (T95.setTop (mkF m 17 #[.val (.ref a1)] [(.int (1 : Int32))]))
  refine goRet X95 hx Bd.notSynchronized Bd.returns rfl (Or.inl ⟨rfl, Or.inr (Or.inl rfl), _, rfl⟩) (hb hby d8_17) (by decide) (by decide) (by rw [e95]; refine ⟨rfl, N0, rfl⟩)
theorem pn_N2_1 : plainName "com/example/sunder/sunder/cli/Arguments" = true := by first | (simp [plainName, overriddenIn]; done) | decide +kernel
theorem ef_N2_1 (m : MethodId) (a1 : Addr) : entryFrame m #[(.ref a1)] 1 = mkF m 0 #[.val (.ref a1)] [] := by first | (simp [entryFrame, mkF, argsToLocals, Value.category]; done) | rfl
def QN2_1 (Z : State) (a1 : Addr) (b : Addr) (k1 : ClassId) (v0 : Addr) (v1 : Addr) (h0 : Heap) (n0 : Nat) (v : Option Value) (h : Heap) (L : List Loc) : Prop := v = some (.ref v1) ∧ Fr n0 L ∧ (Keep h0 h [a1]) ∧ (Fld Z h a1 "com/example/sunder/sunder/cli/Arguments" "args" "[Ljava/lang/String;" (.ref b)) ∧ (Fld Z h a1 "com/example/sunder/sunder/cli/Arguments" "next" "I" (.int (2 : Int32)))
set_option maxRecDepth 65536 in
set_option maxHeartbeats 40000000 in
theorem rmN2_1 (l : Launch) (Z : State) (a0 : Array Value) (hw : ∀ d ∈ tables_1, d.before a0 Z = true) (ws : List Jvm.Cond) (a1 : Addr) (b : Addr) (k1 : ClassId) (v0 : Addr) (v1 : Addr) (h0 : Heap) (n0 : Nat) (Z0 : n0 ≤ h0.size) (P0 : Exa Z h0 a1 "com/example/sunder/sunder/cli/Arguments") (P1 : Fld Z h0 a1 "com/example/sunder/sunder/cli/Arguments" "args" "[Ljava/lang/String;" (.ref b)) (P2 : Fld Z h0 a1 "com/example/sunder/sunder/cli/Arguments" "next" "I" (.int (1 : Int32))) (P3 : n0 ≤ a1) (P4 : Arv Z h0 b k1 (.object "java/lang/String") (2 : Int32) [(.ref v0), (.ref v1)] .null) (P5 : a1 ≠ b) :
    MetFree l (⟨"com/example/sunder/sunder/cli/Arguments", "next", "()Ljava/lang/String;"⟩ : MethodName) (head1 (Jvm.Cond.code (⟨"com/example/sunder/sunder/cli/Arguments", "next", "()Ljava/lang/String;"⟩ : MethodName) prog_16_method_3_code 1 (some (.object "java/lang/String")) :: ws) ({ frames := 1, cells := 0, slots := 0, locals := 12 } : Room)) (fun a U => a = #[(.ref a1)] ∧ Z.Warmed39 U.vm ∧ U.heap = h0) (fun _ _ _ _ _ => True) (fun _ U o U' => ∃ v L, o = .returned v ∧ QN2_1 Z a1 b k1 v0 v1 h0 n0 v U'.heap L ∧ FrameEnd U o U' L ({ frames := 1, cells := 0, slots := 0, locals := 12 } : Room).cells ({ frames := 1, cells := 0, slots := 0, locals := 12 } : Room).slots) := by
  refine MetFree.of_bodySF (plainFor_of_name pn_N2_1) hisR ?_
  intro p e s m args below meth c s₁ Bd hml0 hP hK
  obtain ⟨rfl, hZ, hh⟩ := hP
  have hx := Bd.exec
  have hby := Bd.bytes
  have hml : c.maxLocals = 1 := hml0
  have hown : s.vm.findClass "com/example/sunder/sunder/cli/Arguments" = some m.cls := findClass_of_methodNamed Bd.named
  have hnm := (name_of_methodNamed Bd.named Bd.method).1
  have X0 : Stand p l e ({ frames := 1, cells := 0, slots := 0, locals := 12 } : Room) s m #[(.ref a1)] below meth c s₁ [] 0 0 := Stand.of_body Bd
  have e0 : s₁.heap = h0 := by rw [← hh, Bd.state]; rfl
  have N0 := Fr.nil n0
  have hS0 : s.Since s.vm 0 := (State.WarmedH.refl s).since 0
  show Go FrameEnd p e below s ({ frames := 1, cells := 0, slots := 0, locals := 12 } : Room).cells ({ frames := 1, cells := 0, slots := 0, locals := 12 } : Room).slots (QN2_1 Z a1 b k1 v0 v1 h0 n0) (s₁.setTop (entryFrame m #[(.ref a1)] 1))
  refine go (fun _ k => castTop (ef_N2_1 m a1) k) ?_
  show Go _ p e below s _ _ _ (s₁.setTop (mkF m 0 #[.val (.ref a1)] []))
  refine go (fun _ => XS.aloadN X0.here hx rfl (hb hby d9_0) rfl rfl) ?_
  show Go _ p e below s _ _ _ (s₁.setTop (mkF m 1 #[.val (.ref a1)] [(.ref a1)]))
  obtain ⟨cq102, kq102, q102a, q102b, q102c⟩ := isOf hZ e0 P0
  obtain ⟨_, _, ⟨T102, L102, k102, n102⟩, -, X102, ⟨Lc102, hQ102, l102, y102, z102⟩, st102⟩ := X0.virtualBack hx (y := (⟨"com/example/sunder/sunder/cli/Arguments", "hasNext", "()Z"⟩ : MethodName)) (z := (⟨"com/example/sunder/sunder/cli/Arguments", "hasNext", "()Z"⟩ : MethodName)) hown (mvT hZ (hw _ (List.mem_of_getElem? (i := 62) rfl))) (mvT hZ (hw _ (List.mem_of_getElem? (i := 51) rfl))) (notFace_of_selects (args := #[]) (mvT hZ (hw _ (List.mem_of_getElem? (i := 53) rfl)))) (mvT hZ (hw _ (List.mem_of_getElem? (i := 53) rfl))) (mvT hZ (hw _ (List.mem_of_getElem? (i := 52) rfl))) (by decide) (backOf (W := 0) (rmH2_1 l Z a0 hw [] a1 b k1 v0 v1 h0 n0 Z0 P1 P2 P4) hZ (hw _ (List.mem_of_getElem? (i := 54) rfl)) (hw _ (List.mem_of_getElem? (i := 34) rfl)) (by decide) (by decide)) q102a q102c (g := (mkF m 1 #[.val (.ref a1)] [(.ref a1)])) rfl (by rw [hml]; rfl) (Steps.refl _) (argsL := []) (rest := []) (lenOf pd_9_0 rfl) rfl (by show 2 * 0 + _ ≤ _; exact Nat.le_of_eq rfl) (hb hby d9_1) (fun _ _ => ⟨rfl, e0, (by decide : 0 + 0 ≤ _), (by decide : 0 + 0 ≤ _)⟩)
  dsimp only [Pt.U, Pt.locs, Pt.cells, Pt.slots] at X102 l102 y102 z102 st102 hQ102
  subst l102 y102 z102
  obtain ⟨rfl, N102q, e102⟩ := hQ102
  have N102 := Fr.app N0 N102q
  refine goT st102 ?_
  show Go _ p e below s _ _ _ (T102.setTop (mkF m 4 #[.val (.ref a1)] [(.int (1 : Int32))]))
  refine go (fun _ => XS.ifYes X102.here hx rfl (pc0 := 4) (pc' := 15) rfl (hb hby d9_4) rfl ((if0 _ _).trans (feq (by decide : ¬ ((1 : Int32) = (0 : Int32)))).2) (by decide) (by decide)) ?_
  show Go _ p e below s _ _ _ (T102.setTop (mkF m 15 #[.val (.ref a1)] []))
  refine go (fun _ => XS.aloadN X102.here hx rfl (hb hby d9_15) rfl rfl) ?_
  show Go _ p e below s _ _ _ (T102.setTop (mkF m 16 #[.val (.ref a1)] [(.ref a1)]))
  obtain ⟨T103, X103, e103, st103⟩ := getF X102 hx hZ hown (host := "") (Or.inl (hw _ (List.mem_of_getElem? (i := 48) rfl))) Via.refl e102 P1 (g := (mkF m 16 #[.val (.ref a1)] [(.ref a1)])) rfl rfl (hb hby d9_16)
  refine go st103 ?_
  show Go _ p e below s _ _ _ (T103.setTop (mkF m 19 #[.val (.ref a1)] [(.ref b)]))
  refine go (fun _ => XS.aloadN X103.here hx rfl (hb hby d9_19) rfl rfl) ?_
  show Go _ p e below s _ _ _ (T103.setTop (mkF m 20 #[.val (.ref a1)] [(.ref a1), (.ref b)]))
  refine go (fun _ => XS.dup X103.here hx rfl (hb hby d9_20) rfl rfl) ?_
  show Go _ p e below s _ _ _ (T103.setTop (mkF m 21 #[.val (.ref a1)] [(.ref a1), (.ref a1), (.ref b)]))
  obtain ⟨T104, X104, e104, st104⟩ := getF X103 hx hZ hown (host := "") (Or.inl (hw _ (List.mem_of_getElem? (i := 55) rfl))) Via.refl e103 P2 (g := (mkF m 21 #[.val (.ref a1)] [(.ref a1), (.ref a1), (.ref b)])) rfl rfl (hb hby d9_21)
  refine go st104 ?_
  show Go _ p e below s _ _ _ (T104.setTop (mkF m 24 #[.val (.ref a1)] [(.int (1 : Int32)), (.ref a1), (.ref b)]))
  refine go (fun _ => XS.dupX1 X104.here hx rfl (hb hby d9_24) rfl rfl rfl) ?_
  show Go _ p e below s _ _ _ (T104.setTop (mkF m 25 #[.val (.ref a1)] [(.int (1 : Int32)), (.ref a1), (.int (1 : Int32)), (.ref b)]))
  refine go (fun _ => XS.iconst X104.here hx rfl (hb hby d9_25)) ?_
  show Go _ p e below s _ _ _ (T104.setTop (mkF m 26 #[.val (.ref a1)] [(.int (1 : Int32)), (.int (1 : Int32)), (.ref a1), (.int (1 : Int32)), (.ref b)]))
  refine go (fun _ => XS.iadd X104.here hx rfl (hb hby d9_26) rfl) ?_
  show Go _ p e below s _ _ _ (T104.setTop (mkF m 27 #[.val (.ref a1)] [(.int (2 : Int32)), (.ref a1), (.int (1 : Int32)), (.ref b)]))
  obtain ⟨T105, h105, X105, e105, W105, st105⟩ := putF X104 hx hZ hown (host := "") (Or.inl (hw _ (List.mem_of_getElem? (i := 55) rfl))) Via.refl e104 P2 P0 (Or.inl (hw _ (List.mem_of_getElem? (i := 56) rfl))) (hw _ (List.mem_of_getElem? (i := 33) rfl)) (ty := .int) (by decide) rfl rfl (g := (mkF m 27 #[.val (.ref a1)] [(.int (2 : Int32)), (.ref a1), (.int (1 : Int32)), (.ref b)])) rfl rfl (hb hby d9_27)
  have Fw105 := P2.same W105
  have c105_0 := P0.wr W105
  have c105_1 := P1.other W105 (Or.inr (slot_ne (Or.inr (hw _ (List.mem_of_getElem? (i := 49) rfl))) (Or.inl (hw _ (List.mem_of_getElem? (i := 56) rfl))) (by decide) (t := (.array (.object "java/lang/String"))) (t' := .int) (by decide) (by decide)))
  have c105_3 := P4.other W105 (Ne.symm P5)
  have KK105 : Keep h0 h105 [a1] := (Keep.refl h0 [a1]).wr W105 (Or.inl (List.mem_of_getElem? (i := 0) rfl))
  have ZN105 : n0 ≤ h105.size := Nat.le_trans Z0 (Keep.of_wr W105).1
  have NN105 := Fr.snoc X105 N102 P3
  refine go st105 ?_
  show Go _ p e below s _ _ _ (T105.setTop (mkF m 30 #[.val (.ref a1)] [(.int (1 : Int32)), (.ref b)]))
  obtain ⟨cl106, Ar106, q106, Sz106, Nz106, Hs106, Gs106⟩ := id c105_3
  have hin106 : ¬ ((1 : Int32) < 0 ∨ cl106.slots.size ≤ ((1 : Int32)).toNatClampNeg) := inb_of Sz106 ⟨by decide, by decide⟩
  refine go (X105.aaload hx (j := (1 : Int32)) (v := (.ref v1)) (by rw [e105]; exact Ar106.1) (State.isArrayOf_alike hZ.alike Ar106.2.1) rfl Ar106.2.2 hin106 (Hs106.at hin106 rfl) (g := (mkF m 30 #[.val (.ref a1)] [(.int (1 : Int32)), (.ref b)])) rfl rfl (hb hby d9_30)) ?_
  show Go _ p e below s _ _ _ (T105.setTop (mkF m 31 #[.val (.ref a1)] [(.ref v1)]))
  refine goRet X105 hx Bd.notSynchronized Bd.returns rfl (Or.inr (Or.inr (Or.inr (Or.inr ⟨rfl, rfl, rfl⟩)))) (hb hby d9_31) (by decide) (by decide) (by rw [e105]; refine ⟨rfl, NN105, KK105, c105_1, Fw105⟩)
theorem pn_H2_2 : plainName "com/example/sunder/sunder/cli/Arguments" = true := by first | (simp [plainName, overriddenIn]; done) | decide +kernel
theorem ef_H2_2 (m : MethodId) (a1 : Addr) : entryFrame m #[(.ref a1)] 1 = mkF m 0 #[.val (.ref a1)] [] := by first | (simp [entryFrame, mkF, argsToLocals, Value.category]; done) | rfl
def QH2_2 (Z : State) (a1 : Addr) (b : Addr) (k1 : ClassId) (v0 : Addr) (v1 : Addr) (h0 : Heap) (n0 : Nat) (v : Option Value) (h : Heap) (L : List Loc) : Prop := v = some (.int (0 : Int32)) ∧ Fr n0 L ∧ (h = h0)
set_option maxRecDepth 65536 in
set_option maxHeartbeats 40000000 in
theorem rmH2_2 (l : Launch) (Z : State) (a0 : Array Value) (hw : ∀ d ∈ tables_1, d.before a0 Z = true) (ws : List Jvm.Cond) (a1 : Addr) (b : Addr) (k1 : ClassId) (v0 : Addr) (v1 : Addr) (h0 : Heap) (n0 : Nat) (Z0 : n0 ≤ h0.size) (P0 : Fld Z h0 a1 "com/example/sunder/sunder/cli/Arguments" "args" "[Ljava/lang/String;" (.ref b)) (P1 : Fld Z h0 a1 "com/example/sunder/sunder/cli/Arguments" "next" "I" (.int (2 : Int32))) (P2 : Arv Z h0 b k1 (.object "java/lang/String") (2 : Int32) [(.ref v0), (.ref v1)] .null) :
    MetFree l (⟨"com/example/sunder/sunder/cli/Arguments", "hasNext", "()Z"⟩ : MethodName) (head1 (Jvm.Cond.code (⟨"com/example/sunder/sunder/cli/Arguments", "hasNext", "()Z"⟩ : MethodName) prog_16_method_2_code 1 (some .boolean) :: ws) ({ frames := 0, cells := 0, slots := 0, locals := 0 } : Room)) (fun a U => a = #[(.ref a1)] ∧ Z.Warmed39 U.vm ∧ U.heap = h0) (fun _ _ _ _ _ => True) (fun _ U o U' => ∃ v L, o = .returned v ∧ QH2_2 Z a1 b k1 v0 v1 h0 n0 v U'.heap L ∧ FrameEnd U o U' L ({ frames := 0, cells := 0, slots := 0, locals := 0 } : Room).cells ({ frames := 0, cells := 0, slots := 0, locals := 0 } : Room).slots) := by
  refine MetFree.of_bodySF (plainFor_of_name pn_H2_2) hisR ?_
  intro p e s m args below meth c s₁ Bd hml0 hP hK
  obtain ⟨rfl, hZ, hh⟩ := hP
  have hx := Bd.exec
  have hby := Bd.bytes
  have hml : c.maxLocals = 1 := hml0
  have hown : s.vm.findClass "com/example/sunder/sunder/cli/Arguments" = some m.cls := findClass_of_methodNamed Bd.named
  have hnm := (name_of_methodNamed Bd.named Bd.method).1
  have X0 : Stand p l e ({ frames := 0, cells := 0, slots := 0, locals := 0 } : Room) s m #[(.ref a1)] below meth c s₁ [] 0 0 := Stand.of_body Bd
  have e0 : s₁.heap = h0 := by rw [← hh, Bd.state]; rfl
  have N0 := Fr.nil n0
  have hS0 : s.Since s.vm 0 := (State.WarmedH.refl s).since 0
  show Go FrameEnd p e below s ({ frames := 0, cells := 0, slots := 0, locals := 0 } : Room).cells ({ frames := 0, cells := 0, slots := 0, locals := 0 } : Room).slots (QH2_2 Z a1 b k1 v0 v1 h0 n0) (s₁.setTop (entryFrame m #[(.ref a1)] 1))
  refine go (fun _ k => castTop (ef_H2_2 m a1) k) ?_
  show Go _ p e below s _ _ _ (s₁.setTop (mkF m 0 #[.val (.ref a1)] []))
  refine go (fun _ => XS.aloadN X0.here hx rfl (hb hby d8_0) rfl rfl) ?_
  show Go _ p e below s _ _ _ (s₁.setTop (mkF m 1 #[.val (.ref a1)] [(.ref a1)]))
  obtain ⟨T110, X110, e110, st110⟩ := getF X0 hx hZ hown (host := "") (Or.inl (hw _ (List.mem_of_getElem? (i := 55) rfl))) Via.refl e0 P1 (g := (mkF m 1 #[.val (.ref a1)] [(.ref a1)])) rfl rfl (hb hby d8_1)
  refine go st110 ?_
  show Go _ p e below s _ _ _ (T110.setTop (mkF m 4 #[.val (.ref a1)] [(.int (2 : Int32))]))
  refine go (fun _ => XS.aloadN X110.here hx rfl (hb hby d8_4) rfl rfl) ?_
  show Go _ p e below s _ _ _ (T110.setTop (mkF m 5 #[.val (.ref a1)] [(.ref a1), (.int (2 : Int32))]))
  obtain ⟨T111, X111, e111, st111⟩ := getF X110 hx hZ hown (host := "") (Or.inl (hw _ (List.mem_of_getElem? (i := 48) rfl))) Via.refl e110 P0 (g := (mkF m 5 #[.val (.ref a1)] [(.ref a1), (.int (2 : Int32))])) rfl rfl (hb hby d8_5)
  refine go st111 ?_
  show Go _ p e below s _ _ _ (T111.setTop (mkF m 8 #[.val (.ref a1)] [(.ref b), (.int (2 : Int32))]))
  obtain ⟨cl112, Ar112, -, Sz112, Nz112, -, -⟩ := id P2
  refine go (X111.arraylength hx (by rw [e111]; exact Ar112.1) (State.isArrayOf_alike hZ.alike Ar112.2.1) (g := (mkF m 8 #[.val (.ref a1)] [(.ref b), (.int (2 : Int32))])) rfl rfl (hb hby d8_8)) ?_
  rw [len_of Sz112 Nz112]
  show Go _ p e below s _ _ _ (T111.setTop (mkF m 9 #[.val (.ref a1)] [(.int (2 : Int32)), (.int (2 : Int32))]))
  refine go (fun _ => XS.icmpYes X111.here hx rfl (pc0 := 9) (pc' := 16) rfl (hb hby d8_9) rfl (flt (by decide : ¬ ((2 : Int32) < (2 : Int32)))).2.1 (by decide) (by decide)) ?_
  show Go _ p e below s _ _ _ (T111.setTop (mkF m 16 #[.val (.ref a1)] []))
  refine go (fun _ => XS.iconst X111.here hx rfl (hb hby d8_16)) ?_
  show Go _ p e below s _ _ _ (T111.setTop (mkF m 17 #[.val (.ref a1)] [(.int (0 : Int32))]))
  refine goRet X111 hx Bd.notSynchronized Bd.returns rfl (Or.inl ⟨rfl, Or.inr (Or.inl rfl), _, rfl⟩) (hb hby d8_17) (by decide) (by decide) (by rw [e111]; refine ⟨rfl, N0, rfl⟩)
theorem pn_I3 : plainName "com/example/sunder/sunder/cli/Arguments" = true := by first | (simp [plainName, overriddenIn]; done) | decide +kernel
theorem ef_I3 (m : MethodId) (a1 : Addr) (a2 : Addr) : entryFrame m #[(.ref a1), (.ref a2)] 2 = mkF m 0 #[.val (.ref a1), .val (.ref a2)] [] := by first | (simp [entryFrame, mkF, argsToLocals, Value.category]; done) | rfl
def QI3 (Z : State) (a1 : Addr) (a2 : Addr) (k1 : ClassId) (v0 : Addr) (v1 : Addr) (v2 : Addr) (y1 : Value) (h0 : Heap) (n0 : Nat) (v : Option Value) (h : Heap) (L : List Loc) : Prop := ∃ (b : Addr), v = none ∧ Fr n0 L ∧ (h0.size ≤ b) ∧ (n0 ≤ b) ∧ (Keep h0 h [a1]) ∧ (Fld Z h a1 "com/example/sunder/sunder/cli/Arguments" "args" "[Ljava/lang/String;" (.ref b)) ∧ (Fld Z h a1 "com/example/sunder/sunder/cli/Arguments" "next" "I" (.int (0 : Int32))) ∧ (Exa Z h b "[Ljava/lang/String;") ∧ (Arv Z h b k1 (.object "java/lang/String") (3 : Int32) [(.ref v0), (.ref v1), (.ref v2)] .null)
set_option maxRecDepth 65536 in
set_option maxHeartbeats 40000000 in
theorem rmI3 (l : Launch) (Z : State) (a0 : Array Value) (hw : ∀ d ∈ tables_1, d.before a0 Z = true) (ws : List Jvm.Cond) (a1 : Addr) (a2 : Addr) (k1 : ClassId) (v0 : Addr) (v1 : Addr) (v2 : Addr) (y1 : Value) (h0 : Heap) (n0 : Nat) (Z0 : n0 ≤ h0.size) (P0 : Exa Z h0 a1 "com/example/sunder/sunder/cli/Arguments") (P1 : Fld Z h0 a1 "com/example/sunder/sunder/cli/Arguments" "args" "[Ljava/lang/String;" y1) (P2 : Fld Z h0 a1 "com/example/sunder/sunder/cli/Arguments" "next" "I" (.int (0 : Int32))) (P3 : n0 ≤ a1) (P4 : Exa Z h0 a2 "[Ljava/lang/String;") (P5 : Arv Z h0 a2 k1 (.object "java/lang/String") (3 : Int32) [(.ref v0), (.ref v1), (.ref v2)] .null) (P6 : a1 ≠ a2) :
    MetFree l (⟨"com/example/sunder/sunder/cli/Arguments", "<init>", "([Ljava/lang/String;)V"⟩ : MethodName) (head1 (Jvm.Cond.code (⟨"com/example/sunder/sunder/cli/Arguments", "<init>", "([Ljava/lang/String;)V"⟩ : MethodName) prog_16_method_1_code 2 none :: ws) ({ frames := 1, cells := 1, slots := 3, locals := 15 } : Room)) (fun a U => a = #[(.ref a1), (.ref a2)] ∧ Z.Warmed39 U.vm ∧ U.heap = h0) (fun _ _ _ _ _ => True) (fun _ U o U' => ∃ v L, o = .returned v ∧ QI3 Z a1 a2 k1 v0 v1 v2 y1 h0 n0 v U'.heap L ∧ FrameEnd U o U' L ({ frames := 1, cells := 1, slots := 3, locals := 15 } : Room).cells ({ frames := 1, cells := 1, slots := 3, locals := 15 } : Room).slots) := by
  refine MetFree.of_bodySF (plainFor_of_name pn_I3) hisR ?_
  intro p e s m args below meth c s₁ Bd hml0 hP hK
  obtain ⟨rfl, hZ, hh⟩ := hP
  have hx := Bd.exec
  have hby := Bd.bytes
  have hml : c.maxLocals = 2 := hml0
  have hown : s.vm.findClass "com/example/sunder/sunder/cli/Arguments" = some m.cls := findClass_of_methodNamed Bd.named
  have hnm := (name_of_methodNamed Bd.named Bd.method).1
  have X0 : Stand p l e ({ frames := 1, cells := 1, slots := 3, locals := 15 } : Room) s m #[(.ref a1), (.ref a2)] below meth c s₁ [] 0 0 := Stand.of_body Bd
  have e0 : s₁.heap = h0 := by rw [← hh, Bd.state]; rfl
  have N0 := Fr.nil n0
  have hS0 : s.Since s.vm 0 := (State.WarmedH.refl s).since 0
  show Go FrameEnd p e below s ({ frames := 1, cells := 1, slots := 3, locals := 15 } : Room).cells ({ frames := 1, cells := 1, slots := 3, locals := 15 } : Room).slots (QI3 Z a1 a2 k1 v0 v1 v2 y1 h0 n0) (s₁.setTop (entryFrame m #[(.ref a1), (.ref a2)] 2))
  refine go (fun _ k => castTop (ef_I3 m a1 a2) k) ?_
  show Go _ p e below s _ _ _ (s₁.setTop (mkF m 0 #[.val (.ref a1), .val (.ref a2)] []))
  refine go (fun _ => XS.aloadN X0.here hx rfl (hb hby d7_0) rfl rfl) ?_
  show Go _ p e below s _ _ _ (s₁.setTop (mkF m 1 #[.val (.ref a1), .val (.ref a2)] [(.ref a1)]))
  obtain ⟨T117, X117, e117, st117⟩ := initO X0 hx hZ hown (hw _ (List.mem_of_getElem? (i := 38) rfl)) (hw _ (List.mem_of_getElem? (i := 24) rfl)) (hw _ (List.mem_of_getElem? (i := 25) rfl)) e0 (g := (mkF m 1 #[.val (.ref a1), .val (.ref a2)] [(.ref a1)])) rfl (by rw [hml]; rfl) rfl (hb hby d7_1) (by decide) (W := 0) (by show 2 * 0 + _ ≤ _; exact Nat.le_of_eq rfl) (by decide)
  refine go st117 ?_
  show Go _ p e below s _ _ _ (T117.setTop (mkF m 4 #[.val (.ref a1), .val (.ref a2)] []))
  refine go (fun _ => XS.aloadN X117.here hx rfl (hb hby d7_4) rfl rfl) ?_
  show Go _ p e below s _ _ _ (T117.setTop (mkF m 5 #[.val (.ref a1), .val (.ref a2)] [(.ref a1)]))
  refine go (fun _ => XS.aloadN X117.here hx rfl (hb hby d7_5) rfl rfl) ?_
  show Go _ p e below s _ _ _ (T117.setTop (mkF m 6 #[.val (.ref a1), .val (.ref a2)] [(.ref a2), (.ref a1)]))
  obtain ⟨T118, h118, X118, e118, E118, A118, AE118, st118⟩ := cloneH X117 hx hZ (ad := "[Ljava/lang/String;") hown (hw _ (List.mem_of_getElem? (i := 39) rfl)) (hw _ (List.mem_of_getElem? (i := 40) rfl)) (hw _ (List.mem_of_getElem? (i := 44) rfl)) (hw _ (List.mem_of_getElem? (i := 42) rfl)) (hw _ (List.mem_of_getElem? (i := 43) rfl)) (hw _ (List.mem_of_getElem? (i := 45) rfl)) e117 P5.arh P4 (g := (mkF m 6 #[.val (.ref a1), .val (.ref a2)] [(.ref a2), (.ref a1)])) rfl (by rw [hml]; rfl) rfl (hb hby d7_6) (by decide) (W := 1) (cap := 3) (by show 2 * 0 + _ ≤ _; exact Nat.le_of_eq rfl) (by decide) (by decide) (by decide) (by decide)
  obtain ⟨b118, g118⟩ : ∃ z, z = h0.size := ⟨_, rfl⟩
  rw [← g118] at A118 AE118 st118
  have lt118_a1_b118 : a1 < b118 := Nat.lt_of_lt_of_le P0.lt (Nat.le_of_eq g118.symm)
  have lt118_a2_b118 : a2 < b118 := Nat.lt_of_lt_of_le P4.lt (Nat.le_of_eq g118.symm)
  have G_b118 : n0 ≤ b118 := Nat.le_trans Z0 (Nat.le_of_eq g118.symm)
  have SZ_b118 : h0.size ≤ b118 := Nat.le_trans (Keep.refl h0 [a1]).1 (Nat.le_of_eq g118.symm)
  have c118_0 := P0.ext E118
  have c118_1 := P1.ext E118
  have c118_2 := P2.ext E118
  have c118_3 := P4.ext E118
  have c118_4 := P5.ext E118
  have KK118 : Keep h0 h118 [a1] := (Keep.refl h0 [a1]).ext E118
  have ZN118 : n0 ≤ h118.size := Nat.le_trans Z0 E118.1
  have V118 : Arv Z h118 b118 k1 (.object "java/lang/String") (3 : Int32) [(.ref v0), (.ref v1), (.ref v2)] .null := A118
  refine go st118 ?_
  show Go _ p e below s _ _ _ (T118.setTop (mkF m 9 #[.val (.ref a1), .val (.ref a2)] [(.ref b118), (.ref a1)]))
  obtain ⟨T119, X119, e119, st119⟩ := castY X118 hx hZ hown (hw _ (List.mem_of_getElem? (i := 46) rfl)) e118 (Ins.self AE118) (g := (mkF m 9 #[.val (.ref a1), .val (.ref a2)] [(.ref b118), (.ref a1)])) rfl rfl (hb hby d7_9)
  refine go st119 ?_
  show Go _ p e below s _ _ _ (T119.setTop (mkF m 12 #[.val (.ref a1), .val (.ref a2)] [(.ref b118), (.ref a1)]))
  obtain ⟨T120, h120, X120, e120, W120, st120⟩ := putF X119 hx hZ hown (host := "") (Or.inl (hw _ (List.mem_of_getElem? (i := 48) rfl))) Via.refl e119 c118_1 c118_0 (Or.inr ⟨(hw _ (List.mem_of_getElem? (i := 49) rfl)), rfl, hnm⟩) (hw _ (List.mem_of_getElem? (i := 33) rfl)) (ty := (.array (.object "java/lang/String"))) (by decide) rfl rfl (g := (mkF m 12 #[.val (.ref a1), .val (.ref a2)] [(.ref b118), (.ref a1)])) rfl rfl (hb hby d7_12)
  have Fw120 := c118_1.same W120
  have c120_0 := c118_0.wr W120
  have c120_2 := c118_2.other W120 (Or.inr (slot_ne (Or.inl (hw _ (List.mem_of_getElem? (i := 56) rfl))) (Or.inr (hw _ (List.mem_of_getElem? (i := 49) rfl))) (by decide) (t := .int) (t' := (.array (.object "java/lang/String"))) (by decide) (by decide)))
  have c120_3 := c118_3.wr W120
  have c120_4 := c118_4.other W120 (Ne.symm P6)
  have c120_5 := AE118.wr W120
  have c120_6 := V118.other W120 (Ne.symm (Nat.ne_of_lt lt118_a1_b118))
  have KK120 : Keep h0 h120 [a1] := KK118.wr W120 (Or.inl (List.mem_of_getElem? (i := 0) rfl))
  have ZN120 : n0 ≤ h120.size := Nat.le_trans ZN118 (Keep.of_wr W120).1
  have NN120 := Fr.snoc X120 N0 P3
  refine go st120 ?_
  show Go _ p e below s _ _ _ (T120.setTop (mkF m 15 #[.val (.ref a1), .val (.ref a2)] []))
  refine goRet0 X120 hx Bd.notSynchronized Bd.returns (hb hby d7_15) (by decide) (by decide) (by rw [e120]; refine ⟨b118, rfl, NN120, SZ_b118, G_b118, KK120, Fw120, c120_2, c120_5, c120_6⟩)
theorem pn_H3_0 : plainName "com/example/sunder/sunder/cli/Arguments" = true := by first | (simp [plainName, overriddenIn]; done) | decide +kernel
theorem ef_H3_0 (m : MethodId) (a1 : Addr) : entryFrame m #[(.ref a1)] 1 = mkF m 0 #[.val (.ref a1)] [] := by first | (simp [entryFrame, mkF, argsToLocals, Value.category]; done) | rfl
def QH3_0 (Z : State) (a1 : Addr) (b : Addr) (k1 : ClassId) (v0 : Addr) (v1 : Addr) (v2 : Addr) (h0 : Heap) (n0 : Nat) (v : Option Value) (h : Heap) (L : List Loc) : Prop := v = some (.int (1 : Int32)) ∧ Fr n0 L ∧ (h = h0)
set_option maxRecDepth 65536 in
set_option maxHeartbeats 40000000 in
theorem rmH3_0 (l : Launch) (Z : State) (a0 : Array Value) (hw : ∀ d ∈ tables_1, d.before a0 Z = true) (ws : List Jvm.Cond) (a1 : Addr) (b : Addr) (k1 : ClassId) (v0 : Addr) (v1 : Addr) (v2 : Addr) (h0 : Heap) (n0 : Nat) (Z0 : n0 ≤ h0.size) (P0 : Fld Z h0 a1 "com/example/sunder/sunder/cli/Arguments" "args" "[Ljava/lang/String;" (.ref b)) (P1 : Fld Z h0 a1 "com/example/sunder/sunder/cli/Arguments" "next" "I" (.int (0 : Int32))) (P2 : Arv Z h0 b k1 (.object "java/lang/String") (3 : Int32) [(.ref v0), (.ref v1), (.ref v2)] .null) :
    MetFree l (⟨"com/example/sunder/sunder/cli/Arguments", "hasNext", "()Z"⟩ : MethodName) (head1 (Jvm.Cond.code (⟨"com/example/sunder/sunder/cli/Arguments", "hasNext", "()Z"⟩ : MethodName) prog_16_method_2_code 1 (some .boolean) :: ws) ({ frames := 0, cells := 0, slots := 0, locals := 0 } : Room)) (fun a U => a = #[(.ref a1)] ∧ Z.Warmed39 U.vm ∧ U.heap = h0) (fun _ _ _ _ _ => True) (fun _ U o U' => ∃ v L, o = .returned v ∧ QH3_0 Z a1 b k1 v0 v1 v2 h0 n0 v U'.heap L ∧ FrameEnd U o U' L ({ frames := 0, cells := 0, slots := 0, locals := 0 } : Room).cells ({ frames := 0, cells := 0, slots := 0, locals := 0 } : Room).slots) := by
  refine MetFree.of_bodySF (plainFor_of_name pn_H3_0) hisR ?_
  intro p e s m args below meth c s₁ Bd hml0 hP hK
  obtain ⟨rfl, hZ, hh⟩ := hP
  have hx := Bd.exec
  have hby := Bd.bytes
  have hml : c.maxLocals = 1 := hml0
  have hown : s.vm.findClass "com/example/sunder/sunder/cli/Arguments" = some m.cls := findClass_of_methodNamed Bd.named
  have hnm := (name_of_methodNamed Bd.named Bd.method).1
  have X0 : Stand p l e ({ frames := 0, cells := 0, slots := 0, locals := 0 } : Room) s m #[(.ref a1)] below meth c s₁ [] 0 0 := Stand.of_body Bd
  have e0 : s₁.heap = h0 := by rw [← hh, Bd.state]; rfl
  have N0 := Fr.nil n0
  have hS0 : s.Since s.vm 0 := (State.WarmedH.refl s).since 0
  show Go FrameEnd p e below s ({ frames := 0, cells := 0, slots := 0, locals := 0 } : Room).cells ({ frames := 0, cells := 0, slots := 0, locals := 0 } : Room).slots (QH3_0 Z a1 b k1 v0 v1 v2 h0 n0) (s₁.setTop (entryFrame m #[(.ref a1)] 1))
  refine go (fun _ k => castTop (ef_H3_0 m a1) k) ?_
  show Go _ p e below s _ _ _ (s₁.setTop (mkF m 0 #[.val (.ref a1)] []))
  refine go (fun _ => XS.aloadN X0.here hx rfl (hb hby d8_0) rfl rfl) ?_
  show Go _ p e below s _ _ _ (s₁.setTop (mkF m 1 #[.val (.ref a1)] [(.ref a1)]))
  obtain ⟨T124, X124, e124, st124⟩ := getF X0 hx hZ hown (host := "") (Or.inl (hw _ (List.mem_of_getElem? (i := 55) rfl))) Via.refl e0 P1 (g := (mkF m 1 #[.val (.ref a1)] [(.ref a1)])) rfl rfl (hb hby d8_1)
  refine go st124 ?_
  show Go _ p e below s _ _ _ (T124.setTop (mkF m 4 #[.val (.ref a1)] [(.int (0 : Int32))]))
  refine go (fun _ => XS.aloadN X124.here hx rfl (hb hby d8_4) rfl rfl) ?_
  show Go _ p e below s _ _ _ (T124.setTop (mkF m 5 #[.val (.ref a1)] [(.ref a1), (.int (0 : Int32))]))
  obtain ⟨T125, X125, e125, st125⟩ := getF X124 hx hZ hown (host := "") (Or.inl (hw _ (List.mem_of_getElem? (i := 48) rfl))) Via.refl e124 P0 (g := (mkF m 5 #[.val (.ref a1)] [(.ref a1), (.int (0 : Int32))])) rfl rfl (hb hby d8_5)
  refine go st125 ?_
  show Go _ p e below s _ _ _ (T125.setTop (mkF m 8 #[.val (.ref a1)] [(.ref b), (.int (0 : Int32))]))
  obtain ⟨cl126, Ar126, -, Sz126, Nz126, -, -⟩ := id P2
  refine go (X125.arraylength hx (by rw [e125]; exact Ar126.1) (State.isArrayOf_alike hZ.alike Ar126.2.1) (g := (mkF m 8 #[.val (.ref a1)] [(.ref b), (.int (0 : Int32))])) rfl rfl (hb hby d8_8)) ?_
  rw [len_of Sz126 Nz126]
  show Go _ p e below s _ _ _ (T125.setTop (mkF m 9 #[.val (.ref a1)] [(.int (3 : Int32)), (.int (0 : Int32))]))
  refine go (fun _ => XS.icmpNo X125.here hx rfl (hb hby d8_9) rfl (tlt (by decide : ((0 : Int32) < (3 : Int32)))).2.1) ?_
  show Go _ p e below s _ _ _ (T125.setTop (mkF m 12 #[.val (.ref a1)] []))
  refine go (fun _ => XS.iconst X125.here hx rfl (hb hby d8_12)) ?_
  show Go _ p e below s _ _ _ (T125.setTop (mkF m 13 #[.val (.ref a1)] [(.int (1 : Int32))]))
  refine go (fun _ => XS.goto X125.here hx rfl (pc0 := 13) (pc' := 17) rfl (hb hby d8_13) (by decide) (by decide)) ?_
  show Go _ p e below s _ _ _ (T125.setTop (mkF m 17 #[.val (.ref a1)] [(.int (1 : Int32))]))
  refine goRet X125 hx Bd.notSynchronized Bd.returns rfl (Or.inl ⟨rfl, Or.inr (Or.inl rfl), _, rfl⟩) (hb hby d8_17) (by decide) (by decide) (by rw [e125]; refine ⟨rfl, N0, rfl⟩)
theorem pn_N3_0 : plainName "com/example/sunder/sunder/cli/Arguments" = true := by first | (simp [plainName, overriddenIn]; done) | decide +kernel
theorem ef_N3_0 (m : MethodId) (a1 : Addr) : entryFrame m #[(.ref a1)] 1 = mkF m 0 #[.val (.ref a1)] [] := by first | (simp [entryFrame, mkF, argsToLocals, Value.category]; done) | rfl
def QN3_0 (Z : State) (a1 : Addr) (b : Addr) (k1 : ClassId) (v0 : Addr) (v1 : Addr) (v2 : Addr) (h0 : Heap) (n0 : Nat) (v : Option Value) (h : Heap) (L : List Loc) : Prop := v = some (.ref v0) ∧ Fr n0 L ∧ (Keep h0 h [a1]) ∧ (Fld Z h a1 "com/example/sunder/sunder/cli/Arguments" "args" "[Ljava/lang/String;" (.ref b)) ∧ (Fld Z h a1 "com/example/sunder/sunder/cli/Arguments" "next" "I" (.int (1 : Int32)))
set_option maxRecDepth 65536 in
set_option maxHeartbeats 40000000 in
theorem rmN3_0 (l : Launch) (Z : State) (a0 : Array Value) (hw : ∀ d ∈ tables_1, d.before a0 Z = true) (ws : List Jvm.Cond) (a1 : Addr) (b : Addr) (k1 : ClassId) (v0 : Addr) (v1 : Addr) (v2 : Addr) (h0 : Heap) (n0 : Nat) (Z0 : n0 ≤ h0.size) (P0 : Exa Z h0 a1 "com/example/sunder/sunder/cli/Arguments") (P1 : Fld Z h0 a1 "com/example/sunder/sunder/cli/Arguments" "args" "[Ljava/lang/String;" (.ref b)) (P2 : Fld Z h0 a1 "com/example/sunder/sunder/cli/Arguments" "next" "I" (.int (0 : Int32))) (P3 : n0 ≤ a1) (P4 : Arv Z h0 b k1 (.object "java/lang/String") (3 : Int32) [(.ref v0), (.ref v1), (.ref v2)] .null) (P5 : a1 ≠ b) :
    MetFree l (⟨"com/example/sunder/sunder/cli/Arguments", "next", "()Ljava/lang/String;"⟩ : MethodName) (head1 (Jvm.Cond.code (⟨"com/example/sunder/sunder/cli/Arguments", "next", "()Ljava/lang/String;"⟩ : MethodName) prog_16_method_3_code 1 (some (.object "java/lang/String")) :: ws) ({ frames := 1, cells := 0, slots := 0, locals := 12 } : Room)) (fun a U => a = #[(.ref a1)] ∧ Z.Warmed39 U.vm ∧ U.heap = h0) (fun _ _ _ _ _ => True) (fun _ U o U' => ∃ v L, o = .returned v ∧ QN3_0 Z a1 b k1 v0 v1 v2 h0 n0 v U'.heap L ∧ FrameEnd U o U' L ({ frames := 1, cells := 0, slots := 0, locals := 12 } : Room).cells ({ frames := 1, cells := 0, slots := 0, locals := 12 } : Room).slots) := by
  refine MetFree.of_bodySF (plainFor_of_name pn_N3_0) hisR ?_
  intro p e s m args below meth c s₁ Bd hml0 hP hK
  obtain ⟨rfl, hZ, hh⟩ := hP
  have hx := Bd.exec
  have hby := Bd.bytes
  have hml : c.maxLocals = 1 := hml0
  have hown : s.vm.findClass "com/example/sunder/sunder/cli/Arguments" = some m.cls := findClass_of_methodNamed Bd.named
  have hnm := (name_of_methodNamed Bd.named Bd.method).1
  have X0 : Stand p l e ({ frames := 1, cells := 0, slots := 0, locals := 12 } : Room) s m #[(.ref a1)] below meth c s₁ [] 0 0 := Stand.of_body Bd
  have e0 : s₁.heap = h0 := by rw [← hh, Bd.state]; rfl
  have N0 := Fr.nil n0
  have hS0 : s.Since s.vm 0 := (State.WarmedH.refl s).since 0
  show Go FrameEnd p e below s ({ frames := 1, cells := 0, slots := 0, locals := 12 } : Room).cells ({ frames := 1, cells := 0, slots := 0, locals := 12 } : Room).slots (QN3_0 Z a1 b k1 v0 v1 v2 h0 n0) (s₁.setTop (entryFrame m #[(.ref a1)] 1))
  refine go (fun _ k => castTop (ef_N3_0 m a1) k) ?_
  show Go _ p e below s _ _ _ (s₁.setTop (mkF m 0 #[.val (.ref a1)] []))
  refine go (fun _ => XS.aloadN X0.here hx rfl (hb hby d9_0) rfl rfl) ?_
  show Go _ p e below s _ _ _ (s₁.setTop (mkF m 1 #[.val (.ref a1)] [(.ref a1)]))
  obtain ⟨cq132, kq132, q132a, q132b, q132c⟩ := isOf hZ e0 P0
  obtain ⟨_, _, ⟨T132, L132, k132, n132⟩, -, X132, ⟨Lc132, hQ132, l132, y132, z132⟩, st132⟩ := X0.virtualBack hx (y := (⟨"com/example/sunder/sunder/cli/Arguments", "hasNext", "()Z"⟩ : MethodName)) (z := (⟨"com/example/sunder/sunder/cli/Arguments", "hasNext", "()Z"⟩ : MethodName)) hown (mvT hZ (hw _ (List.mem_of_getElem? (i := 62) rfl))) (mvT hZ (hw _ (List.mem_of_getElem? (i := 51) rfl))) (notFace_of_selects (args := #[]) (mvT hZ (hw _ (List.mem_of_getElem? (i := 53) rfl)))) (mvT hZ (hw _ (List.mem_of_getElem? (i := 53) rfl))) (mvT hZ (hw _ (List.mem_of_getElem? (i := 52) rfl))) (by decide) (backOf (W := 0) (rmH3_0 l Z a0 hw [] a1 b k1 v0 v1 v2 h0 n0 Z0 P1 P2 P4) hZ (hw _ (List.mem_of_getElem? (i := 54) rfl)) (hw _ (List.mem_of_getElem? (i := 34) rfl)) (by decide) (by decide)) q132a q132c (g := (mkF m 1 #[.val (.ref a1)] [(.ref a1)])) rfl (by rw [hml]; rfl) (Steps.refl _) (argsL := []) (rest := []) (lenOf pd_9_0 rfl) rfl (by show 2 * 0 + _ ≤ _; exact Nat.le_of_eq rfl) (hb hby d9_1) (fun _ _ => ⟨rfl, e0, (by decide : 0 + 0 ≤ _), (by decide : 0 + 0 ≤ _)⟩)
  dsimp only [Pt.U, Pt.locs, Pt.cells, Pt.slots] at X132 l132 y132 z132 st132 hQ132
  subst l132 y132 z132
  obtain ⟨rfl, N132q, e132⟩ := hQ132
  have N132 := Fr.app N0 N132q
  refine goT st132 ?_
  show Go _ p e below s _ _ _ (T132.setTop (mkF m 4 #[.val (.ref a1)] [(.int (1 : Int32))]))
  refine go (fun _ => XS.ifYes X132.here hx rfl (pc0 := 4) (pc' := 15) rfl (hb hby d9_4) rfl ((if0 _ _).trans (feq (by decide : ¬ ((1 : Int32) = (0 : Int32)))).2) (by decide) (by decide)) ?_
  show Go _ p e below s _ _ _ (T132.setTop (mkF m 15 #[.val (.ref a1)] []))
  refine go (fun _ => XS.aloadN X132.here hx rfl (hb hby d9_15) rfl rfl) ?_
  show Go _ p e below s _ _ _ (T132.setTop (mkF m 16 #[.val (.ref a1)] [(.ref a1)]))
  obtain ⟨T133, X133, e133, st133⟩ := getF X132 hx hZ hown (host := "") (Or.inl (hw _ (List.mem_of_getElem? (i := 48) rfl))) Via.refl e132 P1 (g := (mkF m 16 #[.val (.ref a1)] [(.ref a1)])) rfl rfl (hb hby d9_16)
  refine go st133 ?_
  show Go _ p e below s _ _ _ (T133.setTop (mkF m 19 #[.val (.ref a1)] [(.ref b)]))
  refine go (fun _ => XS.aloadN X133.here hx rfl (hb hby d9_19) rfl rfl) ?_
  show Go _ p e below s _ _ _ (T133.setTop (mkF m 20 #[.val (.ref a1)] [(.ref a1), (.ref b)]))
  refine go (fun _ => XS.dup X133.here hx rfl (hb hby d9_20) rfl rfl) ?_
  show Go _ p e below s _ _ _ (T133.setTop (mkF m 21 #[.val (.ref a1)] [(.ref a1), (.ref a1), (.ref b)]))
  obtain ⟨T134, X134, e134, st134⟩ := getF X133 hx hZ hown (host := "") (Or.inl (hw _ (List.mem_of_getElem? (i := 55) rfl))) Via.refl e133 P2 (g := (mkF m 21 #[.val (.ref a1)] [(.ref a1), (.ref a1), (.ref b)])) rfl rfl (hb hby d9_21)
  refine go st134 ?_
  show Go _ p e below s _ _ _ (T134.setTop (mkF m 24 #[.val (.ref a1)] [(.int (0 : Int32)), (.ref a1), (.ref b)]))
  refine go (fun _ => XS.dupX1 X134.here hx rfl (hb hby d9_24) rfl rfl rfl) ?_
  show Go _ p e below s _ _ _ (T134.setTop (mkF m 25 #[.val (.ref a1)] [(.int (0 : Int32)), (.ref a1), (.int (0 : Int32)), (.ref b)]))
  refine go (fun _ => XS.iconst X134.here hx rfl (hb hby d9_25)) ?_
  show Go _ p e below s _ _ _ (T134.setTop (mkF m 26 #[.val (.ref a1)] [(.int (1 : Int32)), (.int (0 : Int32)), (.ref a1), (.int (0 : Int32)), (.ref b)]))
  refine go (fun _ => XS.iadd X134.here hx rfl (hb hby d9_26) rfl) ?_
  show Go _ p e below s _ _ _ (T134.setTop (mkF m 27 #[.val (.ref a1)] [(.int (1 : Int32)), (.ref a1), (.int (0 : Int32)), (.ref b)]))
  obtain ⟨T135, h135, X135, e135, W135, st135⟩ := putF X134 hx hZ hown (host := "") (Or.inl (hw _ (List.mem_of_getElem? (i := 55) rfl))) Via.refl e134 P2 P0 (Or.inl (hw _ (List.mem_of_getElem? (i := 56) rfl))) (hw _ (List.mem_of_getElem? (i := 33) rfl)) (ty := .int) (by decide) rfl rfl (g := (mkF m 27 #[.val (.ref a1)] [(.int (1 : Int32)), (.ref a1), (.int (0 : Int32)), (.ref b)])) rfl rfl (hb hby d9_27)
  have Fw135 := P2.same W135
  have c135_0 := P0.wr W135
  have c135_1 := P1.other W135 (Or.inr (slot_ne (Or.inr (hw _ (List.mem_of_getElem? (i := 49) rfl))) (Or.inl (hw _ (List.mem_of_getElem? (i := 56) rfl))) (by decide) (t := (.array (.object "java/lang/String"))) (t' := .int) (by decide) (by decide)))
  have c135_3 := P4.other W135 (Ne.symm P5)
  have KK135 : Keep h0 h135 [a1] := (Keep.refl h0 [a1]).wr W135 (Or.inl (List.mem_of_getElem? (i := 0) rfl))
  have ZN135 : n0 ≤ h135.size := Nat.le_trans Z0 (Keep.of_wr W135).1
  have NN135 := Fr.snoc X135 N132 P3
  refine go st135 ?_
  show Go _ p e below s _ _ _ (T135.setTop (mkF m 30 #[.val (.ref a1)] [(.int (0 : Int32)), (.ref b)]))
  obtain ⟨cl136, Ar136, q136, Sz136, Nz136, Hs136, Gs136⟩ := id c135_3
  have hin136 : ¬ ((0 : Int32) < 0 ∨ cl136.slots.size ≤ ((0 : Int32)).toNatClampNeg) := inb_of Sz136 ⟨by decide, by decide⟩
  refine go (X135.aaload hx (j := (0 : Int32)) (v := (.ref v0)) (by rw [e135]; exact Ar136.1) (State.isArrayOf_alike hZ.alike Ar136.2.1) rfl Ar136.2.2 hin136 (Hs136.at hin136 rfl) (g := (mkF m 30 #[.val (.ref a1)] [(.int (0 : Int32)), (.ref b)])) rfl rfl (hb hby d9_30)) ?_
  show Go _ p e below s _ _ _ (T135.setTop (mkF m 31 #[.val (.ref a1)] [(.ref v0)]))
  refine goRet X135 hx Bd.notSynchronized Bd.returns rfl (Or.inr (Or.inr (Or.inr (Or.inr ⟨rfl, rfl, rfl⟩)))) (hb hby d9_31) (by decide) (by decide) (by rw [e135]; refine ⟨rfl, NN135, KK135, c135_1, Fw135⟩)
theorem pn_H3_1 : plainName "com/example/sunder/sunder/cli/Arguments" = true := by first | (simp [plainName, overriddenIn]; done) | decide +kernel
theorem ef_H3_1 (m : MethodId) (a1 : Addr) : entryFrame m #[(.ref a1)] 1 = mkF m 0 #[.val (.ref a1)] [] := by first | (simp [entryFrame, mkF, argsToLocals, Value.category]; done) | rfl
def QH3_1 (Z : State) (a1 : Addr) (b : Addr) (k1 : ClassId) (v0 : Addr) (v1 : Addr) (v2 : Addr) (h0 : Heap) (n0 : Nat) (v : Option Value) (h : Heap) (L : List Loc) : Prop := v = some (.int (1 : Int32)) ∧ Fr n0 L ∧ (h = h0)
set_option maxRecDepth 65536 in
set_option maxHeartbeats 40000000 in
theorem rmH3_1 (l : Launch) (Z : State) (a0 : Array Value) (hw : ∀ d ∈ tables_1, d.before a0 Z = true) (ws : List Jvm.Cond) (a1 : Addr) (b : Addr) (k1 : ClassId) (v0 : Addr) (v1 : Addr) (v2 : Addr) (h0 : Heap) (n0 : Nat) (Z0 : n0 ≤ h0.size) (P0 : Fld Z h0 a1 "com/example/sunder/sunder/cli/Arguments" "args" "[Ljava/lang/String;" (.ref b)) (P1 : Fld Z h0 a1 "com/example/sunder/sunder/cli/Arguments" "next" "I" (.int (1 : Int32))) (P2 : Arv Z h0 b k1 (.object "java/lang/String") (3 : Int32) [(.ref v0), (.ref v1), (.ref v2)] .null) :
    MetFree l (⟨"com/example/sunder/sunder/cli/Arguments", "hasNext", "()Z"⟩ : MethodName) (head1 (Jvm.Cond.code (⟨"com/example/sunder/sunder/cli/Arguments", "hasNext", "()Z"⟩ : MethodName) prog_16_method_2_code 1 (some .boolean) :: ws) ({ frames := 0, cells := 0, slots := 0, locals := 0 } : Room)) (fun a U => a = #[(.ref a1)] ∧ Z.Warmed39 U.vm ∧ U.heap = h0) (fun _ _ _ _ _ => True) (fun _ U o U' => ∃ v L, o = .returned v ∧ QH3_1 Z a1 b k1 v0 v1 v2 h0 n0 v U'.heap L ∧ FrameEnd U o U' L ({ frames := 0, cells := 0, slots := 0, locals := 0 } : Room).cells ({ frames := 0, cells := 0, slots := 0, locals := 0 } : Room).slots) := by
  refine MetFree.of_bodySF (plainFor_of_name pn_H3_1) hisR ?_
  intro p e s m args below meth c s₁ Bd hml0 hP hK
  obtain ⟨rfl, hZ, hh⟩ := hP
  have hx := Bd.exec
  have hby := Bd.bytes
  have hml : c.maxLocals = 1 := hml0
  have hown : s.vm.findClass "com/example/sunder/sunder/cli/Arguments" = some m.cls := findClass_of_methodNamed Bd.named
  have hnm := (name_of_methodNamed Bd.named Bd.method).1
  have X0 : Stand p l e ({ frames := 0, cells := 0, slots := 0, locals := 0 } : Room) s m #[(.ref a1)] below meth c s₁ [] 0 0 := Stand.of_body Bd
  have e0 : s₁.heap = h0 := by rw [← hh, Bd.state]; rfl
  have N0 := Fr.nil n0
  have hS0 : s.Since s.vm 0 := (State.WarmedH.refl s).since 0
  show Go FrameEnd p e below s ({ frames := 0, cells := 0, slots := 0, locals := 0 } : Room).cells ({ frames := 0, cells := 0, slots := 0, locals := 0 } : Room).slots (QH3_1 Z a1 b k1 v0 v1 v2 h0 n0) (s₁.setTop (entryFrame m #[(.ref a1)] 1))
  refine go (fun _ k => castTop (ef_H3_1 m a1) k) ?_
  show Go _ p e below s _ _ _ (s₁.setTop (mkF m 0 #[.val (.ref a1)] []))
  refine go (fun _ => XS.aloadN X0.here hx rfl (hb hby d8_0) rfl rfl) ?_
  show Go _ p e below s _ _ _ (s₁.setTop (mkF m 1 #[.val (.ref a1)] [(.ref a1)]))
  obtain ⟨T140, X140, e140, st140⟩ := getF X0 hx hZ hown (host := "") (Or.inl (hw _ (List.mem_of_getElem? (i := 55) rfl))) Via.refl e0 P1 (g := (mkF m 1 #[.val (.ref a1)] [(.ref a1)])) rfl rfl (hb hby d8_1)
  refine go st140 ?_
  show Go _ p e below s _ _ _ (T140.setTop (mkF m 4 #[.val (.ref a1)] [(.int (1 : Int32))]))
  refine go (fun _ => XS.aloadN X140.here hx rfl (hb hby d8_4) rfl rfl) ?_
  show Go _ p e below s _ _ _ (T140.setTop (mkF m 5 #[.val (.ref a1)] [(.ref a1), (.int (1 : Int32))]))
  obtain ⟨T141, X141, e141, st141⟩ := getF X140 hx hZ hown (host := "") (Or.inl (hw _ (List.mem_of_getElem? (i := 48) rfl))) Via.refl e140 P0 (g := (mkF m 5 #[.val (.ref a1)] [(.ref a1), (.int (1 : Int32))])) rfl rfl (hb hby d8_5)
  refine go st141 ?_
  show Go _ p e below s _ _ _ (T141.setTop (mkF m 8 #[.val (.ref a1)] [(.ref b), (.int (1 : Int32))]))
  obtain ⟨cl142, Ar142, -, Sz142, Nz142, -, -⟩ := id P2
  refine go (X141.arraylength hx (by rw [e141]; exact Ar142.1) (State.isArrayOf_alike hZ.alike Ar142.2.1) (g := (mkF m 8 #[.val (.ref a1)] [(.ref b), (.int (1 : Int32))])) rfl rfl (hb hby d8_8)) ?_
  rw [len_of Sz142 Nz142]
  show Go _ p e below s _ _ _ (T141.setTop (mkF m 9 #[.val (.ref a1)] [(.int (3 : Int32)), (.int (1 : Int32))]))
  refine go (fun _ => XS.icmpNo X141.here hx rfl (hb hby d8_9) rfl (tlt (by decide : ((1 : Int32) < (3 : Int32)))).2.1) ?_
  show Go _ p e below s _ _ _ (T141.setTop (mkF m 12 #[.val (.ref a1)] []))
  refine go (fun _ => XS.iconst X141.here hx rfl (hb hby d8_12)) ?_
  show Go _ p e below s _ _ _ (T141.setTop (mkF m 13 #[.val (.ref a1)] [(.int (1 : Int32))]))
  refine go (fun _ => XS.goto X141.here hx rfl (pc0 := 13) (pc' := 17) rfl (hb hby d8_13) (by decide) (by decide)) ?_
  show Go _ p e below s _ _ _ (T141.setTop (mkF m 17 #[.val (.ref a1)] [(.int (1 : Int32))]))
  refine goRet X141 hx Bd.notSynchronized Bd.returns rfl (Or.inl ⟨rfl, Or.inr (Or.inl rfl), _, rfl⟩) (hb hby d8_17) (by decide) (by decide) (by rw [e141]; refine ⟨rfl, N0, rfl⟩)
theorem pn_N3_1 : plainName "com/example/sunder/sunder/cli/Arguments" = true := by first | (simp [plainName, overriddenIn]; done) | decide +kernel
theorem ef_N3_1 (m : MethodId) (a1 : Addr) : entryFrame m #[(.ref a1)] 1 = mkF m 0 #[.val (.ref a1)] [] := by first | (simp [entryFrame, mkF, argsToLocals, Value.category]; done) | rfl
def QN3_1 (Z : State) (a1 : Addr) (b : Addr) (k1 : ClassId) (v0 : Addr) (v1 : Addr) (v2 : Addr) (h0 : Heap) (n0 : Nat) (v : Option Value) (h : Heap) (L : List Loc) : Prop := v = some (.ref v1) ∧ Fr n0 L ∧ (Keep h0 h [a1]) ∧ (Fld Z h a1 "com/example/sunder/sunder/cli/Arguments" "args" "[Ljava/lang/String;" (.ref b)) ∧ (Fld Z h a1 "com/example/sunder/sunder/cli/Arguments" "next" "I" (.int (2 : Int32)))
set_option maxRecDepth 65536 in
set_option maxHeartbeats 40000000 in
theorem rmN3_1 (l : Launch) (Z : State) (a0 : Array Value) (hw : ∀ d ∈ tables_1, d.before a0 Z = true) (ws : List Jvm.Cond) (a1 : Addr) (b : Addr) (k1 : ClassId) (v0 : Addr) (v1 : Addr) (v2 : Addr) (h0 : Heap) (n0 : Nat) (Z0 : n0 ≤ h0.size) (P0 : Exa Z h0 a1 "com/example/sunder/sunder/cli/Arguments") (P1 : Fld Z h0 a1 "com/example/sunder/sunder/cli/Arguments" "args" "[Ljava/lang/String;" (.ref b)) (P2 : Fld Z h0 a1 "com/example/sunder/sunder/cli/Arguments" "next" "I" (.int (1 : Int32))) (P3 : n0 ≤ a1) (P4 : Arv Z h0 b k1 (.object "java/lang/String") (3 : Int32) [(.ref v0), (.ref v1), (.ref v2)] .null) (P5 : a1 ≠ b) :
    MetFree l (⟨"com/example/sunder/sunder/cli/Arguments", "next", "()Ljava/lang/String;"⟩ : MethodName) (head1 (Jvm.Cond.code (⟨"com/example/sunder/sunder/cli/Arguments", "next", "()Ljava/lang/String;"⟩ : MethodName) prog_16_method_3_code 1 (some (.object "java/lang/String")) :: ws) ({ frames := 1, cells := 0, slots := 0, locals := 12 } : Room)) (fun a U => a = #[(.ref a1)] ∧ Z.Warmed39 U.vm ∧ U.heap = h0) (fun _ _ _ _ _ => True) (fun _ U o U' => ∃ v L, o = .returned v ∧ QN3_1 Z a1 b k1 v0 v1 v2 h0 n0 v U'.heap L ∧ FrameEnd U o U' L ({ frames := 1, cells := 0, slots := 0, locals := 12 } : Room).cells ({ frames := 1, cells := 0, slots := 0, locals := 12 } : Room).slots) := by
  refine MetFree.of_bodySF (plainFor_of_name pn_N3_1) hisR ?_
  intro p e s m args below meth c s₁ Bd hml0 hP hK
  obtain ⟨rfl, hZ, hh⟩ := hP
  have hx := Bd.exec
  have hby := Bd.bytes
  have hml : c.maxLocals = 1 := hml0
  have hown : s.vm.findClass "com/example/sunder/sunder/cli/Arguments" = some m.cls := findClass_of_methodNamed Bd.named
  have hnm := (name_of_methodNamed Bd.named Bd.method).1
  have X0 : Stand p l e ({ frames := 1, cells := 0, slots := 0, locals := 12 } : Room) s m #[(.ref a1)] below meth c s₁ [] 0 0 := Stand.of_body Bd
  have e0 : s₁.heap = h0 := by rw [← hh, Bd.state]; rfl
  have N0 := Fr.nil n0
  have hS0 : s.Since s.vm 0 := (State.WarmedH.refl s).since 0
  show Go FrameEnd p e below s ({ frames := 1, cells := 0, slots := 0, locals := 12 } : Room).cells ({ frames := 1, cells := 0, slots := 0, locals := 12 } : Room).slots (QN3_1 Z a1 b k1 v0 v1 v2 h0 n0) (s₁.setTop (entryFrame m #[(.ref a1)] 1))
  refine go (fun _ k => castTop (ef_N3_1 m a1) k) ?_
  show Go _ p e below s _ _ _ (s₁.setTop (mkF m 0 #[.val (.ref a1)] []))
  refine go (fun _ => XS.aloadN X0.here hx rfl (hb hby d9_0) rfl rfl) ?_
  show Go _ p e below s _ _ _ (s₁.setTop (mkF m 1 #[.val (.ref a1)] [(.ref a1)]))
  obtain ⟨cq148, kq148, q148a, q148b, q148c⟩ := isOf hZ e0 P0
  obtain ⟨_, _, ⟨T148, L148, k148, n148⟩, -, X148, ⟨Lc148, hQ148, l148, y148, z148⟩, st148⟩ := X0.virtualBack hx (y := (⟨"com/example/sunder/sunder/cli/Arguments", "hasNext", "()Z"⟩ : MethodName)) (z := (⟨"com/example/sunder/sunder/cli/Arguments", "hasNext", "()Z"⟩ : MethodName)) hown (mvT hZ (hw _ (List.mem_of_getElem? (i := 62) rfl))) (mvT hZ (hw _ (List.mem_of_getElem? (i := 51) rfl))) (notFace_of_selects (args := #[]) (mvT hZ (hw _ (List.mem_of_getElem? (i := 53) rfl)))) (mvT hZ (hw _ (List.mem_of_getElem? (i := 53) rfl))) (mvT hZ (hw _ (List.mem_of_getElem? (i := 52) rfl))) (by decide) (backOf (W := 0) (rmH3_1 l Z a0 hw [] a1 b k1 v0 v1 v2 h0 n0 Z0 P1 P2 P4) hZ (hw _ (List.mem_of_getElem? (i := 54) rfl)) (hw _ (List.mem_of_getElem? (i := 34) rfl)) (by decide) (by decide)) q148a q148c (g := (mkF m 1 #[.val (.ref a1)] [(.ref a1)])) rfl (by rw [hml]; rfl) (Steps.refl _) (argsL := []) (rest := []) (lenOf pd_9_0 rfl) rfl (by show 2 * 0 + _ ≤ _; exact Nat.le_of_eq rfl) (hb hby d9_1) (fun _ _ => ⟨rfl, e0, (by decide : 0 + 0 ≤ _), (by decide : 0 + 0 ≤ _)⟩)
  dsimp only [Pt.U, Pt.locs, Pt.cells, Pt.slots] at X148 l148 y148 z148 st148 hQ148
  subst l148 y148 z148
  obtain ⟨rfl, N148q, e148⟩ := hQ148
  have N148 := Fr.app N0 N148q
  refine goT st148 ?_
  show Go _ p e below s _ _ _ (T148.setTop (mkF m 4 #[.val (.ref a1)] [(.int (1 : Int32))]))
  refine go (fun _ => XS.ifYes X148.here hx rfl (pc0 := 4) (pc' := 15) rfl (hb hby d9_4) rfl ((if0 _ _).trans (feq (by decide : ¬ ((1 : Int32) = (0 : Int32)))).2) (by decide) (by decide)) ?_
  show Go _ p e below s _ _ _ (T148.setTop (mkF m 15 #[.val (.ref a1)] []))
  refine go (fun _ => XS.aloadN X148.here hx rfl (hb hby d9_15) rfl rfl) ?_
  show Go _ p e below s _ _ _ (T148.setTop (mkF m 16 #[.val (.ref a1)] [(.ref a1)]))
  obtain ⟨T149, X149, e149, st149⟩ := getF X148 hx hZ hown (host := "") (Or.inl (hw _ (List.mem_of_getElem? (i := 48) rfl))) Via.refl e148 P1 (g := (mkF m 16 #[.val (.ref a1)] [(.ref a1)])) rfl rfl (hb hby d9_16)
  refine go st149 ?_
  show Go _ p e below s _ _ _ (T149.setTop (mkF m 19 #[.val (.ref a1)] [(.ref b)]))
  refine go (fun _ => XS.aloadN X149.here hx rfl (hb hby d9_19) rfl rfl) ?_
  show Go _ p e below s _ _ _ (T149.setTop (mkF m 20 #[.val (.ref a1)] [(.ref a1), (.ref b)]))
  refine go (fun _ => XS.dup X149.here hx rfl (hb hby d9_20) rfl rfl) ?_
  show Go _ p e below s _ _ _ (T149.setTop (mkF m 21 #[.val (.ref a1)] [(.ref a1), (.ref a1), (.ref b)]))
  obtain ⟨T150, X150, e150, st150⟩ := getF X149 hx hZ hown (host := "") (Or.inl (hw _ (List.mem_of_getElem? (i := 55) rfl))) Via.refl e149 P2 (g := (mkF m 21 #[.val (.ref a1)] [(.ref a1), (.ref a1), (.ref b)])) rfl rfl (hb hby d9_21)
  refine go st150 ?_
  show Go _ p e below s _ _ _ (T150.setTop (mkF m 24 #[.val (.ref a1)] [(.int (1 : Int32)), (.ref a1), (.ref b)]))
  refine go (fun _ => XS.dupX1 X150.here hx rfl (hb hby d9_24) rfl rfl rfl) ?_
  show Go _ p e below s _ _ _ (T150.setTop (mkF m 25 #[.val (.ref a1)] [(.int (1 : Int32)), (.ref a1), (.int (1 : Int32)), (.ref b)]))
  refine go (fun _ => XS.iconst X150.here hx rfl (hb hby d9_25)) ?_
  show Go _ p e below s _ _ _ (T150.setTop (mkF m 26 #[.val (.ref a1)] [(.int (1 : Int32)), (.int (1 : Int32)), (.ref a1), (.int (1 : Int32)), (.ref b)]))
  refine go (fun _ => XS.iadd X150.here hx rfl (hb hby d9_26) rfl) ?_
  show Go _ p e below s _ _ _ (T150.setTop (mkF m 27 #[.val (.ref a1)] [(.int (2 : Int32)), (.ref a1), (.int (1 : Int32)), (.ref b)]))
  obtain ⟨T151, h151, X151, e151, W151, st151⟩ := putF X150 hx hZ hown (host := "") (Or.inl (hw _ (List.mem_of_getElem? (i := 55) rfl))) Via.refl e150 P2 P0 (Or.inl (hw _ (List.mem_of_getElem? (i := 56) rfl))) (hw _ (List.mem_of_getElem? (i := 33) rfl)) (ty := .int) (by decide) rfl rfl (g := (mkF m 27 #[.val (.ref a1)] [(.int (2 : Int32)), (.ref a1), (.int (1 : Int32)), (.ref b)])) rfl rfl (hb hby d9_27)
  have Fw151 := P2.same W151
  have c151_0 := P0.wr W151
  have c151_1 := P1.other W151 (Or.inr (slot_ne (Or.inr (hw _ (List.mem_of_getElem? (i := 49) rfl))) (Or.inl (hw _ (List.mem_of_getElem? (i := 56) rfl))) (by decide) (t := (.array (.object "java/lang/String"))) (t' := .int) (by decide) (by decide)))
  have c151_3 := P4.other W151 (Ne.symm P5)
  have KK151 : Keep h0 h151 [a1] := (Keep.refl h0 [a1]).wr W151 (Or.inl (List.mem_of_getElem? (i := 0) rfl))
  have ZN151 : n0 ≤ h151.size := Nat.le_trans Z0 (Keep.of_wr W151).1
  have NN151 := Fr.snoc X151 N148 P3
  refine go st151 ?_
  show Go _ p e below s _ _ _ (T151.setTop (mkF m 30 #[.val (.ref a1)] [(.int (1 : Int32)), (.ref b)]))
  obtain ⟨cl152, Ar152, q152, Sz152, Nz152, Hs152, Gs152⟩ := id c151_3
  have hin152 : ¬ ((1 : Int32) < 0 ∨ cl152.slots.size ≤ ((1 : Int32)).toNatClampNeg) := inb_of Sz152 ⟨by decide, by decide⟩
  refine go (X151.aaload hx (j := (1 : Int32)) (v := (.ref v1)) (by rw [e151]; exact Ar152.1) (State.isArrayOf_alike hZ.alike Ar152.2.1) rfl Ar152.2.2 hin152 (Hs152.at hin152 rfl) (g := (mkF m 30 #[.val (.ref a1)] [(.int (1 : Int32)), (.ref b)])) rfl rfl (hb hby d9_30)) ?_
  show Go _ p e below s _ _ _ (T151.setTop (mkF m 31 #[.val (.ref a1)] [(.ref v1)]))
  refine goRet X151 hx Bd.notSynchronized Bd.returns rfl (Or.inr (Or.inr (Or.inr (Or.inr ⟨rfl, rfl, rfl⟩)))) (hb hby d9_31) (by decide) (by decide) (by rw [e151]; refine ⟨rfl, NN151, KK151, c151_1, Fw151⟩)
theorem pn_H3_2 : plainName "com/example/sunder/sunder/cli/Arguments" = true := by first | (simp [plainName, overriddenIn]; done) | decide +kernel
theorem ef_H3_2 (m : MethodId) (a1 : Addr) : entryFrame m #[(.ref a1)] 1 = mkF m 0 #[.val (.ref a1)] [] := by first | (simp [entryFrame, mkF, argsToLocals, Value.category]; done) | rfl
def QH3_2 (Z : State) (a1 : Addr) (b : Addr) (k1 : ClassId) (v0 : Addr) (v1 : Addr) (v2 : Addr) (h0 : Heap) (n0 : Nat) (v : Option Value) (h : Heap) (L : List Loc) : Prop := v = some (.int (1 : Int32)) ∧ Fr n0 L ∧ (h = h0)
set_option maxRecDepth 65536 in
set_option maxHeartbeats 40000000 in
theorem rmH3_2 (l : Launch) (Z : State) (a0 : Array Value) (hw : ∀ d ∈ tables_1, d.before a0 Z = true) (ws : List Jvm.Cond) (a1 : Addr) (b : Addr) (k1 : ClassId) (v0 : Addr) (v1 : Addr) (v2 : Addr) (h0 : Heap) (n0 : Nat) (Z0 : n0 ≤ h0.size) (P0 : Fld Z h0 a1 "com/example/sunder/sunder/cli/Arguments" "args" "[Ljava/lang/String;" (.ref b)) (P1 : Fld Z h0 a1 "com/example/sunder/sunder/cli/Arguments" "next" "I" (.int (2 : Int32))) (P2 : Arv Z h0 b k1 (.object "java/lang/String") (3 : Int32) [(.ref v0), (.ref v1), (.ref v2)] .null) :
    MetFree l (⟨"com/example/sunder/sunder/cli/Arguments", "hasNext", "()Z"⟩ : MethodName) (head1 (Jvm.Cond.code (⟨"com/example/sunder/sunder/cli/Arguments", "hasNext", "()Z"⟩ : MethodName) prog_16_method_2_code 1 (some .boolean) :: ws) ({ frames := 0, cells := 0, slots := 0, locals := 0 } : Room)) (fun a U => a = #[(.ref a1)] ∧ Z.Warmed39 U.vm ∧ U.heap = h0) (fun _ _ _ _ _ => True) (fun _ U o U' => ∃ v L, o = .returned v ∧ QH3_2 Z a1 b k1 v0 v1 v2 h0 n0 v U'.heap L ∧ FrameEnd U o U' L ({ frames := 0, cells := 0, slots := 0, locals := 0 } : Room).cells ({ frames := 0, cells := 0, slots := 0, locals := 0 } : Room).slots) := by
  refine MetFree.of_bodySF (plainFor_of_name pn_H3_2) hisR ?_
  intro p e s m args below meth c s₁ Bd hml0 hP hK
  obtain ⟨rfl, hZ, hh⟩ := hP
  have hx := Bd.exec
  have hby := Bd.bytes
  have hml : c.maxLocals = 1 := hml0
  have hown : s.vm.findClass "com/example/sunder/sunder/cli/Arguments" = some m.cls := findClass_of_methodNamed Bd.named
  have hnm := (name_of_methodNamed Bd.named Bd.method).1
  have X0 : Stand p l e ({ frames := 0, cells := 0, slots := 0, locals := 0 } : Room) s m #[(.ref a1)] below meth c s₁ [] 0 0 := Stand.of_body Bd
  have e0 : s₁.heap = h0 := by rw [← hh, Bd.state]; rfl
  have N0 := Fr.nil n0
  have hS0 : s.Since s.vm 0 := (State.WarmedH.refl s).since 0
  show Go FrameEnd p e below s ({ frames := 0, cells := 0, slots := 0, locals := 0 } : Room).cells ({ frames := 0, cells := 0, slots := 0, locals := 0 } : Room).slots (QH3_2 Z a1 b k1 v0 v1 v2 h0 n0) (s₁.setTop (entryFrame m #[(.ref a1)] 1))
  refine go (fun _ k => castTop (ef_H3_2 m a1) k) ?_
  show Go _ p e below s _ _ _ (s₁.setTop (mkF m 0 #[.val (.ref a1)] []))
  refine go (fun _ => XS.aloadN X0.here hx rfl (hb hby d8_0) rfl rfl) ?_
  show Go _ p e below s _ _ _ (s₁.setTop (mkF m 1 #[.val (.ref a1)] [(.ref a1)]))
  obtain ⟨T156, X156, e156, st156⟩ := getF X0 hx hZ hown (host := "") (Or.inl (hw _ (List.mem_of_getElem? (i := 55) rfl))) Via.refl e0 P1 (g := (mkF m 1 #[.val (.ref a1)] [(.ref a1)])) rfl rfl (hb hby d8_1)
  refine go st156 ?_
  show Go _ p e below s _ _ _ (T156.setTop (mkF m 4 #[.val (.ref a1)] [(.int (2 : Int32))]))
  refine go (fun _ => XS.aloadN X156.here hx rfl (hb hby d8_4) rfl rfl) ?_
  show Go _ p e below s _ _ _ (T156.setTop (mkF m 5 #[.val (.ref a1)] [(.ref a1), (.int (2 : Int32))]))
  obtain ⟨T157, X157, e157, st157⟩ := getF X156 hx hZ hown (host := "") (Or.inl (hw _ (List.mem_of_getElem? (i := 48) rfl))) Via.refl e156 P0 (g := (mkF m 5 #[.val (.ref a1)] [(.ref a1), (.int (2 : Int32))])) rfl rfl (hb hby d8_5)
  refine go st157 ?_
  show Go _ p e below s _ _ _ (T157.setTop (mkF m 8 #[.val (.ref a1)] [(.ref b), (.int (2 : Int32))]))
  obtain ⟨cl158, Ar158, -, Sz158, Nz158, -, -⟩ := id P2
  refine go (X157.arraylength hx (by rw [e157]; exact Ar158.1) (State.isArrayOf_alike hZ.alike Ar158.2.1) (g := (mkF m 8 #[.val (.ref a1)] [(.ref b), (.int (2 : Int32))])) rfl rfl (hb hby d8_8)) ?_
  rw [len_of Sz158 Nz158]
  show Go _ p e below s _ _ _ (T157.setTop (mkF m 9 #[.val (.ref a1)] [(.int (3 : Int32)), (.int (2 : Int32))]))
  refine go (fun _ => XS.icmpNo X157.here hx rfl (hb hby d8_9) rfl (tlt (by decide : ((2 : Int32) < (3 : Int32)))).2.1) ?_
  show Go _ p e below s _ _ _ (T157.setTop (mkF m 12 #[.val (.ref a1)] []))
  refine go (fun _ => XS.iconst X157.here hx rfl (hb hby d8_12)) ?_
  show Go _ p e below s _ _ _ (T157.setTop (mkF m 13 #[.val (.ref a1)] [(.int (1 : Int32))]))
  refine go (fun _ => XS.goto X157.here hx rfl (pc0 := 13) (pc' := 17) rfl (hb hby d8_13) (by decide) (by decide)) ?_
  show Go _ p e below s _ _ _ (T157.setTop (mkF m 17 #[.val (.ref a1)] [(.int (1 : Int32))]))
  refine goRet X157 hx Bd.notSynchronized Bd.returns rfl (Or.inl ⟨rfl, Or.inr (Or.inl rfl), _, rfl⟩) (hb hby d8_17) (by decide) (by decide) (by rw [e157]; refine ⟨rfl, N0, rfl⟩)
theorem pn_N3_2 : plainName "com/example/sunder/sunder/cli/Arguments" = true := by first | (simp [plainName, overriddenIn]; done) | decide +kernel
theorem ef_N3_2 (m : MethodId) (a1 : Addr) : entryFrame m #[(.ref a1)] 1 = mkF m 0 #[.val (.ref a1)] [] := by first | (simp [entryFrame, mkF, argsToLocals, Value.category]; done) | rfl
def QN3_2 (Z : State) (a1 : Addr) (b : Addr) (k1 : ClassId) (v0 : Addr) (v1 : Addr) (v2 : Addr) (h0 : Heap) (n0 : Nat) (v : Option Value) (h : Heap) (L : List Loc) : Prop := v = some (.ref v2) ∧ Fr n0 L ∧ (Keep h0 h [a1]) ∧ (Fld Z h a1 "com/example/sunder/sunder/cli/Arguments" "args" "[Ljava/lang/String;" (.ref b)) ∧ (Fld Z h a1 "com/example/sunder/sunder/cli/Arguments" "next" "I" (.int (3 : Int32)))
set_option maxRecDepth 65536 in
set_option maxHeartbeats 40000000 in
theorem rmN3_2 (l : Launch) (Z : State) (a0 : Array Value) (hw : ∀ d ∈ tables_1, d.before a0 Z = true) (ws : List Jvm.Cond) (a1 : Addr) (b : Addr) (k1 : ClassId) (v0 : Addr) (v1 : Addr) (v2 : Addr) (h0 : Heap) (n0 : Nat) (Z0 : n0 ≤ h0.size) (P0 : Exa Z h0 a1 "com/example/sunder/sunder/cli/Arguments") (P1 : Fld Z h0 a1 "com/example/sunder/sunder/cli/Arguments" "args" "[Ljava/lang/String;" (.ref b)) (P2 : Fld Z h0 a1 "com/example/sunder/sunder/cli/Arguments" "next" "I" (.int (2 : Int32))) (P3 : n0 ≤ a1) (P4 : Arv Z h0 b k1 (.object "java/lang/String") (3 : Int32) [(.ref v0), (.ref v1), (.ref v2)] .null) (P5 : a1 ≠ b) :
    MetFree l (⟨"com/example/sunder/sunder/cli/Arguments", "next", "()Ljava/lang/String;"⟩ : MethodName) (head1 (Jvm.Cond.code (⟨"com/example/sunder/sunder/cli/Arguments", "next", "()Ljava/lang/String;"⟩ : MethodName) prog_16_method_3_code 1 (some (.object "java/lang/String")) :: ws) ({ frames := 1, cells := 0, slots := 0, locals := 12 } : Room)) (fun a U => a = #[(.ref a1)] ∧ Z.Warmed39 U.vm ∧ U.heap = h0) (fun _ _ _ _ _ => True) (fun _ U o U' => ∃ v L, o = .returned v ∧ QN3_2 Z a1 b k1 v0 v1 v2 h0 n0 v U'.heap L ∧ FrameEnd U o U' L ({ frames := 1, cells := 0, slots := 0, locals := 12 } : Room).cells ({ frames := 1, cells := 0, slots := 0, locals := 12 } : Room).slots) := by
  refine MetFree.of_bodySF (plainFor_of_name pn_N3_2) hisR ?_
  intro p e s m args below meth c s₁ Bd hml0 hP hK
  obtain ⟨rfl, hZ, hh⟩ := hP
  have hx := Bd.exec
  have hby := Bd.bytes
  have hml : c.maxLocals = 1 := hml0
  have hown : s.vm.findClass "com/example/sunder/sunder/cli/Arguments" = some m.cls := findClass_of_methodNamed Bd.named
  have hnm := (name_of_methodNamed Bd.named Bd.method).1
  have X0 : Stand p l e ({ frames := 1, cells := 0, slots := 0, locals := 12 } : Room) s m #[(.ref a1)] below meth c s₁ [] 0 0 := Stand.of_body Bd
  have e0 : s₁.heap = h0 := by rw [← hh, Bd.state]; rfl
  have N0 := Fr.nil n0
  have hS0 : s.Since s.vm 0 := (State.WarmedH.refl s).since 0
  show Go FrameEnd p e below s ({ frames := 1, cells := 0, slots := 0, locals := 12 } : Room).cells ({ frames := 1, cells := 0, slots := 0, locals := 12 } : Room).slots (QN3_2 Z a1 b k1 v0 v1 v2 h0 n0) (s₁.setTop (entryFrame m #[(.ref a1)] 1))
  refine go (fun _ k => castTop (ef_N3_2 m a1) k) ?_
  show Go _ p e below s _ _ _ (s₁.setTop (mkF m 0 #[.val (.ref a1)] []))
  refine go (fun _ => XS.aloadN X0.here hx rfl (hb hby d9_0) rfl rfl) ?_
  show Go _ p e below s _ _ _ (s₁.setTop (mkF m 1 #[.val (.ref a1)] [(.ref a1)]))
  obtain ⟨cq164, kq164, q164a, q164b, q164c⟩ := isOf hZ e0 P0
  obtain ⟨_, _, ⟨T164, L164, k164, n164⟩, -, X164, ⟨Lc164, hQ164, l164, y164, z164⟩, st164⟩ := X0.virtualBack hx (y := (⟨"com/example/sunder/sunder/cli/Arguments", "hasNext", "()Z"⟩ : MethodName)) (z := (⟨"com/example/sunder/sunder/cli/Arguments", "hasNext", "()Z"⟩ : MethodName)) hown (mvT hZ (hw _ (List.mem_of_getElem? (i := 62) rfl))) (mvT hZ (hw _ (List.mem_of_getElem? (i := 51) rfl))) (notFace_of_selects (args := #[]) (mvT hZ (hw _ (List.mem_of_getElem? (i := 53) rfl)))) (mvT hZ (hw _ (List.mem_of_getElem? (i := 53) rfl))) (mvT hZ (hw _ (List.mem_of_getElem? (i := 52) rfl))) (by decide) (backOf (W := 0) (rmH3_2 l Z a0 hw [] a1 b k1 v0 v1 v2 h0 n0 Z0 P1 P2 P4) hZ (hw _ (List.mem_of_getElem? (i := 54) rfl)) (hw _ (List.mem_of_getElem? (i := 34) rfl)) (by decide) (by decide)) q164a q164c (g := (mkF m 1 #[.val (.ref a1)] [(.ref a1)])) rfl (by rw [hml]; rfl) (Steps.refl _) (argsL := []) (rest := []) (lenOf pd_9_0 rfl) rfl (by show 2 * 0 + _ ≤ _; exact Nat.le_of_eq rfl) (hb hby d9_1) (fun _ _ => ⟨rfl, e0, (by decide : 0 + 0 ≤ _), (by decide : 0 + 0 ≤ _)⟩)
  dsimp only [Pt.U, Pt.locs, Pt.cells, Pt.slots] at X164 l164 y164 z164 st164 hQ164
  subst l164 y164 z164
  obtain ⟨rfl, N164q, e164⟩ := hQ164
  have N164 := Fr.app N0 N164q
  refine goT st164 ?_
  show Go _ p e below s _ _ _ (T164.setTop (mkF m 4 #[.val (.ref a1)] [(.int (1 : Int32))]))
  refine go (fun _ => XS.ifYes X164.here hx rfl (pc0 := 4) (pc' := 15) rfl (hb hby d9_4) rfl ((if0 _ _).trans (feq (by decide : ¬ ((1 : Int32) = (0 : Int32)))).2) (by decide) (by decide)) ?_
  show Go _ p e below s _ _ _ (T164.setTop (mkF m 15 #[.val (.ref a1)] []))
  refine go (fun _ => XS.aloadN X164.here hx rfl (hb hby d9_15) rfl rfl) ?_
  show Go _ p e below s _ _ _ (T164.setTop (mkF m 16 #[.val (.ref a1)] [(.ref a1)]))
  obtain ⟨T165, X165, e165, st165⟩ := getF X164 hx hZ hown (host := "") (Or.inl (hw _ (List.mem_of_getElem? (i := 48) rfl))) Via.refl e164 P1 (g := (mkF m 16 #[.val (.ref a1)] [(.ref a1)])) rfl rfl (hb hby d9_16)
  refine go st165 ?_
  show Go _ p e below s _ _ _ (T165.setTop (mkF m 19 #[.val (.ref a1)] [(.ref b)]))
  refine go (fun _ => XS.aloadN X165.here hx rfl (hb hby d9_19) rfl rfl) ?_
  show Go _ p e below s _ _ _ (T165.setTop (mkF m 20 #[.val (.ref a1)] [(.ref a1), (.ref b)]))
  refine go (fun _ => XS.dup X165.here hx rfl (hb hby d9_20) rfl rfl) ?_
  show Go _ p e below s _ _ _ (T165.setTop (mkF m 21 #[.val (.ref a1)] [(.ref a1), (.ref a1), (.ref b)]))
  obtain ⟨T166, X166, e166, st166⟩ := getF X165 hx hZ hown (host := "") (Or.inl (hw _ (List.mem_of_getElem? (i := 55) rfl))) Via.refl e165 P2 (g := (mkF m 21 #[.val (.ref a1)] [(.ref a1), (.ref a1), (.ref b)])) rfl rfl (hb hby d9_21)
  refine go st166 ?_
  show Go _ p e below s _ _ _ (T166.setTop (mkF m 24 #[.val (.ref a1)] [(.int (2 : Int32)), (.ref a1), (.ref b)]))
  refine go (fun _ => XS.dupX1 X166.here hx rfl (hb hby d9_24) rfl rfl rfl) ?_
  show Go _ p e below s _ _ _ (T166.setTop (mkF m 25 #[.val (.ref a1)] [(.int (2 : Int32)), (.ref a1), (.int (2 : Int32)), (.ref b)]))
  refine go (fun _ => XS.iconst X166.here hx rfl (hb hby d9_25)) ?_
  show Go _ p e below s _ _ _ (T166.setTop (mkF m 26 #[.val (.ref a1)] [(.int (1 : Int32)), (.int (2 : Int32)), (.ref a1), (.int (2 : Int32)), (.ref b)]))
  refine go (fun _ => XS.iadd X166.here hx rfl (hb hby d9_26) rfl) ?_
  show Go _ p e below s _ _ _ (T166.setTop (mkF m 27 #[.val (.ref a1)] [(.int (3 : Int32)), (.ref a1), (.int (2 : Int32)), (.ref b)]))
  obtain ⟨T167, h167, X167, e167, W167, st167⟩ := putF X166 hx hZ hown (host := "") (Or.inl (hw _ (List.mem_of_getElem? (i := 55) rfl))) Via.refl e166 P2 P0 (Or.inl (hw _ (List.mem_of_getElem? (i := 56) rfl))) (hw _ (List.mem_of_getElem? (i := 33) rfl)) (ty := .int) (by decide) rfl rfl (g := (mkF m 27 #[.val (.ref a1)] [(.int (3 : Int32)), (.ref a1), (.int (2 : Int32)), (.ref b)])) rfl rfl (hb hby d9_27)
  have Fw167 := P2.same W167
  have c167_0 := P0.wr W167
  have c167_1 := P1.other W167 (Or.inr (slot_ne (Or.inr (hw _ (List.mem_of_getElem? (i := 49) rfl))) (Or.inl (hw _ (List.mem_of_getElem? (i := 56) rfl))) (by decide) (t := (.array (.object "java/lang/String"))) (t' := .int) (by decide) (by decide)))
  have c167_3 := P4.other W167 (Ne.symm P5)
  have KK167 : Keep h0 h167 [a1] := (Keep.refl h0 [a1]).wr W167 (Or.inl (List.mem_of_getElem? (i := 0) rfl))
  have ZN167 : n0 ≤ h167.size := Nat.le_trans Z0 (Keep.of_wr W167).1
  have NN167 := Fr.snoc X167 N164 P3
  refine go st167 ?_
  show Go _ p e below s _ _ _ (T167.setTop (mkF m 30 #[.val (.ref a1)] [(.int (2 : Int32)), (.ref b)]))
  obtain ⟨cl168, Ar168, q168, Sz168, Nz168, Hs168, Gs168⟩ := id c167_3
  have hin168 : ¬ ((2 : Int32) < 0 ∨ cl168.slots.size ≤ ((2 : Int32)).toNatClampNeg) := inb_of Sz168 ⟨by decide, by decide⟩
  refine go (X167.aaload hx (j := (2 : Int32)) (v := (.ref v2)) (by rw [e167]; exact Ar168.1) (State.isArrayOf_alike hZ.alike Ar168.2.1) rfl Ar168.2.2 hin168 (Hs168.at hin168 rfl) (g := (mkF m 30 #[.val (.ref a1)] [(.int (2 : Int32)), (.ref b)])) rfl rfl (hb hby d9_30)) ?_
  show Go _ p e below s _ _ _ (T167.setTop (mkF m 31 #[.val (.ref a1)] [(.ref v2)]))
  refine goRet X167 hx Bd.notSynchronized Bd.returns rfl (Or.inr (Or.inr (Or.inr (Or.inr ⟨rfl, rfl, rfl⟩)))) (hb hby d9_31) (by decide) (by decide) (by rw [e167]; refine ⟨rfl, NN167, KK167, c167_1, Fw167⟩)
theorem pn_H3_3 : plainName "com/example/sunder/sunder/cli/Arguments" = true := by first | (simp [plainName, overriddenIn]; done) | decide +kernel
theorem ef_H3_3 (m : MethodId) (a1 : Addr) : entryFrame m #[(.ref a1)] 1 = mkF m 0 #[.val (.ref a1)] [] := by first | (simp [entryFrame, mkF, argsToLocals, Value.category]; done) | rfl
def QH3_3 (Z : State) (a1 : Addr) (b : Addr) (k1 : ClassId) (v0 : Addr) (v1 : Addr) (v2 : Addr) (h0 : Heap) (n0 : Nat) (v : Option Value) (h : Heap) (L : List Loc) : Prop := v = some (.int (0 : Int32)) ∧ Fr n0 L ∧ (h = h0)
set_option maxRecDepth 65536 in
set_option maxHeartbeats 40000000 in
theorem rmH3_3 (l : Launch) (Z : State) (a0 : Array Value) (hw : ∀ d ∈ tables_1, d.before a0 Z = true) (ws : List Jvm.Cond) (a1 : Addr) (b : Addr) (k1 : ClassId) (v0 : Addr) (v1 : Addr) (v2 : Addr) (h0 : Heap) (n0 : Nat) (Z0 : n0 ≤ h0.size) (P0 : Fld Z h0 a1 "com/example/sunder/sunder/cli/Arguments" "args" "[Ljava/lang/String;" (.ref b)) (P1 : Fld Z h0 a1 "com/example/sunder/sunder/cli/Arguments" "next" "I" (.int (3 : Int32))) (P2 : Arv Z h0 b k1 (.object "java/lang/String") (3 : Int32) [(.ref v0), (.ref v1), (.ref v2)] .null) :
    MetFree l (⟨"com/example/sunder/sunder/cli/Arguments", "hasNext", "()Z"⟩ : MethodName) (head1 (Jvm.Cond.code (⟨"com/example/sunder/sunder/cli/Arguments", "hasNext", "()Z"⟩ : MethodName) prog_16_method_2_code 1 (some .boolean) :: ws) ({ frames := 0, cells := 0, slots := 0, locals := 0 } : Room)) (fun a U => a = #[(.ref a1)] ∧ Z.Warmed39 U.vm ∧ U.heap = h0) (fun _ _ _ _ _ => True) (fun _ U o U' => ∃ v L, o = .returned v ∧ QH3_3 Z a1 b k1 v0 v1 v2 h0 n0 v U'.heap L ∧ FrameEnd U o U' L ({ frames := 0, cells := 0, slots := 0, locals := 0 } : Room).cells ({ frames := 0, cells := 0, slots := 0, locals := 0 } : Room).slots) := by
  refine MetFree.of_bodySF (plainFor_of_name pn_H3_3) hisR ?_
  intro p e s m args below meth c s₁ Bd hml0 hP hK
  obtain ⟨rfl, hZ, hh⟩ := hP
  have hx := Bd.exec
  have hby := Bd.bytes
  have hml : c.maxLocals = 1 := hml0
  have hown : s.vm.findClass "com/example/sunder/sunder/cli/Arguments" = some m.cls := findClass_of_methodNamed Bd.named
  have hnm := (name_of_methodNamed Bd.named Bd.method).1
  have X0 : Stand p l e ({ frames := 0, cells := 0, slots := 0, locals := 0 } : Room) s m #[(.ref a1)] below meth c s₁ [] 0 0 := Stand.of_body Bd
  have e0 : s₁.heap = h0 := by rw [← hh, Bd.state]; rfl
  have N0 := Fr.nil n0
  have hS0 : s.Since s.vm 0 := (State.WarmedH.refl s).since 0
  show Go FrameEnd p e below s ({ frames := 0, cells := 0, slots := 0, locals := 0 } : Room).cells ({ frames := 0, cells := 0, slots := 0, locals := 0 } : Room).slots (QH3_3 Z a1 b k1 v0 v1 v2 h0 n0) (s₁.setTop (entryFrame m #[(.ref a1)] 1))
  refine go (fun _ k => castTop (ef_H3_3 m a1) k) ?_
  show Go _ p e below s _ _ _ (s₁.setTop (mkF m 0 #[.val (.ref a1)] []))
  refine go (fun _ => XS.aloadN X0.here hx rfl (hb hby d8_0) rfl rfl) ?_
  show Go _ p e below s _ _ _ (s₁.setTop (mkF m 1 #[.val (.ref a1)] [(.ref a1)]))
  obtain ⟨T172, X172, e172, st172⟩ := getF X0 hx hZ hown (host := "") (Or.inl (hw _ (List.mem_of_getElem? (i := 55) rfl))) Via.refl e0 P1 (g := (mkF m 1 #[.val (.ref a1)] [(.ref a1)])) rfl rfl (hb hby d8_1)
  refine go st172 ?_
  show Go _ p e below s _ _ _ (T172.setTop (mkF m 4 #[.val (.ref a1)] [(.int (3 : Int32))]))
  refine go (fun _ => XS.aloadN X172.here hx rfl (hb hby d8_4) rfl rfl) ?_
  show Go _ p e below s _ _ _ (T172.setTop (mkF m 5 #[.val (.ref a1)] [(.ref a1), (.int (3 : Int32))]))
  obtain ⟨T173, X173, e173, st173⟩ := getF X172 hx hZ hown (host := "") (Or.inl (hw _ (List.mem_of_getElem? (i := 48) rfl))) Via.refl e172 P0 (g := (mkF m 5 #[.val (.ref a1)] [(.ref a1), (.int (3 : Int32))])) rfl rfl (hb hby d8_5)
  refine go st173 ?_
  show Go _ p e below s _ _ _ (T173.setTop (mkF m 8 #[.val (.ref a1)] [(.ref b), (.int (3 : Int32))]))
  obtain ⟨cl174, Ar174, -, Sz174, Nz174, -, -⟩ := id P2
  refine go (X173.arraylength hx (by rw [e173]; exact Ar174.1) (State.isArrayOf_alike hZ.alike Ar174.2.1) (g := (mkF m 8 #[.val (.ref a1)] [(.ref b), (.int (3 : Int32))])) rfl rfl (hb hby d8_8)) ?_
  rw [len_of Sz174 Nz174]
  show Go _ p e below s _ _ _ (T173.setTop (mkF m 9 #[.val (.ref a1)] [(.int (3 : Int32)), (.int (3 : Int32))]))
  refine go (fun _ => XS.icmpYes X173.here hx rfl (pc0 := 9) (pc' := 16) rfl (hb hby d8_9) rfl (flt (by decide : ¬ ((3 : Int32) < (3 : Int32)))).2.1 (by decide) (by decide)) ?_
  show Go _ p e below s _ _ _ (T173.setTop (mkF m 16 #[.val (.ref a1)] []))
  refine go (fun _ => XS.iconst X173.here hx rfl (hb hby d8_16)) ?_
  show Go _ p e below s _ _ _ (T173.setTop (mkF m 17 #[.val (.ref a1)] [(.int (0 : Int32))]))
  refine goRet X173 hx Bd.notSynchronized Bd.returns rfl (Or.inl ⟨rfl, Or.inr (Or.inl rfl), _, rfl⟩) (hb hby d8_17) (by decide) (by decide) (by rw [e173]; refine ⟨rfl, N0, rfl⟩)
theorem pn_0 : plainName "com/example/sunder/sunder/cli/ArgumentsHasNextPinLaw" = true := by first | (simp [plainName, overriddenIn]; done) | decide +kernel
theorem pd_0_0 : parseMethodDescriptor "(II)I" = some ⟨[.int, .int], some .int⟩ := by decide +kernel
theorem pd_0_1 : parseMethodDescriptor "(C)Ljava/lang/String;" = some ⟨[.char], some (.object "java/lang/String")⟩ := by decide +kernel
theorem pd_0_2 : parseMethodDescriptor "([Ljava/lang/String;)V" = some ⟨[(.array (.object "java/lang/String"))], none⟩ := by decide +kernel
theorem pd_0_3 : parseMethodDescriptor "()Z" = some ⟨[], some .boolean⟩ := by decide +kernel
theorem pd_0_4 : parseMethodDescriptor "()Ljava/lang/String;" = some ⟨[], some (.object "java/lang/String")⟩ := by decide +kernel
theorem pd_0_5 : parseMethodDescriptor "(Ljava/lang/Object;)Z" = some ⟨[(.object "java/lang/Object")], some .boolean⟩ := by decide +kernel
theorem ef_0 (m : MethodId) (p1 : Int32) (p2 : Int32) (p3 : Int32) (p4 : Int32) (p5 : Int32) : entryFrame m #[(.int p1), (.int p2), (.int p3), (.int p4), (.int p5)] maxLocals = mkF m 0 #[.val (.int p1), .val (.int p2), .val (.int p3), .val (.int p4), .val (.int p5), .unset, .unset, .unset, .unset, .unset, .unset, .unset, .unset, .unset, .unset, .unset] [] := by first | (simp [entryFrame, mkF, argsToLocals, Value.category, maxLocals]; done) | rfl
def Q0 (Z : State) (p1 : Int32) (p2 : Int32) (p3 : Int32) (p4 : Int32) (p5 : Int32) (w0 : Int32) (h0 : Heap) (n0 : Nat) (v : Option Value) (h : Heap) (L : List Loc) : Prop := v = some (.int (1 : Int32)) ∧ Fr n0 L
set_option maxRecDepth 65536 in
set_option maxHeartbeats 40000000 in
theorem rm0 (l : Launch) (Z : State) (a0 : Array Value) (hw : ∀ d ∈ tables_1, d.before a0 Z = true) (ws : List Jvm.Cond) (p1 : Int32) (p2 : Int32) (p3 : Int32) (p4 : Int32) (p5 : Int32) (w0 : Int32) (h0 : Heap) (n0 : Nat) (Z0 : n0 ≤ h0.size) (P0 : Sta Z Z.heap "java/lang/String" "COMPACT_STRINGS" "Z" (.int w0)) (P1 : Old Z n0 h0) (hw0 : ¬ w0 = 0) :
    MetFree l x (head1 (Jvm.Cond.code x code maxLocals ret :: ws) room_1) (fun a U => a = #[(.int p1), (.int p2), (.int p3), (.int p4), (.int p5)] ∧ Z.Warmed39 U.vm ∧ U.heap = h0) (fun _ _ _ _ _ => True) (fun _ U o U' => ∃ v L, o = .returned v ∧ Q0 Z p1 p2 p3 p4 p5 w0 h0 n0 v U'.heap L ∧ FrameEnd U o U' L room_1.cells room_1.slots) := by
  refine MetFree.of_bodySF (plainFor_of_name pn_0) hisR ?_
  intro p e s m args below meth c s₁ Bd hml0 hP hK
  obtain ⟨rfl, hZ, hh⟩ := hP
  have hx := Bd.exec
  have hby := Bd.bytes
  have hml : c.maxLocals = 16 := hml0
  have hown : s.vm.findClass "com/example/sunder/sunder/cli/ArgumentsHasNextPinLaw" = some m.cls := findClass_of_methodNamed Bd.named
  have hnm := (name_of_methodNamed Bd.named Bd.method).1
  have X0 : Stand p l e room_1 s m #[(.int p1), (.int p2), (.int p3), (.int p4), (.int p5)] below meth c s₁ [] 0 0 := Stand.of_body Bd
  have e0 : s₁.heap = h0 := by rw [← hh, Bd.state]; rfl
  have N0 := Fr.nil n0
  have hS0 : s.Since s.vm 0 := (State.WarmedH.refl s).since 0
  show Go FrameEnd p e below s room_1.cells room_1.slots (Q0 Z p1 p2 p3 p4 p5 w0 h0 n0) (s₁.setTop (entryFrame m #[(.int p1), (.int p2), (.int p3), (.int p4), (.int p5)] maxLocals))
  refine go (fun _ k => castTop (ef_0 m p1 p2 p3 p4 p5) k) ?_
  show Go _ p e below s _ _ _ (s₁.setTop (mkF m 0 #[.val (.int p1), .val (.int p2), .val (.int p3), .val (.int p4), .val (.int p5), .unset, .unset, .unset, .unset, .unset, .unset, .unset, .unset, .unset, .unset, .unset] []))
  refine go (fun _ => XS.iloadN X0.here hx rfl (hb hby at_0) rfl) ?_
  show Go _ p e below s _ _ _ (s₁.setTop (mkF m 1 #[.val (.int p1), .val (.int p2), .val (.int p3), .val (.int p4), .val (.int p5), .unset, .unset, .unset, .unset, .unset, .unset, .unset, .unset, .unset, .unset, .unset] [(.int p1)]))
  refine go (fun _ => XS.iconst X0.here hx rfl (hb hby at_1)) ?_
  show Go _ p e below s _ _ _ (s₁.setTop (mkF m 2 #[.val (.int p1), .val (.int p2), .val (.int p3), .val (.int p4), .val (.int p5), .unset, .unset, .unset, .unset, .unset, .unset, .unset, .unset, .unset, .unset, .unset] [(.int (3 : Int32)), (.int p1)]))
  refine go (fun _ => XS.iand X0.here hx rfl (hb hby at_2) rfl) ?_
  show Go _ p e below s _ _ _ (s₁.setTop (mkF m 3 #[.val (.int p1), .val (.int p2), .val (.int p3), .val (.int p4), .val (.int p5), .unset, .unset, .unset, .unset, .unset, .unset, .unset, .unset, .unset, .unset, .unset] [(.int (p1 &&& (3 : Int32)))]))
  refine go (fun _ => XS.istore X0.here hx rfl (hb hby at_3) rfl (l' := #[.val (.int p1), .val (.int p2), .val (.int p3), .val (.int p4), .val (.int p5), .val (.int (p1 &&& (3 : Int32))), .unset, .unset, .unset, .unset, .unset, .unset, .unset, .unset, .unset, .unset]) rfl) ?_
  show Go _ p e below s _ _ _ (s₁.setTop (mkF m 5 #[.val (.int p1), .val (.int p2), .val (.int p3), .val (.int p4), .val (.int p5), .val (.int (p1 &&& (3 : Int32))), .unset, .unset, .unset, .unset, .unset, .unset, .unset, .unset, .unset, .unset] []))
  refine go (fun _ => XS.iloadN X0.here hx rfl (hb hby at_5) rfl) ?_
  show Go _ p e below s _ _ _ (s₁.setTop (mkF m 6 #[.val (.int p1), .val (.int p2), .val (.int p3), .val (.int p4), .val (.int p5), .val (.int (p1 &&& (3 : Int32))), .unset, .unset, .unset, .unset, .unset, .unset, .unset, .unset, .unset, .unset] [(.int p2)]))
  refine go (fun _ => XS.iconst X0.here hx rfl (hb hby at_6)) ?_
  show Go _ p e below s _ _ _ (s₁.setTop (mkF m 7 #[.val (.int p1), .val (.int p2), .val (.int p3), .val (.int p4), .val (.int p5), .val (.int (p1 &&& (3 : Int32))), .unset, .unset, .unset, .unset, .unset, .unset, .unset, .unset, .unset, .unset] [(.int (3 : Int32)), (.int p2)]))
  refine go (fun _ => XS.iand X0.here hx rfl (hb hby at_7) rfl) ?_
  show Go _ p e below s _ _ _ (s₁.setTop (mkF m 8 #[.val (.int p1), .val (.int p2), .val (.int p3), .val (.int p4), .val (.int p5), .val (.int (p1 &&& (3 : Int32))), .unset, .unset, .unset, .unset, .unset, .unset, .unset, .unset, .unset, .unset] [(.int (p2 &&& (3 : Int32)))]))
  refine go (fun _ => XS.iload X0.here hx rfl (hb hby at_8) rfl) ?_
  show Go _ p e below s _ _ _ (s₁.setTop (mkF m 10 #[.val (.int p1), .val (.int p2), .val (.int p3), .val (.int p4), .val (.int p5), .val (.int (p1 &&& (3 : Int32))), .unset, .unset, .unset, .unset, .unset, .unset, .unset, .unset, .unset, .unset] [(.int (p1 &&& (3 : Int32))), (.int (p2 &&& (3 : Int32)))]))
  obtain ⟨_, _, ⟨T175, L175, k175, n175⟩, -, X175, ⟨Lc175, hQ175, l175, y175, z175⟩, st175⟩ := Jvm.LawKit.callS X0 hx (y := (⟨"java/lang/Math", "min", "(II)I"⟩ : MethodName)) hown (mvT hZ (hw _ (List.mem_of_getElem? (i := 0) rfl))) (mvT hZ (hw _ (List.mem_of_getElem? (i := 1) rfl))) (mvT hZ (hw _ (List.mem_of_getElem? (i := 2) rfl))) (mvT hZ (hw _ (List.mem_of_getElem? (i := 3) rfl))) (by decide) (backOf (W := 0) (rm1 l Z a0 hw [] (p2 &&& (3 : Int32)) (p1 &&& (3 : Int32)) h0 n0 Z0 ) hZ (hw _ (List.mem_of_getElem? (i := 3) rfl)) (hw _ (List.mem_of_getElem? (i := 2) rfl)) (by decide) (by decide)) (g := (mkF m 10 #[.val (.int p1), .val (.int p2), .val (.int p3), .val (.int p4), .val (.int p5), .val (.int (p1 &&& (3 : Int32))), .unset, .unset, .unset, .unset, .unset, .unset, .unset, .unset, .unset, .unset] [(.int (p1 &&& (3 : Int32))), (.int (p2 &&& (3 : Int32)))])) rfl (by rw [hml]; rfl) (argsL := [(.int (p2 &&& (3 : Int32))), (.int (p1 &&& (3 : Int32)))]) (rest := []) (lenOf pd_0_0 rfl) rfl (by show 2 * 0 + _ ≤ _; exact Nat.le_of_eq rfl) (hb hby at_10) (fun _ _ => ⟨rfl, e0, (by decide : 0 + 0 ≤ _), (by decide : 0 + 0 ≤ _)⟩)
  dsimp only [Pt.U, Pt.locs, Pt.cells, Pt.slots] at X175 l175 y175 z175 st175 hQ175
  subst l175 y175 z175
  obtain ⟨rfl, N175q, e175⟩ := hQ175
  have N175 := Fr.app N0 N175q
  refine go st175 ?_
  show Go _ p e below s _ _ _ (T175.setTop (mkF m 13 #[.val (.int p1), .val (.int p2), .val (.int p3), .val (.int p4), .val (.int p5), .val (.int (p1 &&& (3 : Int32))), .unset, .unset, .unset, .unset, .unset, .unset, .unset, .unset, .unset, .unset] [(.int (own_min (p2 &&& (3 : Int32)) (p1 &&& (3 : Int32))))]))
  refine go (fun _ => XS.istore X175.here hx rfl (hb hby at_13) rfl (l' := #[.val (.int p1), .val (.int p2), .val (.int p3), .val (.int p4), .val (.int p5), .val (.int (p1 &&& (3 : Int32))), .val (.int (own_min (p2 &&& (3 : Int32)) (p1 &&& (3 : Int32)))), .unset, .unset, .unset, .unset, .unset, .unset, .unset, .unset, .unset]) rfl) ?_
  show Go _ p e below s _ _ _ (T175.setTop (mkF m 15 #[.val (.int p1), .val (.int p2), .val (.int p3), .val (.int p4), .val (.int p5), .val (.int (p1 &&& (3 : Int32))), .val (.int (own_min (p2 &&& (3 : Int32)) (p1 &&& (3 : Int32)))), .unset, .unset, .unset, .unset, .unset, .unset, .unset, .unset, .unset] []))
  refine go (fun _ => XS.iloadN X175.here hx rfl (hb hby at_15) rfl) ?_
  show Go _ p e below s _ _ _ (T175.setTop (mkF m 16 #[.val (.int p1), .val (.int p2), .val (.int p3), .val (.int p4), .val (.int p5), .val (.int (p1 &&& (3 : Int32))), .val (.int (own_min (p2 &&& (3 : Int32)) (p1 &&& (3 : Int32)))), .unset, .unset, .unset, .unset, .unset, .unset, .unset, .unset, .unset] [(.int p3)]))
  refine go (fun _ => XS.sipush X175.here hx rfl (hb hby at_16)) ?_
  show Go _ p e below s _ _ _ (T175.setTop (mkF m 19 #[.val (.int p1), .val (.int p2), .val (.int p3), .val (.int p4), .val (.int p5), .val (.int (p1 &&& (3 : Int32))), .val (.int (own_min (p2 &&& (3 : Int32)) (p1 &&& (3 : Int32)))), .unset, .unset, .unset, .unset, .unset, .unset, .unset, .unset, .unset] [(.int (255 : Int32)), (.int p3)]))
  refine go (fun _ => XS.iand X175.here hx rfl (hb hby at_19) rfl) ?_
  show Go _ p e below s _ _ _ (T175.setTop (mkF m 20 #[.val (.int p1), .val (.int p2), .val (.int p3), .val (.int p4), .val (.int p5), .val (.int (p1 &&& (3 : Int32))), .val (.int (own_min (p2 &&& (3 : Int32)) (p1 &&& (3 : Int32)))), .unset, .unset, .unset, .unset, .unset, .unset, .unset, .unset, .unset] [(.int (p3 &&& (255 : Int32)))]))
  refine go (fun _ => XS.i2c X175.here hx rfl (hb hby at_20) rfl) ?_
  show Go _ p e below s _ _ _ (T175.setTop (mkF m 21 #[.val (.int p1), .val (.int p2), .val (.int p3), .val (.int p4), .val (.int p5), .val (.int (p1 &&& (3 : Int32))), .val (.int (own_min (p2 &&& (3 : Int32)) (p1 &&& (3 : Int32)))), .unset, .unset, .unset, .unset, .unset, .unset, .unset, .unset, .unset] [(.int ((p3 &&& (255 : Int32)).toUInt32.toUInt16.toUInt32.toInt32))]))
  rw [i2c_mask]
  show Go _ p e below s _ _ _ (T175.setTop (mkF m 21 #[.val (.int p1), .val (.int p2), .val (.int p3), .val (.int p4), .val (.int p5), .val (.int (p1 &&& (3 : Int32))), .val (.int (own_min (p2 &&& (3 : Int32)) (p1 &&& (3 : Int32)))), .unset, .unset, .unset, .unset, .unset, .unset, .unset, .unset, .unset] [(.int (p3 &&& (255 : Int32)))]))
  obtain ⟨_, _, ⟨T176, L176, k176, n176⟩, -, X176, ⟨Lc176, hQ176, l176, y176, z176⟩, st176⟩ := Jvm.LawKit.callS X175 hx (y := (⟨"java/lang/String", "valueOf", "(C)Ljava/lang/String;"⟩ : MethodName)) hown (mvT hZ (hw _ (List.mem_of_getElem? (i := 4) rfl))) (mvT hZ (hw _ (List.mem_of_getElem? (i := 5) rfl))) (mvT hZ (hw _ (List.mem_of_getElem? (i := 6) rfl))) (mvT hZ (hw _ (List.mem_of_getElem? (i := 7) rfl))) (by decide) (backOf (W := 0) (rm2 l Z a0 hw [] (p3 &&& (255 : Int32)) w0 h0 n0 Z0 P0 P1 hw0 (own_255 p3)) hZ (hw _ (List.mem_of_getElem? (i := 7) rfl)) (hw _ (List.mem_of_getElem? (i := 6) rfl)) (by decide) (by decide)) (g := (mkF m 21 #[.val (.int p1), .val (.int p2), .val (.int p3), .val (.int p4), .val (.int p5), .val (.int (p1 &&& (3 : Int32))), .val (.int (own_min (p2 &&& (3 : Int32)) (p1 &&& (3 : Int32)))), .unset, .unset, .unset, .unset, .unset, .unset, .unset, .unset, .unset] [(.int (p3 &&& (255 : Int32)))])) rfl (by rw [hml]; rfl) (argsL := [(.int (p3 &&& (255 : Int32)))]) (rest := []) (lenOf pd_0_1 rfl) rfl (by show 2 * 0 + _ ≤ _; exact Nat.le_of_eq rfl) (hb hby at_21) (fun _ _ => ⟨rfl, e175, (by decide : 0 + 2 ≤ _), (by decide : 0 + 5 ≤ _)⟩)
  dsimp only [Pt.U, Pt.locs, Pt.cells, Pt.slots] at X176 l176 y176 z176 st176 hQ176
  subst l176 y176 z176
  obtain ⟨b176, rfl, N176q, u176_0, u176_1, K176, u176_3⟩ := hQ176
  have N176 := Fr.app N175 N176q
  have G_b176 : n0 ≤ b176 := Nat.le_trans Z0 u176_0
  have SZ_b176 : h0.size ≤ b176 := Nat.le_trans (Keep.refl h0 []).1 u176_0
  have KK176 : Keep h0 T176.heap [] := (Keep.refl h0 []).trans K176 all0
  have ZN176 : n0 ≤ T176.heap.size := Nat.le_trans Z0 K176.1
  have OL176 := P1.keep K176 all0
  refine go st176 ?_
  show Go _ p e below s _ _ _ (T176.setTop (mkF m 24 #[.val (.int p1), .val (.int p2), .val (.int p3), .val (.int p4), .val (.int p5), .val (.int (p1 &&& (3 : Int32))), .val (.int (own_min (p2 &&& (3 : Int32)) (p1 &&& (3 : Int32)))), .unset, .unset, .unset, .unset, .unset, .unset, .unset, .unset, .unset] [(.ref b176)]))
  refine go (fun _ => XS.astore X176.here hx rfl (hb hby at_24) rfl rfl (l' := #[.val (.int p1), .val (.int p2), .val (.int p3), .val (.int p4), .val (.int p5), .val (.int (p1 &&& (3 : Int32))), .val (.int (own_min (p2 &&& (3 : Int32)) (p1 &&& (3 : Int32)))), .val (.ref b176), .unset, .unset, .unset, .unset, .unset, .unset, .unset, .unset]) rfl) ?_
  show Go _ p e below s _ _ _ (T176.setTop (mkF m 26 #[.val (.int p1), .val (.int p2), .val (.int p3), .val (.int p4), .val (.int p5), .val (.int (p1 &&& (3 : Int32))), .val (.int (own_min (p2 &&& (3 : Int32)) (p1 &&& (3 : Int32)))), .val (.ref b176), .unset, .unset, .unset, .unset, .unset, .unset, .unset, .unset] []))
  refine go (fun _ => XS.iloadN X176.here hx rfl (hb hby at_26) rfl) ?_
  show Go _ p e below s _ _ _ (T176.setTop (mkF m 27 #[.val (.int p1), .val (.int p2), .val (.int p3), .val (.int p4), .val (.int p5), .val (.int (p1 &&& (3 : Int32))), .val (.int (own_min (p2 &&& (3 : Int32)) (p1 &&& (3 : Int32)))), .val (.ref b176), .unset, .unset, .unset, .unset, .unset, .unset, .unset, .unset] [(.int p4)]))
  refine go (fun _ => XS.sipush X176.here hx rfl (hb hby at_27)) ?_
  show Go _ p e below s _ _ _ (T176.setTop (mkF m 30 #[.val (.int p1), .val (.int p2), .val (.int p3), .val (.int p4), .val (.int p5), .val (.int (p1 &&& (3 : Int32))), .val (.int (own_min (p2 &&& (3 : Int32)) (p1 &&& (3 : Int32)))), .val (.ref b176), .unset, .unset, .unset, .unset, .unset, .unset, .unset, .unset] [(.int (255 : Int32)), (.int p4)]))
  refine go (fun _ => XS.iand X176.here hx rfl (hb hby at_30) rfl) ?_
  show Go _ p e below s _ _ _ (T176.setTop (mkF m 31 #[.val (.int p1), .val (.int p2), .val (.int p3), .val (.int p4), .val (.int p5), .val (.int (p1 &&& (3 : Int32))), .val (.int (own_min (p2 &&& (3 : Int32)) (p1 &&& (3 : Int32)))), .val (.ref b176), .unset, .unset, .unset, .unset, .unset, .unset, .unset, .unset] [(.int (p4 &&& (255 : Int32)))]))
  refine go (fun _ => XS.i2c X176.here hx rfl (hb hby at_31) rfl) ?_
  show Go _ p e below s _ _ _ (T176.setTop (mkF m 32 #[.val (.int p1), .val (.int p2), .val (.int p3), .val (.int p4), .val (.int p5), .val (.int (p1 &&& (3 : Int32))), .val (.int (own_min (p2 &&& (3 : Int32)) (p1 &&& (3 : Int32)))), .val (.ref b176), .unset, .unset, .unset, .unset, .unset, .unset, .unset, .unset] [(.int ((p4 &&& (255 : Int32)).toUInt32.toUInt16.toUInt32.toInt32))]))
  rw [i2c_mask]
  show Go _ p e below s _ _ _ (T176.setTop (mkF m 32 #[.val (.int p1), .val (.int p2), .val (.int p3), .val (.int p4), .val (.int p5), .val (.int (p1 &&& (3 : Int32))), .val (.int (own_min (p2 &&& (3 : Int32)) (p1 &&& (3 : Int32)))), .val (.ref b176), .unset, .unset, .unset, .unset, .unset, .unset, .unset, .unset] [(.int (p4 &&& (255 : Int32)))]))
  obtain ⟨_, _, ⟨T177, L177, k177, n177⟩, -, X177, ⟨Lc177, hQ177, l177, y177, z177⟩, st177⟩ := Jvm.LawKit.callS X176 hx (y := (⟨"java/lang/String", "valueOf", "(C)Ljava/lang/String;"⟩ : MethodName)) hown (mvT hZ (hw _ (List.mem_of_getElem? (i := 4) rfl))) (mvT hZ (hw _ (List.mem_of_getElem? (i := 5) rfl))) (mvT hZ (hw _ (List.mem_of_getElem? (i := 6) rfl))) (mvT hZ (hw _ (List.mem_of_getElem? (i := 7) rfl))) (by decide) (backOf (W := 0) (rm2 l Z a0 hw [] (p4 &&& (255 : Int32)) w0 (T176.heap) n0 ZN176 P0 OL176 hw0 (own_255 p4)) hZ (hw _ (List.mem_of_getElem? (i := 7) rfl)) (hw _ (List.mem_of_getElem? (i := 6) rfl)) (by decide) (by decide)) (g := (mkF m 32 #[.val (.int p1), .val (.int p2), .val (.int p3), .val (.int p4), .val (.int p5), .val (.int (p1 &&& (3 : Int32))), .val (.int (own_min (p2 &&& (3 : Int32)) (p1 &&& (3 : Int32)))), .val (.ref b176), .unset, .unset, .unset, .unset, .unset, .unset, .unset, .unset] [(.int (p4 &&& (255 : Int32)))])) rfl (by rw [hml]; rfl) (argsL := [(.int (p4 &&& (255 : Int32)))]) (rest := []) (lenOf pd_0_1 rfl) rfl (by show 2 * 0 + _ ≤ _; exact Nat.le_of_eq rfl) (hb hby at_32) (fun _ _ => ⟨rfl, rfl, (by decide : 2 + 2 ≤ _), (by decide : 5 + 5 ≤ _)⟩)
  dsimp only [Pt.U, Pt.locs, Pt.cells, Pt.slots] at X177 l177 y177 z177 st177 hQ177
  subst l177 y177 z177
  obtain ⟨b177, rfl, N177q, u177_0, u177_1, K177, u177_3⟩ := hQ177
  have N177 := Fr.app N176 N177q
  have lt177_b176_b177 : b176 < b177 := Nat.lt_of_lt_of_le u176_3.lt u177_0
  have G_b177 : n0 ≤ b177 := Nat.le_trans ZN176 u177_0
  have SZ_b177 : h0.size ≤ b177 := Nat.le_trans KK176.1 u177_0
  have c177_1 := u176_3.keep K177
  have KK177 : Keep h0 T177.heap [] := KK176.trans K177 all0
  have ZN177 : n0 ≤ T177.heap.size := Nat.le_trans ZN176 K177.1
  have OL177 := OL176.keep K177 all0
  refine go st177 ?_
  show Go _ p e below s _ _ _ (T177.setTop (mkF m 35 #[.val (.int p1), .val (.int p2), .val (.int p3), .val (.int p4), .val (.int p5), .val (.int (p1 &&& (3 : Int32))), .val (.int (own_min (p2 &&& (3 : Int32)) (p1 &&& (3 : Int32)))), .val (.ref b176), .unset, .unset, .unset, .unset, .unset, .unset, .unset, .unset] [(.ref b177)]))
  refine go (fun _ => XS.astore X177.here hx rfl (hb hby at_35) rfl rfl (l' := #[.val (.int p1), .val (.int p2), .val (.int p3), .val (.int p4), .val (.int p5), .val (.int (p1 &&& (3 : Int32))), .val (.int (own_min (p2 &&& (3 : Int32)) (p1 &&& (3 : Int32)))), .val (.ref b176), .val (.ref b177), .unset, .unset, .unset, .unset, .unset, .unset, .unset]) rfl) ?_
  show Go _ p e below s _ _ _ (T177.setTop (mkF m 37 #[.val (.int p1), .val (.int p2), .val (.int p3), .val (.int p4), .val (.int p5), .val (.int (p1 &&& (3 : Int32))), .val (.int (own_min (p2 &&& (3 : Int32)) (p1 &&& (3 : Int32)))), .val (.ref b176), .val (.ref b177), .unset, .unset, .unset, .unset, .unset, .unset, .unset] []))
  refine go (fun _ => XS.iload X177.here hx rfl (hb hby at_37) rfl) ?_
  show Go _ p e below s _ _ _ (T177.setTop (mkF m 39 #[.val (.int p1), .val (.int p2), .val (.int p3), .val (.int p4), .val (.int p5), .val (.int (p1 &&& (3 : Int32))), .val (.int (own_min (p2 &&& (3 : Int32)) (p1 &&& (3 : Int32)))), .val (.ref b176), .val (.ref b177), .unset, .unset, .unset, .unset, .unset, .unset, .unset] [(.int p5)]))
  refine go (fun _ => XS.sipush X177.here hx rfl (hb hby at_39)) ?_
  show Go _ p e below s _ _ _ (T177.setTop (mkF m 42 #[.val (.int p1), .val (.int p2), .val (.int p3), .val (.int p4), .val (.int p5), .val (.int (p1 &&& (3 : Int32))), .val (.int (own_min (p2 &&& (3 : Int32)) (p1 &&& (3 : Int32)))), .val (.ref b176), .val (.ref b177), .unset, .unset, .unset, .unset, .unset, .unset, .unset] [(.int (255 : Int32)), (.int p5)]))
  refine go (fun _ => XS.iand X177.here hx rfl (hb hby at_42) rfl) ?_
  show Go _ p e below s _ _ _ (T177.setTop (mkF m 43 #[.val (.int p1), .val (.int p2), .val (.int p3), .val (.int p4), .val (.int p5), .val (.int (p1 &&& (3 : Int32))), .val (.int (own_min (p2 &&& (3 : Int32)) (p1 &&& (3 : Int32)))), .val (.ref b176), .val (.ref b177), .unset, .unset, .unset, .unset, .unset, .unset, .unset] [(.int (p5 &&& (255 : Int32)))]))
  refine go (fun _ => XS.i2c X177.here hx rfl (hb hby at_43) rfl) ?_
  show Go _ p e below s _ _ _ (T177.setTop (mkF m 44 #[.val (.int p1), .val (.int p2), .val (.int p3), .val (.int p4), .val (.int p5), .val (.int (p1 &&& (3 : Int32))), .val (.int (own_min (p2 &&& (3 : Int32)) (p1 &&& (3 : Int32)))), .val (.ref b176), .val (.ref b177), .unset, .unset, .unset, .unset, .unset, .unset, .unset] [(.int ((p5 &&& (255 : Int32)).toUInt32.toUInt16.toUInt32.toInt32))]))
  rw [i2c_mask]
  show Go _ p e below s _ _ _ (T177.setTop (mkF m 44 #[.val (.int p1), .val (.int p2), .val (.int p3), .val (.int p4), .val (.int p5), .val (.int (p1 &&& (3 : Int32))), .val (.int (own_min (p2 &&& (3 : Int32)) (p1 &&& (3 : Int32)))), .val (.ref b176), .val (.ref b177), .unset, .unset, .unset, .unset, .unset, .unset, .unset] [(.int (p5 &&& (255 : Int32)))]))
  obtain ⟨_, _, ⟨T178, L178, k178, n178⟩, -, X178, ⟨Lc178, hQ178, l178, y178, z178⟩, st178⟩ := Jvm.LawKit.callS X177 hx (y := (⟨"java/lang/String", "valueOf", "(C)Ljava/lang/String;"⟩ : MethodName)) hown (mvT hZ (hw _ (List.mem_of_getElem? (i := 4) rfl))) (mvT hZ (hw _ (List.mem_of_getElem? (i := 5) rfl))) (mvT hZ (hw _ (List.mem_of_getElem? (i := 6) rfl))) (mvT hZ (hw _ (List.mem_of_getElem? (i := 7) rfl))) (by decide) (backOf (W := 0) (rm2 l Z a0 hw [] (p5 &&& (255 : Int32)) w0 (T177.heap) n0 ZN177 P0 OL177 hw0 (own_255 p5)) hZ (hw _ (List.mem_of_getElem? (i := 7) rfl)) (hw _ (List.mem_of_getElem? (i := 6) rfl)) (by decide) (by decide)) (g := (mkF m 44 #[.val (.int p1), .val (.int p2), .val (.int p3), .val (.int p4), .val (.int p5), .val (.int (p1 &&& (3 : Int32))), .val (.int (own_min (p2 &&& (3 : Int32)) (p1 &&& (3 : Int32)))), .val (.ref b176), .val (.ref b177), .unset, .unset, .unset, .unset, .unset, .unset, .unset] [(.int (p5 &&& (255 : Int32)))])) rfl (by rw [hml]; rfl) (argsL := [(.int (p5 &&& (255 : Int32)))]) (rest := []) (lenOf pd_0_1 rfl) rfl (by show 2 * 0 + _ ≤ _; exact Nat.le_of_eq rfl) (hb hby at_44) (fun _ _ => ⟨rfl, rfl, (by decide : 4 + 2 ≤ _), (by decide : 10 + 5 ≤ _)⟩)
  dsimp only [Pt.U, Pt.locs, Pt.cells, Pt.slots] at X178 l178 y178 z178 st178 hQ178
  subst l178 y178 z178
  obtain ⟨b178, rfl, N178q, u178_0, u178_1, K178, u178_3⟩ := hQ178
  have N178 := Fr.app N177 N178q
  have lt178_b176_b178 : b176 < b178 := Nat.lt_of_lt_of_le c177_1.lt u178_0
  have lt178_b177_b178 : b177 < b178 := Nat.lt_of_lt_of_le u177_3.lt u178_0
  have G_b178 : n0 ≤ b178 := Nat.le_trans ZN177 u178_0
  have SZ_b178 : h0.size ≤ b178 := Nat.le_trans KK177.1 u178_0
  have c178_1 := c177_1.keep K178
  have c178_2 := u177_3.keep K178
  have KK178 : Keep h0 T178.heap [] := KK177.trans K178 all0
  have ZN178 : n0 ≤ T178.heap.size := Nat.le_trans ZN177 K178.1
  have OL178 := OL177.keep K178 all0
  refine go st178 ?_
  show Go _ p e below s _ _ _ (T178.setTop (mkF m 47 #[.val (.int p1), .val (.int p2), .val (.int p3), .val (.int p4), .val (.int p5), .val (.int (p1 &&& (3 : Int32))), .val (.int (own_min (p2 &&& (3 : Int32)) (p1 &&& (3 : Int32)))), .val (.ref b176), .val (.ref b177), .unset, .unset, .unset, .unset, .unset, .unset, .unset] [(.ref b178)]))
  refine go (fun _ => XS.astore X178.here hx rfl (hb hby at_47) rfl rfl (l' := #[.val (.int p1), .val (.int p2), .val (.int p3), .val (.int p4), .val (.int p5), .val (.int (p1 &&& (3 : Int32))), .val (.int (own_min (p2 &&& (3 : Int32)) (p1 &&& (3 : Int32)))), .val (.ref b176), .val (.ref b177), .val (.ref b178), .unset, .unset, .unset, .unset, .unset, .unset]) rfl) ?_
  show Go _ p e below s _ _ _ (T178.setTop (mkF m 49 #[.val (.int p1), .val (.int p2), .val (.int p3), .val (.int p4), .val (.int p5), .val (.int (p1 &&& (3 : Int32))), .val (.int (own_min (p2 &&& (3 : Int32)) (p1 &&& (3 : Int32)))), .val (.ref b176), .val (.ref b177), .val (.ref b178), .unset, .unset, .unset, .unset, .unset, .unset] []))
  have hn := own_four p1
  have hk := own_four p2
  generalize (p1 &&& (3 : Int32)) = nn at hn ⊢
  generalize (p2 &&& (3 : Int32)) = tt at hk ⊢
  rcases hn with rfl | rfl | rfl | rfl <;> rcases hk with rfl | rfl | rfl | rfl
  · rw [show own_min (0 : Int32) (0 : Int32) = (0 : Int32) from by decide]
    show Go _ p e below s _ _ _ (T178.setTop (mkF m 49 #[.val (.int p1), .val (.int p2), .val (.int p3), .val (.int p4), .val (.int p5), .val (.int (0 : Int32)), .val (.int (0 : Int32)), .val (.ref b176), .val (.ref b177), .val (.ref b178), .unset, .unset, .unset, .unset, .unset, .unset] []))
    refine go (fun _ => XS.iload X178.here hx rfl (hb hby at_49) rfl) ?_
    show Go _ p e below s _ _ _ (T178.setTop (mkF m 51 #[.val (.int p1), .val (.int p2), .val (.int p3), .val (.int p4), .val (.int p5), .val (.int (0 : Int32)), .val (.int (0 : Int32)), .val (.ref b176), .val (.ref b177), .val (.ref b178), .unset, .unset, .unset, .unset, .unset, .unset] [(.int (0 : Int32))]))
    obtain ⟨T179, h179, k179, X179, e179, E179, A179, AE179, O179, st179⟩ := newRE X178 hx hZ hown (hw _ (List.mem_of_getElem? (i := 30) rfl)) (hw _ (List.mem_of_getElem? (i := 31) rfl)) rfl (g := (mkF m 51 #[.val (.int p1), .val (.int p2), .val (.int p3), .val (.int p4), .val (.int p5), .val (.int (0 : Int32)), .val (.int (0 : Int32)), .val (.ref b176), .val (.ref b177), .val (.ref b178), .unset, .unset, .unset, .unset, .unset, .unset] [(.int (0 : Int32))])) rfl (hb hby at_51) rfl (by decide) (cap := 0) (by decide) (by decide) (by decide) (by decide) (ad := "[Ljava/lang/String;") (by first | rfl | decide)
    obtain ⟨b179, g179⟩ : ∃ z, z = T178.heap.size := ⟨_, rfl⟩
    rw [← g179] at A179 AE179 st179
    have lt179_b176_b179 : b176 < b179 := Nat.lt_of_lt_of_le c178_1.lt (Nat.le_of_eq g179.symm)
    have lt179_b177_b179 : b177 < b179 := Nat.lt_of_lt_of_le c178_2.lt (Nat.le_of_eq g179.symm)
    have lt179_b178_b179 : b178 < b179 := Nat.lt_of_lt_of_le u178_3.lt (Nat.le_of_eq g179.symm)
    have G_b179 : n0 ≤ b179 := Nat.le_trans ZN178 (Nat.le_of_eq g179.symm)
    have SZ_b179 : h0.size ≤ b179 := Nat.le_trans KK178.1 (Nat.le_of_eq g179.symm)
    have c179_1 := c178_1.ext E179
    have c179_2 := c178_2.ext E179
    have c179_3 := u178_3.ext E179
    have KK179 : Keep h0 h179 [] := KK178.ext E179
    have ZN179 : n0 ≤ h179.size := Nat.le_trans ZN178 E179.1
    have OL179 := OL178.ext E179
    have V179 : Arv Z h179 b179 k179 (.object "java/lang/String") (0 : Int32) [] .null := (Arv.new A179 (by decide)).pad (pad_rep [] .null 0)
    refine go st179 ?_
    show Go _ p e below s _ _ _ (T179.setTop (mkF m 54 #[.val (.int p1), .val (.int p2), .val (.int p3), .val (.int p4), .val (.int p5), .val (.int (0 : Int32)), .val (.int (0 : Int32)), .val (.ref b176), .val (.ref b177), .val (.ref b178), .unset, .unset, .unset, .unset, .unset, .unset] [(.ref b179)]))
    refine go (fun _ => XS.astore X179.here hx rfl (hb hby at_54) rfl rfl (l' := #[.val (.int p1), .val (.int p2), .val (.int p3), .val (.int p4), .val (.int p5), .val (.int (0 : Int32)), .val (.int (0 : Int32)), .val (.ref b176), .val (.ref b177), .val (.ref b178), .val (.ref b179), .unset, .unset, .unset, .unset, .unset]) rfl) ?_
    show Go _ p e below s _ _ _ (T179.setTop (mkF m 56 #[.val (.int p1), .val (.int p2), .val (.int p3), .val (.int p4), .val (.int p5), .val (.int (0 : Int32)), .val (.int (0 : Int32)), .val (.ref b176), .val (.ref b177), .val (.ref b178), .val (.ref b179), .unset, .unset, .unset, .unset, .unset] []))
    refine go (fun _ => XS.iload X179.here hx rfl (hb hby at_56) rfl) ?_
    show Go _ p e below s _ _ _ (T179.setTop (mkF m 58 #[.val (.int p1), .val (.int p2), .val (.int p3), .val (.int p4), .val (.int p5), .val (.int (0 : Int32)), .val (.int (0 : Int32)), .val (.ref b176), .val (.ref b177), .val (.ref b178), .val (.ref b179), .unset, .unset, .unset, .unset, .unset] [(.int (0 : Int32))]))
    refine go (fun _ => XS.iconst X179.here hx rfl (hb hby at_58)) ?_
    show Go _ p e below s _ _ _ (T179.setTop (mkF m 59 #[.val (.int p1), .val (.int p2), .val (.int p3), .val (.int p4), .val (.int p5), .val (.int (0 : Int32)), .val (.int (0 : Int32)), .val (.ref b176), .val (.ref b177), .val (.ref b178), .val (.ref b179), .unset, .unset, .unset, .unset, .unset] [(.int (1 : Int32)), (.int (0 : Int32))]))
    refine go (fun _ => XS.icmpYes X179.here hx rfl (pc0 := 59) (pc' := 68) rfl (hb hby at_59) rfl (tlt (by decide : ((0 : Int32) < (1 : Int32)))).1 (by decide) (by decide)) ?_
    show Go _ p e below s _ _ _ (T179.setTop (mkF m 68 #[.val (.int p1), .val (.int p2), .val (.int p3), .val (.int p4), .val (.int p5), .val (.int (0 : Int32)), .val (.int (0 : Int32)), .val (.ref b176), .val (.ref b177), .val (.ref b178), .val (.ref b179), .unset, .unset, .unset, .unset, .unset] []))
    refine go (fun _ => XS.iload X179.here hx rfl (hb hby at_68) rfl) ?_
    show Go _ p e below s _ _ _ (T179.setTop (mkF m 70 #[.val (.int p1), .val (.int p2), .val (.int p3), .val (.int p4), .val (.int p5), .val (.int (0 : Int32)), .val (.int (0 : Int32)), .val (.ref b176), .val (.ref b177), .val (.ref b178), .val (.ref b179), .unset, .unset, .unset, .unset, .unset] [(.int (0 : Int32))]))
    refine go (fun _ => XS.iconst X179.here hx rfl (hb hby at_70)) ?_
    show Go _ p e below s _ _ _ (T179.setTop (mkF m 71 #[.val (.int p1), .val (.int p2), .val (.int p3), .val (.int p4), .val (.int p5), .val (.int (0 : Int32)), .val (.int (0 : Int32)), .val (.ref b176), .val (.ref b177), .val (.ref b178), .val (.ref b179), .unset, .unset, .unset, .unset, .unset] [(.int (2 : Int32)), (.int (0 : Int32))]))
    refine go (fun _ => XS.icmpYes X179.here hx rfl (pc0 := 71) (pc' := 80) rfl (hb hby at_71) rfl (tlt (by decide : ((0 : Int32) < (2 : Int32)))).1 (by decide) (by decide)) ?_
    show Go _ p e below s _ _ _ (T179.setTop (mkF m 80 #[.val (.int p1), .val (.int p2), .val (.int p3), .val (.int p4), .val (.int p5), .val (.int (0 : Int32)), .val (.int (0 : Int32)), .val (.ref b176), .val (.ref b177), .val (.ref b178), .val (.ref b179), .unset, .unset, .unset, .unset, .unset] []))
    refine go (fun _ => XS.iload X179.here hx rfl (hb hby at_80) rfl) ?_
    show Go _ p e below s _ _ _ (T179.setTop (mkF m 82 #[.val (.int p1), .val (.int p2), .val (.int p3), .val (.int p4), .val (.int p5), .val (.int (0 : Int32)), .val (.int (0 : Int32)), .val (.ref b176), .val (.ref b177), .val (.ref b178), .val (.ref b179), .unset, .unset, .unset, .unset, .unset] [(.int (0 : Int32))]))
    refine go (fun _ => XS.iconst X179.here hx rfl (hb hby at_82)) ?_
    show Go _ p e below s _ _ _ (T179.setTop (mkF m 83 #[.val (.int p1), .val (.int p2), .val (.int p3), .val (.int p4), .val (.int p5), .val (.int (0 : Int32)), .val (.int (0 : Int32)), .val (.ref b176), .val (.ref b177), .val (.ref b178), .val (.ref b179), .unset, .unset, .unset, .unset, .unset] [(.int (3 : Int32)), (.int (0 : Int32))]))
    refine go (fun _ => XS.icmpYes X179.here hx rfl (pc0 := 83) (pc' := 92) rfl (hb hby at_83) rfl (tlt (by decide : ((0 : Int32) < (3 : Int32)))).1 (by decide) (by decide)) ?_
    show Go _ p e below s _ _ _ (T179.setTop (mkF m 92 #[.val (.int p1), .val (.int p2), .val (.int p3), .val (.int p4), .val (.int p5), .val (.int (0 : Int32)), .val (.int (0 : Int32)), .val (.ref b176), .val (.ref b177), .val (.ref b178), .val (.ref b179), .unset, .unset, .unset, .unset, .unset] []))
    obtain ⟨T180, h180, X180, e180, E180, A180, D180, -, st180⟩ := newO X179 hx hZ hown (hw _ (List.mem_of_getElem? (i := 32) rfl)) (hw _ (List.mem_of_getElem? (i := 33) rfl)) (hw _ (List.mem_of_getElem? (i := 34) rfl)) e179 (g := (mkF m 92 #[.val (.int p1), .val (.int p2), .val (.int p3), .val (.int p4), .val (.int p5), .val (.int (0 : Int32)), .val (.int (0 : Int32)), .val (.ref b176), .val (.ref b177), .val (.ref b178), .val (.ref b179), .unset, .unset, .unset, .unset, .unset] [])) rfl (hb hby at_92) (by decide) (by decide)
    obtain ⟨b180, g180⟩ : ∃ z, z = h179.size := ⟨_, rfl⟩
    rw [← g180] at A180 D180 st180
    have lt180_b176_b180 : b176 < b180 := Nat.lt_of_lt_of_le c179_1.lt (Nat.le_of_eq g180.symm)
    have lt180_b177_b180 : b177 < b180 := Nat.lt_of_lt_of_le c179_2.lt (Nat.le_of_eq g180.symm)
    have lt180_b178_b180 : b178 < b180 := Nat.lt_of_lt_of_le c179_3.lt (Nat.le_of_eq g180.symm)
    have lt180_b179_b180 : b179 < b180 := Nat.lt_of_lt_of_le AE179.lt (Nat.le_of_eq g180.symm)
    have G_b180 : n0 ≤ b180 := Nat.le_trans ZN179 (Nat.le_of_eq g180.symm)
    have SZ_b180 : h0.size ≤ b180 := Nat.le_trans KK179.1 (Nat.le_of_eq g180.symm)
    have c180_1 := c179_1.ext E180
    have c180_2 := c179_2.ext E180
    have c180_3 := c179_3.ext E180
    have c180_4 := AE179.ext E180
    have c180_5 := V179.ext E180
    have KK180 : Keep h0 h180 [] := KK179.ext E180
    have ZN180 : n0 ≤ h180.size := Nat.le_trans ZN179 E180.1
    have OL180 := OL179.ext E180
    have F180_49 : Fld Z h180 b180 "com/example/sunder/sunder/cli/Arguments" "args" "[Ljava/lang/String;" .null := D180 (Or.inr (hw _ (List.mem_of_getElem? (i := 49) rfl))) (ty := (.array (.object "java/lang/String"))) (by decide)
    have F180_56 : Fld Z h180 b180 "com/example/sunder/sunder/cli/Arguments" "next" "I" (.int (0 : Int32)) := D180 (Or.inl (hw _ (List.mem_of_getElem? (i := 56) rfl))) (ty := .int) (by decide)
    refine go st180 ?_
    show Go _ p e below s _ _ _ (T180.setTop (mkF m 95 #[.val (.int p1), .val (.int p2), .val (.int p3), .val (.int p4), .val (.int p5), .val (.int (0 : Int32)), .val (.int (0 : Int32)), .val (.ref b176), .val (.ref b177), .val (.ref b178), .val (.ref b179), .unset, .unset, .unset, .unset, .unset] [(.ref b180)]))
    refine go (fun _ => XS.dup X180.here hx rfl (hb hby at_95) rfl rfl) ?_
    show Go _ p e below s _ _ _ (T180.setTop (mkF m 96 #[.val (.int p1), .val (.int p2), .val (.int p3), .val (.int p4), .val (.int p5), .val (.int (0 : Int32)), .val (.int (0 : Int32)), .val (.ref b176), .val (.ref b177), .val (.ref b178), .val (.ref b179), .unset, .unset, .unset, .unset, .unset] [(.ref b180), (.ref b180)]))
    refine go (fun _ => XS.aload X180.here hx rfl (hb hby at_96) rfl rfl) ?_
    show Go _ p e below s _ _ _ (T180.setTop (mkF m 98 #[.val (.int p1), .val (.int p2), .val (.int p3), .val (.int p4), .val (.int p5), .val (.int (0 : Int32)), .val (.int (0 : Int32)), .val (.ref b176), .val (.ref b177), .val (.ref b178), .val (.ref b179), .unset, .unset, .unset, .unset, .unset] [(.ref b179), (.ref b180), (.ref b180)]))
    obtain ⟨_, _, ⟨T181, L181, k181, n181⟩, -, X181, ⟨Lc181, hQ181, l181, y181, z181⟩, st181⟩ := X180.specialBack hx (y := (⟨"com/example/sunder/sunder/cli/Arguments", "<init>", "([Ljava/lang/String;)V"⟩ : MethodName)) rfl hown (mvT hZ (hw _ (List.mem_of_getElem? (i := 35) rfl))) (mvT hZ (hw _ (List.mem_of_getElem? (i := 36) rfl))) (mvT hZ (hw _ (List.mem_of_getElem? (i := 37) rfl))) (by decide) (backOf (W := 1) (rmI0 l Z a0 hw [] b180 b179 k179 .null h180 n0 ZN180 A180 F180_49 F180_56 G_b180 c180_4 c180_5 (Ne.symm (Nat.ne_of_lt lt180_b179_b180))) hZ (hw _ (List.mem_of_getElem? (i := 37) rfl)) (hw _ (List.mem_of_getElem? (i := 34) rfl)) (by decide) (by decide)) (g := (mkF m 98 #[.val (.int p1), .val (.int p2), .val (.int p3), .val (.int p4), .val (.int p5), .val (.int (0 : Int32)), .val (.int (0 : Int32)), .val (.ref b176), .val (.ref b177), .val (.ref b178), .val (.ref b179), .unset, .unset, .unset, .unset, .unset] [(.ref b179), (.ref b180), (.ref b180)])) rfl (by rw [hml]; rfl) (Steps.refl _) (a := b180) (argsL := [(.ref b179)]) (rest := [(.ref b180)]) (lenOf pd_0_2 rfl) rfl (by show 2 * 0 + _ ≤ _; exact Nat.le_of_eq rfl) (hb hby at_98) (fun _ _ => ⟨rfl, e180, (by decide : 8 + 1 ≤ _), (by decide : 17 + 0 ≤ _)⟩)
    dsimp only [Pt.U, Pt.locs, Pt.cells, Pt.slots] at X181 l181 y181 z181 st181 hQ181
    subst l181 y181 z181
    obtain ⟨b181, rfl, N181q, u181_0, u181_1, K181, u181_3, u181_4, u181_5, u181_6⟩ := hQ181
    have N181 := Fr.app N178 N181q
    have lt181_b176_b181 : b176 < b181 := Nat.lt_of_lt_of_le c180_1.lt u181_0
    have lt181_b177_b181 : b177 < b181 := Nat.lt_of_lt_of_le c180_2.lt u181_0
    have lt181_b178_b181 : b178 < b181 := Nat.lt_of_lt_of_le c180_3.lt u181_0
    have lt181_b179_b181 : b179 < b181 := Nat.lt_of_lt_of_le c180_4.lt u181_0
    have lt181_b180_b181 : b180 < b181 := Nat.lt_of_lt_of_le A180.lt u181_0
    have G_b181 : n0 ≤ b181 := Nat.le_trans ZN180 u181_0
    have SZ_b181 : h0.size ≤ b181 := Nat.le_trans KK180.1 u181_0
    have c181_1 := c180_1.keep K181
    have c181_2 := c180_2.keep K181
    have c181_3 := c180_3.keep K181
    have c181_4 := c180_4.keep K181
    have c181_5 := c180_5.keep K181 (ninS (Nat.ne_of_lt lt180_b179_b180) nin0)
    have c181_6 := A180.keep K181
    have KK181 : Keep h0 T181.heap [] := KK180.trans K181 (allS (P := fun x => x ∈ [] ∨ h0.size ≤ x) (Or.inr SZ_b180) all0)
    have ZN181 : n0 ≤ T181.heap.size := Nat.le_trans ZN180 K181.1
    have OL181 := OL180.keep K181 (allS G_b180 all0)
    refine goT st181 ?_
    show Go _ p e below s _ _ _ (T181.setTop (mkF m 101 #[.val (.int p1), .val (.int p2), .val (.int p3), .val (.int p4), .val (.int p5), .val (.int (0 : Int32)), .val (.int (0 : Int32)), .val (.ref b176), .val (.ref b177), .val (.ref b178), .val (.ref b179), .unset, .unset, .unset, .unset, .unset] [(.ref b180)]))
    refine go (fun _ => XS.astore X181.here hx rfl (hb hby at_101) rfl rfl (l' := #[.val (.int p1), .val (.int p2), .val (.int p3), .val (.int p4), .val (.int p5), .val (.int (0 : Int32)), .val (.int (0 : Int32)), .val (.ref b176), .val (.ref b177), .val (.ref b178), .val (.ref b179), .val (.ref b180), .unset, .unset, .unset, .unset]) rfl) ?_
    show Go _ p e below s _ _ _ (T181.setTop (mkF m 103 #[.val (.int p1), .val (.int p2), .val (.int p3), .val (.int p4), .val (.int p5), .val (.int (0 : Int32)), .val (.int (0 : Int32)), .val (.ref b176), .val (.ref b177), .val (.ref b178), .val (.ref b179), .val (.ref b180), .unset, .unset, .unset, .unset] []))
    refine go (fun _ => XS.iload X181.here hx rfl (hb hby at_103) rfl) ?_
    show Go _ p e below s _ _ _ (T181.setTop (mkF m 105 #[.val (.int p1), .val (.int p2), .val (.int p3), .val (.int p4), .val (.int p5), .val (.int (0 : Int32)), .val (.int (0 : Int32)), .val (.ref b176), .val (.ref b177), .val (.ref b178), .val (.ref b179), .val (.ref b180), .unset, .unset, .unset, .unset] [(.int (0 : Int32))]))
    refine go (fun _ => XS.iconst X181.here hx rfl (hb hby at_105)) ?_
    show Go _ p e below s _ _ _ (T181.setTop (mkF m 106 #[.val (.int p1), .val (.int p2), .val (.int p3), .val (.int p4), .val (.int p5), .val (.int (0 : Int32)), .val (.int (0 : Int32)), .val (.ref b176), .val (.ref b177), .val (.ref b178), .val (.ref b179), .val (.ref b180), .unset, .unset, .unset, .unset] [(.int (1 : Int32)), (.int (0 : Int32))]))
    refine go (fun _ => XS.icmpYes X181.here hx rfl (pc0 := 106) (pc' := 115) rfl (hb hby at_106) rfl (tlt (by decide : ((0 : Int32) < (1 : Int32)))).1 (by decide) (by decide)) ?_
    show Go _ p e below s _ _ _ (T181.setTop (mkF m 115 #[.val (.int p1), .val (.int p2), .val (.int p3), .val (.int p4), .val (.int p5), .val (.int (0 : Int32)), .val (.int (0 : Int32)), .val (.ref b176), .val (.ref b177), .val (.ref b178), .val (.ref b179), .val (.ref b180), .unset, .unset, .unset, .unset] []))
    refine go (fun _ => XS.iload X181.here hx rfl (hb hby at_115) rfl) ?_
    show Go _ p e below s _ _ _ (T181.setTop (mkF m 117 #[.val (.int p1), .val (.int p2), .val (.int p3), .val (.int p4), .val (.int p5), .val (.int (0 : Int32)), .val (.int (0 : Int32)), .val (.ref b176), .val (.ref b177), .val (.ref b178), .val (.ref b179), .val (.ref b180), .unset, .unset, .unset, .unset] [(.int (0 : Int32))]))
    refine go (fun _ => XS.iconst X181.here hx rfl (hb hby at_117)) ?_
    show Go _ p e below s _ _ _ (T181.setTop (mkF m 118 #[.val (.int p1), .val (.int p2), .val (.int p3), .val (.int p4), .val (.int p5), .val (.int (0 : Int32)), .val (.int (0 : Int32)), .val (.ref b176), .val (.ref b177), .val (.ref b178), .val (.ref b179), .val (.ref b180), .unset, .unset, .unset, .unset] [(.int (2 : Int32)), (.int (0 : Int32))]))
    refine go (fun _ => XS.icmpYes X181.here hx rfl (pc0 := 118) (pc' := 127) rfl (hb hby at_118) rfl (tlt (by decide : ((0 : Int32) < (2 : Int32)))).1 (by decide) (by decide)) ?_
    show Go _ p e below s _ _ _ (T181.setTop (mkF m 127 #[.val (.int p1), .val (.int p2), .val (.int p3), .val (.int p4), .val (.int p5), .val (.int (0 : Int32)), .val (.int (0 : Int32)), .val (.ref b176), .val (.ref b177), .val (.ref b178), .val (.ref b179), .val (.ref b180), .unset, .unset, .unset, .unset] []))
    refine go (fun _ => XS.iload X181.here hx rfl (hb hby at_127) rfl) ?_
    show Go _ p e below s _ _ _ (T181.setTop (mkF m 129 #[.val (.int p1), .val (.int p2), .val (.int p3), .val (.int p4), .val (.int p5), .val (.int (0 : Int32)), .val (.int (0 : Int32)), .val (.ref b176), .val (.ref b177), .val (.ref b178), .val (.ref b179), .val (.ref b180), .unset, .unset, .unset, .unset] [(.int (0 : Int32))]))
    refine go (fun _ => XS.iconst X181.here hx rfl (hb hby at_129)) ?_
    show Go _ p e below s _ _ _ (T181.setTop (mkF m 130 #[.val (.int p1), .val (.int p2), .val (.int p3), .val (.int p4), .val (.int p5), .val (.int (0 : Int32)), .val (.int (0 : Int32)), .val (.ref b176), .val (.ref b177), .val (.ref b178), .val (.ref b179), .val (.ref b180), .unset, .unset, .unset, .unset] [(.int (3 : Int32)), (.int (0 : Int32))]))
    refine go (fun _ => XS.icmpYes X181.here hx rfl (pc0 := 130) (pc' := 139) rfl (hb hby at_130) rfl (tlt (by decide : ((0 : Int32) < (3 : Int32)))).1 (by decide) (by decide)) ?_
    show Go _ p e below s _ _ _ (T181.setTop (mkF m 139 #[.val (.int p1), .val (.int p2), .val (.int p3), .val (.int p4), .val (.int p5), .val (.int (0 : Int32)), .val (.int (0 : Int32)), .val (.ref b176), .val (.ref b177), .val (.ref b178), .val (.ref b179), .val (.ref b180), .unset, .unset, .unset, .unset] []))
    refine go (fun _ => XS.aload X181.here hx rfl (hb hby at_139) rfl rfl) ?_
    show Go _ p e below s _ _ _ (T181.setTop (mkF m 141 #[.val (.int p1), .val (.int p2), .val (.int p3), .val (.int p4), .val (.int p5), .val (.int (0 : Int32)), .val (.int (0 : Int32)), .val (.ref b176), .val (.ref b177), .val (.ref b178), .val (.ref b179), .val (.ref b180), .unset, .unset, .unset, .unset] [(.ref b180)]))
    obtain ⟨cq182, kq182, q182a, q182b, q182c⟩ := isOf hZ rfl c181_6
    obtain ⟨_, _, ⟨T182, L182, k182, n182⟩, -, X182, ⟨Lc182, hQ182, l182, y182, z182⟩, st182⟩ := X181.virtualBack hx (y := (⟨"com/example/sunder/sunder/cli/Arguments", "hasNext", "()Z"⟩ : MethodName)) (z := (⟨"com/example/sunder/sunder/cli/Arguments", "hasNext", "()Z"⟩ : MethodName)) hown (mvT hZ (hw _ (List.mem_of_getElem? (i := 50) rfl))) (mvT hZ (hw _ (List.mem_of_getElem? (i := 51) rfl))) (notFace_of_selects (args := #[]) (mvT hZ (hw _ (List.mem_of_getElem? (i := 53) rfl)))) (mvT hZ (hw _ (List.mem_of_getElem? (i := 53) rfl))) (mvT hZ (hw _ (List.mem_of_getElem? (i := 52) rfl))) (by decide) (backOf (W := 0) (rmH0_0 l Z a0 hw [] b180 b181 k179 (T181.heap) n0 ZN181 u181_3 u181_4 u181_6) hZ (hw _ (List.mem_of_getElem? (i := 54) rfl)) (hw _ (List.mem_of_getElem? (i := 34) rfl)) (by decide) (by decide)) q182a q182c (g := (mkF m 141 #[.val (.int p1), .val (.int p2), .val (.int p3), .val (.int p4), .val (.int p5), .val (.int (0 : Int32)), .val (.int (0 : Int32)), .val (.ref b176), .val (.ref b177), .val (.ref b178), .val (.ref b179), .val (.ref b180), .unset, .unset, .unset, .unset] [(.ref b180)])) rfl (by rw [hml]; rfl) (Steps.refl _) (argsL := []) (rest := []) (lenOf pd_0_3 rfl) rfl (by show 2 * 0 + _ ≤ _; exact Nat.le_of_eq rfl) (hb hby at_141) (fun _ _ => ⟨rfl, rfl, (by decide : 9 + 0 ≤ _), (by decide : 17 + 0 ≤ _)⟩)
    dsimp only [Pt.U, Pt.locs, Pt.cells, Pt.slots] at X182 l182 y182 z182 st182 hQ182
    subst l182 y182 z182
    obtain ⟨rfl, N182q, e182⟩ := hQ182
    have N182 := Fr.app N181 N182q
    refine goT st182 ?_
    show Go _ p e below s _ _ _ (T182.setTop (mkF m 144 #[.val (.int p1), .val (.int p2), .val (.int p3), .val (.int p4), .val (.int p5), .val (.int (0 : Int32)), .val (.int (0 : Int32)), .val (.ref b176), .val (.ref b177), .val (.ref b178), .val (.ref b179), .val (.ref b180), .unset, .unset, .unset, .unset] [(.int (0 : Int32))]))
    refine go (fun _ => XS.istore X182.here hx rfl (hb hby at_144) rfl (l' := #[.val (.int p1), .val (.int p2), .val (.int p3), .val (.int p4), .val (.int p5), .val (.int (0 : Int32)), .val (.int (0 : Int32)), .val (.ref b176), .val (.ref b177), .val (.ref b178), .val (.ref b179), .val (.ref b180), .val (.int (0 : Int32)), .unset, .unset, .unset]) rfl) ?_
    show Go _ p e below s _ _ _ (T182.setTop (mkF m 146 #[.val (.int p1), .val (.int p2), .val (.int p3), .val (.int p4), .val (.int p5), .val (.int (0 : Int32)), .val (.int (0 : Int32)), .val (.ref b176), .val (.ref b177), .val (.ref b178), .val (.ref b179), .val (.ref b180), .val (.int (0 : Int32)), .unset, .unset, .unset] []))
    refine go (fun _ => XS.aload X182.here hx rfl (hb hby at_146) rfl rfl) ?_
    show Go _ p e below s _ _ _ (T182.setTop (mkF m 148 #[.val (.int p1), .val (.int p2), .val (.int p3), .val (.int p4), .val (.int p5), .val (.int (0 : Int32)), .val (.int (0 : Int32)), .val (.ref b176), .val (.ref b177), .val (.ref b178), .val (.ref b179), .val (.ref b180), .val (.int (0 : Int32)), .unset, .unset, .unset] [(.ref b180)]))
    obtain ⟨cq183, kq183, q183a, q183b, q183c⟩ := isOf hZ e182 c181_6
    obtain ⟨_, _, ⟨T183, L183, k183, n183⟩, -, X183, ⟨Lc183, hQ183, l183, y183, z183⟩, st183⟩ := X182.virtualBack hx (y := (⟨"com/example/sunder/sunder/cli/Arguments", "hasNext", "()Z"⟩ : MethodName)) (z := (⟨"com/example/sunder/sunder/cli/Arguments", "hasNext", "()Z"⟩ : MethodName)) hown (mvT hZ (hw _ (List.mem_of_getElem? (i := 50) rfl))) (mvT hZ (hw _ (List.mem_of_getElem? (i := 51) rfl))) (notFace_of_selects (args := #[]) (mvT hZ (hw _ (List.mem_of_getElem? (i := 53) rfl)))) (mvT hZ (hw _ (List.mem_of_getElem? (i := 53) rfl))) (mvT hZ (hw _ (List.mem_of_getElem? (i := 52) rfl))) (by decide) (backOf (W := 0) (rmH0_0 l Z a0 hw [] b180 b181 k179 (T181.heap) n0 ZN181 u181_3 u181_4 u181_6) hZ (hw _ (List.mem_of_getElem? (i := 54) rfl)) (hw _ (List.mem_of_getElem? (i := 34) rfl)) (by decide) (by decide)) q183a q183c (g := (mkF m 148 #[.val (.int p1), .val (.int p2), .val (.int p3), .val (.int p4), .val (.int p5), .val (.int (0 : Int32)), .val (.int (0 : Int32)), .val (.ref b176), .val (.ref b177), .val (.ref b178), .val (.ref b179), .val (.ref b180), .val (.int (0 : Int32)), .unset, .unset, .unset] [(.ref b180)])) rfl (by rw [hml]; rfl) (Steps.refl _) (argsL := []) (rest := []) (lenOf pd_0_3 rfl) rfl (by show 2 * 0 + _ ≤ _; exact Nat.le_of_eq rfl) (hb hby at_148) (fun _ _ => ⟨rfl, e182, (by decide : 9 + 0 ≤ _), (by decide : 17 + 0 ≤ _)⟩)
    dsimp only [Pt.U, Pt.locs, Pt.cells, Pt.slots] at X183 l183 y183 z183 st183 hQ183
    subst l183 y183 z183
    obtain ⟨rfl, N183q, e183⟩ := hQ183
    have N183 := Fr.app N182 N183q
    refine goT st183 ?_
    show Go _ p e below s _ _ _ (T183.setTop (mkF m 151 #[.val (.int p1), .val (.int p2), .val (.int p3), .val (.int p4), .val (.int p5), .val (.int (0 : Int32)), .val (.int (0 : Int32)), .val (.ref b176), .val (.ref b177), .val (.ref b178), .val (.ref b179), .val (.ref b180), .val (.int (0 : Int32)), .unset, .unset, .unset] [(.int (0 : Int32))]))
    refine go (fun _ => XS.istore X183.here hx rfl (hb hby at_151) rfl (l' := #[.val (.int p1), .val (.int p2), .val (.int p3), .val (.int p4), .val (.int p5), .val (.int (0 : Int32)), .val (.int (0 : Int32)), .val (.ref b176), .val (.ref b177), .val (.ref b178), .val (.ref b179), .val (.ref b180), .val (.int (0 : Int32)), .val (.int (0 : Int32)), .unset, .unset]) rfl) ?_
    show Go _ p e below s _ _ _ (T183.setTop (mkF m 153 #[.val (.int p1), .val (.int p2), .val (.int p3), .val (.int p4), .val (.int p5), .val (.int (0 : Int32)), .val (.int (0 : Int32)), .val (.ref b176), .val (.ref b177), .val (.ref b178), .val (.ref b179), .val (.ref b180), .val (.int (0 : Int32)), .val (.int (0 : Int32)), .unset, .unset] []))
    refine go (fun _ => XS.iload X183.here hx rfl (hb hby at_153) rfl) ?_
    show Go _ p e below s _ _ _ (T183.setTop (mkF m 155 #[.val (.int p1), .val (.int p2), .val (.int p3), .val (.int p4), .val (.int p5), .val (.int (0 : Int32)), .val (.int (0 : Int32)), .val (.ref b176), .val (.ref b177), .val (.ref b178), .val (.ref b179), .val (.ref b180), .val (.int (0 : Int32)), .val (.int (0 : Int32)), .unset, .unset] [(.int (0 : Int32))]))
    refine go (fun _ => XS.iload X183.here hx rfl (hb hby at_155) rfl) ?_
    show Go _ p e below s _ _ _ (T183.setTop (mkF m 157 #[.val (.int p1), .val (.int p2), .val (.int p3), .val (.int p4), .val (.int p5), .val (.int (0 : Int32)), .val (.int (0 : Int32)), .val (.ref b176), .val (.ref b177), .val (.ref b178), .val (.ref b179), .val (.ref b180), .val (.int (0 : Int32)), .val (.int (0 : Int32)), .unset, .unset] [(.int (0 : Int32)), (.int (0 : Int32))]))
    refine go (fun _ => XS.iload X183.here hx rfl (hb hby at_157) rfl) ?_
    show Go _ p e below s _ _ _ (T183.setTop (mkF m 159 #[.val (.int p1), .val (.int p2), .val (.int p3), .val (.int p4), .val (.int p5), .val (.int (0 : Int32)), .val (.int (0 : Int32)), .val (.ref b176), .val (.ref b177), .val (.ref b178), .val (.ref b179), .val (.ref b180), .val (.int (0 : Int32)), .val (.int (0 : Int32)), .unset, .unset] [(.int (0 : Int32)), (.int (0 : Int32)), (.int (0 : Int32))]))
    refine go (fun _ => XS.icmpYes X183.here hx rfl (pc0 := 159) (pc' := 166) rfl (hb hby at_159) rfl (flt (by decide : ¬ ((0 : Int32) < (0 : Int32)))).2.1 (by decide) (by decide)) ?_
    show Go _ p e below s _ _ _ (T183.setTop (mkF m 166 #[.val (.int p1), .val (.int p2), .val (.int p3), .val (.int p4), .val (.int p5), .val (.int (0 : Int32)), .val (.int (0 : Int32)), .val (.ref b176), .val (.ref b177), .val (.ref b178), .val (.ref b179), .val (.ref b180), .val (.int (0 : Int32)), .val (.int (0 : Int32)), .unset, .unset] [(.int (0 : Int32))]))
    refine go (fun _ => XS.iconst X183.here hx rfl (hb hby at_166)) ?_
    show Go _ p e below s _ _ _ (T183.setTop (mkF m 167 #[.val (.int p1), .val (.int p2), .val (.int p3), .val (.int p4), .val (.int p5), .val (.int (0 : Int32)), .val (.int (0 : Int32)), .val (.ref b176), .val (.ref b177), .val (.ref b178), .val (.ref b179), .val (.ref b180), .val (.int (0 : Int32)), .val (.int (0 : Int32)), .unset, .unset] [(.int (0 : Int32)), (.int (0 : Int32))]))
    refine go (fun _ => XS.icmpNo X183.here hx rfl (hb hby at_167) rfl (teq (rfl : (0 : Int32) = (0 : Int32))).2) ?_
    show Go _ p e below s _ _ _ (T183.setTop (mkF m 170 #[.val (.int p1), .val (.int p2), .val (.int p3), .val (.int p4), .val (.int p5), .val (.int (0 : Int32)), .val (.int (0 : Int32)), .val (.ref b176), .val (.ref b177), .val (.ref b178), .val (.ref b179), .val (.ref b180), .val (.int (0 : Int32)), .val (.int (0 : Int32)), .unset, .unset] []))
    refine go (fun _ => XS.iload X183.here hx rfl (hb hby at_170) rfl) ?_
    show Go _ p e below s _ _ _ (T183.setTop (mkF m 172 #[.val (.int p1), .val (.int p2), .val (.int p3), .val (.int p4), .val (.int p5), .val (.int (0 : Int32)), .val (.int (0 : Int32)), .val (.ref b176), .val (.ref b177), .val (.ref b178), .val (.ref b179), .val (.ref b180), .val (.int (0 : Int32)), .val (.int (0 : Int32)), .unset, .unset] [(.int (0 : Int32))]))
    refine go (fun _ => XS.iload X183.here hx rfl (hb hby at_172) rfl) ?_
    show Go _ p e below s _ _ _ (T183.setTop (mkF m 174 #[.val (.int p1), .val (.int p2), .val (.int p3), .val (.int p4), .val (.int p5), .val (.int (0 : Int32)), .val (.int (0 : Int32)), .val (.ref b176), .val (.ref b177), .val (.ref b178), .val (.ref b179), .val (.ref b180), .val (.int (0 : Int32)), .val (.int (0 : Int32)), .unset, .unset] [(.int (0 : Int32)), (.int (0 : Int32))]))
    refine go (fun _ => XS.icmpYes X183.here hx rfl (pc0 := 174) (pc' := 179) rfl (hb hby at_174) rfl (teq (rfl : (0 : Int32) = (0 : Int32))).1 (by decide) (by decide)) ?_
    show Go _ p e below s _ _ _ (T183.setTop (mkF m 179 #[.val (.int p1), .val (.int p2), .val (.int p3), .val (.int p4), .val (.int p5), .val (.int (0 : Int32)), .val (.int (0 : Int32)), .val (.ref b176), .val (.ref b177), .val (.ref b178), .val (.ref b179), .val (.ref b180), .val (.int (0 : Int32)), .val (.int (0 : Int32)), .unset, .unset] []))
    refine go (fun _ => XS.iload X183.here hx rfl (hb hby at_179) rfl) ?_
    show Go _ p e below s _ _ _ (T183.setTop (mkF m 181 #[.val (.int p1), .val (.int p2), .val (.int p3), .val (.int p4), .val (.int p5), .val (.int (0 : Int32)), .val (.int (0 : Int32)), .val (.ref b176), .val (.ref b177), .val (.ref b178), .val (.ref b179), .val (.ref b180), .val (.int (0 : Int32)), .val (.int (0 : Int32)), .unset, .unset] [(.int (0 : Int32))]))
    refine go (fun _ => XS.ifNo X183.here hx rfl (hb hby at_181) rfl ((if0 _ _).trans (teq (rfl : (0 : Int32) = (0 : Int32))).2)) ?_
    show Go _ p e below s _ _ _ (T183.setTop (mkF m 184 #[.val (.int p1), .val (.int p2), .val (.int p3), .val (.int p4), .val (.int p5), .val (.int (0 : Int32)), .val (.int (0 : Int32)), .val (.ref b176), .val (.ref b177), .val (.ref b178), .val (.ref b179), .val (.ref b180), .val (.int (0 : Int32)), .val (.int (0 : Int32)), .unset, .unset] []))
    refine go (fun _ => XS.iconst X183.here hx rfl (hb hby at_184)) ?_
    show Go _ p e below s _ _ _ (T183.setTop (mkF m 185 #[.val (.int p1), .val (.int p2), .val (.int p3), .val (.int p4), .val (.int p5), .val (.int (0 : Int32)), .val (.int (0 : Int32)), .val (.ref b176), .val (.ref b177), .val (.ref b178), .val (.ref b179), .val (.ref b180), .val (.int (0 : Int32)), .val (.int (0 : Int32)), .unset, .unset] [(.int (1 : Int32))]))
    refine goRet X183 hx Bd.notSynchronized Bd.returns rfl (Or.inl ⟨rfl, Or.inr (Or.inl rfl), _, rfl⟩) (hb hby at_185) (by decide) (by decide) (by rw [e183]; refine ⟨rfl, N183⟩)
  · rw [show own_min (1 : Int32) (0 : Int32) = (0 : Int32) from by decide]
    show Go _ p e below s _ _ _ (T178.setTop (mkF m 49 #[.val (.int p1), .val (.int p2), .val (.int p3), .val (.int p4), .val (.int p5), .val (.int (0 : Int32)), .val (.int (0 : Int32)), .val (.ref b176), .val (.ref b177), .val (.ref b178), .unset, .unset, .unset, .unset, .unset, .unset] []))
    refine go (fun _ => XS.iload X178.here hx rfl (hb hby at_49) rfl) ?_
    show Go _ p e below s _ _ _ (T178.setTop (mkF m 51 #[.val (.int p1), .val (.int p2), .val (.int p3), .val (.int p4), .val (.int p5), .val (.int (0 : Int32)), .val (.int (0 : Int32)), .val (.ref b176), .val (.ref b177), .val (.ref b178), .unset, .unset, .unset, .unset, .unset, .unset] [(.int (0 : Int32))]))
    obtain ⟨T184, h184, k184, X184, e184, E184, A184, AE184, O184, st184⟩ := newRE X178 hx hZ hown (hw _ (List.mem_of_getElem? (i := 30) rfl)) (hw _ (List.mem_of_getElem? (i := 31) rfl)) rfl (g := (mkF m 51 #[.val (.int p1), .val (.int p2), .val (.int p3), .val (.int p4), .val (.int p5), .val (.int (0 : Int32)), .val (.int (0 : Int32)), .val (.ref b176), .val (.ref b177), .val (.ref b178), .unset, .unset, .unset, .unset, .unset, .unset] [(.int (0 : Int32))])) rfl (hb hby at_51) rfl (by decide) (cap := 0) (by decide) (by decide) (by decide) (by decide) (ad := "[Ljava/lang/String;") (by first | rfl | decide)
    obtain ⟨b184, g184⟩ : ∃ z, z = T178.heap.size := ⟨_, rfl⟩
    rw [← g184] at A184 AE184 st184
    have lt184_b176_b184 : b176 < b184 := Nat.lt_of_lt_of_le c178_1.lt (Nat.le_of_eq g184.symm)
    have lt184_b177_b184 : b177 < b184 := Nat.lt_of_lt_of_le c178_2.lt (Nat.le_of_eq g184.symm)
    have lt184_b178_b184 : b178 < b184 := Nat.lt_of_lt_of_le u178_3.lt (Nat.le_of_eq g184.symm)
    have G_b184 : n0 ≤ b184 := Nat.le_trans ZN178 (Nat.le_of_eq g184.symm)
    have SZ_b184 : h0.size ≤ b184 := Nat.le_trans KK178.1 (Nat.le_of_eq g184.symm)
    have c184_1 := c178_1.ext E184
    have c184_2 := c178_2.ext E184
    have c184_3 := u178_3.ext E184
    have KK184 : Keep h0 h184 [] := KK178.ext E184
    have ZN184 : n0 ≤ h184.size := Nat.le_trans ZN178 E184.1
    have OL184 := OL178.ext E184
    have V184 : Arv Z h184 b184 k184 (.object "java/lang/String") (0 : Int32) [] .null := (Arv.new A184 (by decide)).pad (pad_rep [] .null 0)
    refine go st184 ?_
    show Go _ p e below s _ _ _ (T184.setTop (mkF m 54 #[.val (.int p1), .val (.int p2), .val (.int p3), .val (.int p4), .val (.int p5), .val (.int (0 : Int32)), .val (.int (0 : Int32)), .val (.ref b176), .val (.ref b177), .val (.ref b178), .unset, .unset, .unset, .unset, .unset, .unset] [(.ref b184)]))
    refine go (fun _ => XS.astore X184.here hx rfl (hb hby at_54) rfl rfl (l' := #[.val (.int p1), .val (.int p2), .val (.int p3), .val (.int p4), .val (.int p5), .val (.int (0 : Int32)), .val (.int (0 : Int32)), .val (.ref b176), .val (.ref b177), .val (.ref b178), .val (.ref b184), .unset, .unset, .unset, .unset, .unset]) rfl) ?_
    show Go _ p e below s _ _ _ (T184.setTop (mkF m 56 #[.val (.int p1), .val (.int p2), .val (.int p3), .val (.int p4), .val (.int p5), .val (.int (0 : Int32)), .val (.int (0 : Int32)), .val (.ref b176), .val (.ref b177), .val (.ref b178), .val (.ref b184), .unset, .unset, .unset, .unset, .unset] []))
    refine go (fun _ => XS.iload X184.here hx rfl (hb hby at_56) rfl) ?_
    show Go _ p e below s _ _ _ (T184.setTop (mkF m 58 #[.val (.int p1), .val (.int p2), .val (.int p3), .val (.int p4), .val (.int p5), .val (.int (0 : Int32)), .val (.int (0 : Int32)), .val (.ref b176), .val (.ref b177), .val (.ref b178), .val (.ref b184), .unset, .unset, .unset, .unset, .unset] [(.int (0 : Int32))]))
    refine go (fun _ => XS.iconst X184.here hx rfl (hb hby at_58)) ?_
    show Go _ p e below s _ _ _ (T184.setTop (mkF m 59 #[.val (.int p1), .val (.int p2), .val (.int p3), .val (.int p4), .val (.int p5), .val (.int (0 : Int32)), .val (.int (0 : Int32)), .val (.ref b176), .val (.ref b177), .val (.ref b178), .val (.ref b184), .unset, .unset, .unset, .unset, .unset] [(.int (1 : Int32)), (.int (0 : Int32))]))
    refine go (fun _ => XS.icmpYes X184.here hx rfl (pc0 := 59) (pc' := 68) rfl (hb hby at_59) rfl (tlt (by decide : ((0 : Int32) < (1 : Int32)))).1 (by decide) (by decide)) ?_
    show Go _ p e below s _ _ _ (T184.setTop (mkF m 68 #[.val (.int p1), .val (.int p2), .val (.int p3), .val (.int p4), .val (.int p5), .val (.int (0 : Int32)), .val (.int (0 : Int32)), .val (.ref b176), .val (.ref b177), .val (.ref b178), .val (.ref b184), .unset, .unset, .unset, .unset, .unset] []))
    refine go (fun _ => XS.iload X184.here hx rfl (hb hby at_68) rfl) ?_
    show Go _ p e below s _ _ _ (T184.setTop (mkF m 70 #[.val (.int p1), .val (.int p2), .val (.int p3), .val (.int p4), .val (.int p5), .val (.int (0 : Int32)), .val (.int (0 : Int32)), .val (.ref b176), .val (.ref b177), .val (.ref b178), .val (.ref b184), .unset, .unset, .unset, .unset, .unset] [(.int (0 : Int32))]))
    refine go (fun _ => XS.iconst X184.here hx rfl (hb hby at_70)) ?_
    show Go _ p e below s _ _ _ (T184.setTop (mkF m 71 #[.val (.int p1), .val (.int p2), .val (.int p3), .val (.int p4), .val (.int p5), .val (.int (0 : Int32)), .val (.int (0 : Int32)), .val (.ref b176), .val (.ref b177), .val (.ref b178), .val (.ref b184), .unset, .unset, .unset, .unset, .unset] [(.int (2 : Int32)), (.int (0 : Int32))]))
    refine go (fun _ => XS.icmpYes X184.here hx rfl (pc0 := 71) (pc' := 80) rfl (hb hby at_71) rfl (tlt (by decide : ((0 : Int32) < (2 : Int32)))).1 (by decide) (by decide)) ?_
    show Go _ p e below s _ _ _ (T184.setTop (mkF m 80 #[.val (.int p1), .val (.int p2), .val (.int p3), .val (.int p4), .val (.int p5), .val (.int (0 : Int32)), .val (.int (0 : Int32)), .val (.ref b176), .val (.ref b177), .val (.ref b178), .val (.ref b184), .unset, .unset, .unset, .unset, .unset] []))
    refine go (fun _ => XS.iload X184.here hx rfl (hb hby at_80) rfl) ?_
    show Go _ p e below s _ _ _ (T184.setTop (mkF m 82 #[.val (.int p1), .val (.int p2), .val (.int p3), .val (.int p4), .val (.int p5), .val (.int (0 : Int32)), .val (.int (0 : Int32)), .val (.ref b176), .val (.ref b177), .val (.ref b178), .val (.ref b184), .unset, .unset, .unset, .unset, .unset] [(.int (0 : Int32))]))
    refine go (fun _ => XS.iconst X184.here hx rfl (hb hby at_82)) ?_
    show Go _ p e below s _ _ _ (T184.setTop (mkF m 83 #[.val (.int p1), .val (.int p2), .val (.int p3), .val (.int p4), .val (.int p5), .val (.int (0 : Int32)), .val (.int (0 : Int32)), .val (.ref b176), .val (.ref b177), .val (.ref b178), .val (.ref b184), .unset, .unset, .unset, .unset, .unset] [(.int (3 : Int32)), (.int (0 : Int32))]))
    refine go (fun _ => XS.icmpYes X184.here hx rfl (pc0 := 83) (pc' := 92) rfl (hb hby at_83) rfl (tlt (by decide : ((0 : Int32) < (3 : Int32)))).1 (by decide) (by decide)) ?_
    show Go _ p e below s _ _ _ (T184.setTop (mkF m 92 #[.val (.int p1), .val (.int p2), .val (.int p3), .val (.int p4), .val (.int p5), .val (.int (0 : Int32)), .val (.int (0 : Int32)), .val (.ref b176), .val (.ref b177), .val (.ref b178), .val (.ref b184), .unset, .unset, .unset, .unset, .unset] []))
    obtain ⟨T185, h185, X185, e185, E185, A185, D185, -, st185⟩ := newO X184 hx hZ hown (hw _ (List.mem_of_getElem? (i := 32) rfl)) (hw _ (List.mem_of_getElem? (i := 33) rfl)) (hw _ (List.mem_of_getElem? (i := 34) rfl)) e184 (g := (mkF m 92 #[.val (.int p1), .val (.int p2), .val (.int p3), .val (.int p4), .val (.int p5), .val (.int (0 : Int32)), .val (.int (0 : Int32)), .val (.ref b176), .val (.ref b177), .val (.ref b178), .val (.ref b184), .unset, .unset, .unset, .unset, .unset] [])) rfl (hb hby at_92) (by decide) (by decide)
    obtain ⟨b185, g185⟩ : ∃ z, z = h184.size := ⟨_, rfl⟩
    rw [← g185] at A185 D185 st185
    have lt185_b176_b185 : b176 < b185 := Nat.lt_of_lt_of_le c184_1.lt (Nat.le_of_eq g185.symm)
    have lt185_b177_b185 : b177 < b185 := Nat.lt_of_lt_of_le c184_2.lt (Nat.le_of_eq g185.symm)
    have lt185_b178_b185 : b178 < b185 := Nat.lt_of_lt_of_le c184_3.lt (Nat.le_of_eq g185.symm)
    have lt185_b184_b185 : b184 < b185 := Nat.lt_of_lt_of_le AE184.lt (Nat.le_of_eq g185.symm)
    have G_b185 : n0 ≤ b185 := Nat.le_trans ZN184 (Nat.le_of_eq g185.symm)
    have SZ_b185 : h0.size ≤ b185 := Nat.le_trans KK184.1 (Nat.le_of_eq g185.symm)
    have c185_1 := c184_1.ext E185
    have c185_2 := c184_2.ext E185
    have c185_3 := c184_3.ext E185
    have c185_4 := AE184.ext E185
    have c185_5 := V184.ext E185
    have KK185 : Keep h0 h185 [] := KK184.ext E185
    have ZN185 : n0 ≤ h185.size := Nat.le_trans ZN184 E185.1
    have OL185 := OL184.ext E185
    have F185_49 : Fld Z h185 b185 "com/example/sunder/sunder/cli/Arguments" "args" "[Ljava/lang/String;" .null := D185 (Or.inr (hw _ (List.mem_of_getElem? (i := 49) rfl))) (ty := (.array (.object "java/lang/String"))) (by decide)
    have F185_56 : Fld Z h185 b185 "com/example/sunder/sunder/cli/Arguments" "next" "I" (.int (0 : Int32)) := D185 (Or.inl (hw _ (List.mem_of_getElem? (i := 56) rfl))) (ty := .int) (by decide)
    refine go st185 ?_
    show Go _ p e below s _ _ _ (T185.setTop (mkF m 95 #[.val (.int p1), .val (.int p2), .val (.int p3), .val (.int p4), .val (.int p5), .val (.int (0 : Int32)), .val (.int (0 : Int32)), .val (.ref b176), .val (.ref b177), .val (.ref b178), .val (.ref b184), .unset, .unset, .unset, .unset, .unset] [(.ref b185)]))
    refine go (fun _ => XS.dup X185.here hx rfl (hb hby at_95) rfl rfl) ?_
    show Go _ p e below s _ _ _ (T185.setTop (mkF m 96 #[.val (.int p1), .val (.int p2), .val (.int p3), .val (.int p4), .val (.int p5), .val (.int (0 : Int32)), .val (.int (0 : Int32)), .val (.ref b176), .val (.ref b177), .val (.ref b178), .val (.ref b184), .unset, .unset, .unset, .unset, .unset] [(.ref b185), (.ref b185)]))
    refine go (fun _ => XS.aload X185.here hx rfl (hb hby at_96) rfl rfl) ?_
    show Go _ p e below s _ _ _ (T185.setTop (mkF m 98 #[.val (.int p1), .val (.int p2), .val (.int p3), .val (.int p4), .val (.int p5), .val (.int (0 : Int32)), .val (.int (0 : Int32)), .val (.ref b176), .val (.ref b177), .val (.ref b178), .val (.ref b184), .unset, .unset, .unset, .unset, .unset] [(.ref b184), (.ref b185), (.ref b185)]))
    obtain ⟨_, _, ⟨T186, L186, k186, n186⟩, -, X186, ⟨Lc186, hQ186, l186, y186, z186⟩, st186⟩ := X185.specialBack hx (y := (⟨"com/example/sunder/sunder/cli/Arguments", "<init>", "([Ljava/lang/String;)V"⟩ : MethodName)) rfl hown (mvT hZ (hw _ (List.mem_of_getElem? (i := 35) rfl))) (mvT hZ (hw _ (List.mem_of_getElem? (i := 36) rfl))) (mvT hZ (hw _ (List.mem_of_getElem? (i := 37) rfl))) (by decide) (backOf (W := 1) (rmI0 l Z a0 hw [] b185 b184 k184 .null h185 n0 ZN185 A185 F185_49 F185_56 G_b185 c185_4 c185_5 (Ne.symm (Nat.ne_of_lt lt185_b184_b185))) hZ (hw _ (List.mem_of_getElem? (i := 37) rfl)) (hw _ (List.mem_of_getElem? (i := 34) rfl)) (by decide) (by decide)) (g := (mkF m 98 #[.val (.int p1), .val (.int p2), .val (.int p3), .val (.int p4), .val (.int p5), .val (.int (0 : Int32)), .val (.int (0 : Int32)), .val (.ref b176), .val (.ref b177), .val (.ref b178), .val (.ref b184), .unset, .unset, .unset, .unset, .unset] [(.ref b184), (.ref b185), (.ref b185)])) rfl (by rw [hml]; rfl) (Steps.refl _) (a := b185) (argsL := [(.ref b184)]) (rest := [(.ref b185)]) (lenOf pd_0_2 rfl) rfl (by show 2 * 0 + _ ≤ _; exact Nat.le_of_eq rfl) (hb hby at_98) (fun _ _ => ⟨rfl, e185, (by decide : 8 + 1 ≤ _), (by decide : 17 + 0 ≤ _)⟩)
    dsimp only [Pt.U, Pt.locs, Pt.cells, Pt.slots] at X186 l186 y186 z186 st186 hQ186
    subst l186 y186 z186
    obtain ⟨b186, rfl, N186q, u186_0, u186_1, K186, u186_3, u186_4, u186_5, u186_6⟩ := hQ186
    have N186 := Fr.app N178 N186q
    have lt186_b176_b186 : b176 < b186 := Nat.lt_of_lt_of_le c185_1.lt u186_0
    have lt186_b177_b186 : b177 < b186 := Nat.lt_of_lt_of_le c185_2.lt u186_0
    have lt186_b178_b186 : b178 < b186 := Nat.lt_of_lt_of_le c185_3.lt u186_0
    have lt186_b184_b186 : b184 < b186 := Nat.lt_of_lt_of_le c185_4.lt u186_0
    have lt186_b185_b186 : b185 < b186 := Nat.lt_of_lt_of_le A185.lt u186_0
    have G_b186 : n0 ≤ b186 := Nat.le_trans ZN185 u186_0
    have SZ_b186 : h0.size ≤ b186 := Nat.le_trans KK185.1 u186_0
    have c186_1 := c185_1.keep K186
    have c186_2 := c185_2.keep K186
    have c186_3 := c185_3.keep K186
    have c186_4 := c185_4.keep K186
    have c186_5 := c185_5.keep K186 (ninS (Nat.ne_of_lt lt185_b184_b185) nin0)
    have c186_6 := A185.keep K186
    have KK186 : Keep h0 T186.heap [] := KK185.trans K186 (allS (P := fun x => x ∈ [] ∨ h0.size ≤ x) (Or.inr SZ_b185) all0)
    have ZN186 : n0 ≤ T186.heap.size := Nat.le_trans ZN185 K186.1
    have OL186 := OL185.keep K186 (allS G_b185 all0)
    refine goT st186 ?_
    show Go _ p e below s _ _ _ (T186.setTop (mkF m 101 #[.val (.int p1), .val (.int p2), .val (.int p3), .val (.int p4), .val (.int p5), .val (.int (0 : Int32)), .val (.int (0 : Int32)), .val (.ref b176), .val (.ref b177), .val (.ref b178), .val (.ref b184), .unset, .unset, .unset, .unset, .unset] [(.ref b185)]))
    refine go (fun _ => XS.astore X186.here hx rfl (hb hby at_101) rfl rfl (l' := #[.val (.int p1), .val (.int p2), .val (.int p3), .val (.int p4), .val (.int p5), .val (.int (0 : Int32)), .val (.int (0 : Int32)), .val (.ref b176), .val (.ref b177), .val (.ref b178), .val (.ref b184), .val (.ref b185), .unset, .unset, .unset, .unset]) rfl) ?_
    show Go _ p e below s _ _ _ (T186.setTop (mkF m 103 #[.val (.int p1), .val (.int p2), .val (.int p3), .val (.int p4), .val (.int p5), .val (.int (0 : Int32)), .val (.int (0 : Int32)), .val (.ref b176), .val (.ref b177), .val (.ref b178), .val (.ref b184), .val (.ref b185), .unset, .unset, .unset, .unset] []))
    refine go (fun _ => XS.iload X186.here hx rfl (hb hby at_103) rfl) ?_
    show Go _ p e below s _ _ _ (T186.setTop (mkF m 105 #[.val (.int p1), .val (.int p2), .val (.int p3), .val (.int p4), .val (.int p5), .val (.int (0 : Int32)), .val (.int (0 : Int32)), .val (.ref b176), .val (.ref b177), .val (.ref b178), .val (.ref b184), .val (.ref b185), .unset, .unset, .unset, .unset] [(.int (0 : Int32))]))
    refine go (fun _ => XS.iconst X186.here hx rfl (hb hby at_105)) ?_
    show Go _ p e below s _ _ _ (T186.setTop (mkF m 106 #[.val (.int p1), .val (.int p2), .val (.int p3), .val (.int p4), .val (.int p5), .val (.int (0 : Int32)), .val (.int (0 : Int32)), .val (.ref b176), .val (.ref b177), .val (.ref b178), .val (.ref b184), .val (.ref b185), .unset, .unset, .unset, .unset] [(.int (1 : Int32)), (.int (0 : Int32))]))
    refine go (fun _ => XS.icmpYes X186.here hx rfl (pc0 := 106) (pc' := 115) rfl (hb hby at_106) rfl (tlt (by decide : ((0 : Int32) < (1 : Int32)))).1 (by decide) (by decide)) ?_
    show Go _ p e below s _ _ _ (T186.setTop (mkF m 115 #[.val (.int p1), .val (.int p2), .val (.int p3), .val (.int p4), .val (.int p5), .val (.int (0 : Int32)), .val (.int (0 : Int32)), .val (.ref b176), .val (.ref b177), .val (.ref b178), .val (.ref b184), .val (.ref b185), .unset, .unset, .unset, .unset] []))
    refine go (fun _ => XS.iload X186.here hx rfl (hb hby at_115) rfl) ?_
    show Go _ p e below s _ _ _ (T186.setTop (mkF m 117 #[.val (.int p1), .val (.int p2), .val (.int p3), .val (.int p4), .val (.int p5), .val (.int (0 : Int32)), .val (.int (0 : Int32)), .val (.ref b176), .val (.ref b177), .val (.ref b178), .val (.ref b184), .val (.ref b185), .unset, .unset, .unset, .unset] [(.int (0 : Int32))]))
    refine go (fun _ => XS.iconst X186.here hx rfl (hb hby at_117)) ?_
    show Go _ p e below s _ _ _ (T186.setTop (mkF m 118 #[.val (.int p1), .val (.int p2), .val (.int p3), .val (.int p4), .val (.int p5), .val (.int (0 : Int32)), .val (.int (0 : Int32)), .val (.ref b176), .val (.ref b177), .val (.ref b178), .val (.ref b184), .val (.ref b185), .unset, .unset, .unset, .unset] [(.int (2 : Int32)), (.int (0 : Int32))]))
    refine go (fun _ => XS.icmpYes X186.here hx rfl (pc0 := 118) (pc' := 127) rfl (hb hby at_118) rfl (tlt (by decide : ((0 : Int32) < (2 : Int32)))).1 (by decide) (by decide)) ?_
    show Go _ p e below s _ _ _ (T186.setTop (mkF m 127 #[.val (.int p1), .val (.int p2), .val (.int p3), .val (.int p4), .val (.int p5), .val (.int (0 : Int32)), .val (.int (0 : Int32)), .val (.ref b176), .val (.ref b177), .val (.ref b178), .val (.ref b184), .val (.ref b185), .unset, .unset, .unset, .unset] []))
    refine go (fun _ => XS.iload X186.here hx rfl (hb hby at_127) rfl) ?_
    show Go _ p e below s _ _ _ (T186.setTop (mkF m 129 #[.val (.int p1), .val (.int p2), .val (.int p3), .val (.int p4), .val (.int p5), .val (.int (0 : Int32)), .val (.int (0 : Int32)), .val (.ref b176), .val (.ref b177), .val (.ref b178), .val (.ref b184), .val (.ref b185), .unset, .unset, .unset, .unset] [(.int (0 : Int32))]))
    refine go (fun _ => XS.iconst X186.here hx rfl (hb hby at_129)) ?_
    show Go _ p e below s _ _ _ (T186.setTop (mkF m 130 #[.val (.int p1), .val (.int p2), .val (.int p3), .val (.int p4), .val (.int p5), .val (.int (0 : Int32)), .val (.int (0 : Int32)), .val (.ref b176), .val (.ref b177), .val (.ref b178), .val (.ref b184), .val (.ref b185), .unset, .unset, .unset, .unset] [(.int (3 : Int32)), (.int (0 : Int32))]))
    refine go (fun _ => XS.icmpYes X186.here hx rfl (pc0 := 130) (pc' := 139) rfl (hb hby at_130) rfl (tlt (by decide : ((0 : Int32) < (3 : Int32)))).1 (by decide) (by decide)) ?_
    show Go _ p e below s _ _ _ (T186.setTop (mkF m 139 #[.val (.int p1), .val (.int p2), .val (.int p3), .val (.int p4), .val (.int p5), .val (.int (0 : Int32)), .val (.int (0 : Int32)), .val (.ref b176), .val (.ref b177), .val (.ref b178), .val (.ref b184), .val (.ref b185), .unset, .unset, .unset, .unset] []))
    refine go (fun _ => XS.aload X186.here hx rfl (hb hby at_139) rfl rfl) ?_
    show Go _ p e below s _ _ _ (T186.setTop (mkF m 141 #[.val (.int p1), .val (.int p2), .val (.int p3), .val (.int p4), .val (.int p5), .val (.int (0 : Int32)), .val (.int (0 : Int32)), .val (.ref b176), .val (.ref b177), .val (.ref b178), .val (.ref b184), .val (.ref b185), .unset, .unset, .unset, .unset] [(.ref b185)]))
    obtain ⟨cq187, kq187, q187a, q187b, q187c⟩ := isOf hZ rfl c186_6
    obtain ⟨_, _, ⟨T187, L187, k187, n187⟩, -, X187, ⟨Lc187, hQ187, l187, y187, z187⟩, st187⟩ := X186.virtualBack hx (y := (⟨"com/example/sunder/sunder/cli/Arguments", "hasNext", "()Z"⟩ : MethodName)) (z := (⟨"com/example/sunder/sunder/cli/Arguments", "hasNext", "()Z"⟩ : MethodName)) hown (mvT hZ (hw _ (List.mem_of_getElem? (i := 50) rfl))) (mvT hZ (hw _ (List.mem_of_getElem? (i := 51) rfl))) (notFace_of_selects (args := #[]) (mvT hZ (hw _ (List.mem_of_getElem? (i := 53) rfl)))) (mvT hZ (hw _ (List.mem_of_getElem? (i := 53) rfl))) (mvT hZ (hw _ (List.mem_of_getElem? (i := 52) rfl))) (by decide) (backOf (W := 0) (rmH0_0 l Z a0 hw [] b185 b186 k184 (T186.heap) n0 ZN186 u186_3 u186_4 u186_6) hZ (hw _ (List.mem_of_getElem? (i := 54) rfl)) (hw _ (List.mem_of_getElem? (i := 34) rfl)) (by decide) (by decide)) q187a q187c (g := (mkF m 141 #[.val (.int p1), .val (.int p2), .val (.int p3), .val (.int p4), .val (.int p5), .val (.int (0 : Int32)), .val (.int (0 : Int32)), .val (.ref b176), .val (.ref b177), .val (.ref b178), .val (.ref b184), .val (.ref b185), .unset, .unset, .unset, .unset] [(.ref b185)])) rfl (by rw [hml]; rfl) (Steps.refl _) (argsL := []) (rest := []) (lenOf pd_0_3 rfl) rfl (by show 2 * 0 + _ ≤ _; exact Nat.le_of_eq rfl) (hb hby at_141) (fun _ _ => ⟨rfl, rfl, (by decide : 9 + 0 ≤ _), (by decide : 17 + 0 ≤ _)⟩)
    dsimp only [Pt.U, Pt.locs, Pt.cells, Pt.slots] at X187 l187 y187 z187 st187 hQ187
    subst l187 y187 z187
    obtain ⟨rfl, N187q, e187⟩ := hQ187
    have N187 := Fr.app N186 N187q
    refine goT st187 ?_
    show Go _ p e below s _ _ _ (T187.setTop (mkF m 144 #[.val (.int p1), .val (.int p2), .val (.int p3), .val (.int p4), .val (.int p5), .val (.int (0 : Int32)), .val (.int (0 : Int32)), .val (.ref b176), .val (.ref b177), .val (.ref b178), .val (.ref b184), .val (.ref b185), .unset, .unset, .unset, .unset] [(.int (0 : Int32))]))
    refine go (fun _ => XS.istore X187.here hx rfl (hb hby at_144) rfl (l' := #[.val (.int p1), .val (.int p2), .val (.int p3), .val (.int p4), .val (.int p5), .val (.int (0 : Int32)), .val (.int (0 : Int32)), .val (.ref b176), .val (.ref b177), .val (.ref b178), .val (.ref b184), .val (.ref b185), .val (.int (0 : Int32)), .unset, .unset, .unset]) rfl) ?_
    show Go _ p e below s _ _ _ (T187.setTop (mkF m 146 #[.val (.int p1), .val (.int p2), .val (.int p3), .val (.int p4), .val (.int p5), .val (.int (0 : Int32)), .val (.int (0 : Int32)), .val (.ref b176), .val (.ref b177), .val (.ref b178), .val (.ref b184), .val (.ref b185), .val (.int (0 : Int32)), .unset, .unset, .unset] []))
    refine go (fun _ => XS.aload X187.here hx rfl (hb hby at_146) rfl rfl) ?_
    show Go _ p e below s _ _ _ (T187.setTop (mkF m 148 #[.val (.int p1), .val (.int p2), .val (.int p3), .val (.int p4), .val (.int p5), .val (.int (0 : Int32)), .val (.int (0 : Int32)), .val (.ref b176), .val (.ref b177), .val (.ref b178), .val (.ref b184), .val (.ref b185), .val (.int (0 : Int32)), .unset, .unset, .unset] [(.ref b185)]))
    obtain ⟨cq188, kq188, q188a, q188b, q188c⟩ := isOf hZ e187 c186_6
    obtain ⟨_, _, ⟨T188, L188, k188, n188⟩, -, X188, ⟨Lc188, hQ188, l188, y188, z188⟩, st188⟩ := X187.virtualBack hx (y := (⟨"com/example/sunder/sunder/cli/Arguments", "hasNext", "()Z"⟩ : MethodName)) (z := (⟨"com/example/sunder/sunder/cli/Arguments", "hasNext", "()Z"⟩ : MethodName)) hown (mvT hZ (hw _ (List.mem_of_getElem? (i := 50) rfl))) (mvT hZ (hw _ (List.mem_of_getElem? (i := 51) rfl))) (notFace_of_selects (args := #[]) (mvT hZ (hw _ (List.mem_of_getElem? (i := 53) rfl)))) (mvT hZ (hw _ (List.mem_of_getElem? (i := 53) rfl))) (mvT hZ (hw _ (List.mem_of_getElem? (i := 52) rfl))) (by decide) (backOf (W := 0) (rmH0_0 l Z a0 hw [] b185 b186 k184 (T186.heap) n0 ZN186 u186_3 u186_4 u186_6) hZ (hw _ (List.mem_of_getElem? (i := 54) rfl)) (hw _ (List.mem_of_getElem? (i := 34) rfl)) (by decide) (by decide)) q188a q188c (g := (mkF m 148 #[.val (.int p1), .val (.int p2), .val (.int p3), .val (.int p4), .val (.int p5), .val (.int (0 : Int32)), .val (.int (0 : Int32)), .val (.ref b176), .val (.ref b177), .val (.ref b178), .val (.ref b184), .val (.ref b185), .val (.int (0 : Int32)), .unset, .unset, .unset] [(.ref b185)])) rfl (by rw [hml]; rfl) (Steps.refl _) (argsL := []) (rest := []) (lenOf pd_0_3 rfl) rfl (by show 2 * 0 + _ ≤ _; exact Nat.le_of_eq rfl) (hb hby at_148) (fun _ _ => ⟨rfl, e187, (by decide : 9 + 0 ≤ _), (by decide : 17 + 0 ≤ _)⟩)
    dsimp only [Pt.U, Pt.locs, Pt.cells, Pt.slots] at X188 l188 y188 z188 st188 hQ188
    subst l188 y188 z188
    obtain ⟨rfl, N188q, e188⟩ := hQ188
    have N188 := Fr.app N187 N188q
    refine goT st188 ?_
    show Go _ p e below s _ _ _ (T188.setTop (mkF m 151 #[.val (.int p1), .val (.int p2), .val (.int p3), .val (.int p4), .val (.int p5), .val (.int (0 : Int32)), .val (.int (0 : Int32)), .val (.ref b176), .val (.ref b177), .val (.ref b178), .val (.ref b184), .val (.ref b185), .val (.int (0 : Int32)), .unset, .unset, .unset] [(.int (0 : Int32))]))
    refine go (fun _ => XS.istore X188.here hx rfl (hb hby at_151) rfl (l' := #[.val (.int p1), .val (.int p2), .val (.int p3), .val (.int p4), .val (.int p5), .val (.int (0 : Int32)), .val (.int (0 : Int32)), .val (.ref b176), .val (.ref b177), .val (.ref b178), .val (.ref b184), .val (.ref b185), .val (.int (0 : Int32)), .val (.int (0 : Int32)), .unset, .unset]) rfl) ?_
    show Go _ p e below s _ _ _ (T188.setTop (mkF m 153 #[.val (.int p1), .val (.int p2), .val (.int p3), .val (.int p4), .val (.int p5), .val (.int (0 : Int32)), .val (.int (0 : Int32)), .val (.ref b176), .val (.ref b177), .val (.ref b178), .val (.ref b184), .val (.ref b185), .val (.int (0 : Int32)), .val (.int (0 : Int32)), .unset, .unset] []))
    refine go (fun _ => XS.iload X188.here hx rfl (hb hby at_153) rfl) ?_
    show Go _ p e below s _ _ _ (T188.setTop (mkF m 155 #[.val (.int p1), .val (.int p2), .val (.int p3), .val (.int p4), .val (.int p5), .val (.int (0 : Int32)), .val (.int (0 : Int32)), .val (.ref b176), .val (.ref b177), .val (.ref b178), .val (.ref b184), .val (.ref b185), .val (.int (0 : Int32)), .val (.int (0 : Int32)), .unset, .unset] [(.int (0 : Int32))]))
    refine go (fun _ => XS.iload X188.here hx rfl (hb hby at_155) rfl) ?_
    show Go _ p e below s _ _ _ (T188.setTop (mkF m 157 #[.val (.int p1), .val (.int p2), .val (.int p3), .val (.int p4), .val (.int p5), .val (.int (0 : Int32)), .val (.int (0 : Int32)), .val (.ref b176), .val (.ref b177), .val (.ref b178), .val (.ref b184), .val (.ref b185), .val (.int (0 : Int32)), .val (.int (0 : Int32)), .unset, .unset] [(.int (0 : Int32)), (.int (0 : Int32))]))
    refine go (fun _ => XS.iload X188.here hx rfl (hb hby at_157) rfl) ?_
    show Go _ p e below s _ _ _ (T188.setTop (mkF m 159 #[.val (.int p1), .val (.int p2), .val (.int p3), .val (.int p4), .val (.int p5), .val (.int (0 : Int32)), .val (.int (0 : Int32)), .val (.ref b176), .val (.ref b177), .val (.ref b178), .val (.ref b184), .val (.ref b185), .val (.int (0 : Int32)), .val (.int (0 : Int32)), .unset, .unset] [(.int (0 : Int32)), (.int (0 : Int32)), (.int (0 : Int32))]))
    refine go (fun _ => XS.icmpYes X188.here hx rfl (pc0 := 159) (pc' := 166) rfl (hb hby at_159) rfl (flt (by decide : ¬ ((0 : Int32) < (0 : Int32)))).2.1 (by decide) (by decide)) ?_
    show Go _ p e below s _ _ _ (T188.setTop (mkF m 166 #[.val (.int p1), .val (.int p2), .val (.int p3), .val (.int p4), .val (.int p5), .val (.int (0 : Int32)), .val (.int (0 : Int32)), .val (.ref b176), .val (.ref b177), .val (.ref b178), .val (.ref b184), .val (.ref b185), .val (.int (0 : Int32)), .val (.int (0 : Int32)), .unset, .unset] [(.int (0 : Int32))]))
    refine go (fun _ => XS.iconst X188.here hx rfl (hb hby at_166)) ?_
    show Go _ p e below s _ _ _ (T188.setTop (mkF m 167 #[.val (.int p1), .val (.int p2), .val (.int p3), .val (.int p4), .val (.int p5), .val (.int (0 : Int32)), .val (.int (0 : Int32)), .val (.ref b176), .val (.ref b177), .val (.ref b178), .val (.ref b184), .val (.ref b185), .val (.int (0 : Int32)), .val (.int (0 : Int32)), .unset, .unset] [(.int (0 : Int32)), (.int (0 : Int32))]))
    refine go (fun _ => XS.icmpNo X188.here hx rfl (hb hby at_167) rfl (teq (rfl : (0 : Int32) = (0 : Int32))).2) ?_
    show Go _ p e below s _ _ _ (T188.setTop (mkF m 170 #[.val (.int p1), .val (.int p2), .val (.int p3), .val (.int p4), .val (.int p5), .val (.int (0 : Int32)), .val (.int (0 : Int32)), .val (.ref b176), .val (.ref b177), .val (.ref b178), .val (.ref b184), .val (.ref b185), .val (.int (0 : Int32)), .val (.int (0 : Int32)), .unset, .unset] []))
    refine go (fun _ => XS.iload X188.here hx rfl (hb hby at_170) rfl) ?_
    show Go _ p e below s _ _ _ (T188.setTop (mkF m 172 #[.val (.int p1), .val (.int p2), .val (.int p3), .val (.int p4), .val (.int p5), .val (.int (0 : Int32)), .val (.int (0 : Int32)), .val (.ref b176), .val (.ref b177), .val (.ref b178), .val (.ref b184), .val (.ref b185), .val (.int (0 : Int32)), .val (.int (0 : Int32)), .unset, .unset] [(.int (0 : Int32))]))
    refine go (fun _ => XS.iload X188.here hx rfl (hb hby at_172) rfl) ?_
    show Go _ p e below s _ _ _ (T188.setTop (mkF m 174 #[.val (.int p1), .val (.int p2), .val (.int p3), .val (.int p4), .val (.int p5), .val (.int (0 : Int32)), .val (.int (0 : Int32)), .val (.ref b176), .val (.ref b177), .val (.ref b178), .val (.ref b184), .val (.ref b185), .val (.int (0 : Int32)), .val (.int (0 : Int32)), .unset, .unset] [(.int (0 : Int32)), (.int (0 : Int32))]))
    refine go (fun _ => XS.icmpYes X188.here hx rfl (pc0 := 174) (pc' := 179) rfl (hb hby at_174) rfl (teq (rfl : (0 : Int32) = (0 : Int32))).1 (by decide) (by decide)) ?_
    show Go _ p e below s _ _ _ (T188.setTop (mkF m 179 #[.val (.int p1), .val (.int p2), .val (.int p3), .val (.int p4), .val (.int p5), .val (.int (0 : Int32)), .val (.int (0 : Int32)), .val (.ref b176), .val (.ref b177), .val (.ref b178), .val (.ref b184), .val (.ref b185), .val (.int (0 : Int32)), .val (.int (0 : Int32)), .unset, .unset] []))
    refine go (fun _ => XS.iload X188.here hx rfl (hb hby at_179) rfl) ?_
    show Go _ p e below s _ _ _ (T188.setTop (mkF m 181 #[.val (.int p1), .val (.int p2), .val (.int p3), .val (.int p4), .val (.int p5), .val (.int (0 : Int32)), .val (.int (0 : Int32)), .val (.ref b176), .val (.ref b177), .val (.ref b178), .val (.ref b184), .val (.ref b185), .val (.int (0 : Int32)), .val (.int (0 : Int32)), .unset, .unset] [(.int (0 : Int32))]))
    refine go (fun _ => XS.ifNo X188.here hx rfl (hb hby at_181) rfl ((if0 _ _).trans (teq (rfl : (0 : Int32) = (0 : Int32))).2)) ?_
    show Go _ p e below s _ _ _ (T188.setTop (mkF m 184 #[.val (.int p1), .val (.int p2), .val (.int p3), .val (.int p4), .val (.int p5), .val (.int (0 : Int32)), .val (.int (0 : Int32)), .val (.ref b176), .val (.ref b177), .val (.ref b178), .val (.ref b184), .val (.ref b185), .val (.int (0 : Int32)), .val (.int (0 : Int32)), .unset, .unset] []))
    refine go (fun _ => XS.iconst X188.here hx rfl (hb hby at_184)) ?_
    show Go _ p e below s _ _ _ (T188.setTop (mkF m 185 #[.val (.int p1), .val (.int p2), .val (.int p3), .val (.int p4), .val (.int p5), .val (.int (0 : Int32)), .val (.int (0 : Int32)), .val (.ref b176), .val (.ref b177), .val (.ref b178), .val (.ref b184), .val (.ref b185), .val (.int (0 : Int32)), .val (.int (0 : Int32)), .unset, .unset] [(.int (1 : Int32))]))
    refine goRet X188 hx Bd.notSynchronized Bd.returns rfl (Or.inl ⟨rfl, Or.inr (Or.inl rfl), _, rfl⟩) (hb hby at_185) (by decide) (by decide) (by rw [e188]; refine ⟨rfl, N188⟩)
  · rw [show own_min (2 : Int32) (0 : Int32) = (0 : Int32) from by decide]
    show Go _ p e below s _ _ _ (T178.setTop (mkF m 49 #[.val (.int p1), .val (.int p2), .val (.int p3), .val (.int p4), .val (.int p5), .val (.int (0 : Int32)), .val (.int (0 : Int32)), .val (.ref b176), .val (.ref b177), .val (.ref b178), .unset, .unset, .unset, .unset, .unset, .unset] []))
    refine go (fun _ => XS.iload X178.here hx rfl (hb hby at_49) rfl) ?_
    show Go _ p e below s _ _ _ (T178.setTop (mkF m 51 #[.val (.int p1), .val (.int p2), .val (.int p3), .val (.int p4), .val (.int p5), .val (.int (0 : Int32)), .val (.int (0 : Int32)), .val (.ref b176), .val (.ref b177), .val (.ref b178), .unset, .unset, .unset, .unset, .unset, .unset] [(.int (0 : Int32))]))
    obtain ⟨T189, h189, k189, X189, e189, E189, A189, AE189, O189, st189⟩ := newRE X178 hx hZ hown (hw _ (List.mem_of_getElem? (i := 30) rfl)) (hw _ (List.mem_of_getElem? (i := 31) rfl)) rfl (g := (mkF m 51 #[.val (.int p1), .val (.int p2), .val (.int p3), .val (.int p4), .val (.int p5), .val (.int (0 : Int32)), .val (.int (0 : Int32)), .val (.ref b176), .val (.ref b177), .val (.ref b178), .unset, .unset, .unset, .unset, .unset, .unset] [(.int (0 : Int32))])) rfl (hb hby at_51) rfl (by decide) (cap := 0) (by decide) (by decide) (by decide) (by decide) (ad := "[Ljava/lang/String;") (by first | rfl | decide)
    obtain ⟨b189, g189⟩ : ∃ z, z = T178.heap.size := ⟨_, rfl⟩
    rw [← g189] at A189 AE189 st189
    have lt189_b176_b189 : b176 < b189 := Nat.lt_of_lt_of_le c178_1.lt (Nat.le_of_eq g189.symm)
    have lt189_b177_b189 : b177 < b189 := Nat.lt_of_lt_of_le c178_2.lt (Nat.le_of_eq g189.symm)
    have lt189_b178_b189 : b178 < b189 := Nat.lt_of_lt_of_le u178_3.lt (Nat.le_of_eq g189.symm)
    have G_b189 : n0 ≤ b189 := Nat.le_trans ZN178 (Nat.le_of_eq g189.symm)
    have SZ_b189 : h0.size ≤ b189 := Nat.le_trans KK178.1 (Nat.le_of_eq g189.symm)
    have c189_1 := c178_1.ext E189
    have c189_2 := c178_2.ext E189
    have c189_3 := u178_3.ext E189
    have KK189 : Keep h0 h189 [] := KK178.ext E189
    have ZN189 : n0 ≤ h189.size := Nat.le_trans ZN178 E189.1
    have OL189 := OL178.ext E189
    have V189 : Arv Z h189 b189 k189 (.object "java/lang/String") (0 : Int32) [] .null := (Arv.new A189 (by decide)).pad (pad_rep [] .null 0)
    refine go st189 ?_
    show Go _ p e below s _ _ _ (T189.setTop (mkF m 54 #[.val (.int p1), .val (.int p2), .val (.int p3), .val (.int p4), .val (.int p5), .val (.int (0 : Int32)), .val (.int (0 : Int32)), .val (.ref b176), .val (.ref b177), .val (.ref b178), .unset, .unset, .unset, .unset, .unset, .unset] [(.ref b189)]))
    refine go (fun _ => XS.astore X189.here hx rfl (hb hby at_54) rfl rfl (l' := #[.val (.int p1), .val (.int p2), .val (.int p3), .val (.int p4), .val (.int p5), .val (.int (0 : Int32)), .val (.int (0 : Int32)), .val (.ref b176), .val (.ref b177), .val (.ref b178), .val (.ref b189), .unset, .unset, .unset, .unset, .unset]) rfl) ?_
    show Go _ p e below s _ _ _ (T189.setTop (mkF m 56 #[.val (.int p1), .val (.int p2), .val (.int p3), .val (.int p4), .val (.int p5), .val (.int (0 : Int32)), .val (.int (0 : Int32)), .val (.ref b176), .val (.ref b177), .val (.ref b178), .val (.ref b189), .unset, .unset, .unset, .unset, .unset] []))
    refine go (fun _ => XS.iload X189.here hx rfl (hb hby at_56) rfl) ?_
    show Go _ p e below s _ _ _ (T189.setTop (mkF m 58 #[.val (.int p1), .val (.int p2), .val (.int p3), .val (.int p4), .val (.int p5), .val (.int (0 : Int32)), .val (.int (0 : Int32)), .val (.ref b176), .val (.ref b177), .val (.ref b178), .val (.ref b189), .unset, .unset, .unset, .unset, .unset] [(.int (0 : Int32))]))
    refine go (fun _ => XS.iconst X189.here hx rfl (hb hby at_58)) ?_
    show Go _ p e below s _ _ _ (T189.setTop (mkF m 59 #[.val (.int p1), .val (.int p2), .val (.int p3), .val (.int p4), .val (.int p5), .val (.int (0 : Int32)), .val (.int (0 : Int32)), .val (.ref b176), .val (.ref b177), .val (.ref b178), .val (.ref b189), .unset, .unset, .unset, .unset, .unset] [(.int (1 : Int32)), (.int (0 : Int32))]))
    refine go (fun _ => XS.icmpYes X189.here hx rfl (pc0 := 59) (pc' := 68) rfl (hb hby at_59) rfl (tlt (by decide : ((0 : Int32) < (1 : Int32)))).1 (by decide) (by decide)) ?_
    show Go _ p e below s _ _ _ (T189.setTop (mkF m 68 #[.val (.int p1), .val (.int p2), .val (.int p3), .val (.int p4), .val (.int p5), .val (.int (0 : Int32)), .val (.int (0 : Int32)), .val (.ref b176), .val (.ref b177), .val (.ref b178), .val (.ref b189), .unset, .unset, .unset, .unset, .unset] []))
    refine go (fun _ => XS.iload X189.here hx rfl (hb hby at_68) rfl) ?_
    show Go _ p e below s _ _ _ (T189.setTop (mkF m 70 #[.val (.int p1), .val (.int p2), .val (.int p3), .val (.int p4), .val (.int p5), .val (.int (0 : Int32)), .val (.int (0 : Int32)), .val (.ref b176), .val (.ref b177), .val (.ref b178), .val (.ref b189), .unset, .unset, .unset, .unset, .unset] [(.int (0 : Int32))]))
    refine go (fun _ => XS.iconst X189.here hx rfl (hb hby at_70)) ?_
    show Go _ p e below s _ _ _ (T189.setTop (mkF m 71 #[.val (.int p1), .val (.int p2), .val (.int p3), .val (.int p4), .val (.int p5), .val (.int (0 : Int32)), .val (.int (0 : Int32)), .val (.ref b176), .val (.ref b177), .val (.ref b178), .val (.ref b189), .unset, .unset, .unset, .unset, .unset] [(.int (2 : Int32)), (.int (0 : Int32))]))
    refine go (fun _ => XS.icmpYes X189.here hx rfl (pc0 := 71) (pc' := 80) rfl (hb hby at_71) rfl (tlt (by decide : ((0 : Int32) < (2 : Int32)))).1 (by decide) (by decide)) ?_
    show Go _ p e below s _ _ _ (T189.setTop (mkF m 80 #[.val (.int p1), .val (.int p2), .val (.int p3), .val (.int p4), .val (.int p5), .val (.int (0 : Int32)), .val (.int (0 : Int32)), .val (.ref b176), .val (.ref b177), .val (.ref b178), .val (.ref b189), .unset, .unset, .unset, .unset, .unset] []))
    refine go (fun _ => XS.iload X189.here hx rfl (hb hby at_80) rfl) ?_
    show Go _ p e below s _ _ _ (T189.setTop (mkF m 82 #[.val (.int p1), .val (.int p2), .val (.int p3), .val (.int p4), .val (.int p5), .val (.int (0 : Int32)), .val (.int (0 : Int32)), .val (.ref b176), .val (.ref b177), .val (.ref b178), .val (.ref b189), .unset, .unset, .unset, .unset, .unset] [(.int (0 : Int32))]))
    refine go (fun _ => XS.iconst X189.here hx rfl (hb hby at_82)) ?_
    show Go _ p e below s _ _ _ (T189.setTop (mkF m 83 #[.val (.int p1), .val (.int p2), .val (.int p3), .val (.int p4), .val (.int p5), .val (.int (0 : Int32)), .val (.int (0 : Int32)), .val (.ref b176), .val (.ref b177), .val (.ref b178), .val (.ref b189), .unset, .unset, .unset, .unset, .unset] [(.int (3 : Int32)), (.int (0 : Int32))]))
    refine go (fun _ => XS.icmpYes X189.here hx rfl (pc0 := 83) (pc' := 92) rfl (hb hby at_83) rfl (tlt (by decide : ((0 : Int32) < (3 : Int32)))).1 (by decide) (by decide)) ?_
    show Go _ p e below s _ _ _ (T189.setTop (mkF m 92 #[.val (.int p1), .val (.int p2), .val (.int p3), .val (.int p4), .val (.int p5), .val (.int (0 : Int32)), .val (.int (0 : Int32)), .val (.ref b176), .val (.ref b177), .val (.ref b178), .val (.ref b189), .unset, .unset, .unset, .unset, .unset] []))
    obtain ⟨T190, h190, X190, e190, E190, A190, D190, -, st190⟩ := newO X189 hx hZ hown (hw _ (List.mem_of_getElem? (i := 32) rfl)) (hw _ (List.mem_of_getElem? (i := 33) rfl)) (hw _ (List.mem_of_getElem? (i := 34) rfl)) e189 (g := (mkF m 92 #[.val (.int p1), .val (.int p2), .val (.int p3), .val (.int p4), .val (.int p5), .val (.int (0 : Int32)), .val (.int (0 : Int32)), .val (.ref b176), .val (.ref b177), .val (.ref b178), .val (.ref b189), .unset, .unset, .unset, .unset, .unset] [])) rfl (hb hby at_92) (by decide) (by decide)
    obtain ⟨b190, g190⟩ : ∃ z, z = h189.size := ⟨_, rfl⟩
    rw [← g190] at A190 D190 st190
    have lt190_b176_b190 : b176 < b190 := Nat.lt_of_lt_of_le c189_1.lt (Nat.le_of_eq g190.symm)
    have lt190_b177_b190 : b177 < b190 := Nat.lt_of_lt_of_le c189_2.lt (Nat.le_of_eq g190.symm)
    have lt190_b178_b190 : b178 < b190 := Nat.lt_of_lt_of_le c189_3.lt (Nat.le_of_eq g190.symm)
    have lt190_b189_b190 : b189 < b190 := Nat.lt_of_lt_of_le AE189.lt (Nat.le_of_eq g190.symm)
    have G_b190 : n0 ≤ b190 := Nat.le_trans ZN189 (Nat.le_of_eq g190.symm)
    have SZ_b190 : h0.size ≤ b190 := Nat.le_trans KK189.1 (Nat.le_of_eq g190.symm)
    have c190_1 := c189_1.ext E190
    have c190_2 := c189_2.ext E190
    have c190_3 := c189_3.ext E190
    have c190_4 := AE189.ext E190
    have c190_5 := V189.ext E190
    have KK190 : Keep h0 h190 [] := KK189.ext E190
    have ZN190 : n0 ≤ h190.size := Nat.le_trans ZN189 E190.1
    have OL190 := OL189.ext E190
    have F190_49 : Fld Z h190 b190 "com/example/sunder/sunder/cli/Arguments" "args" "[Ljava/lang/String;" .null := D190 (Or.inr (hw _ (List.mem_of_getElem? (i := 49) rfl))) (ty := (.array (.object "java/lang/String"))) (by decide)
    have F190_56 : Fld Z h190 b190 "com/example/sunder/sunder/cli/Arguments" "next" "I" (.int (0 : Int32)) := D190 (Or.inl (hw _ (List.mem_of_getElem? (i := 56) rfl))) (ty := .int) (by decide)
    refine go st190 ?_
    show Go _ p e below s _ _ _ (T190.setTop (mkF m 95 #[.val (.int p1), .val (.int p2), .val (.int p3), .val (.int p4), .val (.int p5), .val (.int (0 : Int32)), .val (.int (0 : Int32)), .val (.ref b176), .val (.ref b177), .val (.ref b178), .val (.ref b189), .unset, .unset, .unset, .unset, .unset] [(.ref b190)]))
    refine go (fun _ => XS.dup X190.here hx rfl (hb hby at_95) rfl rfl) ?_
    show Go _ p e below s _ _ _ (T190.setTop (mkF m 96 #[.val (.int p1), .val (.int p2), .val (.int p3), .val (.int p4), .val (.int p5), .val (.int (0 : Int32)), .val (.int (0 : Int32)), .val (.ref b176), .val (.ref b177), .val (.ref b178), .val (.ref b189), .unset, .unset, .unset, .unset, .unset] [(.ref b190), (.ref b190)]))
    refine go (fun _ => XS.aload X190.here hx rfl (hb hby at_96) rfl rfl) ?_
    show Go _ p e below s _ _ _ (T190.setTop (mkF m 98 #[.val (.int p1), .val (.int p2), .val (.int p3), .val (.int p4), .val (.int p5), .val (.int (0 : Int32)), .val (.int (0 : Int32)), .val (.ref b176), .val (.ref b177), .val (.ref b178), .val (.ref b189), .unset, .unset, .unset, .unset, .unset] [(.ref b189), (.ref b190), (.ref b190)]))
    obtain ⟨_, _, ⟨T191, L191, k191, n191⟩, -, X191, ⟨Lc191, hQ191, l191, y191, z191⟩, st191⟩ := X190.specialBack hx (y := (⟨"com/example/sunder/sunder/cli/Arguments", "<init>", "([Ljava/lang/String;)V"⟩ : MethodName)) rfl hown (mvT hZ (hw _ (List.mem_of_getElem? (i := 35) rfl))) (mvT hZ (hw _ (List.mem_of_getElem? (i := 36) rfl))) (mvT hZ (hw _ (List.mem_of_getElem? (i := 37) rfl))) (by decide) (backOf (W := 1) (rmI0 l Z a0 hw [] b190 b189 k189 .null h190 n0 ZN190 A190 F190_49 F190_56 G_b190 c190_4 c190_5 (Ne.symm (Nat.ne_of_lt lt190_b189_b190))) hZ (hw _ (List.mem_of_getElem? (i := 37) rfl)) (hw _ (List.mem_of_getElem? (i := 34) rfl)) (by decide) (by decide)) (g := (mkF m 98 #[.val (.int p1), .val (.int p2), .val (.int p3), .val (.int p4), .val (.int p5), .val (.int (0 : Int32)), .val (.int (0 : Int32)), .val (.ref b176), .val (.ref b177), .val (.ref b178), .val (.ref b189), .unset, .unset, .unset, .unset, .unset] [(.ref b189), (.ref b190), (.ref b190)])) rfl (by rw [hml]; rfl) (Steps.refl _) (a := b190) (argsL := [(.ref b189)]) (rest := [(.ref b190)]) (lenOf pd_0_2 rfl) rfl (by show 2 * 0 + _ ≤ _; exact Nat.le_of_eq rfl) (hb hby at_98) (fun _ _ => ⟨rfl, e190, (by decide : 8 + 1 ≤ _), (by decide : 17 + 0 ≤ _)⟩)
    dsimp only [Pt.U, Pt.locs, Pt.cells, Pt.slots] at X191 l191 y191 z191 st191 hQ191
    subst l191 y191 z191
    obtain ⟨b191, rfl, N191q, u191_0, u191_1, K191, u191_3, u191_4, u191_5, u191_6⟩ := hQ191
    have N191 := Fr.app N178 N191q
    have lt191_b176_b191 : b176 < b191 := Nat.lt_of_lt_of_le c190_1.lt u191_0
    have lt191_b177_b191 : b177 < b191 := Nat.lt_of_lt_of_le c190_2.lt u191_0
    have lt191_b178_b191 : b178 < b191 := Nat.lt_of_lt_of_le c190_3.lt u191_0
    have lt191_b189_b191 : b189 < b191 := Nat.lt_of_lt_of_le c190_4.lt u191_0
    have lt191_b190_b191 : b190 < b191 := Nat.lt_of_lt_of_le A190.lt u191_0
    have G_b191 : n0 ≤ b191 := Nat.le_trans ZN190 u191_0
    have SZ_b191 : h0.size ≤ b191 := Nat.le_trans KK190.1 u191_0
    have c191_1 := c190_1.keep K191
    have c191_2 := c190_2.keep K191
    have c191_3 := c190_3.keep K191
    have c191_4 := c190_4.keep K191
    have c191_5 := c190_5.keep K191 (ninS (Nat.ne_of_lt lt190_b189_b190) nin0)
    have c191_6 := A190.keep K191
    have KK191 : Keep h0 T191.heap [] := KK190.trans K191 (allS (P := fun x => x ∈ [] ∨ h0.size ≤ x) (Or.inr SZ_b190) all0)
    have ZN191 : n0 ≤ T191.heap.size := Nat.le_trans ZN190 K191.1
    have OL191 := OL190.keep K191 (allS G_b190 all0)
    refine goT st191 ?_
    show Go _ p e below s _ _ _ (T191.setTop (mkF m 101 #[.val (.int p1), .val (.int p2), .val (.int p3), .val (.int p4), .val (.int p5), .val (.int (0 : Int32)), .val (.int (0 : Int32)), .val (.ref b176), .val (.ref b177), .val (.ref b178), .val (.ref b189), .unset, .unset, .unset, .unset, .unset] [(.ref b190)]))
    refine go (fun _ => XS.astore X191.here hx rfl (hb hby at_101) rfl rfl (l' := #[.val (.int p1), .val (.int p2), .val (.int p3), .val (.int p4), .val (.int p5), .val (.int (0 : Int32)), .val (.int (0 : Int32)), .val (.ref b176), .val (.ref b177), .val (.ref b178), .val (.ref b189), .val (.ref b190), .unset, .unset, .unset, .unset]) rfl) ?_
    show Go _ p e below s _ _ _ (T191.setTop (mkF m 103 #[.val (.int p1), .val (.int p2), .val (.int p3), .val (.int p4), .val (.int p5), .val (.int (0 : Int32)), .val (.int (0 : Int32)), .val (.ref b176), .val (.ref b177), .val (.ref b178), .val (.ref b189), .val (.ref b190), .unset, .unset, .unset, .unset] []))
    refine go (fun _ => XS.iload X191.here hx rfl (hb hby at_103) rfl) ?_
    show Go _ p e below s _ _ _ (T191.setTop (mkF m 105 #[.val (.int p1), .val (.int p2), .val (.int p3), .val (.int p4), .val (.int p5), .val (.int (0 : Int32)), .val (.int (0 : Int32)), .val (.ref b176), .val (.ref b177), .val (.ref b178), .val (.ref b189), .val (.ref b190), .unset, .unset, .unset, .unset] [(.int (0 : Int32))]))
    refine go (fun _ => XS.iconst X191.here hx rfl (hb hby at_105)) ?_
    show Go _ p e below s _ _ _ (T191.setTop (mkF m 106 #[.val (.int p1), .val (.int p2), .val (.int p3), .val (.int p4), .val (.int p5), .val (.int (0 : Int32)), .val (.int (0 : Int32)), .val (.ref b176), .val (.ref b177), .val (.ref b178), .val (.ref b189), .val (.ref b190), .unset, .unset, .unset, .unset] [(.int (1 : Int32)), (.int (0 : Int32))]))
    refine go (fun _ => XS.icmpYes X191.here hx rfl (pc0 := 106) (pc' := 115) rfl (hb hby at_106) rfl (tlt (by decide : ((0 : Int32) < (1 : Int32)))).1 (by decide) (by decide)) ?_
    show Go _ p e below s _ _ _ (T191.setTop (mkF m 115 #[.val (.int p1), .val (.int p2), .val (.int p3), .val (.int p4), .val (.int p5), .val (.int (0 : Int32)), .val (.int (0 : Int32)), .val (.ref b176), .val (.ref b177), .val (.ref b178), .val (.ref b189), .val (.ref b190), .unset, .unset, .unset, .unset] []))
    refine go (fun _ => XS.iload X191.here hx rfl (hb hby at_115) rfl) ?_
    show Go _ p e below s _ _ _ (T191.setTop (mkF m 117 #[.val (.int p1), .val (.int p2), .val (.int p3), .val (.int p4), .val (.int p5), .val (.int (0 : Int32)), .val (.int (0 : Int32)), .val (.ref b176), .val (.ref b177), .val (.ref b178), .val (.ref b189), .val (.ref b190), .unset, .unset, .unset, .unset] [(.int (0 : Int32))]))
    refine go (fun _ => XS.iconst X191.here hx rfl (hb hby at_117)) ?_
    show Go _ p e below s _ _ _ (T191.setTop (mkF m 118 #[.val (.int p1), .val (.int p2), .val (.int p3), .val (.int p4), .val (.int p5), .val (.int (0 : Int32)), .val (.int (0 : Int32)), .val (.ref b176), .val (.ref b177), .val (.ref b178), .val (.ref b189), .val (.ref b190), .unset, .unset, .unset, .unset] [(.int (2 : Int32)), (.int (0 : Int32))]))
    refine go (fun _ => XS.icmpYes X191.here hx rfl (pc0 := 118) (pc' := 127) rfl (hb hby at_118) rfl (tlt (by decide : ((0 : Int32) < (2 : Int32)))).1 (by decide) (by decide)) ?_
    show Go _ p e below s _ _ _ (T191.setTop (mkF m 127 #[.val (.int p1), .val (.int p2), .val (.int p3), .val (.int p4), .val (.int p5), .val (.int (0 : Int32)), .val (.int (0 : Int32)), .val (.ref b176), .val (.ref b177), .val (.ref b178), .val (.ref b189), .val (.ref b190), .unset, .unset, .unset, .unset] []))
    refine go (fun _ => XS.iload X191.here hx rfl (hb hby at_127) rfl) ?_
    show Go _ p e below s _ _ _ (T191.setTop (mkF m 129 #[.val (.int p1), .val (.int p2), .val (.int p3), .val (.int p4), .val (.int p5), .val (.int (0 : Int32)), .val (.int (0 : Int32)), .val (.ref b176), .val (.ref b177), .val (.ref b178), .val (.ref b189), .val (.ref b190), .unset, .unset, .unset, .unset] [(.int (0 : Int32))]))
    refine go (fun _ => XS.iconst X191.here hx rfl (hb hby at_129)) ?_
    show Go _ p e below s _ _ _ (T191.setTop (mkF m 130 #[.val (.int p1), .val (.int p2), .val (.int p3), .val (.int p4), .val (.int p5), .val (.int (0 : Int32)), .val (.int (0 : Int32)), .val (.ref b176), .val (.ref b177), .val (.ref b178), .val (.ref b189), .val (.ref b190), .unset, .unset, .unset, .unset] [(.int (3 : Int32)), (.int (0 : Int32))]))
    refine go (fun _ => XS.icmpYes X191.here hx rfl (pc0 := 130) (pc' := 139) rfl (hb hby at_130) rfl (tlt (by decide : ((0 : Int32) < (3 : Int32)))).1 (by decide) (by decide)) ?_
    show Go _ p e below s _ _ _ (T191.setTop (mkF m 139 #[.val (.int p1), .val (.int p2), .val (.int p3), .val (.int p4), .val (.int p5), .val (.int (0 : Int32)), .val (.int (0 : Int32)), .val (.ref b176), .val (.ref b177), .val (.ref b178), .val (.ref b189), .val (.ref b190), .unset, .unset, .unset, .unset] []))
    refine go (fun _ => XS.aload X191.here hx rfl (hb hby at_139) rfl rfl) ?_
    show Go _ p e below s _ _ _ (T191.setTop (mkF m 141 #[.val (.int p1), .val (.int p2), .val (.int p3), .val (.int p4), .val (.int p5), .val (.int (0 : Int32)), .val (.int (0 : Int32)), .val (.ref b176), .val (.ref b177), .val (.ref b178), .val (.ref b189), .val (.ref b190), .unset, .unset, .unset, .unset] [(.ref b190)]))
    obtain ⟨cq192, kq192, q192a, q192b, q192c⟩ := isOf hZ rfl c191_6
    obtain ⟨_, _, ⟨T192, L192, k192, n192⟩, -, X192, ⟨Lc192, hQ192, l192, y192, z192⟩, st192⟩ := X191.virtualBack hx (y := (⟨"com/example/sunder/sunder/cli/Arguments", "hasNext", "()Z"⟩ : MethodName)) (z := (⟨"com/example/sunder/sunder/cli/Arguments", "hasNext", "()Z"⟩ : MethodName)) hown (mvT hZ (hw _ (List.mem_of_getElem? (i := 50) rfl))) (mvT hZ (hw _ (List.mem_of_getElem? (i := 51) rfl))) (notFace_of_selects (args := #[]) (mvT hZ (hw _ (List.mem_of_getElem? (i := 53) rfl)))) (mvT hZ (hw _ (List.mem_of_getElem? (i := 53) rfl))) (mvT hZ (hw _ (List.mem_of_getElem? (i := 52) rfl))) (by decide) (backOf (W := 0) (rmH0_0 l Z a0 hw [] b190 b191 k189 (T191.heap) n0 ZN191 u191_3 u191_4 u191_6) hZ (hw _ (List.mem_of_getElem? (i := 54) rfl)) (hw _ (List.mem_of_getElem? (i := 34) rfl)) (by decide) (by decide)) q192a q192c (g := (mkF m 141 #[.val (.int p1), .val (.int p2), .val (.int p3), .val (.int p4), .val (.int p5), .val (.int (0 : Int32)), .val (.int (0 : Int32)), .val (.ref b176), .val (.ref b177), .val (.ref b178), .val (.ref b189), .val (.ref b190), .unset, .unset, .unset, .unset] [(.ref b190)])) rfl (by rw [hml]; rfl) (Steps.refl _) (argsL := []) (rest := []) (lenOf pd_0_3 rfl) rfl (by show 2 * 0 + _ ≤ _; exact Nat.le_of_eq rfl) (hb hby at_141) (fun _ _ => ⟨rfl, rfl, (by decide : 9 + 0 ≤ _), (by decide : 17 + 0 ≤ _)⟩)
    dsimp only [Pt.U, Pt.locs, Pt.cells, Pt.slots] at X192 l192 y192 z192 st192 hQ192
    subst l192 y192 z192
    obtain ⟨rfl, N192q, e192⟩ := hQ192
    have N192 := Fr.app N191 N192q
    refine goT st192 ?_
    show Go _ p e below s _ _ _ (T192.setTop (mkF m 144 #[.val (.int p1), .val (.int p2), .val (.int p3), .val (.int p4), .val (.int p5), .val (.int (0 : Int32)), .val (.int (0 : Int32)), .val (.ref b176), .val (.ref b177), .val (.ref b178), .val (.ref b189), .val (.ref b190), .unset, .unset, .unset, .unset] [(.int (0 : Int32))]))
    refine go (fun _ => XS.istore X192.here hx rfl (hb hby at_144) rfl (l' := #[.val (.int p1), .val (.int p2), .val (.int p3), .val (.int p4), .val (.int p5), .val (.int (0 : Int32)), .val (.int (0 : Int32)), .val (.ref b176), .val (.ref b177), .val (.ref b178), .val (.ref b189), .val (.ref b190), .val (.int (0 : Int32)), .unset, .unset, .unset]) rfl) ?_
    show Go _ p e below s _ _ _ (T192.setTop (mkF m 146 #[.val (.int p1), .val (.int p2), .val (.int p3), .val (.int p4), .val (.int p5), .val (.int (0 : Int32)), .val (.int (0 : Int32)), .val (.ref b176), .val (.ref b177), .val (.ref b178), .val (.ref b189), .val (.ref b190), .val (.int (0 : Int32)), .unset, .unset, .unset] []))
    refine go (fun _ => XS.aload X192.here hx rfl (hb hby at_146) rfl rfl) ?_
    show Go _ p e below s _ _ _ (T192.setTop (mkF m 148 #[.val (.int p1), .val (.int p2), .val (.int p3), .val (.int p4), .val (.int p5), .val (.int (0 : Int32)), .val (.int (0 : Int32)), .val (.ref b176), .val (.ref b177), .val (.ref b178), .val (.ref b189), .val (.ref b190), .val (.int (0 : Int32)), .unset, .unset, .unset] [(.ref b190)]))
    obtain ⟨cq193, kq193, q193a, q193b, q193c⟩ := isOf hZ e192 c191_6
    obtain ⟨_, _, ⟨T193, L193, k193, n193⟩, -, X193, ⟨Lc193, hQ193, l193, y193, z193⟩, st193⟩ := X192.virtualBack hx (y := (⟨"com/example/sunder/sunder/cli/Arguments", "hasNext", "()Z"⟩ : MethodName)) (z := (⟨"com/example/sunder/sunder/cli/Arguments", "hasNext", "()Z"⟩ : MethodName)) hown (mvT hZ (hw _ (List.mem_of_getElem? (i := 50) rfl))) (mvT hZ (hw _ (List.mem_of_getElem? (i := 51) rfl))) (notFace_of_selects (args := #[]) (mvT hZ (hw _ (List.mem_of_getElem? (i := 53) rfl)))) (mvT hZ (hw _ (List.mem_of_getElem? (i := 53) rfl))) (mvT hZ (hw _ (List.mem_of_getElem? (i := 52) rfl))) (by decide) (backOf (W := 0) (rmH0_0 l Z a0 hw [] b190 b191 k189 (T191.heap) n0 ZN191 u191_3 u191_4 u191_6) hZ (hw _ (List.mem_of_getElem? (i := 54) rfl)) (hw _ (List.mem_of_getElem? (i := 34) rfl)) (by decide) (by decide)) q193a q193c (g := (mkF m 148 #[.val (.int p1), .val (.int p2), .val (.int p3), .val (.int p4), .val (.int p5), .val (.int (0 : Int32)), .val (.int (0 : Int32)), .val (.ref b176), .val (.ref b177), .val (.ref b178), .val (.ref b189), .val (.ref b190), .val (.int (0 : Int32)), .unset, .unset, .unset] [(.ref b190)])) rfl (by rw [hml]; rfl) (Steps.refl _) (argsL := []) (rest := []) (lenOf pd_0_3 rfl) rfl (by show 2 * 0 + _ ≤ _; exact Nat.le_of_eq rfl) (hb hby at_148) (fun _ _ => ⟨rfl, e192, (by decide : 9 + 0 ≤ _), (by decide : 17 + 0 ≤ _)⟩)
    dsimp only [Pt.U, Pt.locs, Pt.cells, Pt.slots] at X193 l193 y193 z193 st193 hQ193
    subst l193 y193 z193
    obtain ⟨rfl, N193q, e193⟩ := hQ193
    have N193 := Fr.app N192 N193q
    refine goT st193 ?_
    show Go _ p e below s _ _ _ (T193.setTop (mkF m 151 #[.val (.int p1), .val (.int p2), .val (.int p3), .val (.int p4), .val (.int p5), .val (.int (0 : Int32)), .val (.int (0 : Int32)), .val (.ref b176), .val (.ref b177), .val (.ref b178), .val (.ref b189), .val (.ref b190), .val (.int (0 : Int32)), .unset, .unset, .unset] [(.int (0 : Int32))]))
    refine go (fun _ => XS.istore X193.here hx rfl (hb hby at_151) rfl (l' := #[.val (.int p1), .val (.int p2), .val (.int p3), .val (.int p4), .val (.int p5), .val (.int (0 : Int32)), .val (.int (0 : Int32)), .val (.ref b176), .val (.ref b177), .val (.ref b178), .val (.ref b189), .val (.ref b190), .val (.int (0 : Int32)), .val (.int (0 : Int32)), .unset, .unset]) rfl) ?_
    show Go _ p e below s _ _ _ (T193.setTop (mkF m 153 #[.val (.int p1), .val (.int p2), .val (.int p3), .val (.int p4), .val (.int p5), .val (.int (0 : Int32)), .val (.int (0 : Int32)), .val (.ref b176), .val (.ref b177), .val (.ref b178), .val (.ref b189), .val (.ref b190), .val (.int (0 : Int32)), .val (.int (0 : Int32)), .unset, .unset] []))
    refine go (fun _ => XS.iload X193.here hx rfl (hb hby at_153) rfl) ?_
    show Go _ p e below s _ _ _ (T193.setTop (mkF m 155 #[.val (.int p1), .val (.int p2), .val (.int p3), .val (.int p4), .val (.int p5), .val (.int (0 : Int32)), .val (.int (0 : Int32)), .val (.ref b176), .val (.ref b177), .val (.ref b178), .val (.ref b189), .val (.ref b190), .val (.int (0 : Int32)), .val (.int (0 : Int32)), .unset, .unset] [(.int (0 : Int32))]))
    refine go (fun _ => XS.iload X193.here hx rfl (hb hby at_155) rfl) ?_
    show Go _ p e below s _ _ _ (T193.setTop (mkF m 157 #[.val (.int p1), .val (.int p2), .val (.int p3), .val (.int p4), .val (.int p5), .val (.int (0 : Int32)), .val (.int (0 : Int32)), .val (.ref b176), .val (.ref b177), .val (.ref b178), .val (.ref b189), .val (.ref b190), .val (.int (0 : Int32)), .val (.int (0 : Int32)), .unset, .unset] [(.int (0 : Int32)), (.int (0 : Int32))]))
    refine go (fun _ => XS.iload X193.here hx rfl (hb hby at_157) rfl) ?_
    show Go _ p e below s _ _ _ (T193.setTop (mkF m 159 #[.val (.int p1), .val (.int p2), .val (.int p3), .val (.int p4), .val (.int p5), .val (.int (0 : Int32)), .val (.int (0 : Int32)), .val (.ref b176), .val (.ref b177), .val (.ref b178), .val (.ref b189), .val (.ref b190), .val (.int (0 : Int32)), .val (.int (0 : Int32)), .unset, .unset] [(.int (0 : Int32)), (.int (0 : Int32)), (.int (0 : Int32))]))
    refine go (fun _ => XS.icmpYes X193.here hx rfl (pc0 := 159) (pc' := 166) rfl (hb hby at_159) rfl (flt (by decide : ¬ ((0 : Int32) < (0 : Int32)))).2.1 (by decide) (by decide)) ?_
    show Go _ p e below s _ _ _ (T193.setTop (mkF m 166 #[.val (.int p1), .val (.int p2), .val (.int p3), .val (.int p4), .val (.int p5), .val (.int (0 : Int32)), .val (.int (0 : Int32)), .val (.ref b176), .val (.ref b177), .val (.ref b178), .val (.ref b189), .val (.ref b190), .val (.int (0 : Int32)), .val (.int (0 : Int32)), .unset, .unset] [(.int (0 : Int32))]))
    refine go (fun _ => XS.iconst X193.here hx rfl (hb hby at_166)) ?_
    show Go _ p e below s _ _ _ (T193.setTop (mkF m 167 #[.val (.int p1), .val (.int p2), .val (.int p3), .val (.int p4), .val (.int p5), .val (.int (0 : Int32)), .val (.int (0 : Int32)), .val (.ref b176), .val (.ref b177), .val (.ref b178), .val (.ref b189), .val (.ref b190), .val (.int (0 : Int32)), .val (.int (0 : Int32)), .unset, .unset] [(.int (0 : Int32)), (.int (0 : Int32))]))
    refine go (fun _ => XS.icmpNo X193.here hx rfl (hb hby at_167) rfl (teq (rfl : (0 : Int32) = (0 : Int32))).2) ?_
    show Go _ p e below s _ _ _ (T193.setTop (mkF m 170 #[.val (.int p1), .val (.int p2), .val (.int p3), .val (.int p4), .val (.int p5), .val (.int (0 : Int32)), .val (.int (0 : Int32)), .val (.ref b176), .val (.ref b177), .val (.ref b178), .val (.ref b189), .val (.ref b190), .val (.int (0 : Int32)), .val (.int (0 : Int32)), .unset, .unset] []))
    refine go (fun _ => XS.iload X193.here hx rfl (hb hby at_170) rfl) ?_
    show Go _ p e below s _ _ _ (T193.setTop (mkF m 172 #[.val (.int p1), .val (.int p2), .val (.int p3), .val (.int p4), .val (.int p5), .val (.int (0 : Int32)), .val (.int (0 : Int32)), .val (.ref b176), .val (.ref b177), .val (.ref b178), .val (.ref b189), .val (.ref b190), .val (.int (0 : Int32)), .val (.int (0 : Int32)), .unset, .unset] [(.int (0 : Int32))]))
    refine go (fun _ => XS.iload X193.here hx rfl (hb hby at_172) rfl) ?_
    show Go _ p e below s _ _ _ (T193.setTop (mkF m 174 #[.val (.int p1), .val (.int p2), .val (.int p3), .val (.int p4), .val (.int p5), .val (.int (0 : Int32)), .val (.int (0 : Int32)), .val (.ref b176), .val (.ref b177), .val (.ref b178), .val (.ref b189), .val (.ref b190), .val (.int (0 : Int32)), .val (.int (0 : Int32)), .unset, .unset] [(.int (0 : Int32)), (.int (0 : Int32))]))
    refine go (fun _ => XS.icmpYes X193.here hx rfl (pc0 := 174) (pc' := 179) rfl (hb hby at_174) rfl (teq (rfl : (0 : Int32) = (0 : Int32))).1 (by decide) (by decide)) ?_
    show Go _ p e below s _ _ _ (T193.setTop (mkF m 179 #[.val (.int p1), .val (.int p2), .val (.int p3), .val (.int p4), .val (.int p5), .val (.int (0 : Int32)), .val (.int (0 : Int32)), .val (.ref b176), .val (.ref b177), .val (.ref b178), .val (.ref b189), .val (.ref b190), .val (.int (0 : Int32)), .val (.int (0 : Int32)), .unset, .unset] []))
    refine go (fun _ => XS.iload X193.here hx rfl (hb hby at_179) rfl) ?_
    show Go _ p e below s _ _ _ (T193.setTop (mkF m 181 #[.val (.int p1), .val (.int p2), .val (.int p3), .val (.int p4), .val (.int p5), .val (.int (0 : Int32)), .val (.int (0 : Int32)), .val (.ref b176), .val (.ref b177), .val (.ref b178), .val (.ref b189), .val (.ref b190), .val (.int (0 : Int32)), .val (.int (0 : Int32)), .unset, .unset] [(.int (0 : Int32))]))
    refine go (fun _ => XS.ifNo X193.here hx rfl (hb hby at_181) rfl ((if0 _ _).trans (teq (rfl : (0 : Int32) = (0 : Int32))).2)) ?_
    show Go _ p e below s _ _ _ (T193.setTop (mkF m 184 #[.val (.int p1), .val (.int p2), .val (.int p3), .val (.int p4), .val (.int p5), .val (.int (0 : Int32)), .val (.int (0 : Int32)), .val (.ref b176), .val (.ref b177), .val (.ref b178), .val (.ref b189), .val (.ref b190), .val (.int (0 : Int32)), .val (.int (0 : Int32)), .unset, .unset] []))
    refine go (fun _ => XS.iconst X193.here hx rfl (hb hby at_184)) ?_
    show Go _ p e below s _ _ _ (T193.setTop (mkF m 185 #[.val (.int p1), .val (.int p2), .val (.int p3), .val (.int p4), .val (.int p5), .val (.int (0 : Int32)), .val (.int (0 : Int32)), .val (.ref b176), .val (.ref b177), .val (.ref b178), .val (.ref b189), .val (.ref b190), .val (.int (0 : Int32)), .val (.int (0 : Int32)), .unset, .unset] [(.int (1 : Int32))]))
    refine goRet X193 hx Bd.notSynchronized Bd.returns rfl (Or.inl ⟨rfl, Or.inr (Or.inl rfl), _, rfl⟩) (hb hby at_185) (by decide) (by decide) (by rw [e193]; refine ⟨rfl, N193⟩)
  · rw [show own_min (3 : Int32) (0 : Int32) = (0 : Int32) from by decide]
    show Go _ p e below s _ _ _ (T178.setTop (mkF m 49 #[.val (.int p1), .val (.int p2), .val (.int p3), .val (.int p4), .val (.int p5), .val (.int (0 : Int32)), .val (.int (0 : Int32)), .val (.ref b176), .val (.ref b177), .val (.ref b178), .unset, .unset, .unset, .unset, .unset, .unset] []))
    refine go (fun _ => XS.iload X178.here hx rfl (hb hby at_49) rfl) ?_
    show Go _ p e below s _ _ _ (T178.setTop (mkF m 51 #[.val (.int p1), .val (.int p2), .val (.int p3), .val (.int p4), .val (.int p5), .val (.int (0 : Int32)), .val (.int (0 : Int32)), .val (.ref b176), .val (.ref b177), .val (.ref b178), .unset, .unset, .unset, .unset, .unset, .unset] [(.int (0 : Int32))]))
    obtain ⟨T194, h194, k194, X194, e194, E194, A194, AE194, O194, st194⟩ := newRE X178 hx hZ hown (hw _ (List.mem_of_getElem? (i := 30) rfl)) (hw _ (List.mem_of_getElem? (i := 31) rfl)) rfl (g := (mkF m 51 #[.val (.int p1), .val (.int p2), .val (.int p3), .val (.int p4), .val (.int p5), .val (.int (0 : Int32)), .val (.int (0 : Int32)), .val (.ref b176), .val (.ref b177), .val (.ref b178), .unset, .unset, .unset, .unset, .unset, .unset] [(.int (0 : Int32))])) rfl (hb hby at_51) rfl (by decide) (cap := 0) (by decide) (by decide) (by decide) (by decide) (ad := "[Ljava/lang/String;") (by first | rfl | decide)
    obtain ⟨b194, g194⟩ : ∃ z, z = T178.heap.size := ⟨_, rfl⟩
    rw [← g194] at A194 AE194 st194
    have lt194_b176_b194 : b176 < b194 := Nat.lt_of_lt_of_le c178_1.lt (Nat.le_of_eq g194.symm)
    have lt194_b177_b194 : b177 < b194 := Nat.lt_of_lt_of_le c178_2.lt (Nat.le_of_eq g194.symm)
    have lt194_b178_b194 : b178 < b194 := Nat.lt_of_lt_of_le u178_3.lt (Nat.le_of_eq g194.symm)
    have G_b194 : n0 ≤ b194 := Nat.le_trans ZN178 (Nat.le_of_eq g194.symm)
    have SZ_b194 : h0.size ≤ b194 := Nat.le_trans KK178.1 (Nat.le_of_eq g194.symm)
    have c194_1 := c178_1.ext E194
    have c194_2 := c178_2.ext E194
    have c194_3 := u178_3.ext E194
    have KK194 : Keep h0 h194 [] := KK178.ext E194
    have ZN194 : n0 ≤ h194.size := Nat.le_trans ZN178 E194.1
    have OL194 := OL178.ext E194
    have V194 : Arv Z h194 b194 k194 (.object "java/lang/String") (0 : Int32) [] .null := (Arv.new A194 (by decide)).pad (pad_rep [] .null 0)
    refine go st194 ?_
    show Go _ p e below s _ _ _ (T194.setTop (mkF m 54 #[.val (.int p1), .val (.int p2), .val (.int p3), .val (.int p4), .val (.int p5), .val (.int (0 : Int32)), .val (.int (0 : Int32)), .val (.ref b176), .val (.ref b177), .val (.ref b178), .unset, .unset, .unset, .unset, .unset, .unset] [(.ref b194)]))
    refine go (fun _ => XS.astore X194.here hx rfl (hb hby at_54) rfl rfl (l' := #[.val (.int p1), .val (.int p2), .val (.int p3), .val (.int p4), .val (.int p5), .val (.int (0 : Int32)), .val (.int (0 : Int32)), .val (.ref b176), .val (.ref b177), .val (.ref b178), .val (.ref b194), .unset, .unset, .unset, .unset, .unset]) rfl) ?_
    show Go _ p e below s _ _ _ (T194.setTop (mkF m 56 #[.val (.int p1), .val (.int p2), .val (.int p3), .val (.int p4), .val (.int p5), .val (.int (0 : Int32)), .val (.int (0 : Int32)), .val (.ref b176), .val (.ref b177), .val (.ref b178), .val (.ref b194), .unset, .unset, .unset, .unset, .unset] []))
    refine go (fun _ => XS.iload X194.here hx rfl (hb hby at_56) rfl) ?_
    show Go _ p e below s _ _ _ (T194.setTop (mkF m 58 #[.val (.int p1), .val (.int p2), .val (.int p3), .val (.int p4), .val (.int p5), .val (.int (0 : Int32)), .val (.int (0 : Int32)), .val (.ref b176), .val (.ref b177), .val (.ref b178), .val (.ref b194), .unset, .unset, .unset, .unset, .unset] [(.int (0 : Int32))]))
    refine go (fun _ => XS.iconst X194.here hx rfl (hb hby at_58)) ?_
    show Go _ p e below s _ _ _ (T194.setTop (mkF m 59 #[.val (.int p1), .val (.int p2), .val (.int p3), .val (.int p4), .val (.int p5), .val (.int (0 : Int32)), .val (.int (0 : Int32)), .val (.ref b176), .val (.ref b177), .val (.ref b178), .val (.ref b194), .unset, .unset, .unset, .unset, .unset] [(.int (1 : Int32)), (.int (0 : Int32))]))
    refine go (fun _ => XS.icmpYes X194.here hx rfl (pc0 := 59) (pc' := 68) rfl (hb hby at_59) rfl (tlt (by decide : ((0 : Int32) < (1 : Int32)))).1 (by decide) (by decide)) ?_
    show Go _ p e below s _ _ _ (T194.setTop (mkF m 68 #[.val (.int p1), .val (.int p2), .val (.int p3), .val (.int p4), .val (.int p5), .val (.int (0 : Int32)), .val (.int (0 : Int32)), .val (.ref b176), .val (.ref b177), .val (.ref b178), .val (.ref b194), .unset, .unset, .unset, .unset, .unset] []))
    refine go (fun _ => XS.iload X194.here hx rfl (hb hby at_68) rfl) ?_
    show Go _ p e below s _ _ _ (T194.setTop (mkF m 70 #[.val (.int p1), .val (.int p2), .val (.int p3), .val (.int p4), .val (.int p5), .val (.int (0 : Int32)), .val (.int (0 : Int32)), .val (.ref b176), .val (.ref b177), .val (.ref b178), .val (.ref b194), .unset, .unset, .unset, .unset, .unset] [(.int (0 : Int32))]))
    refine go (fun _ => XS.iconst X194.here hx rfl (hb hby at_70)) ?_
    show Go _ p e below s _ _ _ (T194.setTop (mkF m 71 #[.val (.int p1), .val (.int p2), .val (.int p3), .val (.int p4), .val (.int p5), .val (.int (0 : Int32)), .val (.int (0 : Int32)), .val (.ref b176), .val (.ref b177), .val (.ref b178), .val (.ref b194), .unset, .unset, .unset, .unset, .unset] [(.int (2 : Int32)), (.int (0 : Int32))]))
    refine go (fun _ => XS.icmpYes X194.here hx rfl (pc0 := 71) (pc' := 80) rfl (hb hby at_71) rfl (tlt (by decide : ((0 : Int32) < (2 : Int32)))).1 (by decide) (by decide)) ?_
    show Go _ p e below s _ _ _ (T194.setTop (mkF m 80 #[.val (.int p1), .val (.int p2), .val (.int p3), .val (.int p4), .val (.int p5), .val (.int (0 : Int32)), .val (.int (0 : Int32)), .val (.ref b176), .val (.ref b177), .val (.ref b178), .val (.ref b194), .unset, .unset, .unset, .unset, .unset] []))
    refine go (fun _ => XS.iload X194.here hx rfl (hb hby at_80) rfl) ?_
    show Go _ p e below s _ _ _ (T194.setTop (mkF m 82 #[.val (.int p1), .val (.int p2), .val (.int p3), .val (.int p4), .val (.int p5), .val (.int (0 : Int32)), .val (.int (0 : Int32)), .val (.ref b176), .val (.ref b177), .val (.ref b178), .val (.ref b194), .unset, .unset, .unset, .unset, .unset] [(.int (0 : Int32))]))
    refine go (fun _ => XS.iconst X194.here hx rfl (hb hby at_82)) ?_
    show Go _ p e below s _ _ _ (T194.setTop (mkF m 83 #[.val (.int p1), .val (.int p2), .val (.int p3), .val (.int p4), .val (.int p5), .val (.int (0 : Int32)), .val (.int (0 : Int32)), .val (.ref b176), .val (.ref b177), .val (.ref b178), .val (.ref b194), .unset, .unset, .unset, .unset, .unset] [(.int (3 : Int32)), (.int (0 : Int32))]))
    refine go (fun _ => XS.icmpYes X194.here hx rfl (pc0 := 83) (pc' := 92) rfl (hb hby at_83) rfl (tlt (by decide : ((0 : Int32) < (3 : Int32)))).1 (by decide) (by decide)) ?_
    show Go _ p e below s _ _ _ (T194.setTop (mkF m 92 #[.val (.int p1), .val (.int p2), .val (.int p3), .val (.int p4), .val (.int p5), .val (.int (0 : Int32)), .val (.int (0 : Int32)), .val (.ref b176), .val (.ref b177), .val (.ref b178), .val (.ref b194), .unset, .unset, .unset, .unset, .unset] []))
    obtain ⟨T195, h195, X195, e195, E195, A195, D195, -, st195⟩ := newO X194 hx hZ hown (hw _ (List.mem_of_getElem? (i := 32) rfl)) (hw _ (List.mem_of_getElem? (i := 33) rfl)) (hw _ (List.mem_of_getElem? (i := 34) rfl)) e194 (g := (mkF m 92 #[.val (.int p1), .val (.int p2), .val (.int p3), .val (.int p4), .val (.int p5), .val (.int (0 : Int32)), .val (.int (0 : Int32)), .val (.ref b176), .val (.ref b177), .val (.ref b178), .val (.ref b194), .unset, .unset, .unset, .unset, .unset] [])) rfl (hb hby at_92) (by decide) (by decide)
    obtain ⟨b195, g195⟩ : ∃ z, z = h194.size := ⟨_, rfl⟩
    rw [← g195] at A195 D195 st195
    have lt195_b176_b195 : b176 < b195 := Nat.lt_of_lt_of_le c194_1.lt (Nat.le_of_eq g195.symm)
    have lt195_b177_b195 : b177 < b195 := Nat.lt_of_lt_of_le c194_2.lt (Nat.le_of_eq g195.symm)
    have lt195_b178_b195 : b178 < b195 := Nat.lt_of_lt_of_le c194_3.lt (Nat.le_of_eq g195.symm)
    have lt195_b194_b195 : b194 < b195 := Nat.lt_of_lt_of_le AE194.lt (Nat.le_of_eq g195.symm)
    have G_b195 : n0 ≤ b195 := Nat.le_trans ZN194 (Nat.le_of_eq g195.symm)
    have SZ_b195 : h0.size ≤ b195 := Nat.le_trans KK194.1 (Nat.le_of_eq g195.symm)
    have c195_1 := c194_1.ext E195
    have c195_2 := c194_2.ext E195
    have c195_3 := c194_3.ext E195
    have c195_4 := AE194.ext E195
    have c195_5 := V194.ext E195
    have KK195 : Keep h0 h195 [] := KK194.ext E195
    have ZN195 : n0 ≤ h195.size := Nat.le_trans ZN194 E195.1
    have OL195 := OL194.ext E195
    have F195_49 : Fld Z h195 b195 "com/example/sunder/sunder/cli/Arguments" "args" "[Ljava/lang/String;" .null := D195 (Or.inr (hw _ (List.mem_of_getElem? (i := 49) rfl))) (ty := (.array (.object "java/lang/String"))) (by decide)
    have F195_56 : Fld Z h195 b195 "com/example/sunder/sunder/cli/Arguments" "next" "I" (.int (0 : Int32)) := D195 (Or.inl (hw _ (List.mem_of_getElem? (i := 56) rfl))) (ty := .int) (by decide)
    refine go st195 ?_
    show Go _ p e below s _ _ _ (T195.setTop (mkF m 95 #[.val (.int p1), .val (.int p2), .val (.int p3), .val (.int p4), .val (.int p5), .val (.int (0 : Int32)), .val (.int (0 : Int32)), .val (.ref b176), .val (.ref b177), .val (.ref b178), .val (.ref b194), .unset, .unset, .unset, .unset, .unset] [(.ref b195)]))
    refine go (fun _ => XS.dup X195.here hx rfl (hb hby at_95) rfl rfl) ?_
    show Go _ p e below s _ _ _ (T195.setTop (mkF m 96 #[.val (.int p1), .val (.int p2), .val (.int p3), .val (.int p4), .val (.int p5), .val (.int (0 : Int32)), .val (.int (0 : Int32)), .val (.ref b176), .val (.ref b177), .val (.ref b178), .val (.ref b194), .unset, .unset, .unset, .unset, .unset] [(.ref b195), (.ref b195)]))
    refine go (fun _ => XS.aload X195.here hx rfl (hb hby at_96) rfl rfl) ?_
    show Go _ p e below s _ _ _ (T195.setTop (mkF m 98 #[.val (.int p1), .val (.int p2), .val (.int p3), .val (.int p4), .val (.int p5), .val (.int (0 : Int32)), .val (.int (0 : Int32)), .val (.ref b176), .val (.ref b177), .val (.ref b178), .val (.ref b194), .unset, .unset, .unset, .unset, .unset] [(.ref b194), (.ref b195), (.ref b195)]))
    obtain ⟨_, _, ⟨T196, L196, k196, n196⟩, -, X196, ⟨Lc196, hQ196, l196, y196, z196⟩, st196⟩ := X195.specialBack hx (y := (⟨"com/example/sunder/sunder/cli/Arguments", "<init>", "([Ljava/lang/String;)V"⟩ : MethodName)) rfl hown (mvT hZ (hw _ (List.mem_of_getElem? (i := 35) rfl))) (mvT hZ (hw _ (List.mem_of_getElem? (i := 36) rfl))) (mvT hZ (hw _ (List.mem_of_getElem? (i := 37) rfl))) (by decide) (backOf (W := 1) (rmI0 l Z a0 hw [] b195 b194 k194 .null h195 n0 ZN195 A195 F195_49 F195_56 G_b195 c195_4 c195_5 (Ne.symm (Nat.ne_of_lt lt195_b194_b195))) hZ (hw _ (List.mem_of_getElem? (i := 37) rfl)) (hw _ (List.mem_of_getElem? (i := 34) rfl)) (by decide) (by decide)) (g := (mkF m 98 #[.val (.int p1), .val (.int p2), .val (.int p3), .val (.int p4), .val (.int p5), .val (.int (0 : Int32)), .val (.int (0 : Int32)), .val (.ref b176), .val (.ref b177), .val (.ref b178), .val (.ref b194), .unset, .unset, .unset, .unset, .unset] [(.ref b194), (.ref b195), (.ref b195)])) rfl (by rw [hml]; rfl) (Steps.refl _) (a := b195) (argsL := [(.ref b194)]) (rest := [(.ref b195)]) (lenOf pd_0_2 rfl) rfl (by show 2 * 0 + _ ≤ _; exact Nat.le_of_eq rfl) (hb hby at_98) (fun _ _ => ⟨rfl, e195, (by decide : 8 + 1 ≤ _), (by decide : 17 + 0 ≤ _)⟩)
    dsimp only [Pt.U, Pt.locs, Pt.cells, Pt.slots] at X196 l196 y196 z196 st196 hQ196
    subst l196 y196 z196
    obtain ⟨b196, rfl, N196q, u196_0, u196_1, K196, u196_3, u196_4, u196_5, u196_6⟩ := hQ196
    have N196 := Fr.app N178 N196q
    have lt196_b176_b196 : b176 < b196 := Nat.lt_of_lt_of_le c195_1.lt u196_0
    have lt196_b177_b196 : b177 < b196 := Nat.lt_of_lt_of_le c195_2.lt u196_0
    have lt196_b178_b196 : b178 < b196 := Nat.lt_of_lt_of_le c195_3.lt u196_0
    have lt196_b194_b196 : b194 < b196 := Nat.lt_of_lt_of_le c195_4.lt u196_0
    have lt196_b195_b196 : b195 < b196 := Nat.lt_of_lt_of_le A195.lt u196_0
    have G_b196 : n0 ≤ b196 := Nat.le_trans ZN195 u196_0
    have SZ_b196 : h0.size ≤ b196 := Nat.le_trans KK195.1 u196_0
    have c196_1 := c195_1.keep K196
    have c196_2 := c195_2.keep K196
    have c196_3 := c195_3.keep K196
    have c196_4 := c195_4.keep K196
    have c196_5 := c195_5.keep K196 (ninS (Nat.ne_of_lt lt195_b194_b195) nin0)
    have c196_6 := A195.keep K196
    have KK196 : Keep h0 T196.heap [] := KK195.trans K196 (allS (P := fun x => x ∈ [] ∨ h0.size ≤ x) (Or.inr SZ_b195) all0)
    have ZN196 : n0 ≤ T196.heap.size := Nat.le_trans ZN195 K196.1
    have OL196 := OL195.keep K196 (allS G_b195 all0)
    refine goT st196 ?_
    show Go _ p e below s _ _ _ (T196.setTop (mkF m 101 #[.val (.int p1), .val (.int p2), .val (.int p3), .val (.int p4), .val (.int p5), .val (.int (0 : Int32)), .val (.int (0 : Int32)), .val (.ref b176), .val (.ref b177), .val (.ref b178), .val (.ref b194), .unset, .unset, .unset, .unset, .unset] [(.ref b195)]))
    refine go (fun _ => XS.astore X196.here hx rfl (hb hby at_101) rfl rfl (l' := #[.val (.int p1), .val (.int p2), .val (.int p3), .val (.int p4), .val (.int p5), .val (.int (0 : Int32)), .val (.int (0 : Int32)), .val (.ref b176), .val (.ref b177), .val (.ref b178), .val (.ref b194), .val (.ref b195), .unset, .unset, .unset, .unset]) rfl) ?_
    show Go _ p e below s _ _ _ (T196.setTop (mkF m 103 #[.val (.int p1), .val (.int p2), .val (.int p3), .val (.int p4), .val (.int p5), .val (.int (0 : Int32)), .val (.int (0 : Int32)), .val (.ref b176), .val (.ref b177), .val (.ref b178), .val (.ref b194), .val (.ref b195), .unset, .unset, .unset, .unset] []))
    refine go (fun _ => XS.iload X196.here hx rfl (hb hby at_103) rfl) ?_
    show Go _ p e below s _ _ _ (T196.setTop (mkF m 105 #[.val (.int p1), .val (.int p2), .val (.int p3), .val (.int p4), .val (.int p5), .val (.int (0 : Int32)), .val (.int (0 : Int32)), .val (.ref b176), .val (.ref b177), .val (.ref b178), .val (.ref b194), .val (.ref b195), .unset, .unset, .unset, .unset] [(.int (0 : Int32))]))
    refine go (fun _ => XS.iconst X196.here hx rfl (hb hby at_105)) ?_
    show Go _ p e below s _ _ _ (T196.setTop (mkF m 106 #[.val (.int p1), .val (.int p2), .val (.int p3), .val (.int p4), .val (.int p5), .val (.int (0 : Int32)), .val (.int (0 : Int32)), .val (.ref b176), .val (.ref b177), .val (.ref b178), .val (.ref b194), .val (.ref b195), .unset, .unset, .unset, .unset] [(.int (1 : Int32)), (.int (0 : Int32))]))
    refine go (fun _ => XS.icmpYes X196.here hx rfl (pc0 := 106) (pc' := 115) rfl (hb hby at_106) rfl (tlt (by decide : ((0 : Int32) < (1 : Int32)))).1 (by decide) (by decide)) ?_
    show Go _ p e below s _ _ _ (T196.setTop (mkF m 115 #[.val (.int p1), .val (.int p2), .val (.int p3), .val (.int p4), .val (.int p5), .val (.int (0 : Int32)), .val (.int (0 : Int32)), .val (.ref b176), .val (.ref b177), .val (.ref b178), .val (.ref b194), .val (.ref b195), .unset, .unset, .unset, .unset] []))
    refine go (fun _ => XS.iload X196.here hx rfl (hb hby at_115) rfl) ?_
    show Go _ p e below s _ _ _ (T196.setTop (mkF m 117 #[.val (.int p1), .val (.int p2), .val (.int p3), .val (.int p4), .val (.int p5), .val (.int (0 : Int32)), .val (.int (0 : Int32)), .val (.ref b176), .val (.ref b177), .val (.ref b178), .val (.ref b194), .val (.ref b195), .unset, .unset, .unset, .unset] [(.int (0 : Int32))]))
    refine go (fun _ => XS.iconst X196.here hx rfl (hb hby at_117)) ?_
    show Go _ p e below s _ _ _ (T196.setTop (mkF m 118 #[.val (.int p1), .val (.int p2), .val (.int p3), .val (.int p4), .val (.int p5), .val (.int (0 : Int32)), .val (.int (0 : Int32)), .val (.ref b176), .val (.ref b177), .val (.ref b178), .val (.ref b194), .val (.ref b195), .unset, .unset, .unset, .unset] [(.int (2 : Int32)), (.int (0 : Int32))]))
    refine go (fun _ => XS.icmpYes X196.here hx rfl (pc0 := 118) (pc' := 127) rfl (hb hby at_118) rfl (tlt (by decide : ((0 : Int32) < (2 : Int32)))).1 (by decide) (by decide)) ?_
    show Go _ p e below s _ _ _ (T196.setTop (mkF m 127 #[.val (.int p1), .val (.int p2), .val (.int p3), .val (.int p4), .val (.int p5), .val (.int (0 : Int32)), .val (.int (0 : Int32)), .val (.ref b176), .val (.ref b177), .val (.ref b178), .val (.ref b194), .val (.ref b195), .unset, .unset, .unset, .unset] []))
    refine go (fun _ => XS.iload X196.here hx rfl (hb hby at_127) rfl) ?_
    show Go _ p e below s _ _ _ (T196.setTop (mkF m 129 #[.val (.int p1), .val (.int p2), .val (.int p3), .val (.int p4), .val (.int p5), .val (.int (0 : Int32)), .val (.int (0 : Int32)), .val (.ref b176), .val (.ref b177), .val (.ref b178), .val (.ref b194), .val (.ref b195), .unset, .unset, .unset, .unset] [(.int (0 : Int32))]))
    refine go (fun _ => XS.iconst X196.here hx rfl (hb hby at_129)) ?_
    show Go _ p e below s _ _ _ (T196.setTop (mkF m 130 #[.val (.int p1), .val (.int p2), .val (.int p3), .val (.int p4), .val (.int p5), .val (.int (0 : Int32)), .val (.int (0 : Int32)), .val (.ref b176), .val (.ref b177), .val (.ref b178), .val (.ref b194), .val (.ref b195), .unset, .unset, .unset, .unset] [(.int (3 : Int32)), (.int (0 : Int32))]))
    refine go (fun _ => XS.icmpYes X196.here hx rfl (pc0 := 130) (pc' := 139) rfl (hb hby at_130) rfl (tlt (by decide : ((0 : Int32) < (3 : Int32)))).1 (by decide) (by decide)) ?_
    show Go _ p e below s _ _ _ (T196.setTop (mkF m 139 #[.val (.int p1), .val (.int p2), .val (.int p3), .val (.int p4), .val (.int p5), .val (.int (0 : Int32)), .val (.int (0 : Int32)), .val (.ref b176), .val (.ref b177), .val (.ref b178), .val (.ref b194), .val (.ref b195), .unset, .unset, .unset, .unset] []))
    refine go (fun _ => XS.aload X196.here hx rfl (hb hby at_139) rfl rfl) ?_
    show Go _ p e below s _ _ _ (T196.setTop (mkF m 141 #[.val (.int p1), .val (.int p2), .val (.int p3), .val (.int p4), .val (.int p5), .val (.int (0 : Int32)), .val (.int (0 : Int32)), .val (.ref b176), .val (.ref b177), .val (.ref b178), .val (.ref b194), .val (.ref b195), .unset, .unset, .unset, .unset] [(.ref b195)]))
    obtain ⟨cq197, kq197, q197a, q197b, q197c⟩ := isOf hZ rfl c196_6
    obtain ⟨_, _, ⟨T197, L197, k197, n197⟩, -, X197, ⟨Lc197, hQ197, l197, y197, z197⟩, st197⟩ := X196.virtualBack hx (y := (⟨"com/example/sunder/sunder/cli/Arguments", "hasNext", "()Z"⟩ : MethodName)) (z := (⟨"com/example/sunder/sunder/cli/Arguments", "hasNext", "()Z"⟩ : MethodName)) hown (mvT hZ (hw _ (List.mem_of_getElem? (i := 50) rfl))) (mvT hZ (hw _ (List.mem_of_getElem? (i := 51) rfl))) (notFace_of_selects (args := #[]) (mvT hZ (hw _ (List.mem_of_getElem? (i := 53) rfl)))) (mvT hZ (hw _ (List.mem_of_getElem? (i := 53) rfl))) (mvT hZ (hw _ (List.mem_of_getElem? (i := 52) rfl))) (by decide) (backOf (W := 0) (rmH0_0 l Z a0 hw [] b195 b196 k194 (T196.heap) n0 ZN196 u196_3 u196_4 u196_6) hZ (hw _ (List.mem_of_getElem? (i := 54) rfl)) (hw _ (List.mem_of_getElem? (i := 34) rfl)) (by decide) (by decide)) q197a q197c (g := (mkF m 141 #[.val (.int p1), .val (.int p2), .val (.int p3), .val (.int p4), .val (.int p5), .val (.int (0 : Int32)), .val (.int (0 : Int32)), .val (.ref b176), .val (.ref b177), .val (.ref b178), .val (.ref b194), .val (.ref b195), .unset, .unset, .unset, .unset] [(.ref b195)])) rfl (by rw [hml]; rfl) (Steps.refl _) (argsL := []) (rest := []) (lenOf pd_0_3 rfl) rfl (by show 2 * 0 + _ ≤ _; exact Nat.le_of_eq rfl) (hb hby at_141) (fun _ _ => ⟨rfl, rfl, (by decide : 9 + 0 ≤ _), (by decide : 17 + 0 ≤ _)⟩)
    dsimp only [Pt.U, Pt.locs, Pt.cells, Pt.slots] at X197 l197 y197 z197 st197 hQ197
    subst l197 y197 z197
    obtain ⟨rfl, N197q, e197⟩ := hQ197
    have N197 := Fr.app N196 N197q
    refine goT st197 ?_
    show Go _ p e below s _ _ _ (T197.setTop (mkF m 144 #[.val (.int p1), .val (.int p2), .val (.int p3), .val (.int p4), .val (.int p5), .val (.int (0 : Int32)), .val (.int (0 : Int32)), .val (.ref b176), .val (.ref b177), .val (.ref b178), .val (.ref b194), .val (.ref b195), .unset, .unset, .unset, .unset] [(.int (0 : Int32))]))
    refine go (fun _ => XS.istore X197.here hx rfl (hb hby at_144) rfl (l' := #[.val (.int p1), .val (.int p2), .val (.int p3), .val (.int p4), .val (.int p5), .val (.int (0 : Int32)), .val (.int (0 : Int32)), .val (.ref b176), .val (.ref b177), .val (.ref b178), .val (.ref b194), .val (.ref b195), .val (.int (0 : Int32)), .unset, .unset, .unset]) rfl) ?_
    show Go _ p e below s _ _ _ (T197.setTop (mkF m 146 #[.val (.int p1), .val (.int p2), .val (.int p3), .val (.int p4), .val (.int p5), .val (.int (0 : Int32)), .val (.int (0 : Int32)), .val (.ref b176), .val (.ref b177), .val (.ref b178), .val (.ref b194), .val (.ref b195), .val (.int (0 : Int32)), .unset, .unset, .unset] []))
    refine go (fun _ => XS.aload X197.here hx rfl (hb hby at_146) rfl rfl) ?_
    show Go _ p e below s _ _ _ (T197.setTop (mkF m 148 #[.val (.int p1), .val (.int p2), .val (.int p3), .val (.int p4), .val (.int p5), .val (.int (0 : Int32)), .val (.int (0 : Int32)), .val (.ref b176), .val (.ref b177), .val (.ref b178), .val (.ref b194), .val (.ref b195), .val (.int (0 : Int32)), .unset, .unset, .unset] [(.ref b195)]))
    obtain ⟨cq198, kq198, q198a, q198b, q198c⟩ := isOf hZ e197 c196_6
    obtain ⟨_, _, ⟨T198, L198, k198, n198⟩, -, X198, ⟨Lc198, hQ198, l198, y198, z198⟩, st198⟩ := X197.virtualBack hx (y := (⟨"com/example/sunder/sunder/cli/Arguments", "hasNext", "()Z"⟩ : MethodName)) (z := (⟨"com/example/sunder/sunder/cli/Arguments", "hasNext", "()Z"⟩ : MethodName)) hown (mvT hZ (hw _ (List.mem_of_getElem? (i := 50) rfl))) (mvT hZ (hw _ (List.mem_of_getElem? (i := 51) rfl))) (notFace_of_selects (args := #[]) (mvT hZ (hw _ (List.mem_of_getElem? (i := 53) rfl)))) (mvT hZ (hw _ (List.mem_of_getElem? (i := 53) rfl))) (mvT hZ (hw _ (List.mem_of_getElem? (i := 52) rfl))) (by decide) (backOf (W := 0) (rmH0_0 l Z a0 hw [] b195 b196 k194 (T196.heap) n0 ZN196 u196_3 u196_4 u196_6) hZ (hw _ (List.mem_of_getElem? (i := 54) rfl)) (hw _ (List.mem_of_getElem? (i := 34) rfl)) (by decide) (by decide)) q198a q198c (g := (mkF m 148 #[.val (.int p1), .val (.int p2), .val (.int p3), .val (.int p4), .val (.int p5), .val (.int (0 : Int32)), .val (.int (0 : Int32)), .val (.ref b176), .val (.ref b177), .val (.ref b178), .val (.ref b194), .val (.ref b195), .val (.int (0 : Int32)), .unset, .unset, .unset] [(.ref b195)])) rfl (by rw [hml]; rfl) (Steps.refl _) (argsL := []) (rest := []) (lenOf pd_0_3 rfl) rfl (by show 2 * 0 + _ ≤ _; exact Nat.le_of_eq rfl) (hb hby at_148) (fun _ _ => ⟨rfl, e197, (by decide : 9 + 0 ≤ _), (by decide : 17 + 0 ≤ _)⟩)
    dsimp only [Pt.U, Pt.locs, Pt.cells, Pt.slots] at X198 l198 y198 z198 st198 hQ198
    subst l198 y198 z198
    obtain ⟨rfl, N198q, e198⟩ := hQ198
    have N198 := Fr.app N197 N198q
    refine goT st198 ?_
    show Go _ p e below s _ _ _ (T198.setTop (mkF m 151 #[.val (.int p1), .val (.int p2), .val (.int p3), .val (.int p4), .val (.int p5), .val (.int (0 : Int32)), .val (.int (0 : Int32)), .val (.ref b176), .val (.ref b177), .val (.ref b178), .val (.ref b194), .val (.ref b195), .val (.int (0 : Int32)), .unset, .unset, .unset] [(.int (0 : Int32))]))
    refine go (fun _ => XS.istore X198.here hx rfl (hb hby at_151) rfl (l' := #[.val (.int p1), .val (.int p2), .val (.int p3), .val (.int p4), .val (.int p5), .val (.int (0 : Int32)), .val (.int (0 : Int32)), .val (.ref b176), .val (.ref b177), .val (.ref b178), .val (.ref b194), .val (.ref b195), .val (.int (0 : Int32)), .val (.int (0 : Int32)), .unset, .unset]) rfl) ?_
    show Go _ p e below s _ _ _ (T198.setTop (mkF m 153 #[.val (.int p1), .val (.int p2), .val (.int p3), .val (.int p4), .val (.int p5), .val (.int (0 : Int32)), .val (.int (0 : Int32)), .val (.ref b176), .val (.ref b177), .val (.ref b178), .val (.ref b194), .val (.ref b195), .val (.int (0 : Int32)), .val (.int (0 : Int32)), .unset, .unset] []))
    refine go (fun _ => XS.iload X198.here hx rfl (hb hby at_153) rfl) ?_
    show Go _ p e below s _ _ _ (T198.setTop (mkF m 155 #[.val (.int p1), .val (.int p2), .val (.int p3), .val (.int p4), .val (.int p5), .val (.int (0 : Int32)), .val (.int (0 : Int32)), .val (.ref b176), .val (.ref b177), .val (.ref b178), .val (.ref b194), .val (.ref b195), .val (.int (0 : Int32)), .val (.int (0 : Int32)), .unset, .unset] [(.int (0 : Int32))]))
    refine go (fun _ => XS.iload X198.here hx rfl (hb hby at_155) rfl) ?_
    show Go _ p e below s _ _ _ (T198.setTop (mkF m 157 #[.val (.int p1), .val (.int p2), .val (.int p3), .val (.int p4), .val (.int p5), .val (.int (0 : Int32)), .val (.int (0 : Int32)), .val (.ref b176), .val (.ref b177), .val (.ref b178), .val (.ref b194), .val (.ref b195), .val (.int (0 : Int32)), .val (.int (0 : Int32)), .unset, .unset] [(.int (0 : Int32)), (.int (0 : Int32))]))
    refine go (fun _ => XS.iload X198.here hx rfl (hb hby at_157) rfl) ?_
    show Go _ p e below s _ _ _ (T198.setTop (mkF m 159 #[.val (.int p1), .val (.int p2), .val (.int p3), .val (.int p4), .val (.int p5), .val (.int (0 : Int32)), .val (.int (0 : Int32)), .val (.ref b176), .val (.ref b177), .val (.ref b178), .val (.ref b194), .val (.ref b195), .val (.int (0 : Int32)), .val (.int (0 : Int32)), .unset, .unset] [(.int (0 : Int32)), (.int (0 : Int32)), (.int (0 : Int32))]))
    refine go (fun _ => XS.icmpYes X198.here hx rfl (pc0 := 159) (pc' := 166) rfl (hb hby at_159) rfl (flt (by decide : ¬ ((0 : Int32) < (0 : Int32)))).2.1 (by decide) (by decide)) ?_
    show Go _ p e below s _ _ _ (T198.setTop (mkF m 166 #[.val (.int p1), .val (.int p2), .val (.int p3), .val (.int p4), .val (.int p5), .val (.int (0 : Int32)), .val (.int (0 : Int32)), .val (.ref b176), .val (.ref b177), .val (.ref b178), .val (.ref b194), .val (.ref b195), .val (.int (0 : Int32)), .val (.int (0 : Int32)), .unset, .unset] [(.int (0 : Int32))]))
    refine go (fun _ => XS.iconst X198.here hx rfl (hb hby at_166)) ?_
    show Go _ p e below s _ _ _ (T198.setTop (mkF m 167 #[.val (.int p1), .val (.int p2), .val (.int p3), .val (.int p4), .val (.int p5), .val (.int (0 : Int32)), .val (.int (0 : Int32)), .val (.ref b176), .val (.ref b177), .val (.ref b178), .val (.ref b194), .val (.ref b195), .val (.int (0 : Int32)), .val (.int (0 : Int32)), .unset, .unset] [(.int (0 : Int32)), (.int (0 : Int32))]))
    refine go (fun _ => XS.icmpNo X198.here hx rfl (hb hby at_167) rfl (teq (rfl : (0 : Int32) = (0 : Int32))).2) ?_
    show Go _ p e below s _ _ _ (T198.setTop (mkF m 170 #[.val (.int p1), .val (.int p2), .val (.int p3), .val (.int p4), .val (.int p5), .val (.int (0 : Int32)), .val (.int (0 : Int32)), .val (.ref b176), .val (.ref b177), .val (.ref b178), .val (.ref b194), .val (.ref b195), .val (.int (0 : Int32)), .val (.int (0 : Int32)), .unset, .unset] []))
    refine go (fun _ => XS.iload X198.here hx rfl (hb hby at_170) rfl) ?_
    show Go _ p e below s _ _ _ (T198.setTop (mkF m 172 #[.val (.int p1), .val (.int p2), .val (.int p3), .val (.int p4), .val (.int p5), .val (.int (0 : Int32)), .val (.int (0 : Int32)), .val (.ref b176), .val (.ref b177), .val (.ref b178), .val (.ref b194), .val (.ref b195), .val (.int (0 : Int32)), .val (.int (0 : Int32)), .unset, .unset] [(.int (0 : Int32))]))
    refine go (fun _ => XS.iload X198.here hx rfl (hb hby at_172) rfl) ?_
    show Go _ p e below s _ _ _ (T198.setTop (mkF m 174 #[.val (.int p1), .val (.int p2), .val (.int p3), .val (.int p4), .val (.int p5), .val (.int (0 : Int32)), .val (.int (0 : Int32)), .val (.ref b176), .val (.ref b177), .val (.ref b178), .val (.ref b194), .val (.ref b195), .val (.int (0 : Int32)), .val (.int (0 : Int32)), .unset, .unset] [(.int (0 : Int32)), (.int (0 : Int32))]))
    refine go (fun _ => XS.icmpYes X198.here hx rfl (pc0 := 174) (pc' := 179) rfl (hb hby at_174) rfl (teq (rfl : (0 : Int32) = (0 : Int32))).1 (by decide) (by decide)) ?_
    show Go _ p e below s _ _ _ (T198.setTop (mkF m 179 #[.val (.int p1), .val (.int p2), .val (.int p3), .val (.int p4), .val (.int p5), .val (.int (0 : Int32)), .val (.int (0 : Int32)), .val (.ref b176), .val (.ref b177), .val (.ref b178), .val (.ref b194), .val (.ref b195), .val (.int (0 : Int32)), .val (.int (0 : Int32)), .unset, .unset] []))
    refine go (fun _ => XS.iload X198.here hx rfl (hb hby at_179) rfl) ?_
    show Go _ p e below s _ _ _ (T198.setTop (mkF m 181 #[.val (.int p1), .val (.int p2), .val (.int p3), .val (.int p4), .val (.int p5), .val (.int (0 : Int32)), .val (.int (0 : Int32)), .val (.ref b176), .val (.ref b177), .val (.ref b178), .val (.ref b194), .val (.ref b195), .val (.int (0 : Int32)), .val (.int (0 : Int32)), .unset, .unset] [(.int (0 : Int32))]))
    refine go (fun _ => XS.ifNo X198.here hx rfl (hb hby at_181) rfl ((if0 _ _).trans (teq (rfl : (0 : Int32) = (0 : Int32))).2)) ?_
    show Go _ p e below s _ _ _ (T198.setTop (mkF m 184 #[.val (.int p1), .val (.int p2), .val (.int p3), .val (.int p4), .val (.int p5), .val (.int (0 : Int32)), .val (.int (0 : Int32)), .val (.ref b176), .val (.ref b177), .val (.ref b178), .val (.ref b194), .val (.ref b195), .val (.int (0 : Int32)), .val (.int (0 : Int32)), .unset, .unset] []))
    refine go (fun _ => XS.iconst X198.here hx rfl (hb hby at_184)) ?_
    show Go _ p e below s _ _ _ (T198.setTop (mkF m 185 #[.val (.int p1), .val (.int p2), .val (.int p3), .val (.int p4), .val (.int p5), .val (.int (0 : Int32)), .val (.int (0 : Int32)), .val (.ref b176), .val (.ref b177), .val (.ref b178), .val (.ref b194), .val (.ref b195), .val (.int (0 : Int32)), .val (.int (0 : Int32)), .unset, .unset] [(.int (1 : Int32))]))
    refine goRet X198 hx Bd.notSynchronized Bd.returns rfl (Or.inl ⟨rfl, Or.inr (Or.inl rfl), _, rfl⟩) (hb hby at_185) (by decide) (by decide) (by rw [e198]; refine ⟨rfl, N198⟩)
  · rw [show own_min (0 : Int32) (1 : Int32) = (0 : Int32) from by decide]
    show Go _ p e below s _ _ _ (T178.setTop (mkF m 49 #[.val (.int p1), .val (.int p2), .val (.int p3), .val (.int p4), .val (.int p5), .val (.int (1 : Int32)), .val (.int (0 : Int32)), .val (.ref b176), .val (.ref b177), .val (.ref b178), .unset, .unset, .unset, .unset, .unset, .unset] []))
    refine go (fun _ => XS.iload X178.here hx rfl (hb hby at_49) rfl) ?_
    show Go _ p e below s _ _ _ (T178.setTop (mkF m 51 #[.val (.int p1), .val (.int p2), .val (.int p3), .val (.int p4), .val (.int p5), .val (.int (1 : Int32)), .val (.int (0 : Int32)), .val (.ref b176), .val (.ref b177), .val (.ref b178), .unset, .unset, .unset, .unset, .unset, .unset] [(.int (1 : Int32))]))
    obtain ⟨T199, h199, k199, X199, e199, E199, A199, AE199, O199, st199⟩ := newRE X178 hx hZ hown (hw _ (List.mem_of_getElem? (i := 30) rfl)) (hw _ (List.mem_of_getElem? (i := 31) rfl)) rfl (g := (mkF m 51 #[.val (.int p1), .val (.int p2), .val (.int p3), .val (.int p4), .val (.int p5), .val (.int (1 : Int32)), .val (.int (0 : Int32)), .val (.ref b176), .val (.ref b177), .val (.ref b178), .unset, .unset, .unset, .unset, .unset, .unset] [(.int (1 : Int32))])) rfl (hb hby at_51) rfl (by decide) (cap := 1) (by decide) (by decide) (by decide) (by decide) (ad := "[Ljava/lang/String;") (by first | rfl | decide)
    obtain ⟨b199, g199⟩ : ∃ z, z = T178.heap.size := ⟨_, rfl⟩
    rw [← g199] at A199 AE199 st199
    have lt199_b176_b199 : b176 < b199 := Nat.lt_of_lt_of_le c178_1.lt (Nat.le_of_eq g199.symm)
    have lt199_b177_b199 : b177 < b199 := Nat.lt_of_lt_of_le c178_2.lt (Nat.le_of_eq g199.symm)
    have lt199_b178_b199 : b178 < b199 := Nat.lt_of_lt_of_le u178_3.lt (Nat.le_of_eq g199.symm)
    have G_b199 : n0 ≤ b199 := Nat.le_trans ZN178 (Nat.le_of_eq g199.symm)
    have SZ_b199 : h0.size ≤ b199 := Nat.le_trans KK178.1 (Nat.le_of_eq g199.symm)
    have c199_1 := c178_1.ext E199
    have c199_2 := c178_2.ext E199
    have c199_3 := u178_3.ext E199
    have KK199 : Keep h0 h199 [] := KK178.ext E199
    have ZN199 : n0 ≤ h199.size := Nat.le_trans ZN178 E199.1
    have OL199 := OL178.ext E199
    have V199 : Arv Z h199 b199 k199 (.object "java/lang/String") (1 : Int32) [.null] .null := (Arv.new A199 (by decide)).pad (pad_rep [] .null 1)
    refine go st199 ?_
    show Go _ p e below s _ _ _ (T199.setTop (mkF m 54 #[.val (.int p1), .val (.int p2), .val (.int p3), .val (.int p4), .val (.int p5), .val (.int (1 : Int32)), .val (.int (0 : Int32)), .val (.ref b176), .val (.ref b177), .val (.ref b178), .unset, .unset, .unset, .unset, .unset, .unset] [(.ref b199)]))
    refine go (fun _ => XS.astore X199.here hx rfl (hb hby at_54) rfl rfl (l' := #[.val (.int p1), .val (.int p2), .val (.int p3), .val (.int p4), .val (.int p5), .val (.int (1 : Int32)), .val (.int (0 : Int32)), .val (.ref b176), .val (.ref b177), .val (.ref b178), .val (.ref b199), .unset, .unset, .unset, .unset, .unset]) rfl) ?_
    show Go _ p e below s _ _ _ (T199.setTop (mkF m 56 #[.val (.int p1), .val (.int p2), .val (.int p3), .val (.int p4), .val (.int p5), .val (.int (1 : Int32)), .val (.int (0 : Int32)), .val (.ref b176), .val (.ref b177), .val (.ref b178), .val (.ref b199), .unset, .unset, .unset, .unset, .unset] []))
    refine go (fun _ => XS.iload X199.here hx rfl (hb hby at_56) rfl) ?_
    show Go _ p e below s _ _ _ (T199.setTop (mkF m 58 #[.val (.int p1), .val (.int p2), .val (.int p3), .val (.int p4), .val (.int p5), .val (.int (1 : Int32)), .val (.int (0 : Int32)), .val (.ref b176), .val (.ref b177), .val (.ref b178), .val (.ref b199), .unset, .unset, .unset, .unset, .unset] [(.int (1 : Int32))]))
    refine go (fun _ => XS.iconst X199.here hx rfl (hb hby at_58)) ?_
    show Go _ p e below s _ _ _ (T199.setTop (mkF m 59 #[.val (.int p1), .val (.int p2), .val (.int p3), .val (.int p4), .val (.int p5), .val (.int (1 : Int32)), .val (.int (0 : Int32)), .val (.ref b176), .val (.ref b177), .val (.ref b178), .val (.ref b199), .unset, .unset, .unset, .unset, .unset] [(.int (1 : Int32)), (.int (1 : Int32))]))
    refine go (fun _ => XS.icmpNo X199.here hx rfl (hb hby at_59) rfl (flt (by decide : ¬ ((1 : Int32) < (1 : Int32)))).1) ?_
    show Go _ p e below s _ _ _ (T199.setTop (mkF m 62 #[.val (.int p1), .val (.int p2), .val (.int p3), .val (.int p4), .val (.int p5), .val (.int (1 : Int32)), .val (.int (0 : Int32)), .val (.ref b176), .val (.ref b177), .val (.ref b178), .val (.ref b199), .unset, .unset, .unset, .unset, .unset] []))
    refine go (fun _ => XS.aload X199.here hx rfl (hb hby at_62) rfl rfl) ?_
    show Go _ p e below s _ _ _ (T199.setTop (mkF m 64 #[.val (.int p1), .val (.int p2), .val (.int p3), .val (.int p4), .val (.int p5), .val (.int (1 : Int32)), .val (.int (0 : Int32)), .val (.ref b176), .val (.ref b177), .val (.ref b178), .val (.ref b199), .unset, .unset, .unset, .unset, .unset] [(.ref b199)]))
    refine go (fun _ => XS.iconst X199.here hx rfl (hb hby at_64)) ?_
    show Go _ p e below s _ _ _ (T199.setTop (mkF m 65 #[.val (.int p1), .val (.int p2), .val (.int p3), .val (.int p4), .val (.int p5), .val (.int (1 : Int32)), .val (.int (0 : Int32)), .val (.ref b176), .val (.ref b177), .val (.ref b178), .val (.ref b199), .unset, .unset, .unset, .unset, .unset] [(.int (0 : Int32)), (.ref b199)]))
    refine go (fun _ => XS.aload X199.here hx rfl (hb hby at_65) rfl rfl) ?_
    show Go _ p e below s _ _ _ (T199.setTop (mkF m 67 #[.val (.int p1), .val (.int p2), .val (.int p3), .val (.int p4), .val (.int p5), .val (.int (1 : Int32)), .val (.int (0 : Int32)), .val (.ref b176), .val (.ref b177), .val (.ref b178), .val (.ref b199), .unset, .unset, .unset, .unset, .unset] [(.ref b176), (.int (0 : Int32)), (.ref b199)]))
    obtain ⟨cl200, Ar200, q200, Sz200, Nz200, Hs200, Gs200⟩ := id V199
    have hin200 : ¬ ((0 : Int32) < 0 ∨ cl200.slots.size ≤ ((0 : Int32)).toNatClampNeg) := inb_of Sz200 ⟨by decide, by decide⟩
    obtain ⟨T200, h200, X200, e200, W200, st200⟩ := stR X199 hx hZ e199 Ar200 (j := (0 : Int32)) hin200 rfl (Sto.ofV Ar200 q200 O199 (Ins.self c199_1)) (g := (mkF m 67 #[.val (.int p1), .val (.int p2), .val (.int p3), .val (.int p4), .val (.int p5), .val (.int (1 : Int32)), .val (.int (0 : Int32)), .val (.ref b176), .val (.ref b177), .val (.ref b178), .val (.ref b199), .unset, .unset, .unset, .unset, .unset] [(.ref b176), (.int (0 : Int32)), (.ref b199)])) rfl rfl (hb hby at_67)
    have V200 := Arv.set Ar200 q200 Sz200 Nz200 Hs200 Gs200 rfl W200 0 rfl (Nat.le_of_ble_eq_true rfl)
    have VV200 : Arv Z h200 b199 k199 (.object "java/lang/String") (1 : Int32) [(.ref b176)] .null := V200
    have c200_1 := c199_1.wr W200
    have c200_2 := c199_2.wr W200
    have c200_3 := c199_3.wr W200
    have c200_4 := AE199.wr W200
    have KK200 : Keep h0 h200 [] := KK199.wr W200 (Or.inr SZ_b199)
    have ZN200 : n0 ≤ h200.size := Nat.le_trans ZN199 (Keep.of_wr W200).1
    have NN200 := Fr.snoc X200 N178 G_b199
    have OL200 := OL199.wr W200 G_b199
    refine go st200 ?_
    show Go _ p e below s _ _ _ (T200.setTop (mkF m 68 #[.val (.int p1), .val (.int p2), .val (.int p3), .val (.int p4), .val (.int p5), .val (.int (1 : Int32)), .val (.int (0 : Int32)), .val (.ref b176), .val (.ref b177), .val (.ref b178), .val (.ref b199), .unset, .unset, .unset, .unset, .unset] []))
    refine go (fun _ => XS.iload X200.here hx rfl (hb hby at_68) rfl) ?_
    show Go _ p e below s _ _ _ (T200.setTop (mkF m 70 #[.val (.int p1), .val (.int p2), .val (.int p3), .val (.int p4), .val (.int p5), .val (.int (1 : Int32)), .val (.int (0 : Int32)), .val (.ref b176), .val (.ref b177), .val (.ref b178), .val (.ref b199), .unset, .unset, .unset, .unset, .unset] [(.int (1 : Int32))]))
    refine go (fun _ => XS.iconst X200.here hx rfl (hb hby at_70)) ?_
    show Go _ p e below s _ _ _ (T200.setTop (mkF m 71 #[.val (.int p1), .val (.int p2), .val (.int p3), .val (.int p4), .val (.int p5), .val (.int (1 : Int32)), .val (.int (0 : Int32)), .val (.ref b176), .val (.ref b177), .val (.ref b178), .val (.ref b199), .unset, .unset, .unset, .unset, .unset] [(.int (2 : Int32)), (.int (1 : Int32))]))
    refine go (fun _ => XS.icmpYes X200.here hx rfl (pc0 := 71) (pc' := 80) rfl (hb hby at_71) rfl (tlt (by decide : ((1 : Int32) < (2 : Int32)))).1 (by decide) (by decide)) ?_
    show Go _ p e below s _ _ _ (T200.setTop (mkF m 80 #[.val (.int p1), .val (.int p2), .val (.int p3), .val (.int p4), .val (.int p5), .val (.int (1 : Int32)), .val (.int (0 : Int32)), .val (.ref b176), .val (.ref b177), .val (.ref b178), .val (.ref b199), .unset, .unset, .unset, .unset, .unset] []))
    refine go (fun _ => XS.iload X200.here hx rfl (hb hby at_80) rfl) ?_
    show Go _ p e below s _ _ _ (T200.setTop (mkF m 82 #[.val (.int p1), .val (.int p2), .val (.int p3), .val (.int p4), .val (.int p5), .val (.int (1 : Int32)), .val (.int (0 : Int32)), .val (.ref b176), .val (.ref b177), .val (.ref b178), .val (.ref b199), .unset, .unset, .unset, .unset, .unset] [(.int (1 : Int32))]))
    refine go (fun _ => XS.iconst X200.here hx rfl (hb hby at_82)) ?_
    show Go _ p e below s _ _ _ (T200.setTop (mkF m 83 #[.val (.int p1), .val (.int p2), .val (.int p3), .val (.int p4), .val (.int p5), .val (.int (1 : Int32)), .val (.int (0 : Int32)), .val (.ref b176), .val (.ref b177), .val (.ref b178), .val (.ref b199), .unset, .unset, .unset, .unset, .unset] [(.int (3 : Int32)), (.int (1 : Int32))]))
    refine go (fun _ => XS.icmpYes X200.here hx rfl (pc0 := 83) (pc' := 92) rfl (hb hby at_83) rfl (tlt (by decide : ((1 : Int32) < (3 : Int32)))).1 (by decide) (by decide)) ?_
    show Go _ p e below s _ _ _ (T200.setTop (mkF m 92 #[.val (.int p1), .val (.int p2), .val (.int p3), .val (.int p4), .val (.int p5), .val (.int (1 : Int32)), .val (.int (0 : Int32)), .val (.ref b176), .val (.ref b177), .val (.ref b178), .val (.ref b199), .unset, .unset, .unset, .unset, .unset] []))
    obtain ⟨T201, h201, X201, e201, E201, A201, D201, -, st201⟩ := newO X200 hx hZ hown (hw _ (List.mem_of_getElem? (i := 32) rfl)) (hw _ (List.mem_of_getElem? (i := 33) rfl)) (hw _ (List.mem_of_getElem? (i := 34) rfl)) e200 (g := (mkF m 92 #[.val (.int p1), .val (.int p2), .val (.int p3), .val (.int p4), .val (.int p5), .val (.int (1 : Int32)), .val (.int (0 : Int32)), .val (.ref b176), .val (.ref b177), .val (.ref b178), .val (.ref b199), .unset, .unset, .unset, .unset, .unset] [])) rfl (hb hby at_92) (by decide) (by decide)
    obtain ⟨b201, g201⟩ : ∃ z, z = h200.size := ⟨_, rfl⟩
    rw [← g201] at A201 D201 st201
    have lt201_b176_b201 : b176 < b201 := Nat.lt_of_lt_of_le c200_1.lt (Nat.le_of_eq g201.symm)
    have lt201_b177_b201 : b177 < b201 := Nat.lt_of_lt_of_le c200_2.lt (Nat.le_of_eq g201.symm)
    have lt201_b178_b201 : b178 < b201 := Nat.lt_of_lt_of_le c200_3.lt (Nat.le_of_eq g201.symm)
    have lt201_b199_b201 : b199 < b201 := Nat.lt_of_lt_of_le c200_4.lt (Nat.le_of_eq g201.symm)
    have G_b201 : n0 ≤ b201 := Nat.le_trans ZN200 (Nat.le_of_eq g201.symm)
    have SZ_b201 : h0.size ≤ b201 := Nat.le_trans KK200.1 (Nat.le_of_eq g201.symm)
    have c201_1 := c200_1.ext E201
    have c201_2 := c200_2.ext E201
    have c201_3 := c200_3.ext E201
    have c201_4 := c200_4.ext E201
    have c201_5 := VV200.ext E201
    have KK201 : Keep h0 h201 [] := KK200.ext E201
    have ZN201 : n0 ≤ h201.size := Nat.le_trans ZN200 E201.1
    have OL201 := OL200.ext E201
    have F201_49 : Fld Z h201 b201 "com/example/sunder/sunder/cli/Arguments" "args" "[Ljava/lang/String;" .null := D201 (Or.inr (hw _ (List.mem_of_getElem? (i := 49) rfl))) (ty := (.array (.object "java/lang/String"))) (by decide)
    have F201_56 : Fld Z h201 b201 "com/example/sunder/sunder/cli/Arguments" "next" "I" (.int (0 : Int32)) := D201 (Or.inl (hw _ (List.mem_of_getElem? (i := 56) rfl))) (ty := .int) (by decide)
    refine go st201 ?_
    show Go _ p e below s _ _ _ (T201.setTop (mkF m 95 #[.val (.int p1), .val (.int p2), .val (.int p3), .val (.int p4), .val (.int p5), .val (.int (1 : Int32)), .val (.int (0 : Int32)), .val (.ref b176), .val (.ref b177), .val (.ref b178), .val (.ref b199), .unset, .unset, .unset, .unset, .unset] [(.ref b201)]))
    refine go (fun _ => XS.dup X201.here hx rfl (hb hby at_95) rfl rfl) ?_
    show Go _ p e below s _ _ _ (T201.setTop (mkF m 96 #[.val (.int p1), .val (.int p2), .val (.int p3), .val (.int p4), .val (.int p5), .val (.int (1 : Int32)), .val (.int (0 : Int32)), .val (.ref b176), .val (.ref b177), .val (.ref b178), .val (.ref b199), .unset, .unset, .unset, .unset, .unset] [(.ref b201), (.ref b201)]))
    refine go (fun _ => XS.aload X201.here hx rfl (hb hby at_96) rfl rfl) ?_
    show Go _ p e below s _ _ _ (T201.setTop (mkF m 98 #[.val (.int p1), .val (.int p2), .val (.int p3), .val (.int p4), .val (.int p5), .val (.int (1 : Int32)), .val (.int (0 : Int32)), .val (.ref b176), .val (.ref b177), .val (.ref b178), .val (.ref b199), .unset, .unset, .unset, .unset, .unset] [(.ref b199), (.ref b201), (.ref b201)]))
    obtain ⟨_, _, ⟨T202, L202, k202, n202⟩, -, X202, ⟨Lc202, hQ202, l202, y202, z202⟩, st202⟩ := X201.specialBack hx (y := (⟨"com/example/sunder/sunder/cli/Arguments", "<init>", "([Ljava/lang/String;)V"⟩ : MethodName)) rfl hown (mvT hZ (hw _ (List.mem_of_getElem? (i := 35) rfl))) (mvT hZ (hw _ (List.mem_of_getElem? (i := 36) rfl))) (mvT hZ (hw _ (List.mem_of_getElem? (i := 37) rfl))) (by decide) (backOf (W := 1) (rmI1 l Z a0 hw [] b201 b199 k199 b176 .null h201 n0 ZN201 A201 F201_49 F201_56 G_b201 c201_4 c201_5 (Ne.symm (Nat.ne_of_lt lt201_b199_b201))) hZ (hw _ (List.mem_of_getElem? (i := 37) rfl)) (hw _ (List.mem_of_getElem? (i := 34) rfl)) (by decide) (by decide)) (g := (mkF m 98 #[.val (.int p1), .val (.int p2), .val (.int p3), .val (.int p4), .val (.int p5), .val (.int (1 : Int32)), .val (.int (0 : Int32)), .val (.ref b176), .val (.ref b177), .val (.ref b178), .val (.ref b199), .unset, .unset, .unset, .unset, .unset] [(.ref b199), (.ref b201), (.ref b201)])) rfl (by rw [hml]; rfl) (Steps.refl _) (a := b201) (argsL := [(.ref b199)]) (rest := [(.ref b201)]) (lenOf pd_0_2 rfl) rfl (by show 2 * 0 + _ ≤ _; exact Nat.le_of_eq rfl) (hb hby at_98) (fun _ _ => ⟨rfl, e201, (by decide : 8 + 1 ≤ _), (by decide : 18 + 1 ≤ _)⟩)
    dsimp only [Pt.U, Pt.locs, Pt.cells, Pt.slots] at X202 l202 y202 z202 st202 hQ202
    subst l202 y202 z202
    obtain ⟨b202, rfl, N202q, u202_0, u202_1, K202, u202_3, u202_4, u202_5, u202_6⟩ := hQ202
    have N202 := Fr.app NN200 N202q
    have lt202_b176_b202 : b176 < b202 := Nat.lt_of_lt_of_le c201_1.lt u202_0
    have lt202_b177_b202 : b177 < b202 := Nat.lt_of_lt_of_le c201_2.lt u202_0
    have lt202_b178_b202 : b178 < b202 := Nat.lt_of_lt_of_le c201_3.lt u202_0
    have lt202_b199_b202 : b199 < b202 := Nat.lt_of_lt_of_le c201_4.lt u202_0
    have lt202_b201_b202 : b201 < b202 := Nat.lt_of_lt_of_le A201.lt u202_0
    have G_b202 : n0 ≤ b202 := Nat.le_trans ZN201 u202_0
    have SZ_b202 : h0.size ≤ b202 := Nat.le_trans KK201.1 u202_0
    have c202_1 := c201_1.keep K202
    have c202_2 := c201_2.keep K202
    have c202_3 := c201_3.keep K202
    have c202_4 := c201_4.keep K202
    have c202_5 := c201_5.keep K202 (ninS (Nat.ne_of_lt lt201_b199_b201) nin0)
    have c202_6 := A201.keep K202
    have KK202 : Keep h0 T202.heap [] := KK201.trans K202 (allS (P := fun x => x ∈ [] ∨ h0.size ≤ x) (Or.inr SZ_b201) all0)
    have ZN202 : n0 ≤ T202.heap.size := Nat.le_trans ZN201 K202.1
    have OL202 := OL201.keep K202 (allS G_b201 all0)
    refine goT st202 ?_
    show Go _ p e below s _ _ _ (T202.setTop (mkF m 101 #[.val (.int p1), .val (.int p2), .val (.int p3), .val (.int p4), .val (.int p5), .val (.int (1 : Int32)), .val (.int (0 : Int32)), .val (.ref b176), .val (.ref b177), .val (.ref b178), .val (.ref b199), .unset, .unset, .unset, .unset, .unset] [(.ref b201)]))
    refine go (fun _ => XS.astore X202.here hx rfl (hb hby at_101) rfl rfl (l' := #[.val (.int p1), .val (.int p2), .val (.int p3), .val (.int p4), .val (.int p5), .val (.int (1 : Int32)), .val (.int (0 : Int32)), .val (.ref b176), .val (.ref b177), .val (.ref b178), .val (.ref b199), .val (.ref b201), .unset, .unset, .unset, .unset]) rfl) ?_
    show Go _ p e below s _ _ _ (T202.setTop (mkF m 103 #[.val (.int p1), .val (.int p2), .val (.int p3), .val (.int p4), .val (.int p5), .val (.int (1 : Int32)), .val (.int (0 : Int32)), .val (.ref b176), .val (.ref b177), .val (.ref b178), .val (.ref b199), .val (.ref b201), .unset, .unset, .unset, .unset] []))
    refine go (fun _ => XS.iload X202.here hx rfl (hb hby at_103) rfl) ?_
    show Go _ p e below s _ _ _ (T202.setTop (mkF m 105 #[.val (.int p1), .val (.int p2), .val (.int p3), .val (.int p4), .val (.int p5), .val (.int (1 : Int32)), .val (.int (0 : Int32)), .val (.ref b176), .val (.ref b177), .val (.ref b178), .val (.ref b199), .val (.ref b201), .unset, .unset, .unset, .unset] [(.int (0 : Int32))]))
    refine go (fun _ => XS.iconst X202.here hx rfl (hb hby at_105)) ?_
    show Go _ p e below s _ _ _ (T202.setTop (mkF m 106 #[.val (.int p1), .val (.int p2), .val (.int p3), .val (.int p4), .val (.int p5), .val (.int (1 : Int32)), .val (.int (0 : Int32)), .val (.ref b176), .val (.ref b177), .val (.ref b178), .val (.ref b199), .val (.ref b201), .unset, .unset, .unset, .unset] [(.int (1 : Int32)), (.int (0 : Int32))]))
    refine go (fun _ => XS.icmpYes X202.here hx rfl (pc0 := 106) (pc' := 115) rfl (hb hby at_106) rfl (tlt (by decide : ((0 : Int32) < (1 : Int32)))).1 (by decide) (by decide)) ?_
    show Go _ p e below s _ _ _ (T202.setTop (mkF m 115 #[.val (.int p1), .val (.int p2), .val (.int p3), .val (.int p4), .val (.int p5), .val (.int (1 : Int32)), .val (.int (0 : Int32)), .val (.ref b176), .val (.ref b177), .val (.ref b178), .val (.ref b199), .val (.ref b201), .unset, .unset, .unset, .unset] []))
    refine go (fun _ => XS.iload X202.here hx rfl (hb hby at_115) rfl) ?_
    show Go _ p e below s _ _ _ (T202.setTop (mkF m 117 #[.val (.int p1), .val (.int p2), .val (.int p3), .val (.int p4), .val (.int p5), .val (.int (1 : Int32)), .val (.int (0 : Int32)), .val (.ref b176), .val (.ref b177), .val (.ref b178), .val (.ref b199), .val (.ref b201), .unset, .unset, .unset, .unset] [(.int (0 : Int32))]))
    refine go (fun _ => XS.iconst X202.here hx rfl (hb hby at_117)) ?_
    show Go _ p e below s _ _ _ (T202.setTop (mkF m 118 #[.val (.int p1), .val (.int p2), .val (.int p3), .val (.int p4), .val (.int p5), .val (.int (1 : Int32)), .val (.int (0 : Int32)), .val (.ref b176), .val (.ref b177), .val (.ref b178), .val (.ref b199), .val (.ref b201), .unset, .unset, .unset, .unset] [(.int (2 : Int32)), (.int (0 : Int32))]))
    refine go (fun _ => XS.icmpYes X202.here hx rfl (pc0 := 118) (pc' := 127) rfl (hb hby at_118) rfl (tlt (by decide : ((0 : Int32) < (2 : Int32)))).1 (by decide) (by decide)) ?_
    show Go _ p e below s _ _ _ (T202.setTop (mkF m 127 #[.val (.int p1), .val (.int p2), .val (.int p3), .val (.int p4), .val (.int p5), .val (.int (1 : Int32)), .val (.int (0 : Int32)), .val (.ref b176), .val (.ref b177), .val (.ref b178), .val (.ref b199), .val (.ref b201), .unset, .unset, .unset, .unset] []))
    refine go (fun _ => XS.iload X202.here hx rfl (hb hby at_127) rfl) ?_
    show Go _ p e below s _ _ _ (T202.setTop (mkF m 129 #[.val (.int p1), .val (.int p2), .val (.int p3), .val (.int p4), .val (.int p5), .val (.int (1 : Int32)), .val (.int (0 : Int32)), .val (.ref b176), .val (.ref b177), .val (.ref b178), .val (.ref b199), .val (.ref b201), .unset, .unset, .unset, .unset] [(.int (0 : Int32))]))
    refine go (fun _ => XS.iconst X202.here hx rfl (hb hby at_129)) ?_
    show Go _ p e below s _ _ _ (T202.setTop (mkF m 130 #[.val (.int p1), .val (.int p2), .val (.int p3), .val (.int p4), .val (.int p5), .val (.int (1 : Int32)), .val (.int (0 : Int32)), .val (.ref b176), .val (.ref b177), .val (.ref b178), .val (.ref b199), .val (.ref b201), .unset, .unset, .unset, .unset] [(.int (3 : Int32)), (.int (0 : Int32))]))
    refine go (fun _ => XS.icmpYes X202.here hx rfl (pc0 := 130) (pc' := 139) rfl (hb hby at_130) rfl (tlt (by decide : ((0 : Int32) < (3 : Int32)))).1 (by decide) (by decide)) ?_
    show Go _ p e below s _ _ _ (T202.setTop (mkF m 139 #[.val (.int p1), .val (.int p2), .val (.int p3), .val (.int p4), .val (.int p5), .val (.int (1 : Int32)), .val (.int (0 : Int32)), .val (.ref b176), .val (.ref b177), .val (.ref b178), .val (.ref b199), .val (.ref b201), .unset, .unset, .unset, .unset] []))
    refine go (fun _ => XS.aload X202.here hx rfl (hb hby at_139) rfl rfl) ?_
    show Go _ p e below s _ _ _ (T202.setTop (mkF m 141 #[.val (.int p1), .val (.int p2), .val (.int p3), .val (.int p4), .val (.int p5), .val (.int (1 : Int32)), .val (.int (0 : Int32)), .val (.ref b176), .val (.ref b177), .val (.ref b178), .val (.ref b199), .val (.ref b201), .unset, .unset, .unset, .unset] [(.ref b201)]))
    obtain ⟨cq203, kq203, q203a, q203b, q203c⟩ := isOf hZ rfl c202_6
    obtain ⟨_, _, ⟨T203, L203, k203, n203⟩, -, X203, ⟨Lc203, hQ203, l203, y203, z203⟩, st203⟩ := X202.virtualBack hx (y := (⟨"com/example/sunder/sunder/cli/Arguments", "hasNext", "()Z"⟩ : MethodName)) (z := (⟨"com/example/sunder/sunder/cli/Arguments", "hasNext", "()Z"⟩ : MethodName)) hown (mvT hZ (hw _ (List.mem_of_getElem? (i := 50) rfl))) (mvT hZ (hw _ (List.mem_of_getElem? (i := 51) rfl))) (notFace_of_selects (args := #[]) (mvT hZ (hw _ (List.mem_of_getElem? (i := 53) rfl)))) (mvT hZ (hw _ (List.mem_of_getElem? (i := 53) rfl))) (mvT hZ (hw _ (List.mem_of_getElem? (i := 52) rfl))) (by decide) (backOf (W := 0) (rmH1_0 l Z a0 hw [] b201 b202 k199 b176 (T202.heap) n0 ZN202 u202_3 u202_4 u202_6) hZ (hw _ (List.mem_of_getElem? (i := 54) rfl)) (hw _ (List.mem_of_getElem? (i := 34) rfl)) (by decide) (by decide)) q203a q203c (g := (mkF m 141 #[.val (.int p1), .val (.int p2), .val (.int p3), .val (.int p4), .val (.int p5), .val (.int (1 : Int32)), .val (.int (0 : Int32)), .val (.ref b176), .val (.ref b177), .val (.ref b178), .val (.ref b199), .val (.ref b201), .unset, .unset, .unset, .unset] [(.ref b201)])) rfl (by rw [hml]; rfl) (Steps.refl _) (argsL := []) (rest := []) (lenOf pd_0_3 rfl) rfl (by show 2 * 0 + _ ≤ _; exact Nat.le_of_eq rfl) (hb hby at_141) (fun _ _ => ⟨rfl, rfl, (by decide : 9 + 0 ≤ _), (by decide : 19 + 0 ≤ _)⟩)
    dsimp only [Pt.U, Pt.locs, Pt.cells, Pt.slots] at X203 l203 y203 z203 st203 hQ203
    subst l203 y203 z203
    obtain ⟨rfl, N203q, e203⟩ := hQ203
    have N203 := Fr.app N202 N203q
    refine goT st203 ?_
    show Go _ p e below s _ _ _ (T203.setTop (mkF m 144 #[.val (.int p1), .val (.int p2), .val (.int p3), .val (.int p4), .val (.int p5), .val (.int (1 : Int32)), .val (.int (0 : Int32)), .val (.ref b176), .val (.ref b177), .val (.ref b178), .val (.ref b199), .val (.ref b201), .unset, .unset, .unset, .unset] [(.int (1 : Int32))]))
    refine go (fun _ => XS.istore X203.here hx rfl (hb hby at_144) rfl (l' := #[.val (.int p1), .val (.int p2), .val (.int p3), .val (.int p4), .val (.int p5), .val (.int (1 : Int32)), .val (.int (0 : Int32)), .val (.ref b176), .val (.ref b177), .val (.ref b178), .val (.ref b199), .val (.ref b201), .val (.int (1 : Int32)), .unset, .unset, .unset]) rfl) ?_
    show Go _ p e below s _ _ _ (T203.setTop (mkF m 146 #[.val (.int p1), .val (.int p2), .val (.int p3), .val (.int p4), .val (.int p5), .val (.int (1 : Int32)), .val (.int (0 : Int32)), .val (.ref b176), .val (.ref b177), .val (.ref b178), .val (.ref b199), .val (.ref b201), .val (.int (1 : Int32)), .unset, .unset, .unset] []))
    refine go (fun _ => XS.aload X203.here hx rfl (hb hby at_146) rfl rfl) ?_
    show Go _ p e below s _ _ _ (T203.setTop (mkF m 148 #[.val (.int p1), .val (.int p2), .val (.int p3), .val (.int p4), .val (.int p5), .val (.int (1 : Int32)), .val (.int (0 : Int32)), .val (.ref b176), .val (.ref b177), .val (.ref b178), .val (.ref b199), .val (.ref b201), .val (.int (1 : Int32)), .unset, .unset, .unset] [(.ref b201)]))
    obtain ⟨cq204, kq204, q204a, q204b, q204c⟩ := isOf hZ e203 c202_6
    obtain ⟨_, _, ⟨T204, L204, k204, n204⟩, -, X204, ⟨Lc204, hQ204, l204, y204, z204⟩, st204⟩ := X203.virtualBack hx (y := (⟨"com/example/sunder/sunder/cli/Arguments", "hasNext", "()Z"⟩ : MethodName)) (z := (⟨"com/example/sunder/sunder/cli/Arguments", "hasNext", "()Z"⟩ : MethodName)) hown (mvT hZ (hw _ (List.mem_of_getElem? (i := 50) rfl))) (mvT hZ (hw _ (List.mem_of_getElem? (i := 51) rfl))) (notFace_of_selects (args := #[]) (mvT hZ (hw _ (List.mem_of_getElem? (i := 53) rfl)))) (mvT hZ (hw _ (List.mem_of_getElem? (i := 53) rfl))) (mvT hZ (hw _ (List.mem_of_getElem? (i := 52) rfl))) (by decide) (backOf (W := 0) (rmH1_0 l Z a0 hw [] b201 b202 k199 b176 (T202.heap) n0 ZN202 u202_3 u202_4 u202_6) hZ (hw _ (List.mem_of_getElem? (i := 54) rfl)) (hw _ (List.mem_of_getElem? (i := 34) rfl)) (by decide) (by decide)) q204a q204c (g := (mkF m 148 #[.val (.int p1), .val (.int p2), .val (.int p3), .val (.int p4), .val (.int p5), .val (.int (1 : Int32)), .val (.int (0 : Int32)), .val (.ref b176), .val (.ref b177), .val (.ref b178), .val (.ref b199), .val (.ref b201), .val (.int (1 : Int32)), .unset, .unset, .unset] [(.ref b201)])) rfl (by rw [hml]; rfl) (Steps.refl _) (argsL := []) (rest := []) (lenOf pd_0_3 rfl) rfl (by show 2 * 0 + _ ≤ _; exact Nat.le_of_eq rfl) (hb hby at_148) (fun _ _ => ⟨rfl, e203, (by decide : 9 + 0 ≤ _), (by decide : 19 + 0 ≤ _)⟩)
    dsimp only [Pt.U, Pt.locs, Pt.cells, Pt.slots] at X204 l204 y204 z204 st204 hQ204
    subst l204 y204 z204
    obtain ⟨rfl, N204q, e204⟩ := hQ204
    have N204 := Fr.app N203 N204q
    refine goT st204 ?_
    show Go _ p e below s _ _ _ (T204.setTop (mkF m 151 #[.val (.int p1), .val (.int p2), .val (.int p3), .val (.int p4), .val (.int p5), .val (.int (1 : Int32)), .val (.int (0 : Int32)), .val (.ref b176), .val (.ref b177), .val (.ref b178), .val (.ref b199), .val (.ref b201), .val (.int (1 : Int32)), .unset, .unset, .unset] [(.int (1 : Int32))]))
    refine go (fun _ => XS.istore X204.here hx rfl (hb hby at_151) rfl (l' := #[.val (.int p1), .val (.int p2), .val (.int p3), .val (.int p4), .val (.int p5), .val (.int (1 : Int32)), .val (.int (0 : Int32)), .val (.ref b176), .val (.ref b177), .val (.ref b178), .val (.ref b199), .val (.ref b201), .val (.int (1 : Int32)), .val (.int (1 : Int32)), .unset, .unset]) rfl) ?_
    show Go _ p e below s _ _ _ (T204.setTop (mkF m 153 #[.val (.int p1), .val (.int p2), .val (.int p3), .val (.int p4), .val (.int p5), .val (.int (1 : Int32)), .val (.int (0 : Int32)), .val (.ref b176), .val (.ref b177), .val (.ref b178), .val (.ref b199), .val (.ref b201), .val (.int (1 : Int32)), .val (.int (1 : Int32)), .unset, .unset] []))
    refine go (fun _ => XS.iload X204.here hx rfl (hb hby at_153) rfl) ?_
    show Go _ p e below s _ _ _ (T204.setTop (mkF m 155 #[.val (.int p1), .val (.int p2), .val (.int p3), .val (.int p4), .val (.int p5), .val (.int (1 : Int32)), .val (.int (0 : Int32)), .val (.ref b176), .val (.ref b177), .val (.ref b178), .val (.ref b199), .val (.ref b201), .val (.int (1 : Int32)), .val (.int (1 : Int32)), .unset, .unset] [(.int (1 : Int32))]))
    refine go (fun _ => XS.iload X204.here hx rfl (hb hby at_155) rfl) ?_
    show Go _ p e below s _ _ _ (T204.setTop (mkF m 157 #[.val (.int p1), .val (.int p2), .val (.int p3), .val (.int p4), .val (.int p5), .val (.int (1 : Int32)), .val (.int (0 : Int32)), .val (.ref b176), .val (.ref b177), .val (.ref b178), .val (.ref b199), .val (.ref b201), .val (.int (1 : Int32)), .val (.int (1 : Int32)), .unset, .unset] [(.int (0 : Int32)), (.int (1 : Int32))]))
    refine go (fun _ => XS.iload X204.here hx rfl (hb hby at_157) rfl) ?_
    show Go _ p e below s _ _ _ (T204.setTop (mkF m 159 #[.val (.int p1), .val (.int p2), .val (.int p3), .val (.int p4), .val (.int p5), .val (.int (1 : Int32)), .val (.int (0 : Int32)), .val (.ref b176), .val (.ref b177), .val (.ref b178), .val (.ref b199), .val (.ref b201), .val (.int (1 : Int32)), .val (.int (1 : Int32)), .unset, .unset] [(.int (1 : Int32)), (.int (0 : Int32)), (.int (1 : Int32))]))
    refine go (fun _ => XS.icmpNo X204.here hx rfl (hb hby at_159) rfl (tlt (by decide : ((0 : Int32) < (1 : Int32)))).2.1) ?_
    show Go _ p e below s _ _ _ (T204.setTop (mkF m 162 #[.val (.int p1), .val (.int p2), .val (.int p3), .val (.int p4), .val (.int p5), .val (.int (1 : Int32)), .val (.int (0 : Int32)), .val (.ref b176), .val (.ref b177), .val (.ref b178), .val (.ref b199), .val (.ref b201), .val (.int (1 : Int32)), .val (.int (1 : Int32)), .unset, .unset] [(.int (1 : Int32))]))
    refine go (fun _ => XS.iconst X204.here hx rfl (hb hby at_162)) ?_
    show Go _ p e below s _ _ _ (T204.setTop (mkF m 163 #[.val (.int p1), .val (.int p2), .val (.int p3), .val (.int p4), .val (.int p5), .val (.int (1 : Int32)), .val (.int (0 : Int32)), .val (.ref b176), .val (.ref b177), .val (.ref b178), .val (.ref b199), .val (.ref b201), .val (.int (1 : Int32)), .val (.int (1 : Int32)), .unset, .unset] [(.int (1 : Int32)), (.int (1 : Int32))]))
    refine go (fun _ => XS.goto X204.here hx rfl (pc0 := 163) (pc' := 167) rfl (hb hby at_163) (by decide) (by decide)) ?_
    show Go _ p e below s _ _ _ (T204.setTop (mkF m 167 #[.val (.int p1), .val (.int p2), .val (.int p3), .val (.int p4), .val (.int p5), .val (.int (1 : Int32)), .val (.int (0 : Int32)), .val (.ref b176), .val (.ref b177), .val (.ref b178), .val (.ref b199), .val (.ref b201), .val (.int (1 : Int32)), .val (.int (1 : Int32)), .unset, .unset] [(.int (1 : Int32)), (.int (1 : Int32))]))
    refine go (fun _ => XS.icmpNo X204.here hx rfl (hb hby at_167) rfl (teq (rfl : (1 : Int32) = (1 : Int32))).2) ?_
    show Go _ p e below s _ _ _ (T204.setTop (mkF m 170 #[.val (.int p1), .val (.int p2), .val (.int p3), .val (.int p4), .val (.int p5), .val (.int (1 : Int32)), .val (.int (0 : Int32)), .val (.ref b176), .val (.ref b177), .val (.ref b178), .val (.ref b199), .val (.ref b201), .val (.int (1 : Int32)), .val (.int (1 : Int32)), .unset, .unset] []))
    refine go (fun _ => XS.iload X204.here hx rfl (hb hby at_170) rfl) ?_
    show Go _ p e below s _ _ _ (T204.setTop (mkF m 172 #[.val (.int p1), .val (.int p2), .val (.int p3), .val (.int p4), .val (.int p5), .val (.int (1 : Int32)), .val (.int (0 : Int32)), .val (.ref b176), .val (.ref b177), .val (.ref b178), .val (.ref b199), .val (.ref b201), .val (.int (1 : Int32)), .val (.int (1 : Int32)), .unset, .unset] [(.int (1 : Int32))]))
    refine go (fun _ => XS.iload X204.here hx rfl (hb hby at_172) rfl) ?_
    show Go _ p e below s _ _ _ (T204.setTop (mkF m 174 #[.val (.int p1), .val (.int p2), .val (.int p3), .val (.int p4), .val (.int p5), .val (.int (1 : Int32)), .val (.int (0 : Int32)), .val (.ref b176), .val (.ref b177), .val (.ref b178), .val (.ref b199), .val (.ref b201), .val (.int (1 : Int32)), .val (.int (1 : Int32)), .unset, .unset] [(.int (1 : Int32)), (.int (1 : Int32))]))
    refine go (fun _ => XS.icmpYes X204.here hx rfl (pc0 := 174) (pc' := 179) rfl (hb hby at_174) rfl (teq (rfl : (1 : Int32) = (1 : Int32))).1 (by decide) (by decide)) ?_
    show Go _ p e below s _ _ _ (T204.setTop (mkF m 179 #[.val (.int p1), .val (.int p2), .val (.int p3), .val (.int p4), .val (.int p5), .val (.int (1 : Int32)), .val (.int (0 : Int32)), .val (.ref b176), .val (.ref b177), .val (.ref b178), .val (.ref b199), .val (.ref b201), .val (.int (1 : Int32)), .val (.int (1 : Int32)), .unset, .unset] []))
    refine go (fun _ => XS.iload X204.here hx rfl (hb hby at_179) rfl) ?_
    show Go _ p e below s _ _ _ (T204.setTop (mkF m 181 #[.val (.int p1), .val (.int p2), .val (.int p3), .val (.int p4), .val (.int p5), .val (.int (1 : Int32)), .val (.int (0 : Int32)), .val (.ref b176), .val (.ref b177), .val (.ref b178), .val (.ref b199), .val (.ref b201), .val (.int (1 : Int32)), .val (.int (1 : Int32)), .unset, .unset] [(.int (1 : Int32))]))
    refine go (fun _ => XS.ifYes X204.here hx rfl (pc0 := 181) (pc' := 186) rfl (hb hby at_181) rfl ((if0 _ _).trans (feq (by decide : ¬ ((1 : Int32) = (0 : Int32)))).2) (by decide) (by decide)) ?_
    show Go _ p e below s _ _ _ (T204.setTop (mkF m 186 #[.val (.int p1), .val (.int p2), .val (.int p3), .val (.int p4), .val (.int p5), .val (.int (1 : Int32)), .val (.int (0 : Int32)), .val (.ref b176), .val (.ref b177), .val (.ref b178), .val (.ref b199), .val (.ref b201), .val (.int (1 : Int32)), .val (.int (1 : Int32)), .unset, .unset] []))
    refine go (fun _ => XS.aload X204.here hx rfl (hb hby at_186) rfl rfl) ?_
    show Go _ p e below s _ _ _ (T204.setTop (mkF m 188 #[.val (.int p1), .val (.int p2), .val (.int p3), .val (.int p4), .val (.int p5), .val (.int (1 : Int32)), .val (.int (0 : Int32)), .val (.ref b176), .val (.ref b177), .val (.ref b178), .val (.ref b199), .val (.ref b201), .val (.int (1 : Int32)), .val (.int (1 : Int32)), .unset, .unset] [(.ref b201)]))
    obtain ⟨cq205, kq205, q205a, q205b, q205c⟩ := isOf hZ e204 c202_6
    obtain ⟨_, _, ⟨T205, L205, k205, n205⟩, -, X205, ⟨Lc205, hQ205, l205, y205, z205⟩, st205⟩ := X204.virtualBack hx (y := (⟨"com/example/sunder/sunder/cli/Arguments", "next", "()Ljava/lang/String;"⟩ : MethodName)) (z := (⟨"com/example/sunder/sunder/cli/Arguments", "next", "()Ljava/lang/String;"⟩ : MethodName)) hown (mvT hZ (hw _ (List.mem_of_getElem? (i := 57) rfl))) (mvT hZ (hw _ (List.mem_of_getElem? (i := 58) rfl))) (notFace_of_selects (args := #[]) (mvT hZ (hw _ (List.mem_of_getElem? (i := 60) rfl)))) (mvT hZ (hw _ (List.mem_of_getElem? (i := 60) rfl))) (mvT hZ (hw _ (List.mem_of_getElem? (i := 59) rfl))) (by decide) (backOf (W := 0) (rmN1_0 l Z a0 hw [] b201 b202 k199 b176 (T202.heap) n0 ZN202 c202_6 u202_3 u202_4 G_b201 u202_6 (Nat.ne_of_lt lt202_b201_b202)) hZ (hw _ (List.mem_of_getElem? (i := 61) rfl)) (hw _ (List.mem_of_getElem? (i := 34) rfl)) (by decide) (by decide)) q205a q205c (g := (mkF m 188 #[.val (.int p1), .val (.int p2), .val (.int p3), .val (.int p4), .val (.int p5), .val (.int (1 : Int32)), .val (.int (0 : Int32)), .val (.ref b176), .val (.ref b177), .val (.ref b178), .val (.ref b199), .val (.ref b201), .val (.int (1 : Int32)), .val (.int (1 : Int32)), .unset, .unset] [(.ref b201)])) rfl (by rw [hml]; rfl) (Steps.refl _) (argsL := []) (rest := []) (lenOf pd_0_4 rfl) rfl (by show 2 * 0 + _ ≤ _; exact Nat.le_of_eq rfl) (hb hby at_188) (fun _ _ => ⟨rfl, e204, (by decide : 9 + 0 ≤ _), (by decide : 19 + 0 ≤ _)⟩)
    dsimp only [Pt.U, Pt.locs, Pt.cells, Pt.slots] at X205 l205 y205 z205 st205 hQ205
    subst l205 y205 z205
    obtain ⟨rfl, N205q, K205, u205_1, u205_2⟩ := hQ205
    have N205 := Fr.app N204 N205q
    have c205_1 := c202_1.keep K205
    have c205_2 := c202_2.keep K205
    have c205_3 := c202_3.keep K205
    have c205_4 := c202_4.keep K205
    have c205_5 := c202_5.keep K205 (ninS (Nat.ne_of_lt lt201_b199_b201) nin0)
    have c205_6 := c202_6.keep K205
    have c205_7 := u202_5.keep K205
    have c205_8 := u202_6.keep K205 (ninS (Ne.symm (Nat.ne_of_lt lt202_b201_b202)) nin0)
    have KK205 : Keep h0 T205.heap [] := KK202.trans K205 (allS (P := fun x => x ∈ [] ∨ h0.size ≤ x) (Or.inr SZ_b201) all0)
    have ZN205 : n0 ≤ T205.heap.size := Nat.le_trans ZN202 K205.1
    have OL205 := OL202.keep K205 (allS G_b201 all0)
    refine goT st205 ?_
    show Go _ p e below s _ _ _ (T205.setTop (mkF m 191 #[.val (.int p1), .val (.int p2), .val (.int p3), .val (.int p4), .val (.int p5), .val (.int (1 : Int32)), .val (.int (0 : Int32)), .val (.ref b176), .val (.ref b177), .val (.ref b178), .val (.ref b199), .val (.ref b201), .val (.int (1 : Int32)), .val (.int (1 : Int32)), .unset, .unset] [(.ref b176)]))
    refine go (fun _ => XS.astore X205.here hx rfl (hb hby at_191) rfl rfl (l' := #[.val (.int p1), .val (.int p2), .val (.int p3), .val (.int p4), .val (.int p5), .val (.int (1 : Int32)), .val (.int (0 : Int32)), .val (.ref b176), .val (.ref b177), .val (.ref b178), .val (.ref b199), .val (.ref b201), .val (.int (1 : Int32)), .val (.int (1 : Int32)), .val (.ref b176), .unset]) rfl) ?_
    show Go _ p e below s _ _ _ (T205.setTop (mkF m 193 #[.val (.int p1), .val (.int p2), .val (.int p3), .val (.int p4), .val (.int p5), .val (.int (1 : Int32)), .val (.int (0 : Int32)), .val (.ref b176), .val (.ref b177), .val (.ref b178), .val (.ref b199), .val (.ref b201), .val (.int (1 : Int32)), .val (.int (1 : Int32)), .val (.ref b176), .unset] []))
    refine go (fun _ => XS.iload X205.here hx rfl (hb hby at_193) rfl) ?_
    show Go _ p e below s _ _ _ (T205.setTop (mkF m 195 #[.val (.int p1), .val (.int p2), .val (.int p3), .val (.int p4), .val (.int p5), .val (.int (1 : Int32)), .val (.int (0 : Int32)), .val (.ref b176), .val (.ref b177), .val (.ref b178), .val (.ref b199), .val (.ref b201), .val (.int (1 : Int32)), .val (.int (1 : Int32)), .val (.ref b176), .unset] [(.int (0 : Int32))]))
    refine go (fun _ => XS.ifNo X205.here hx rfl (hb hby at_195) rfl ((if0 _ _).trans (teq (rfl : (0 : Int32) = (0 : Int32))).2)) ?_
    show Go _ p e below s _ _ _ (T205.setTop (mkF m 198 #[.val (.int p1), .val (.int p2), .val (.int p3), .val (.int p4), .val (.int p5), .val (.int (1 : Int32)), .val (.int (0 : Int32)), .val (.ref b176), .val (.ref b177), .val (.ref b178), .val (.ref b199), .val (.ref b201), .val (.int (1 : Int32)), .val (.int (1 : Int32)), .val (.ref b176), .unset] []))
    refine go (fun _ => XS.aload X205.here hx rfl (hb hby at_198) rfl rfl) ?_
    show Go _ p e below s _ _ _ (T205.setTop (mkF m 200 #[.val (.int p1), .val (.int p2), .val (.int p3), .val (.int p4), .val (.int p5), .val (.int (1 : Int32)), .val (.int (0 : Int32)), .val (.ref b176), .val (.ref b177), .val (.ref b178), .val (.ref b199), .val (.ref b201), .val (.int (1 : Int32)), .val (.int (1 : Int32)), .val (.ref b176), .unset] [(.ref b176)]))
    refine go (fun _ => XS.goto X205.here hx rfl (pc0 := 200) (pc' := 216) rfl (hb hby at_200) (by decide) (by decide)) ?_
    show Go _ p e below s _ _ _ (T205.setTop (mkF m 216 #[.val (.int p1), .val (.int p2), .val (.int p3), .val (.int p4), .val (.int p5), .val (.int (1 : Int32)), .val (.int (0 : Int32)), .val (.ref b176), .val (.ref b177), .val (.ref b178), .val (.ref b199), .val (.ref b201), .val (.int (1 : Int32)), .val (.int (1 : Int32)), .val (.ref b176), .unset] [(.ref b176)]))
    refine go (fun _ => XS.astore X205.here hx rfl (hb hby at_216) rfl rfl (l' := #[.val (.int p1), .val (.int p2), .val (.int p3), .val (.int p4), .val (.int p5), .val (.int (1 : Int32)), .val (.int (0 : Int32)), .val (.ref b176), .val (.ref b177), .val (.ref b178), .val (.ref b199), .val (.ref b201), .val (.int (1 : Int32)), .val (.int (1 : Int32)), .val (.ref b176), .val (.ref b176)]) rfl) ?_
    show Go _ p e below s _ _ _ (T205.setTop (mkF m 218 #[.val (.int p1), .val (.int p2), .val (.int p3), .val (.int p4), .val (.int p5), .val (.int (1 : Int32)), .val (.int (0 : Int32)), .val (.ref b176), .val (.ref b177), .val (.ref b178), .val (.ref b199), .val (.ref b201), .val (.int (1 : Int32)), .val (.int (1 : Int32)), .val (.ref b176), .val (.ref b176)] []))
    refine go (fun _ => XS.aload X205.here hx rfl (hb hby at_218) rfl rfl) ?_
    show Go _ p e below s _ _ _ (T205.setTop (mkF m 220 #[.val (.int p1), .val (.int p2), .val (.int p3), .val (.int p4), .val (.int p5), .val (.int (1 : Int32)), .val (.int (0 : Int32)), .val (.ref b176), .val (.ref b177), .val (.ref b178), .val (.ref b199), .val (.ref b201), .val (.int (1 : Int32)), .val (.int (1 : Int32)), .val (.ref b176), .val (.ref b176)] [(.ref b176)]))
    refine go (fun _ => XS.aload X205.here hx rfl (hb hby at_220) rfl rfl) ?_
    show Go _ p e below s _ _ _ (T205.setTop (mkF m 222 #[.val (.int p1), .val (.int p2), .val (.int p3), .val (.int p4), .val (.int p5), .val (.int (1 : Int32)), .val (.int (0 : Int32)), .val (.ref b176), .val (.ref b177), .val (.ref b178), .val (.ref b199), .val (.ref b201), .val (.int (1 : Int32)), .val (.int (1 : Int32)), .val (.ref b176), .val (.ref b176)] [(.ref b176), (.ref b176)]))
    obtain ⟨cq206, kq206, q206a, q206b, q206c⟩ := isOf hZ rfl c205_1
    obtain ⟨_, _, ⟨T206, L206, k206, n206⟩, -, X206, ⟨Lc206, hQ206, l206, y206, z206⟩, st206⟩ := X205.virtualBack hx (y := (⟨"java/lang/String", "equals", "(Ljava/lang/Object;)Z"⟩ : MethodName)) (z := (⟨"java/lang/String", "equals", "(Ljava/lang/Object;)Z"⟩ : MethodName)) hown (mvT hZ (hw _ (List.mem_of_getElem? (i := 63) rfl))) (mvT hZ (hw _ (List.mem_of_getElem? (i := 64) rfl))) (notFace_of_selects (args := #[]) (mvT hZ (hw _ (List.mem_of_getElem? (i := 66) rfl)))) (mvT hZ (hw _ (List.mem_of_getElem? (i := 66) rfl))) (mvT hZ (hw _ (List.mem_of_getElem? (i := 65) rfl))) (by decide) (backOf (W := 0) (rm10 l Z a0 hw [] b176 b176 (T205.heap) n0 ZN205 rfl) hZ (hw _ (List.mem_of_getElem? (i := 67) rfl)) (hw _ (List.mem_of_getElem? (i := 6) rfl)) (by decide) (by decide)) q206a q206c (g := (mkF m 222 #[.val (.int p1), .val (.int p2), .val (.int p3), .val (.int p4), .val (.int p5), .val (.int (1 : Int32)), .val (.int (0 : Int32)), .val (.ref b176), .val (.ref b177), .val (.ref b178), .val (.ref b199), .val (.ref b201), .val (.int (1 : Int32)), .val (.int (1 : Int32)), .val (.ref b176), .val (.ref b176)] [(.ref b176), (.ref b176)])) rfl (by rw [hml]; rfl) (Steps.refl _) (argsL := [(.ref b176)]) (rest := []) (lenOf pd_0_5 rfl) rfl (by show 2 * 0 + _ ≤ _; exact Nat.le_of_eq rfl) (hb hby at_222) (fun _ _ => ⟨rfl, rfl, (by decide : 9 + 0 ≤ _), (by decide : 19 + 0 ≤ _)⟩)
    dsimp only [Pt.U, Pt.locs, Pt.cells, Pt.slots] at X206 l206 y206 z206 st206 hQ206
    subst l206 y206 z206
    obtain ⟨rfl, N206q, e206⟩ := hQ206
    have N206 := Fr.app N205 N206q
    refine goT st206 ?_
    show Go _ p e below s _ _ _ (T206.setTop (mkF m 225 #[.val (.int p1), .val (.int p2), .val (.int p3), .val (.int p4), .val (.int p5), .val (.int (1 : Int32)), .val (.int (0 : Int32)), .val (.ref b176), .val (.ref b177), .val (.ref b178), .val (.ref b199), .val (.ref b201), .val (.int (1 : Int32)), .val (.int (1 : Int32)), .val (.ref b176), .val (.ref b176)] [(.int (1 : Int32))]))
    refine goRet X206 hx Bd.notSynchronized Bd.returns rfl (Or.inl ⟨rfl, Or.inr (Or.inl rfl), _, rfl⟩) (hb hby at_225) (by decide) (by decide) (by rw [e206]; refine ⟨rfl, N206⟩)
  · rw [show own_min (1 : Int32) (1 : Int32) = (1 : Int32) from by decide]
    show Go _ p e below s _ _ _ (T178.setTop (mkF m 49 #[.val (.int p1), .val (.int p2), .val (.int p3), .val (.int p4), .val (.int p5), .val (.int (1 : Int32)), .val (.int (1 : Int32)), .val (.ref b176), .val (.ref b177), .val (.ref b178), .unset, .unset, .unset, .unset, .unset, .unset] []))
    refine go (fun _ => XS.iload X178.here hx rfl (hb hby at_49) rfl) ?_
    show Go _ p e below s _ _ _ (T178.setTop (mkF m 51 #[.val (.int p1), .val (.int p2), .val (.int p3), .val (.int p4), .val (.int p5), .val (.int (1 : Int32)), .val (.int (1 : Int32)), .val (.ref b176), .val (.ref b177), .val (.ref b178), .unset, .unset, .unset, .unset, .unset, .unset] [(.int (1 : Int32))]))
    obtain ⟨T207, h207, k207, X207, e207, E207, A207, AE207, O207, st207⟩ := newRE X178 hx hZ hown (hw _ (List.mem_of_getElem? (i := 30) rfl)) (hw _ (List.mem_of_getElem? (i := 31) rfl)) rfl (g := (mkF m 51 #[.val (.int p1), .val (.int p2), .val (.int p3), .val (.int p4), .val (.int p5), .val (.int (1 : Int32)), .val (.int (1 : Int32)), .val (.ref b176), .val (.ref b177), .val (.ref b178), .unset, .unset, .unset, .unset, .unset, .unset] [(.int (1 : Int32))])) rfl (hb hby at_51) rfl (by decide) (cap := 1) (by decide) (by decide) (by decide) (by decide) (ad := "[Ljava/lang/String;") (by first | rfl | decide)
    obtain ⟨b207, g207⟩ : ∃ z, z = T178.heap.size := ⟨_, rfl⟩
    rw [← g207] at A207 AE207 st207
    have lt207_b176_b207 : b176 < b207 := Nat.lt_of_lt_of_le c178_1.lt (Nat.le_of_eq g207.symm)
    have lt207_b177_b207 : b177 < b207 := Nat.lt_of_lt_of_le c178_2.lt (Nat.le_of_eq g207.symm)
    have lt207_b178_b207 : b178 < b207 := Nat.lt_of_lt_of_le u178_3.lt (Nat.le_of_eq g207.symm)
    have G_b207 : n0 ≤ b207 := Nat.le_trans ZN178 (Nat.le_of_eq g207.symm)
    have SZ_b207 : h0.size ≤ b207 := Nat.le_trans KK178.1 (Nat.le_of_eq g207.symm)
    have c207_1 := c178_1.ext E207
    have c207_2 := c178_2.ext E207
    have c207_3 := u178_3.ext E207
    have KK207 : Keep h0 h207 [] := KK178.ext E207
    have ZN207 : n0 ≤ h207.size := Nat.le_trans ZN178 E207.1
    have OL207 := OL178.ext E207
    have V207 : Arv Z h207 b207 k207 (.object "java/lang/String") (1 : Int32) [.null] .null := (Arv.new A207 (by decide)).pad (pad_rep [] .null 1)
    refine go st207 ?_
    show Go _ p e below s _ _ _ (T207.setTop (mkF m 54 #[.val (.int p1), .val (.int p2), .val (.int p3), .val (.int p4), .val (.int p5), .val (.int (1 : Int32)), .val (.int (1 : Int32)), .val (.ref b176), .val (.ref b177), .val (.ref b178), .unset, .unset, .unset, .unset, .unset, .unset] [(.ref b207)]))
    refine go (fun _ => XS.astore X207.here hx rfl (hb hby at_54) rfl rfl (l' := #[.val (.int p1), .val (.int p2), .val (.int p3), .val (.int p4), .val (.int p5), .val (.int (1 : Int32)), .val (.int (1 : Int32)), .val (.ref b176), .val (.ref b177), .val (.ref b178), .val (.ref b207), .unset, .unset, .unset, .unset, .unset]) rfl) ?_
    show Go _ p e below s _ _ _ (T207.setTop (mkF m 56 #[.val (.int p1), .val (.int p2), .val (.int p3), .val (.int p4), .val (.int p5), .val (.int (1 : Int32)), .val (.int (1 : Int32)), .val (.ref b176), .val (.ref b177), .val (.ref b178), .val (.ref b207), .unset, .unset, .unset, .unset, .unset] []))
    refine go (fun _ => XS.iload X207.here hx rfl (hb hby at_56) rfl) ?_
    show Go _ p e below s _ _ _ (T207.setTop (mkF m 58 #[.val (.int p1), .val (.int p2), .val (.int p3), .val (.int p4), .val (.int p5), .val (.int (1 : Int32)), .val (.int (1 : Int32)), .val (.ref b176), .val (.ref b177), .val (.ref b178), .val (.ref b207), .unset, .unset, .unset, .unset, .unset] [(.int (1 : Int32))]))
    refine go (fun _ => XS.iconst X207.here hx rfl (hb hby at_58)) ?_
    show Go _ p e below s _ _ _ (T207.setTop (mkF m 59 #[.val (.int p1), .val (.int p2), .val (.int p3), .val (.int p4), .val (.int p5), .val (.int (1 : Int32)), .val (.int (1 : Int32)), .val (.ref b176), .val (.ref b177), .val (.ref b178), .val (.ref b207), .unset, .unset, .unset, .unset, .unset] [(.int (1 : Int32)), (.int (1 : Int32))]))
    refine go (fun _ => XS.icmpNo X207.here hx rfl (hb hby at_59) rfl (flt (by decide : ¬ ((1 : Int32) < (1 : Int32)))).1) ?_
    show Go _ p e below s _ _ _ (T207.setTop (mkF m 62 #[.val (.int p1), .val (.int p2), .val (.int p3), .val (.int p4), .val (.int p5), .val (.int (1 : Int32)), .val (.int (1 : Int32)), .val (.ref b176), .val (.ref b177), .val (.ref b178), .val (.ref b207), .unset, .unset, .unset, .unset, .unset] []))
    refine go (fun _ => XS.aload X207.here hx rfl (hb hby at_62) rfl rfl) ?_
    show Go _ p e below s _ _ _ (T207.setTop (mkF m 64 #[.val (.int p1), .val (.int p2), .val (.int p3), .val (.int p4), .val (.int p5), .val (.int (1 : Int32)), .val (.int (1 : Int32)), .val (.ref b176), .val (.ref b177), .val (.ref b178), .val (.ref b207), .unset, .unset, .unset, .unset, .unset] [(.ref b207)]))
    refine go (fun _ => XS.iconst X207.here hx rfl (hb hby at_64)) ?_
    show Go _ p e below s _ _ _ (T207.setTop (mkF m 65 #[.val (.int p1), .val (.int p2), .val (.int p3), .val (.int p4), .val (.int p5), .val (.int (1 : Int32)), .val (.int (1 : Int32)), .val (.ref b176), .val (.ref b177), .val (.ref b178), .val (.ref b207), .unset, .unset, .unset, .unset, .unset] [(.int (0 : Int32)), (.ref b207)]))
    refine go (fun _ => XS.aload X207.here hx rfl (hb hby at_65) rfl rfl) ?_
    show Go _ p e below s _ _ _ (T207.setTop (mkF m 67 #[.val (.int p1), .val (.int p2), .val (.int p3), .val (.int p4), .val (.int p5), .val (.int (1 : Int32)), .val (.int (1 : Int32)), .val (.ref b176), .val (.ref b177), .val (.ref b178), .val (.ref b207), .unset, .unset, .unset, .unset, .unset] [(.ref b176), (.int (0 : Int32)), (.ref b207)]))
    obtain ⟨cl208, Ar208, q208, Sz208, Nz208, Hs208, Gs208⟩ := id V207
    have hin208 : ¬ ((0 : Int32) < 0 ∨ cl208.slots.size ≤ ((0 : Int32)).toNatClampNeg) := inb_of Sz208 ⟨by decide, by decide⟩
    obtain ⟨T208, h208, X208, e208, W208, st208⟩ := stR X207 hx hZ e207 Ar208 (j := (0 : Int32)) hin208 rfl (Sto.ofV Ar208 q208 O207 (Ins.self c207_1)) (g := (mkF m 67 #[.val (.int p1), .val (.int p2), .val (.int p3), .val (.int p4), .val (.int p5), .val (.int (1 : Int32)), .val (.int (1 : Int32)), .val (.ref b176), .val (.ref b177), .val (.ref b178), .val (.ref b207), .unset, .unset, .unset, .unset, .unset] [(.ref b176), (.int (0 : Int32)), (.ref b207)])) rfl rfl (hb hby at_67)
    have V208 := Arv.set Ar208 q208 Sz208 Nz208 Hs208 Gs208 rfl W208 0 rfl (Nat.le_of_ble_eq_true rfl)
    have VV208 : Arv Z h208 b207 k207 (.object "java/lang/String") (1 : Int32) [(.ref b176)] .null := V208
    have c208_1 := c207_1.wr W208
    have c208_2 := c207_2.wr W208
    have c208_3 := c207_3.wr W208
    have c208_4 := AE207.wr W208
    have KK208 : Keep h0 h208 [] := KK207.wr W208 (Or.inr SZ_b207)
    have ZN208 : n0 ≤ h208.size := Nat.le_trans ZN207 (Keep.of_wr W208).1
    have NN208 := Fr.snoc X208 N178 G_b207
    have OL208 := OL207.wr W208 G_b207
    refine go st208 ?_
    show Go _ p e below s _ _ _ (T208.setTop (mkF m 68 #[.val (.int p1), .val (.int p2), .val (.int p3), .val (.int p4), .val (.int p5), .val (.int (1 : Int32)), .val (.int (1 : Int32)), .val (.ref b176), .val (.ref b177), .val (.ref b178), .val (.ref b207), .unset, .unset, .unset, .unset, .unset] []))
    refine go (fun _ => XS.iload X208.here hx rfl (hb hby at_68) rfl) ?_
    show Go _ p e below s _ _ _ (T208.setTop (mkF m 70 #[.val (.int p1), .val (.int p2), .val (.int p3), .val (.int p4), .val (.int p5), .val (.int (1 : Int32)), .val (.int (1 : Int32)), .val (.ref b176), .val (.ref b177), .val (.ref b178), .val (.ref b207), .unset, .unset, .unset, .unset, .unset] [(.int (1 : Int32))]))
    refine go (fun _ => XS.iconst X208.here hx rfl (hb hby at_70)) ?_
    show Go _ p e below s _ _ _ (T208.setTop (mkF m 71 #[.val (.int p1), .val (.int p2), .val (.int p3), .val (.int p4), .val (.int p5), .val (.int (1 : Int32)), .val (.int (1 : Int32)), .val (.ref b176), .val (.ref b177), .val (.ref b178), .val (.ref b207), .unset, .unset, .unset, .unset, .unset] [(.int (2 : Int32)), (.int (1 : Int32))]))
    refine go (fun _ => XS.icmpYes X208.here hx rfl (pc0 := 71) (pc' := 80) rfl (hb hby at_71) rfl (tlt (by decide : ((1 : Int32) < (2 : Int32)))).1 (by decide) (by decide)) ?_
    show Go _ p e below s _ _ _ (T208.setTop (mkF m 80 #[.val (.int p1), .val (.int p2), .val (.int p3), .val (.int p4), .val (.int p5), .val (.int (1 : Int32)), .val (.int (1 : Int32)), .val (.ref b176), .val (.ref b177), .val (.ref b178), .val (.ref b207), .unset, .unset, .unset, .unset, .unset] []))
    refine go (fun _ => XS.iload X208.here hx rfl (hb hby at_80) rfl) ?_
    show Go _ p e below s _ _ _ (T208.setTop (mkF m 82 #[.val (.int p1), .val (.int p2), .val (.int p3), .val (.int p4), .val (.int p5), .val (.int (1 : Int32)), .val (.int (1 : Int32)), .val (.ref b176), .val (.ref b177), .val (.ref b178), .val (.ref b207), .unset, .unset, .unset, .unset, .unset] [(.int (1 : Int32))]))
    refine go (fun _ => XS.iconst X208.here hx rfl (hb hby at_82)) ?_
    show Go _ p e below s _ _ _ (T208.setTop (mkF m 83 #[.val (.int p1), .val (.int p2), .val (.int p3), .val (.int p4), .val (.int p5), .val (.int (1 : Int32)), .val (.int (1 : Int32)), .val (.ref b176), .val (.ref b177), .val (.ref b178), .val (.ref b207), .unset, .unset, .unset, .unset, .unset] [(.int (3 : Int32)), (.int (1 : Int32))]))
    refine go (fun _ => XS.icmpYes X208.here hx rfl (pc0 := 83) (pc' := 92) rfl (hb hby at_83) rfl (tlt (by decide : ((1 : Int32) < (3 : Int32)))).1 (by decide) (by decide)) ?_
    show Go _ p e below s _ _ _ (T208.setTop (mkF m 92 #[.val (.int p1), .val (.int p2), .val (.int p3), .val (.int p4), .val (.int p5), .val (.int (1 : Int32)), .val (.int (1 : Int32)), .val (.ref b176), .val (.ref b177), .val (.ref b178), .val (.ref b207), .unset, .unset, .unset, .unset, .unset] []))
    obtain ⟨T209, h209, X209, e209, E209, A209, D209, -, st209⟩ := newO X208 hx hZ hown (hw _ (List.mem_of_getElem? (i := 32) rfl)) (hw _ (List.mem_of_getElem? (i := 33) rfl)) (hw _ (List.mem_of_getElem? (i := 34) rfl)) e208 (g := (mkF m 92 #[.val (.int p1), .val (.int p2), .val (.int p3), .val (.int p4), .val (.int p5), .val (.int (1 : Int32)), .val (.int (1 : Int32)), .val (.ref b176), .val (.ref b177), .val (.ref b178), .val (.ref b207), .unset, .unset, .unset, .unset, .unset] [])) rfl (hb hby at_92) (by decide) (by decide)
    obtain ⟨b209, g209⟩ : ∃ z, z = h208.size := ⟨_, rfl⟩
    rw [← g209] at A209 D209 st209
    have lt209_b176_b209 : b176 < b209 := Nat.lt_of_lt_of_le c208_1.lt (Nat.le_of_eq g209.symm)
    have lt209_b177_b209 : b177 < b209 := Nat.lt_of_lt_of_le c208_2.lt (Nat.le_of_eq g209.symm)
    have lt209_b178_b209 : b178 < b209 := Nat.lt_of_lt_of_le c208_3.lt (Nat.le_of_eq g209.symm)
    have lt209_b207_b209 : b207 < b209 := Nat.lt_of_lt_of_le c208_4.lt (Nat.le_of_eq g209.symm)
    have G_b209 : n0 ≤ b209 := Nat.le_trans ZN208 (Nat.le_of_eq g209.symm)
    have SZ_b209 : h0.size ≤ b209 := Nat.le_trans KK208.1 (Nat.le_of_eq g209.symm)
    have c209_1 := c208_1.ext E209
    have c209_2 := c208_2.ext E209
    have c209_3 := c208_3.ext E209
    have c209_4 := c208_4.ext E209
    have c209_5 := VV208.ext E209
    have KK209 : Keep h0 h209 [] := KK208.ext E209
    have ZN209 : n0 ≤ h209.size := Nat.le_trans ZN208 E209.1
    have OL209 := OL208.ext E209
    have F209_49 : Fld Z h209 b209 "com/example/sunder/sunder/cli/Arguments" "args" "[Ljava/lang/String;" .null := D209 (Or.inr (hw _ (List.mem_of_getElem? (i := 49) rfl))) (ty := (.array (.object "java/lang/String"))) (by decide)
    have F209_56 : Fld Z h209 b209 "com/example/sunder/sunder/cli/Arguments" "next" "I" (.int (0 : Int32)) := D209 (Or.inl (hw _ (List.mem_of_getElem? (i := 56) rfl))) (ty := .int) (by decide)
    refine go st209 ?_
    show Go _ p e below s _ _ _ (T209.setTop (mkF m 95 #[.val (.int p1), .val (.int p2), .val (.int p3), .val (.int p4), .val (.int p5), .val (.int (1 : Int32)), .val (.int (1 : Int32)), .val (.ref b176), .val (.ref b177), .val (.ref b178), .val (.ref b207), .unset, .unset, .unset, .unset, .unset] [(.ref b209)]))
    refine go (fun _ => XS.dup X209.here hx rfl (hb hby at_95) rfl rfl) ?_
    show Go _ p e below s _ _ _ (T209.setTop (mkF m 96 #[.val (.int p1), .val (.int p2), .val (.int p3), .val (.int p4), .val (.int p5), .val (.int (1 : Int32)), .val (.int (1 : Int32)), .val (.ref b176), .val (.ref b177), .val (.ref b178), .val (.ref b207), .unset, .unset, .unset, .unset, .unset] [(.ref b209), (.ref b209)]))
    refine go (fun _ => XS.aload X209.here hx rfl (hb hby at_96) rfl rfl) ?_
    show Go _ p e below s _ _ _ (T209.setTop (mkF m 98 #[.val (.int p1), .val (.int p2), .val (.int p3), .val (.int p4), .val (.int p5), .val (.int (1 : Int32)), .val (.int (1 : Int32)), .val (.ref b176), .val (.ref b177), .val (.ref b178), .val (.ref b207), .unset, .unset, .unset, .unset, .unset] [(.ref b207), (.ref b209), (.ref b209)]))
    obtain ⟨_, _, ⟨T210, L210, k210, n210⟩, -, X210, ⟨Lc210, hQ210, l210, y210, z210⟩, st210⟩ := X209.specialBack hx (y := (⟨"com/example/sunder/sunder/cli/Arguments", "<init>", "([Ljava/lang/String;)V"⟩ : MethodName)) rfl hown (mvT hZ (hw _ (List.mem_of_getElem? (i := 35) rfl))) (mvT hZ (hw _ (List.mem_of_getElem? (i := 36) rfl))) (mvT hZ (hw _ (List.mem_of_getElem? (i := 37) rfl))) (by decide) (backOf (W := 1) (rmI1 l Z a0 hw [] b209 b207 k207 b176 .null h209 n0 ZN209 A209 F209_49 F209_56 G_b209 c209_4 c209_5 (Ne.symm (Nat.ne_of_lt lt209_b207_b209))) hZ (hw _ (List.mem_of_getElem? (i := 37) rfl)) (hw _ (List.mem_of_getElem? (i := 34) rfl)) (by decide) (by decide)) (g := (mkF m 98 #[.val (.int p1), .val (.int p2), .val (.int p3), .val (.int p4), .val (.int p5), .val (.int (1 : Int32)), .val (.int (1 : Int32)), .val (.ref b176), .val (.ref b177), .val (.ref b178), .val (.ref b207), .unset, .unset, .unset, .unset, .unset] [(.ref b207), (.ref b209), (.ref b209)])) rfl (by rw [hml]; rfl) (Steps.refl _) (a := b209) (argsL := [(.ref b207)]) (rest := [(.ref b209)]) (lenOf pd_0_2 rfl) rfl (by show 2 * 0 + _ ≤ _; exact Nat.le_of_eq rfl) (hb hby at_98) (fun _ _ => ⟨rfl, e209, (by decide : 8 + 1 ≤ _), (by decide : 18 + 1 ≤ _)⟩)
    dsimp only [Pt.U, Pt.locs, Pt.cells, Pt.slots] at X210 l210 y210 z210 st210 hQ210
    subst l210 y210 z210
    obtain ⟨b210, rfl, N210q, u210_0, u210_1, K210, u210_3, u210_4, u210_5, u210_6⟩ := hQ210
    have N210 := Fr.app NN208 N210q
    have lt210_b176_b210 : b176 < b210 := Nat.lt_of_lt_of_le c209_1.lt u210_0
    have lt210_b177_b210 : b177 < b210 := Nat.lt_of_lt_of_le c209_2.lt u210_0
    have lt210_b178_b210 : b178 < b210 := Nat.lt_of_lt_of_le c209_3.lt u210_0
    have lt210_b207_b210 : b207 < b210 := Nat.lt_of_lt_of_le c209_4.lt u210_0
    have lt210_b209_b210 : b209 < b210 := Nat.lt_of_lt_of_le A209.lt u210_0
    have G_b210 : n0 ≤ b210 := Nat.le_trans ZN209 u210_0
    have SZ_b210 : h0.size ≤ b210 := Nat.le_trans KK209.1 u210_0
    have c210_1 := c209_1.keep K210
    have c210_2 := c209_2.keep K210
    have c210_3 := c209_3.keep K210
    have c210_4 := c209_4.keep K210
    have c210_5 := c209_5.keep K210 (ninS (Nat.ne_of_lt lt209_b207_b209) nin0)
    have c210_6 := A209.keep K210
    have KK210 : Keep h0 T210.heap [] := KK209.trans K210 (allS (P := fun x => x ∈ [] ∨ h0.size ≤ x) (Or.inr SZ_b209) all0)
    have ZN210 : n0 ≤ T210.heap.size := Nat.le_trans ZN209 K210.1
    have OL210 := OL209.keep K210 (allS G_b209 all0)
    refine goT st210 ?_
    show Go _ p e below s _ _ _ (T210.setTop (mkF m 101 #[.val (.int p1), .val (.int p2), .val (.int p3), .val (.int p4), .val (.int p5), .val (.int (1 : Int32)), .val (.int (1 : Int32)), .val (.ref b176), .val (.ref b177), .val (.ref b178), .val (.ref b207), .unset, .unset, .unset, .unset, .unset] [(.ref b209)]))
    refine go (fun _ => XS.astore X210.here hx rfl (hb hby at_101) rfl rfl (l' := #[.val (.int p1), .val (.int p2), .val (.int p3), .val (.int p4), .val (.int p5), .val (.int (1 : Int32)), .val (.int (1 : Int32)), .val (.ref b176), .val (.ref b177), .val (.ref b178), .val (.ref b207), .val (.ref b209), .unset, .unset, .unset, .unset]) rfl) ?_
    show Go _ p e below s _ _ _ (T210.setTop (mkF m 103 #[.val (.int p1), .val (.int p2), .val (.int p3), .val (.int p4), .val (.int p5), .val (.int (1 : Int32)), .val (.int (1 : Int32)), .val (.ref b176), .val (.ref b177), .val (.ref b178), .val (.ref b207), .val (.ref b209), .unset, .unset, .unset, .unset] []))
    refine go (fun _ => XS.iload X210.here hx rfl (hb hby at_103) rfl) ?_
    show Go _ p e below s _ _ _ (T210.setTop (mkF m 105 #[.val (.int p1), .val (.int p2), .val (.int p3), .val (.int p4), .val (.int p5), .val (.int (1 : Int32)), .val (.int (1 : Int32)), .val (.ref b176), .val (.ref b177), .val (.ref b178), .val (.ref b207), .val (.ref b209), .unset, .unset, .unset, .unset] [(.int (1 : Int32))]))
    refine go (fun _ => XS.iconst X210.here hx rfl (hb hby at_105)) ?_
    show Go _ p e below s _ _ _ (T210.setTop (mkF m 106 #[.val (.int p1), .val (.int p2), .val (.int p3), .val (.int p4), .val (.int p5), .val (.int (1 : Int32)), .val (.int (1 : Int32)), .val (.ref b176), .val (.ref b177), .val (.ref b178), .val (.ref b207), .val (.ref b209), .unset, .unset, .unset, .unset] [(.int (1 : Int32)), (.int (1 : Int32))]))
    refine go (fun _ => XS.icmpNo X210.here hx rfl (hb hby at_106) rfl (flt (by decide : ¬ ((1 : Int32) < (1 : Int32)))).1) ?_
    show Go _ p e below s _ _ _ (T210.setTop (mkF m 109 #[.val (.int p1), .val (.int p2), .val (.int p3), .val (.int p4), .val (.int p5), .val (.int (1 : Int32)), .val (.int (1 : Int32)), .val (.ref b176), .val (.ref b177), .val (.ref b178), .val (.ref b207), .val (.ref b209), .unset, .unset, .unset, .unset] []))
    refine go (fun _ => XS.aload X210.here hx rfl (hb hby at_109) rfl rfl) ?_
    show Go _ p e below s _ _ _ (T210.setTop (mkF m 111 #[.val (.int p1), .val (.int p2), .val (.int p3), .val (.int p4), .val (.int p5), .val (.int (1 : Int32)), .val (.int (1 : Int32)), .val (.ref b176), .val (.ref b177), .val (.ref b178), .val (.ref b207), .val (.ref b209), .unset, .unset, .unset, .unset] [(.ref b209)]))
    obtain ⟨cq211, kq211, q211a, q211b, q211c⟩ := isOf hZ rfl c210_6
    obtain ⟨_, _, ⟨T211, L211, k211, n211⟩, -, X211, ⟨Lc211, hQ211, l211, y211, z211⟩, st211⟩ := X210.virtualBack hx (y := (⟨"com/example/sunder/sunder/cli/Arguments", "next", "()Ljava/lang/String;"⟩ : MethodName)) (z := (⟨"com/example/sunder/sunder/cli/Arguments", "next", "()Ljava/lang/String;"⟩ : MethodName)) hown (mvT hZ (hw _ (List.mem_of_getElem? (i := 57) rfl))) (mvT hZ (hw _ (List.mem_of_getElem? (i := 58) rfl))) (notFace_of_selects (args := #[]) (mvT hZ (hw _ (List.mem_of_getElem? (i := 60) rfl)))) (mvT hZ (hw _ (List.mem_of_getElem? (i := 60) rfl))) (mvT hZ (hw _ (List.mem_of_getElem? (i := 59) rfl))) (by decide) (backOf (W := 0) (rmN1_0 l Z a0 hw [] b209 b210 k207 b176 (T210.heap) n0 ZN210 c210_6 u210_3 u210_4 G_b209 u210_6 (Nat.ne_of_lt lt210_b209_b210)) hZ (hw _ (List.mem_of_getElem? (i := 61) rfl)) (hw _ (List.mem_of_getElem? (i := 34) rfl)) (by decide) (by decide)) q211a q211c (g := (mkF m 111 #[.val (.int p1), .val (.int p2), .val (.int p3), .val (.int p4), .val (.int p5), .val (.int (1 : Int32)), .val (.int (1 : Int32)), .val (.ref b176), .val (.ref b177), .val (.ref b178), .val (.ref b207), .val (.ref b209), .unset, .unset, .unset, .unset] [(.ref b209)])) rfl (by rw [hml]; rfl) (Steps.refl _) (argsL := []) (rest := []) (lenOf pd_0_4 rfl) rfl (by show 2 * 0 + _ ≤ _; exact Nat.le_of_eq rfl) (hb hby at_111) (fun _ _ => ⟨rfl, rfl, (by decide : 9 + 0 ≤ _), (by decide : 19 + 0 ≤ _)⟩)
    dsimp only [Pt.U, Pt.locs, Pt.cells, Pt.slots] at X211 l211 y211 z211 st211 hQ211
    subst l211 y211 z211
    obtain ⟨rfl, N211q, K211, u211_1, u211_2⟩ := hQ211
    have N211 := Fr.app N210 N211q
    have c211_1 := c210_1.keep K211
    have c211_2 := c210_2.keep K211
    have c211_3 := c210_3.keep K211
    have c211_4 := c210_4.keep K211
    have c211_5 := c210_5.keep K211 (ninS (Nat.ne_of_lt lt209_b207_b209) nin0)
    have c211_6 := c210_6.keep K211
    have c211_7 := u210_5.keep K211
    have c211_8 := u210_6.keep K211 (ninS (Ne.symm (Nat.ne_of_lt lt210_b209_b210)) nin0)
    have KK211 : Keep h0 T211.heap [] := KK210.trans K211 (allS (P := fun x => x ∈ [] ∨ h0.size ≤ x) (Or.inr SZ_b209) all0)
    have ZN211 : n0 ≤ T211.heap.size := Nat.le_trans ZN210 K211.1
    have OL211 := OL210.keep K211 (allS G_b209 all0)
    refine goT st211 ?_
    show Go _ p e below s _ _ _ (T211.setTop (mkF m 114 #[.val (.int p1), .val (.int p2), .val (.int p3), .val (.int p4), .val (.int p5), .val (.int (1 : Int32)), .val (.int (1 : Int32)), .val (.ref b176), .val (.ref b177), .val (.ref b178), .val (.ref b207), .val (.ref b209), .unset, .unset, .unset, .unset] [(.ref b176)]))
    refine go (fun _ => XS.pop X211.here hx rfl (hb hby at_114) rfl rfl) ?_
    show Go _ p e below s _ _ _ (T211.setTop (mkF m 115 #[.val (.int p1), .val (.int p2), .val (.int p3), .val (.int p4), .val (.int p5), .val (.int (1 : Int32)), .val (.int (1 : Int32)), .val (.ref b176), .val (.ref b177), .val (.ref b178), .val (.ref b207), .val (.ref b209), .unset, .unset, .unset, .unset] []))
    refine go (fun _ => XS.iload X211.here hx rfl (hb hby at_115) rfl) ?_
    show Go _ p e below s _ _ _ (T211.setTop (mkF m 117 #[.val (.int p1), .val (.int p2), .val (.int p3), .val (.int p4), .val (.int p5), .val (.int (1 : Int32)), .val (.int (1 : Int32)), .val (.ref b176), .val (.ref b177), .val (.ref b178), .val (.ref b207), .val (.ref b209), .unset, .unset, .unset, .unset] [(.int (1 : Int32))]))
    refine go (fun _ => XS.iconst X211.here hx rfl (hb hby at_117)) ?_
    show Go _ p e below s _ _ _ (T211.setTop (mkF m 118 #[.val (.int p1), .val (.int p2), .val (.int p3), .val (.int p4), .val (.int p5), .val (.int (1 : Int32)), .val (.int (1 : Int32)), .val (.ref b176), .val (.ref b177), .val (.ref b178), .val (.ref b207), .val (.ref b209), .unset, .unset, .unset, .unset] [(.int (2 : Int32)), (.int (1 : Int32))]))
    refine go (fun _ => XS.icmpYes X211.here hx rfl (pc0 := 118) (pc' := 127) rfl (hb hby at_118) rfl (tlt (by decide : ((1 : Int32) < (2 : Int32)))).1 (by decide) (by decide)) ?_
    show Go _ p e below s _ _ _ (T211.setTop (mkF m 127 #[.val (.int p1), .val (.int p2), .val (.int p3), .val (.int p4), .val (.int p5), .val (.int (1 : Int32)), .val (.int (1 : Int32)), .val (.ref b176), .val (.ref b177), .val (.ref b178), .val (.ref b207), .val (.ref b209), .unset, .unset, .unset, .unset] []))
    refine go (fun _ => XS.iload X211.here hx rfl (hb hby at_127) rfl) ?_
    show Go _ p e below s _ _ _ (T211.setTop (mkF m 129 #[.val (.int p1), .val (.int p2), .val (.int p3), .val (.int p4), .val (.int p5), .val (.int (1 : Int32)), .val (.int (1 : Int32)), .val (.ref b176), .val (.ref b177), .val (.ref b178), .val (.ref b207), .val (.ref b209), .unset, .unset, .unset, .unset] [(.int (1 : Int32))]))
    refine go (fun _ => XS.iconst X211.here hx rfl (hb hby at_129)) ?_
    show Go _ p e below s _ _ _ (T211.setTop (mkF m 130 #[.val (.int p1), .val (.int p2), .val (.int p3), .val (.int p4), .val (.int p5), .val (.int (1 : Int32)), .val (.int (1 : Int32)), .val (.ref b176), .val (.ref b177), .val (.ref b178), .val (.ref b207), .val (.ref b209), .unset, .unset, .unset, .unset] [(.int (3 : Int32)), (.int (1 : Int32))]))
    refine go (fun _ => XS.icmpYes X211.here hx rfl (pc0 := 130) (pc' := 139) rfl (hb hby at_130) rfl (tlt (by decide : ((1 : Int32) < (3 : Int32)))).1 (by decide) (by decide)) ?_
    show Go _ p e below s _ _ _ (T211.setTop (mkF m 139 #[.val (.int p1), .val (.int p2), .val (.int p3), .val (.int p4), .val (.int p5), .val (.int (1 : Int32)), .val (.int (1 : Int32)), .val (.ref b176), .val (.ref b177), .val (.ref b178), .val (.ref b207), .val (.ref b209), .unset, .unset, .unset, .unset] []))
    refine go (fun _ => XS.aload X211.here hx rfl (hb hby at_139) rfl rfl) ?_
    show Go _ p e below s _ _ _ (T211.setTop (mkF m 141 #[.val (.int p1), .val (.int p2), .val (.int p3), .val (.int p4), .val (.int p5), .val (.int (1 : Int32)), .val (.int (1 : Int32)), .val (.ref b176), .val (.ref b177), .val (.ref b178), .val (.ref b207), .val (.ref b209), .unset, .unset, .unset, .unset] [(.ref b209)]))
    obtain ⟨cq212, kq212, q212a, q212b, q212c⟩ := isOf hZ rfl c211_6
    obtain ⟨_, _, ⟨T212, L212, k212, n212⟩, -, X212, ⟨Lc212, hQ212, l212, y212, z212⟩, st212⟩ := X211.virtualBack hx (y := (⟨"com/example/sunder/sunder/cli/Arguments", "hasNext", "()Z"⟩ : MethodName)) (z := (⟨"com/example/sunder/sunder/cli/Arguments", "hasNext", "()Z"⟩ : MethodName)) hown (mvT hZ (hw _ (List.mem_of_getElem? (i := 50) rfl))) (mvT hZ (hw _ (List.mem_of_getElem? (i := 51) rfl))) (notFace_of_selects (args := #[]) (mvT hZ (hw _ (List.mem_of_getElem? (i := 53) rfl)))) (mvT hZ (hw _ (List.mem_of_getElem? (i := 53) rfl))) (mvT hZ (hw _ (List.mem_of_getElem? (i := 52) rfl))) (by decide) (backOf (W := 0) (rmH1_1 l Z a0 hw [] b209 b210 k207 b176 (T211.heap) n0 ZN211 u211_1 u211_2 c211_8) hZ (hw _ (List.mem_of_getElem? (i := 54) rfl)) (hw _ (List.mem_of_getElem? (i := 34) rfl)) (by decide) (by decide)) q212a q212c (g := (mkF m 141 #[.val (.int p1), .val (.int p2), .val (.int p3), .val (.int p4), .val (.int p5), .val (.int (1 : Int32)), .val (.int (1 : Int32)), .val (.ref b176), .val (.ref b177), .val (.ref b178), .val (.ref b207), .val (.ref b209), .unset, .unset, .unset, .unset] [(.ref b209)])) rfl (by rw [hml]; rfl) (Steps.refl _) (argsL := []) (rest := []) (lenOf pd_0_3 rfl) rfl (by show 2 * 0 + _ ≤ _; exact Nat.le_of_eq rfl) (hb hby at_141) (fun _ _ => ⟨rfl, rfl, (by decide : 9 + 0 ≤ _), (by decide : 19 + 0 ≤ _)⟩)
    dsimp only [Pt.U, Pt.locs, Pt.cells, Pt.slots] at X212 l212 y212 z212 st212 hQ212
    subst l212 y212 z212
    obtain ⟨rfl, N212q, e212⟩ := hQ212
    have N212 := Fr.app N211 N212q
    refine goT st212 ?_
    show Go _ p e below s _ _ _ (T212.setTop (mkF m 144 #[.val (.int p1), .val (.int p2), .val (.int p3), .val (.int p4), .val (.int p5), .val (.int (1 : Int32)), .val (.int (1 : Int32)), .val (.ref b176), .val (.ref b177), .val (.ref b178), .val (.ref b207), .val (.ref b209), .unset, .unset, .unset, .unset] [(.int (0 : Int32))]))
    refine go (fun _ => XS.istore X212.here hx rfl (hb hby at_144) rfl (l' := #[.val (.int p1), .val (.int p2), .val (.int p3), .val (.int p4), .val (.int p5), .val (.int (1 : Int32)), .val (.int (1 : Int32)), .val (.ref b176), .val (.ref b177), .val (.ref b178), .val (.ref b207), .val (.ref b209), .val (.int (0 : Int32)), .unset, .unset, .unset]) rfl) ?_
    show Go _ p e below s _ _ _ (T212.setTop (mkF m 146 #[.val (.int p1), .val (.int p2), .val (.int p3), .val (.int p4), .val (.int p5), .val (.int (1 : Int32)), .val (.int (1 : Int32)), .val (.ref b176), .val (.ref b177), .val (.ref b178), .val (.ref b207), .val (.ref b209), .val (.int (0 : Int32)), .unset, .unset, .unset] []))
    refine go (fun _ => XS.aload X212.here hx rfl (hb hby at_146) rfl rfl) ?_
    show Go _ p e below s _ _ _ (T212.setTop (mkF m 148 #[.val (.int p1), .val (.int p2), .val (.int p3), .val (.int p4), .val (.int p5), .val (.int (1 : Int32)), .val (.int (1 : Int32)), .val (.ref b176), .val (.ref b177), .val (.ref b178), .val (.ref b207), .val (.ref b209), .val (.int (0 : Int32)), .unset, .unset, .unset] [(.ref b209)]))
    obtain ⟨cq213, kq213, q213a, q213b, q213c⟩ := isOf hZ e212 c211_6
    obtain ⟨_, _, ⟨T213, L213, k213, n213⟩, -, X213, ⟨Lc213, hQ213, l213, y213, z213⟩, st213⟩ := X212.virtualBack hx (y := (⟨"com/example/sunder/sunder/cli/Arguments", "hasNext", "()Z"⟩ : MethodName)) (z := (⟨"com/example/sunder/sunder/cli/Arguments", "hasNext", "()Z"⟩ : MethodName)) hown (mvT hZ (hw _ (List.mem_of_getElem? (i := 50) rfl))) (mvT hZ (hw _ (List.mem_of_getElem? (i := 51) rfl))) (notFace_of_selects (args := #[]) (mvT hZ (hw _ (List.mem_of_getElem? (i := 53) rfl)))) (mvT hZ (hw _ (List.mem_of_getElem? (i := 53) rfl))) (mvT hZ (hw _ (List.mem_of_getElem? (i := 52) rfl))) (by decide) (backOf (W := 0) (rmH1_1 l Z a0 hw [] b209 b210 k207 b176 (T211.heap) n0 ZN211 u211_1 u211_2 c211_8) hZ (hw _ (List.mem_of_getElem? (i := 54) rfl)) (hw _ (List.mem_of_getElem? (i := 34) rfl)) (by decide) (by decide)) q213a q213c (g := (mkF m 148 #[.val (.int p1), .val (.int p2), .val (.int p3), .val (.int p4), .val (.int p5), .val (.int (1 : Int32)), .val (.int (1 : Int32)), .val (.ref b176), .val (.ref b177), .val (.ref b178), .val (.ref b207), .val (.ref b209), .val (.int (0 : Int32)), .unset, .unset, .unset] [(.ref b209)])) rfl (by rw [hml]; rfl) (Steps.refl _) (argsL := []) (rest := []) (lenOf pd_0_3 rfl) rfl (by show 2 * 0 + _ ≤ _; exact Nat.le_of_eq rfl) (hb hby at_148) (fun _ _ => ⟨rfl, e212, (by decide : 9 + 0 ≤ _), (by decide : 19 + 0 ≤ _)⟩)
    dsimp only [Pt.U, Pt.locs, Pt.cells, Pt.slots] at X213 l213 y213 z213 st213 hQ213
    subst l213 y213 z213
    obtain ⟨rfl, N213q, e213⟩ := hQ213
    have N213 := Fr.app N212 N213q
    refine goT st213 ?_
    show Go _ p e below s _ _ _ (T213.setTop (mkF m 151 #[.val (.int p1), .val (.int p2), .val (.int p3), .val (.int p4), .val (.int p5), .val (.int (1 : Int32)), .val (.int (1 : Int32)), .val (.ref b176), .val (.ref b177), .val (.ref b178), .val (.ref b207), .val (.ref b209), .val (.int (0 : Int32)), .unset, .unset, .unset] [(.int (0 : Int32))]))
    refine go (fun _ => XS.istore X213.here hx rfl (hb hby at_151) rfl (l' := #[.val (.int p1), .val (.int p2), .val (.int p3), .val (.int p4), .val (.int p5), .val (.int (1 : Int32)), .val (.int (1 : Int32)), .val (.ref b176), .val (.ref b177), .val (.ref b178), .val (.ref b207), .val (.ref b209), .val (.int (0 : Int32)), .val (.int (0 : Int32)), .unset, .unset]) rfl) ?_
    show Go _ p e below s _ _ _ (T213.setTop (mkF m 153 #[.val (.int p1), .val (.int p2), .val (.int p3), .val (.int p4), .val (.int p5), .val (.int (1 : Int32)), .val (.int (1 : Int32)), .val (.ref b176), .val (.ref b177), .val (.ref b178), .val (.ref b207), .val (.ref b209), .val (.int (0 : Int32)), .val (.int (0 : Int32)), .unset, .unset] []))
    refine go (fun _ => XS.iload X213.here hx rfl (hb hby at_153) rfl) ?_
    show Go _ p e below s _ _ _ (T213.setTop (mkF m 155 #[.val (.int p1), .val (.int p2), .val (.int p3), .val (.int p4), .val (.int p5), .val (.int (1 : Int32)), .val (.int (1 : Int32)), .val (.ref b176), .val (.ref b177), .val (.ref b178), .val (.ref b207), .val (.ref b209), .val (.int (0 : Int32)), .val (.int (0 : Int32)), .unset, .unset] [(.int (0 : Int32))]))
    refine go (fun _ => XS.iload X213.here hx rfl (hb hby at_155) rfl) ?_
    show Go _ p e below s _ _ _ (T213.setTop (mkF m 157 #[.val (.int p1), .val (.int p2), .val (.int p3), .val (.int p4), .val (.int p5), .val (.int (1 : Int32)), .val (.int (1 : Int32)), .val (.ref b176), .val (.ref b177), .val (.ref b178), .val (.ref b207), .val (.ref b209), .val (.int (0 : Int32)), .val (.int (0 : Int32)), .unset, .unset] [(.int (1 : Int32)), (.int (0 : Int32))]))
    refine go (fun _ => XS.iload X213.here hx rfl (hb hby at_157) rfl) ?_
    show Go _ p e below s _ _ _ (T213.setTop (mkF m 159 #[.val (.int p1), .val (.int p2), .val (.int p3), .val (.int p4), .val (.int p5), .val (.int (1 : Int32)), .val (.int (1 : Int32)), .val (.ref b176), .val (.ref b177), .val (.ref b178), .val (.ref b207), .val (.ref b209), .val (.int (0 : Int32)), .val (.int (0 : Int32)), .unset, .unset] [(.int (1 : Int32)), (.int (1 : Int32)), (.int (0 : Int32))]))
    refine go (fun _ => XS.icmpYes X213.here hx rfl (pc0 := 159) (pc' := 166) rfl (hb hby at_159) rfl (flt (by decide : ¬ ((1 : Int32) < (1 : Int32)))).2.1 (by decide) (by decide)) ?_
    show Go _ p e below s _ _ _ (T213.setTop (mkF m 166 #[.val (.int p1), .val (.int p2), .val (.int p3), .val (.int p4), .val (.int p5), .val (.int (1 : Int32)), .val (.int (1 : Int32)), .val (.ref b176), .val (.ref b177), .val (.ref b178), .val (.ref b207), .val (.ref b209), .val (.int (0 : Int32)), .val (.int (0 : Int32)), .unset, .unset] [(.int (0 : Int32))]))
    refine go (fun _ => XS.iconst X213.here hx rfl (hb hby at_166)) ?_
    show Go _ p e below s _ _ _ (T213.setTop (mkF m 167 #[.val (.int p1), .val (.int p2), .val (.int p3), .val (.int p4), .val (.int p5), .val (.int (1 : Int32)), .val (.int (1 : Int32)), .val (.ref b176), .val (.ref b177), .val (.ref b178), .val (.ref b207), .val (.ref b209), .val (.int (0 : Int32)), .val (.int (0 : Int32)), .unset, .unset] [(.int (0 : Int32)), (.int (0 : Int32))]))
    refine go (fun _ => XS.icmpNo X213.here hx rfl (hb hby at_167) rfl (teq (rfl : (0 : Int32) = (0 : Int32))).2) ?_
    show Go _ p e below s _ _ _ (T213.setTop (mkF m 170 #[.val (.int p1), .val (.int p2), .val (.int p3), .val (.int p4), .val (.int p5), .val (.int (1 : Int32)), .val (.int (1 : Int32)), .val (.ref b176), .val (.ref b177), .val (.ref b178), .val (.ref b207), .val (.ref b209), .val (.int (0 : Int32)), .val (.int (0 : Int32)), .unset, .unset] []))
    refine go (fun _ => XS.iload X213.here hx rfl (hb hby at_170) rfl) ?_
    show Go _ p e below s _ _ _ (T213.setTop (mkF m 172 #[.val (.int p1), .val (.int p2), .val (.int p3), .val (.int p4), .val (.int p5), .val (.int (1 : Int32)), .val (.int (1 : Int32)), .val (.ref b176), .val (.ref b177), .val (.ref b178), .val (.ref b207), .val (.ref b209), .val (.int (0 : Int32)), .val (.int (0 : Int32)), .unset, .unset] [(.int (0 : Int32))]))
    refine go (fun _ => XS.iload X213.here hx rfl (hb hby at_172) rfl) ?_
    show Go _ p e below s _ _ _ (T213.setTop (mkF m 174 #[.val (.int p1), .val (.int p2), .val (.int p3), .val (.int p4), .val (.int p5), .val (.int (1 : Int32)), .val (.int (1 : Int32)), .val (.ref b176), .val (.ref b177), .val (.ref b178), .val (.ref b207), .val (.ref b209), .val (.int (0 : Int32)), .val (.int (0 : Int32)), .unset, .unset] [(.int (0 : Int32)), (.int (0 : Int32))]))
    refine go (fun _ => XS.icmpYes X213.here hx rfl (pc0 := 174) (pc' := 179) rfl (hb hby at_174) rfl (teq (rfl : (0 : Int32) = (0 : Int32))).1 (by decide) (by decide)) ?_
    show Go _ p e below s _ _ _ (T213.setTop (mkF m 179 #[.val (.int p1), .val (.int p2), .val (.int p3), .val (.int p4), .val (.int p5), .val (.int (1 : Int32)), .val (.int (1 : Int32)), .val (.ref b176), .val (.ref b177), .val (.ref b178), .val (.ref b207), .val (.ref b209), .val (.int (0 : Int32)), .val (.int (0 : Int32)), .unset, .unset] []))
    refine go (fun _ => XS.iload X213.here hx rfl (hb hby at_179) rfl) ?_
    show Go _ p e below s _ _ _ (T213.setTop (mkF m 181 #[.val (.int p1), .val (.int p2), .val (.int p3), .val (.int p4), .val (.int p5), .val (.int (1 : Int32)), .val (.int (1 : Int32)), .val (.ref b176), .val (.ref b177), .val (.ref b178), .val (.ref b207), .val (.ref b209), .val (.int (0 : Int32)), .val (.int (0 : Int32)), .unset, .unset] [(.int (0 : Int32))]))
    refine go (fun _ => XS.ifNo X213.here hx rfl (hb hby at_181) rfl ((if0 _ _).trans (teq (rfl : (0 : Int32) = (0 : Int32))).2)) ?_
    show Go _ p e below s _ _ _ (T213.setTop (mkF m 184 #[.val (.int p1), .val (.int p2), .val (.int p3), .val (.int p4), .val (.int p5), .val (.int (1 : Int32)), .val (.int (1 : Int32)), .val (.ref b176), .val (.ref b177), .val (.ref b178), .val (.ref b207), .val (.ref b209), .val (.int (0 : Int32)), .val (.int (0 : Int32)), .unset, .unset] []))
    refine go (fun _ => XS.iconst X213.here hx rfl (hb hby at_184)) ?_
    show Go _ p e below s _ _ _ (T213.setTop (mkF m 185 #[.val (.int p1), .val (.int p2), .val (.int p3), .val (.int p4), .val (.int p5), .val (.int (1 : Int32)), .val (.int (1 : Int32)), .val (.ref b176), .val (.ref b177), .val (.ref b178), .val (.ref b207), .val (.ref b209), .val (.int (0 : Int32)), .val (.int (0 : Int32)), .unset, .unset] [(.int (1 : Int32))]))
    refine goRet X213 hx Bd.notSynchronized Bd.returns rfl (Or.inl ⟨rfl, Or.inr (Or.inl rfl), _, rfl⟩) (hb hby at_185) (by decide) (by decide) (by rw [e213]; refine ⟨rfl, N213⟩)
  · rw [show own_min (2 : Int32) (1 : Int32) = (1 : Int32) from by decide]
    show Go _ p e below s _ _ _ (T178.setTop (mkF m 49 #[.val (.int p1), .val (.int p2), .val (.int p3), .val (.int p4), .val (.int p5), .val (.int (1 : Int32)), .val (.int (1 : Int32)), .val (.ref b176), .val (.ref b177), .val (.ref b178), .unset, .unset, .unset, .unset, .unset, .unset] []))
    refine go (fun _ => XS.iload X178.here hx rfl (hb hby at_49) rfl) ?_
    show Go _ p e below s _ _ _ (T178.setTop (mkF m 51 #[.val (.int p1), .val (.int p2), .val (.int p3), .val (.int p4), .val (.int p5), .val (.int (1 : Int32)), .val (.int (1 : Int32)), .val (.ref b176), .val (.ref b177), .val (.ref b178), .unset, .unset, .unset, .unset, .unset, .unset] [(.int (1 : Int32))]))
    obtain ⟨T214, h214, k214, X214, e214, E214, A214, AE214, O214, st214⟩ := newRE X178 hx hZ hown (hw _ (List.mem_of_getElem? (i := 30) rfl)) (hw _ (List.mem_of_getElem? (i := 31) rfl)) rfl (g := (mkF m 51 #[.val (.int p1), .val (.int p2), .val (.int p3), .val (.int p4), .val (.int p5), .val (.int (1 : Int32)), .val (.int (1 : Int32)), .val (.ref b176), .val (.ref b177), .val (.ref b178), .unset, .unset, .unset, .unset, .unset, .unset] [(.int (1 : Int32))])) rfl (hb hby at_51) rfl (by decide) (cap := 1) (by decide) (by decide) (by decide) (by decide) (ad := "[Ljava/lang/String;") (by first | rfl | decide)
    obtain ⟨b214, g214⟩ : ∃ z, z = T178.heap.size := ⟨_, rfl⟩
    rw [← g214] at A214 AE214 st214
    have lt214_b176_b214 : b176 < b214 := Nat.lt_of_lt_of_le c178_1.lt (Nat.le_of_eq g214.symm)
    have lt214_b177_b214 : b177 < b214 := Nat.lt_of_lt_of_le c178_2.lt (Nat.le_of_eq g214.symm)
    have lt214_b178_b214 : b178 < b214 := Nat.lt_of_lt_of_le u178_3.lt (Nat.le_of_eq g214.symm)
    have G_b214 : n0 ≤ b214 := Nat.le_trans ZN178 (Nat.le_of_eq g214.symm)
    have SZ_b214 : h0.size ≤ b214 := Nat.le_trans KK178.1 (Nat.le_of_eq g214.symm)
    have c214_1 := c178_1.ext E214
    have c214_2 := c178_2.ext E214
    have c214_3 := u178_3.ext E214
    have KK214 : Keep h0 h214 [] := KK178.ext E214
    have ZN214 : n0 ≤ h214.size := Nat.le_trans ZN178 E214.1
    have OL214 := OL178.ext E214
    have V214 : Arv Z h214 b214 k214 (.object "java/lang/String") (1 : Int32) [.null] .null := (Arv.new A214 (by decide)).pad (pad_rep [] .null 1)
    refine go st214 ?_
    show Go _ p e below s _ _ _ (T214.setTop (mkF m 54 #[.val (.int p1), .val (.int p2), .val (.int p3), .val (.int p4), .val (.int p5), .val (.int (1 : Int32)), .val (.int (1 : Int32)), .val (.ref b176), .val (.ref b177), .val (.ref b178), .unset, .unset, .unset, .unset, .unset, .unset] [(.ref b214)]))
    refine go (fun _ => XS.astore X214.here hx rfl (hb hby at_54) rfl rfl (l' := #[.val (.int p1), .val (.int p2), .val (.int p3), .val (.int p4), .val (.int p5), .val (.int (1 : Int32)), .val (.int (1 : Int32)), .val (.ref b176), .val (.ref b177), .val (.ref b178), .val (.ref b214), .unset, .unset, .unset, .unset, .unset]) rfl) ?_
    show Go _ p e below s _ _ _ (T214.setTop (mkF m 56 #[.val (.int p1), .val (.int p2), .val (.int p3), .val (.int p4), .val (.int p5), .val (.int (1 : Int32)), .val (.int (1 : Int32)), .val (.ref b176), .val (.ref b177), .val (.ref b178), .val (.ref b214), .unset, .unset, .unset, .unset, .unset] []))
    refine go (fun _ => XS.iload X214.here hx rfl (hb hby at_56) rfl) ?_
    show Go _ p e below s _ _ _ (T214.setTop (mkF m 58 #[.val (.int p1), .val (.int p2), .val (.int p3), .val (.int p4), .val (.int p5), .val (.int (1 : Int32)), .val (.int (1 : Int32)), .val (.ref b176), .val (.ref b177), .val (.ref b178), .val (.ref b214), .unset, .unset, .unset, .unset, .unset] [(.int (1 : Int32))]))
    refine go (fun _ => XS.iconst X214.here hx rfl (hb hby at_58)) ?_
    show Go _ p e below s _ _ _ (T214.setTop (mkF m 59 #[.val (.int p1), .val (.int p2), .val (.int p3), .val (.int p4), .val (.int p5), .val (.int (1 : Int32)), .val (.int (1 : Int32)), .val (.ref b176), .val (.ref b177), .val (.ref b178), .val (.ref b214), .unset, .unset, .unset, .unset, .unset] [(.int (1 : Int32)), (.int (1 : Int32))]))
    refine go (fun _ => XS.icmpNo X214.here hx rfl (hb hby at_59) rfl (flt (by decide : ¬ ((1 : Int32) < (1 : Int32)))).1) ?_
    show Go _ p e below s _ _ _ (T214.setTop (mkF m 62 #[.val (.int p1), .val (.int p2), .val (.int p3), .val (.int p4), .val (.int p5), .val (.int (1 : Int32)), .val (.int (1 : Int32)), .val (.ref b176), .val (.ref b177), .val (.ref b178), .val (.ref b214), .unset, .unset, .unset, .unset, .unset] []))
    refine go (fun _ => XS.aload X214.here hx rfl (hb hby at_62) rfl rfl) ?_
    show Go _ p e below s _ _ _ (T214.setTop (mkF m 64 #[.val (.int p1), .val (.int p2), .val (.int p3), .val (.int p4), .val (.int p5), .val (.int (1 : Int32)), .val (.int (1 : Int32)), .val (.ref b176), .val (.ref b177), .val (.ref b178), .val (.ref b214), .unset, .unset, .unset, .unset, .unset] [(.ref b214)]))
    refine go (fun _ => XS.iconst X214.here hx rfl (hb hby at_64)) ?_
    show Go _ p e below s _ _ _ (T214.setTop (mkF m 65 #[.val (.int p1), .val (.int p2), .val (.int p3), .val (.int p4), .val (.int p5), .val (.int (1 : Int32)), .val (.int (1 : Int32)), .val (.ref b176), .val (.ref b177), .val (.ref b178), .val (.ref b214), .unset, .unset, .unset, .unset, .unset] [(.int (0 : Int32)), (.ref b214)]))
    refine go (fun _ => XS.aload X214.here hx rfl (hb hby at_65) rfl rfl) ?_
    show Go _ p e below s _ _ _ (T214.setTop (mkF m 67 #[.val (.int p1), .val (.int p2), .val (.int p3), .val (.int p4), .val (.int p5), .val (.int (1 : Int32)), .val (.int (1 : Int32)), .val (.ref b176), .val (.ref b177), .val (.ref b178), .val (.ref b214), .unset, .unset, .unset, .unset, .unset] [(.ref b176), (.int (0 : Int32)), (.ref b214)]))
    obtain ⟨cl215, Ar215, q215, Sz215, Nz215, Hs215, Gs215⟩ := id V214
    have hin215 : ¬ ((0 : Int32) < 0 ∨ cl215.slots.size ≤ ((0 : Int32)).toNatClampNeg) := inb_of Sz215 ⟨by decide, by decide⟩
    obtain ⟨T215, h215, X215, e215, W215, st215⟩ := stR X214 hx hZ e214 Ar215 (j := (0 : Int32)) hin215 rfl (Sto.ofV Ar215 q215 O214 (Ins.self c214_1)) (g := (mkF m 67 #[.val (.int p1), .val (.int p2), .val (.int p3), .val (.int p4), .val (.int p5), .val (.int (1 : Int32)), .val (.int (1 : Int32)), .val (.ref b176), .val (.ref b177), .val (.ref b178), .val (.ref b214), .unset, .unset, .unset, .unset, .unset] [(.ref b176), (.int (0 : Int32)), (.ref b214)])) rfl rfl (hb hby at_67)
    have V215 := Arv.set Ar215 q215 Sz215 Nz215 Hs215 Gs215 rfl W215 0 rfl (Nat.le_of_ble_eq_true rfl)
    have VV215 : Arv Z h215 b214 k214 (.object "java/lang/String") (1 : Int32) [(.ref b176)] .null := V215
    have c215_1 := c214_1.wr W215
    have c215_2 := c214_2.wr W215
    have c215_3 := c214_3.wr W215
    have c215_4 := AE214.wr W215
    have KK215 : Keep h0 h215 [] := KK214.wr W215 (Or.inr SZ_b214)
    have ZN215 : n0 ≤ h215.size := Nat.le_trans ZN214 (Keep.of_wr W215).1
    have NN215 := Fr.snoc X215 N178 G_b214
    have OL215 := OL214.wr W215 G_b214
    refine go st215 ?_
    show Go _ p e below s _ _ _ (T215.setTop (mkF m 68 #[.val (.int p1), .val (.int p2), .val (.int p3), .val (.int p4), .val (.int p5), .val (.int (1 : Int32)), .val (.int (1 : Int32)), .val (.ref b176), .val (.ref b177), .val (.ref b178), .val (.ref b214), .unset, .unset, .unset, .unset, .unset] []))
    refine go (fun _ => XS.iload X215.here hx rfl (hb hby at_68) rfl) ?_
    show Go _ p e below s _ _ _ (T215.setTop (mkF m 70 #[.val (.int p1), .val (.int p2), .val (.int p3), .val (.int p4), .val (.int p5), .val (.int (1 : Int32)), .val (.int (1 : Int32)), .val (.ref b176), .val (.ref b177), .val (.ref b178), .val (.ref b214), .unset, .unset, .unset, .unset, .unset] [(.int (1 : Int32))]))
    refine go (fun _ => XS.iconst X215.here hx rfl (hb hby at_70)) ?_
    show Go _ p e below s _ _ _ (T215.setTop (mkF m 71 #[.val (.int p1), .val (.int p2), .val (.int p3), .val (.int p4), .val (.int p5), .val (.int (1 : Int32)), .val (.int (1 : Int32)), .val (.ref b176), .val (.ref b177), .val (.ref b178), .val (.ref b214), .unset, .unset, .unset, .unset, .unset] [(.int (2 : Int32)), (.int (1 : Int32))]))
    refine go (fun _ => XS.icmpYes X215.here hx rfl (pc0 := 71) (pc' := 80) rfl (hb hby at_71) rfl (tlt (by decide : ((1 : Int32) < (2 : Int32)))).1 (by decide) (by decide)) ?_
    show Go _ p e below s _ _ _ (T215.setTop (mkF m 80 #[.val (.int p1), .val (.int p2), .val (.int p3), .val (.int p4), .val (.int p5), .val (.int (1 : Int32)), .val (.int (1 : Int32)), .val (.ref b176), .val (.ref b177), .val (.ref b178), .val (.ref b214), .unset, .unset, .unset, .unset, .unset] []))
    refine go (fun _ => XS.iload X215.here hx rfl (hb hby at_80) rfl) ?_
    show Go _ p e below s _ _ _ (T215.setTop (mkF m 82 #[.val (.int p1), .val (.int p2), .val (.int p3), .val (.int p4), .val (.int p5), .val (.int (1 : Int32)), .val (.int (1 : Int32)), .val (.ref b176), .val (.ref b177), .val (.ref b178), .val (.ref b214), .unset, .unset, .unset, .unset, .unset] [(.int (1 : Int32))]))
    refine go (fun _ => XS.iconst X215.here hx rfl (hb hby at_82)) ?_
    show Go _ p e below s _ _ _ (T215.setTop (mkF m 83 #[.val (.int p1), .val (.int p2), .val (.int p3), .val (.int p4), .val (.int p5), .val (.int (1 : Int32)), .val (.int (1 : Int32)), .val (.ref b176), .val (.ref b177), .val (.ref b178), .val (.ref b214), .unset, .unset, .unset, .unset, .unset] [(.int (3 : Int32)), (.int (1 : Int32))]))
    refine go (fun _ => XS.icmpYes X215.here hx rfl (pc0 := 83) (pc' := 92) rfl (hb hby at_83) rfl (tlt (by decide : ((1 : Int32) < (3 : Int32)))).1 (by decide) (by decide)) ?_
    show Go _ p e below s _ _ _ (T215.setTop (mkF m 92 #[.val (.int p1), .val (.int p2), .val (.int p3), .val (.int p4), .val (.int p5), .val (.int (1 : Int32)), .val (.int (1 : Int32)), .val (.ref b176), .val (.ref b177), .val (.ref b178), .val (.ref b214), .unset, .unset, .unset, .unset, .unset] []))
    obtain ⟨T216, h216, X216, e216, E216, A216, D216, -, st216⟩ := newO X215 hx hZ hown (hw _ (List.mem_of_getElem? (i := 32) rfl)) (hw _ (List.mem_of_getElem? (i := 33) rfl)) (hw _ (List.mem_of_getElem? (i := 34) rfl)) e215 (g := (mkF m 92 #[.val (.int p1), .val (.int p2), .val (.int p3), .val (.int p4), .val (.int p5), .val (.int (1 : Int32)), .val (.int (1 : Int32)), .val (.ref b176), .val (.ref b177), .val (.ref b178), .val (.ref b214), .unset, .unset, .unset, .unset, .unset] [])) rfl (hb hby at_92) (by decide) (by decide)
    obtain ⟨b216, g216⟩ : ∃ z, z = h215.size := ⟨_, rfl⟩
    rw [← g216] at A216 D216 st216
    have lt216_b176_b216 : b176 < b216 := Nat.lt_of_lt_of_le c215_1.lt (Nat.le_of_eq g216.symm)
    have lt216_b177_b216 : b177 < b216 := Nat.lt_of_lt_of_le c215_2.lt (Nat.le_of_eq g216.symm)
    have lt216_b178_b216 : b178 < b216 := Nat.lt_of_lt_of_le c215_3.lt (Nat.le_of_eq g216.symm)
    have lt216_b214_b216 : b214 < b216 := Nat.lt_of_lt_of_le c215_4.lt (Nat.le_of_eq g216.symm)
    have G_b216 : n0 ≤ b216 := Nat.le_trans ZN215 (Nat.le_of_eq g216.symm)
    have SZ_b216 : h0.size ≤ b216 := Nat.le_trans KK215.1 (Nat.le_of_eq g216.symm)
    have c216_1 := c215_1.ext E216
    have c216_2 := c215_2.ext E216
    have c216_3 := c215_3.ext E216
    have c216_4 := c215_4.ext E216
    have c216_5 := VV215.ext E216
    have KK216 : Keep h0 h216 [] := KK215.ext E216
    have ZN216 : n0 ≤ h216.size := Nat.le_trans ZN215 E216.1
    have OL216 := OL215.ext E216
    have F216_49 : Fld Z h216 b216 "com/example/sunder/sunder/cli/Arguments" "args" "[Ljava/lang/String;" .null := D216 (Or.inr (hw _ (List.mem_of_getElem? (i := 49) rfl))) (ty := (.array (.object "java/lang/String"))) (by decide)
    have F216_56 : Fld Z h216 b216 "com/example/sunder/sunder/cli/Arguments" "next" "I" (.int (0 : Int32)) := D216 (Or.inl (hw _ (List.mem_of_getElem? (i := 56) rfl))) (ty := .int) (by decide)
    refine go st216 ?_
    show Go _ p e below s _ _ _ (T216.setTop (mkF m 95 #[.val (.int p1), .val (.int p2), .val (.int p3), .val (.int p4), .val (.int p5), .val (.int (1 : Int32)), .val (.int (1 : Int32)), .val (.ref b176), .val (.ref b177), .val (.ref b178), .val (.ref b214), .unset, .unset, .unset, .unset, .unset] [(.ref b216)]))
    refine go (fun _ => XS.dup X216.here hx rfl (hb hby at_95) rfl rfl) ?_
    show Go _ p e below s _ _ _ (T216.setTop (mkF m 96 #[.val (.int p1), .val (.int p2), .val (.int p3), .val (.int p4), .val (.int p5), .val (.int (1 : Int32)), .val (.int (1 : Int32)), .val (.ref b176), .val (.ref b177), .val (.ref b178), .val (.ref b214), .unset, .unset, .unset, .unset, .unset] [(.ref b216), (.ref b216)]))
    refine go (fun _ => XS.aload X216.here hx rfl (hb hby at_96) rfl rfl) ?_
    show Go _ p e below s _ _ _ (T216.setTop (mkF m 98 #[.val (.int p1), .val (.int p2), .val (.int p3), .val (.int p4), .val (.int p5), .val (.int (1 : Int32)), .val (.int (1 : Int32)), .val (.ref b176), .val (.ref b177), .val (.ref b178), .val (.ref b214), .unset, .unset, .unset, .unset, .unset] [(.ref b214), (.ref b216), (.ref b216)]))
    obtain ⟨_, _, ⟨T217, L217, k217, n217⟩, -, X217, ⟨Lc217, hQ217, l217, y217, z217⟩, st217⟩ := X216.specialBack hx (y := (⟨"com/example/sunder/sunder/cli/Arguments", "<init>", "([Ljava/lang/String;)V"⟩ : MethodName)) rfl hown (mvT hZ (hw _ (List.mem_of_getElem? (i := 35) rfl))) (mvT hZ (hw _ (List.mem_of_getElem? (i := 36) rfl))) (mvT hZ (hw _ (List.mem_of_getElem? (i := 37) rfl))) (by decide) (backOf (W := 1) (rmI1 l Z a0 hw [] b216 b214 k214 b176 .null h216 n0 ZN216 A216 F216_49 F216_56 G_b216 c216_4 c216_5 (Ne.symm (Nat.ne_of_lt lt216_b214_b216))) hZ (hw _ (List.mem_of_getElem? (i := 37) rfl)) (hw _ (List.mem_of_getElem? (i := 34) rfl)) (by decide) (by decide)) (g := (mkF m 98 #[.val (.int p1), .val (.int p2), .val (.int p3), .val (.int p4), .val (.int p5), .val (.int (1 : Int32)), .val (.int (1 : Int32)), .val (.ref b176), .val (.ref b177), .val (.ref b178), .val (.ref b214), .unset, .unset, .unset, .unset, .unset] [(.ref b214), (.ref b216), (.ref b216)])) rfl (by rw [hml]; rfl) (Steps.refl _) (a := b216) (argsL := [(.ref b214)]) (rest := [(.ref b216)]) (lenOf pd_0_2 rfl) rfl (by show 2 * 0 + _ ≤ _; exact Nat.le_of_eq rfl) (hb hby at_98) (fun _ _ => ⟨rfl, e216, (by decide : 8 + 1 ≤ _), (by decide : 18 + 1 ≤ _)⟩)
    dsimp only [Pt.U, Pt.locs, Pt.cells, Pt.slots] at X217 l217 y217 z217 st217 hQ217
    subst l217 y217 z217
    obtain ⟨b217, rfl, N217q, u217_0, u217_1, K217, u217_3, u217_4, u217_5, u217_6⟩ := hQ217
    have N217 := Fr.app NN215 N217q
    have lt217_b176_b217 : b176 < b217 := Nat.lt_of_lt_of_le c216_1.lt u217_0
    have lt217_b177_b217 : b177 < b217 := Nat.lt_of_lt_of_le c216_2.lt u217_0
    have lt217_b178_b217 : b178 < b217 := Nat.lt_of_lt_of_le c216_3.lt u217_0
    have lt217_b214_b217 : b214 < b217 := Nat.lt_of_lt_of_le c216_4.lt u217_0
    have lt217_b216_b217 : b216 < b217 := Nat.lt_of_lt_of_le A216.lt u217_0
    have G_b217 : n0 ≤ b217 := Nat.le_trans ZN216 u217_0
    have SZ_b217 : h0.size ≤ b217 := Nat.le_trans KK216.1 u217_0
    have c217_1 := c216_1.keep K217
    have c217_2 := c216_2.keep K217
    have c217_3 := c216_3.keep K217
    have c217_4 := c216_4.keep K217
    have c217_5 := c216_5.keep K217 (ninS (Nat.ne_of_lt lt216_b214_b216) nin0)
    have c217_6 := A216.keep K217
    have KK217 : Keep h0 T217.heap [] := KK216.trans K217 (allS (P := fun x => x ∈ [] ∨ h0.size ≤ x) (Or.inr SZ_b216) all0)
    have ZN217 : n0 ≤ T217.heap.size := Nat.le_trans ZN216 K217.1
    have OL217 := OL216.keep K217 (allS G_b216 all0)
    refine goT st217 ?_
    show Go _ p e below s _ _ _ (T217.setTop (mkF m 101 #[.val (.int p1), .val (.int p2), .val (.int p3), .val (.int p4), .val (.int p5), .val (.int (1 : Int32)), .val (.int (1 : Int32)), .val (.ref b176), .val (.ref b177), .val (.ref b178), .val (.ref b214), .unset, .unset, .unset, .unset, .unset] [(.ref b216)]))
    refine go (fun _ => XS.astore X217.here hx rfl (hb hby at_101) rfl rfl (l' := #[.val (.int p1), .val (.int p2), .val (.int p3), .val (.int p4), .val (.int p5), .val (.int (1 : Int32)), .val (.int (1 : Int32)), .val (.ref b176), .val (.ref b177), .val (.ref b178), .val (.ref b214), .val (.ref b216), .unset, .unset, .unset, .unset]) rfl) ?_
    show Go _ p e below s _ _ _ (T217.setTop (mkF m 103 #[.val (.int p1), .val (.int p2), .val (.int p3), .val (.int p4), .val (.int p5), .val (.int (1 : Int32)), .val (.int (1 : Int32)), .val (.ref b176), .val (.ref b177), .val (.ref b178), .val (.ref b214), .val (.ref b216), .unset, .unset, .unset, .unset] []))
    refine go (fun _ => XS.iload X217.here hx rfl (hb hby at_103) rfl) ?_
    show Go _ p e below s _ _ _ (T217.setTop (mkF m 105 #[.val (.int p1), .val (.int p2), .val (.int p3), .val (.int p4), .val (.int p5), .val (.int (1 : Int32)), .val (.int (1 : Int32)), .val (.ref b176), .val (.ref b177), .val (.ref b178), .val (.ref b214), .val (.ref b216), .unset, .unset, .unset, .unset] [(.int (1 : Int32))]))
    refine go (fun _ => XS.iconst X217.here hx rfl (hb hby at_105)) ?_
    show Go _ p e below s _ _ _ (T217.setTop (mkF m 106 #[.val (.int p1), .val (.int p2), .val (.int p3), .val (.int p4), .val (.int p5), .val (.int (1 : Int32)), .val (.int (1 : Int32)), .val (.ref b176), .val (.ref b177), .val (.ref b178), .val (.ref b214), .val (.ref b216), .unset, .unset, .unset, .unset] [(.int (1 : Int32)), (.int (1 : Int32))]))
    refine go (fun _ => XS.icmpNo X217.here hx rfl (hb hby at_106) rfl (flt (by decide : ¬ ((1 : Int32) < (1 : Int32)))).1) ?_
    show Go _ p e below s _ _ _ (T217.setTop (mkF m 109 #[.val (.int p1), .val (.int p2), .val (.int p3), .val (.int p4), .val (.int p5), .val (.int (1 : Int32)), .val (.int (1 : Int32)), .val (.ref b176), .val (.ref b177), .val (.ref b178), .val (.ref b214), .val (.ref b216), .unset, .unset, .unset, .unset] []))
    refine go (fun _ => XS.aload X217.here hx rfl (hb hby at_109) rfl rfl) ?_
    show Go _ p e below s _ _ _ (T217.setTop (mkF m 111 #[.val (.int p1), .val (.int p2), .val (.int p3), .val (.int p4), .val (.int p5), .val (.int (1 : Int32)), .val (.int (1 : Int32)), .val (.ref b176), .val (.ref b177), .val (.ref b178), .val (.ref b214), .val (.ref b216), .unset, .unset, .unset, .unset] [(.ref b216)]))
    obtain ⟨cq218, kq218, q218a, q218b, q218c⟩ := isOf hZ rfl c217_6
    obtain ⟨_, _, ⟨T218, L218, k218, n218⟩, -, X218, ⟨Lc218, hQ218, l218, y218, z218⟩, st218⟩ := X217.virtualBack hx (y := (⟨"com/example/sunder/sunder/cli/Arguments", "next", "()Ljava/lang/String;"⟩ : MethodName)) (z := (⟨"com/example/sunder/sunder/cli/Arguments", "next", "()Ljava/lang/String;"⟩ : MethodName)) hown (mvT hZ (hw _ (List.mem_of_getElem? (i := 57) rfl))) (mvT hZ (hw _ (List.mem_of_getElem? (i := 58) rfl))) (notFace_of_selects (args := #[]) (mvT hZ (hw _ (List.mem_of_getElem? (i := 60) rfl)))) (mvT hZ (hw _ (List.mem_of_getElem? (i := 60) rfl))) (mvT hZ (hw _ (List.mem_of_getElem? (i := 59) rfl))) (by decide) (backOf (W := 0) (rmN1_0 l Z a0 hw [] b216 b217 k214 b176 (T217.heap) n0 ZN217 c217_6 u217_3 u217_4 G_b216 u217_6 (Nat.ne_of_lt lt217_b216_b217)) hZ (hw _ (List.mem_of_getElem? (i := 61) rfl)) (hw _ (List.mem_of_getElem? (i := 34) rfl)) (by decide) (by decide)) q218a q218c (g := (mkF m 111 #[.val (.int p1), .val (.int p2), .val (.int p3), .val (.int p4), .val (.int p5), .val (.int (1 : Int32)), .val (.int (1 : Int32)), .val (.ref b176), .val (.ref b177), .val (.ref b178), .val (.ref b214), .val (.ref b216), .unset, .unset, .unset, .unset] [(.ref b216)])) rfl (by rw [hml]; rfl) (Steps.refl _) (argsL := []) (rest := []) (lenOf pd_0_4 rfl) rfl (by show 2 * 0 + _ ≤ _; exact Nat.le_of_eq rfl) (hb hby at_111) (fun _ _ => ⟨rfl, rfl, (by decide : 9 + 0 ≤ _), (by decide : 19 + 0 ≤ _)⟩)
    dsimp only [Pt.U, Pt.locs, Pt.cells, Pt.slots] at X218 l218 y218 z218 st218 hQ218
    subst l218 y218 z218
    obtain ⟨rfl, N218q, K218, u218_1, u218_2⟩ := hQ218
    have N218 := Fr.app N217 N218q
    have c218_1 := c217_1.keep K218
    have c218_2 := c217_2.keep K218
    have c218_3 := c217_3.keep K218
    have c218_4 := c217_4.keep K218
    have c218_5 := c217_5.keep K218 (ninS (Nat.ne_of_lt lt216_b214_b216) nin0)
    have c218_6 := c217_6.keep K218
    have c218_7 := u217_5.keep K218
    have c218_8 := u217_6.keep K218 (ninS (Ne.symm (Nat.ne_of_lt lt217_b216_b217)) nin0)
    have KK218 : Keep h0 T218.heap [] := KK217.trans K218 (allS (P := fun x => x ∈ [] ∨ h0.size ≤ x) (Or.inr SZ_b216) all0)
    have ZN218 : n0 ≤ T218.heap.size := Nat.le_trans ZN217 K218.1
    have OL218 := OL217.keep K218 (allS G_b216 all0)
    refine goT st218 ?_
    show Go _ p e below s _ _ _ (T218.setTop (mkF m 114 #[.val (.int p1), .val (.int p2), .val (.int p3), .val (.int p4), .val (.int p5), .val (.int (1 : Int32)), .val (.int (1 : Int32)), .val (.ref b176), .val (.ref b177), .val (.ref b178), .val (.ref b214), .val (.ref b216), .unset, .unset, .unset, .unset] [(.ref b176)]))
    refine go (fun _ => XS.pop X218.here hx rfl (hb hby at_114) rfl rfl) ?_
    show Go _ p e below s _ _ _ (T218.setTop (mkF m 115 #[.val (.int p1), .val (.int p2), .val (.int p3), .val (.int p4), .val (.int p5), .val (.int (1 : Int32)), .val (.int (1 : Int32)), .val (.ref b176), .val (.ref b177), .val (.ref b178), .val (.ref b214), .val (.ref b216), .unset, .unset, .unset, .unset] []))
    refine go (fun _ => XS.iload X218.here hx rfl (hb hby at_115) rfl) ?_
    show Go _ p e below s _ _ _ (T218.setTop (mkF m 117 #[.val (.int p1), .val (.int p2), .val (.int p3), .val (.int p4), .val (.int p5), .val (.int (1 : Int32)), .val (.int (1 : Int32)), .val (.ref b176), .val (.ref b177), .val (.ref b178), .val (.ref b214), .val (.ref b216), .unset, .unset, .unset, .unset] [(.int (1 : Int32))]))
    refine go (fun _ => XS.iconst X218.here hx rfl (hb hby at_117)) ?_
    show Go _ p e below s _ _ _ (T218.setTop (mkF m 118 #[.val (.int p1), .val (.int p2), .val (.int p3), .val (.int p4), .val (.int p5), .val (.int (1 : Int32)), .val (.int (1 : Int32)), .val (.ref b176), .val (.ref b177), .val (.ref b178), .val (.ref b214), .val (.ref b216), .unset, .unset, .unset, .unset] [(.int (2 : Int32)), (.int (1 : Int32))]))
    refine go (fun _ => XS.icmpYes X218.here hx rfl (pc0 := 118) (pc' := 127) rfl (hb hby at_118) rfl (tlt (by decide : ((1 : Int32) < (2 : Int32)))).1 (by decide) (by decide)) ?_
    show Go _ p e below s _ _ _ (T218.setTop (mkF m 127 #[.val (.int p1), .val (.int p2), .val (.int p3), .val (.int p4), .val (.int p5), .val (.int (1 : Int32)), .val (.int (1 : Int32)), .val (.ref b176), .val (.ref b177), .val (.ref b178), .val (.ref b214), .val (.ref b216), .unset, .unset, .unset, .unset] []))
    refine go (fun _ => XS.iload X218.here hx rfl (hb hby at_127) rfl) ?_
    show Go _ p e below s _ _ _ (T218.setTop (mkF m 129 #[.val (.int p1), .val (.int p2), .val (.int p3), .val (.int p4), .val (.int p5), .val (.int (1 : Int32)), .val (.int (1 : Int32)), .val (.ref b176), .val (.ref b177), .val (.ref b178), .val (.ref b214), .val (.ref b216), .unset, .unset, .unset, .unset] [(.int (1 : Int32))]))
    refine go (fun _ => XS.iconst X218.here hx rfl (hb hby at_129)) ?_
    show Go _ p e below s _ _ _ (T218.setTop (mkF m 130 #[.val (.int p1), .val (.int p2), .val (.int p3), .val (.int p4), .val (.int p5), .val (.int (1 : Int32)), .val (.int (1 : Int32)), .val (.ref b176), .val (.ref b177), .val (.ref b178), .val (.ref b214), .val (.ref b216), .unset, .unset, .unset, .unset] [(.int (3 : Int32)), (.int (1 : Int32))]))
    refine go (fun _ => XS.icmpYes X218.here hx rfl (pc0 := 130) (pc' := 139) rfl (hb hby at_130) rfl (tlt (by decide : ((1 : Int32) < (3 : Int32)))).1 (by decide) (by decide)) ?_
    show Go _ p e below s _ _ _ (T218.setTop (mkF m 139 #[.val (.int p1), .val (.int p2), .val (.int p3), .val (.int p4), .val (.int p5), .val (.int (1 : Int32)), .val (.int (1 : Int32)), .val (.ref b176), .val (.ref b177), .val (.ref b178), .val (.ref b214), .val (.ref b216), .unset, .unset, .unset, .unset] []))
    refine go (fun _ => XS.aload X218.here hx rfl (hb hby at_139) rfl rfl) ?_
    show Go _ p e below s _ _ _ (T218.setTop (mkF m 141 #[.val (.int p1), .val (.int p2), .val (.int p3), .val (.int p4), .val (.int p5), .val (.int (1 : Int32)), .val (.int (1 : Int32)), .val (.ref b176), .val (.ref b177), .val (.ref b178), .val (.ref b214), .val (.ref b216), .unset, .unset, .unset, .unset] [(.ref b216)]))
    obtain ⟨cq219, kq219, q219a, q219b, q219c⟩ := isOf hZ rfl c218_6
    obtain ⟨_, _, ⟨T219, L219, k219, n219⟩, -, X219, ⟨Lc219, hQ219, l219, y219, z219⟩, st219⟩ := X218.virtualBack hx (y := (⟨"com/example/sunder/sunder/cli/Arguments", "hasNext", "()Z"⟩ : MethodName)) (z := (⟨"com/example/sunder/sunder/cli/Arguments", "hasNext", "()Z"⟩ : MethodName)) hown (mvT hZ (hw _ (List.mem_of_getElem? (i := 50) rfl))) (mvT hZ (hw _ (List.mem_of_getElem? (i := 51) rfl))) (notFace_of_selects (args := #[]) (mvT hZ (hw _ (List.mem_of_getElem? (i := 53) rfl)))) (mvT hZ (hw _ (List.mem_of_getElem? (i := 53) rfl))) (mvT hZ (hw _ (List.mem_of_getElem? (i := 52) rfl))) (by decide) (backOf (W := 0) (rmH1_1 l Z a0 hw [] b216 b217 k214 b176 (T218.heap) n0 ZN218 u218_1 u218_2 c218_8) hZ (hw _ (List.mem_of_getElem? (i := 54) rfl)) (hw _ (List.mem_of_getElem? (i := 34) rfl)) (by decide) (by decide)) q219a q219c (g := (mkF m 141 #[.val (.int p1), .val (.int p2), .val (.int p3), .val (.int p4), .val (.int p5), .val (.int (1 : Int32)), .val (.int (1 : Int32)), .val (.ref b176), .val (.ref b177), .val (.ref b178), .val (.ref b214), .val (.ref b216), .unset, .unset, .unset, .unset] [(.ref b216)])) rfl (by rw [hml]; rfl) (Steps.refl _) (argsL := []) (rest := []) (lenOf pd_0_3 rfl) rfl (by show 2 * 0 + _ ≤ _; exact Nat.le_of_eq rfl) (hb hby at_141) (fun _ _ => ⟨rfl, rfl, (by decide : 9 + 0 ≤ _), (by decide : 19 + 0 ≤ _)⟩)
    dsimp only [Pt.U, Pt.locs, Pt.cells, Pt.slots] at X219 l219 y219 z219 st219 hQ219
    subst l219 y219 z219
    obtain ⟨rfl, N219q, e219⟩ := hQ219
    have N219 := Fr.app N218 N219q
    refine goT st219 ?_
    show Go _ p e below s _ _ _ (T219.setTop (mkF m 144 #[.val (.int p1), .val (.int p2), .val (.int p3), .val (.int p4), .val (.int p5), .val (.int (1 : Int32)), .val (.int (1 : Int32)), .val (.ref b176), .val (.ref b177), .val (.ref b178), .val (.ref b214), .val (.ref b216), .unset, .unset, .unset, .unset] [(.int (0 : Int32))]))
    refine go (fun _ => XS.istore X219.here hx rfl (hb hby at_144) rfl (l' := #[.val (.int p1), .val (.int p2), .val (.int p3), .val (.int p4), .val (.int p5), .val (.int (1 : Int32)), .val (.int (1 : Int32)), .val (.ref b176), .val (.ref b177), .val (.ref b178), .val (.ref b214), .val (.ref b216), .val (.int (0 : Int32)), .unset, .unset, .unset]) rfl) ?_
    show Go _ p e below s _ _ _ (T219.setTop (mkF m 146 #[.val (.int p1), .val (.int p2), .val (.int p3), .val (.int p4), .val (.int p5), .val (.int (1 : Int32)), .val (.int (1 : Int32)), .val (.ref b176), .val (.ref b177), .val (.ref b178), .val (.ref b214), .val (.ref b216), .val (.int (0 : Int32)), .unset, .unset, .unset] []))
    refine go (fun _ => XS.aload X219.here hx rfl (hb hby at_146) rfl rfl) ?_
    show Go _ p e below s _ _ _ (T219.setTop (mkF m 148 #[.val (.int p1), .val (.int p2), .val (.int p3), .val (.int p4), .val (.int p5), .val (.int (1 : Int32)), .val (.int (1 : Int32)), .val (.ref b176), .val (.ref b177), .val (.ref b178), .val (.ref b214), .val (.ref b216), .val (.int (0 : Int32)), .unset, .unset, .unset] [(.ref b216)]))
    obtain ⟨cq220, kq220, q220a, q220b, q220c⟩ := isOf hZ e219 c218_6
    obtain ⟨_, _, ⟨T220, L220, k220, n220⟩, -, X220, ⟨Lc220, hQ220, l220, y220, z220⟩, st220⟩ := X219.virtualBack hx (y := (⟨"com/example/sunder/sunder/cli/Arguments", "hasNext", "()Z"⟩ : MethodName)) (z := (⟨"com/example/sunder/sunder/cli/Arguments", "hasNext", "()Z"⟩ : MethodName)) hown (mvT hZ (hw _ (List.mem_of_getElem? (i := 50) rfl))) (mvT hZ (hw _ (List.mem_of_getElem? (i := 51) rfl))) (notFace_of_selects (args := #[]) (mvT hZ (hw _ (List.mem_of_getElem? (i := 53) rfl)))) (mvT hZ (hw _ (List.mem_of_getElem? (i := 53) rfl))) (mvT hZ (hw _ (List.mem_of_getElem? (i := 52) rfl))) (by decide) (backOf (W := 0) (rmH1_1 l Z a0 hw [] b216 b217 k214 b176 (T218.heap) n0 ZN218 u218_1 u218_2 c218_8) hZ (hw _ (List.mem_of_getElem? (i := 54) rfl)) (hw _ (List.mem_of_getElem? (i := 34) rfl)) (by decide) (by decide)) q220a q220c (g := (mkF m 148 #[.val (.int p1), .val (.int p2), .val (.int p3), .val (.int p4), .val (.int p5), .val (.int (1 : Int32)), .val (.int (1 : Int32)), .val (.ref b176), .val (.ref b177), .val (.ref b178), .val (.ref b214), .val (.ref b216), .val (.int (0 : Int32)), .unset, .unset, .unset] [(.ref b216)])) rfl (by rw [hml]; rfl) (Steps.refl _) (argsL := []) (rest := []) (lenOf pd_0_3 rfl) rfl (by show 2 * 0 + _ ≤ _; exact Nat.le_of_eq rfl) (hb hby at_148) (fun _ _ => ⟨rfl, e219, (by decide : 9 + 0 ≤ _), (by decide : 19 + 0 ≤ _)⟩)
    dsimp only [Pt.U, Pt.locs, Pt.cells, Pt.slots] at X220 l220 y220 z220 st220 hQ220
    subst l220 y220 z220
    obtain ⟨rfl, N220q, e220⟩ := hQ220
    have N220 := Fr.app N219 N220q
    refine goT st220 ?_
    show Go _ p e below s _ _ _ (T220.setTop (mkF m 151 #[.val (.int p1), .val (.int p2), .val (.int p3), .val (.int p4), .val (.int p5), .val (.int (1 : Int32)), .val (.int (1 : Int32)), .val (.ref b176), .val (.ref b177), .val (.ref b178), .val (.ref b214), .val (.ref b216), .val (.int (0 : Int32)), .unset, .unset, .unset] [(.int (0 : Int32))]))
    refine go (fun _ => XS.istore X220.here hx rfl (hb hby at_151) rfl (l' := #[.val (.int p1), .val (.int p2), .val (.int p3), .val (.int p4), .val (.int p5), .val (.int (1 : Int32)), .val (.int (1 : Int32)), .val (.ref b176), .val (.ref b177), .val (.ref b178), .val (.ref b214), .val (.ref b216), .val (.int (0 : Int32)), .val (.int (0 : Int32)), .unset, .unset]) rfl) ?_
    show Go _ p e below s _ _ _ (T220.setTop (mkF m 153 #[.val (.int p1), .val (.int p2), .val (.int p3), .val (.int p4), .val (.int p5), .val (.int (1 : Int32)), .val (.int (1 : Int32)), .val (.ref b176), .val (.ref b177), .val (.ref b178), .val (.ref b214), .val (.ref b216), .val (.int (0 : Int32)), .val (.int (0 : Int32)), .unset, .unset] []))
    refine go (fun _ => XS.iload X220.here hx rfl (hb hby at_153) rfl) ?_
    show Go _ p e below s _ _ _ (T220.setTop (mkF m 155 #[.val (.int p1), .val (.int p2), .val (.int p3), .val (.int p4), .val (.int p5), .val (.int (1 : Int32)), .val (.int (1 : Int32)), .val (.ref b176), .val (.ref b177), .val (.ref b178), .val (.ref b214), .val (.ref b216), .val (.int (0 : Int32)), .val (.int (0 : Int32)), .unset, .unset] [(.int (0 : Int32))]))
    refine go (fun _ => XS.iload X220.here hx rfl (hb hby at_155) rfl) ?_
    show Go _ p e below s _ _ _ (T220.setTop (mkF m 157 #[.val (.int p1), .val (.int p2), .val (.int p3), .val (.int p4), .val (.int p5), .val (.int (1 : Int32)), .val (.int (1 : Int32)), .val (.ref b176), .val (.ref b177), .val (.ref b178), .val (.ref b214), .val (.ref b216), .val (.int (0 : Int32)), .val (.int (0 : Int32)), .unset, .unset] [(.int (1 : Int32)), (.int (0 : Int32))]))
    refine go (fun _ => XS.iload X220.here hx rfl (hb hby at_157) rfl) ?_
    show Go _ p e below s _ _ _ (T220.setTop (mkF m 159 #[.val (.int p1), .val (.int p2), .val (.int p3), .val (.int p4), .val (.int p5), .val (.int (1 : Int32)), .val (.int (1 : Int32)), .val (.ref b176), .val (.ref b177), .val (.ref b178), .val (.ref b214), .val (.ref b216), .val (.int (0 : Int32)), .val (.int (0 : Int32)), .unset, .unset] [(.int (1 : Int32)), (.int (1 : Int32)), (.int (0 : Int32))]))
    refine go (fun _ => XS.icmpYes X220.here hx rfl (pc0 := 159) (pc' := 166) rfl (hb hby at_159) rfl (flt (by decide : ¬ ((1 : Int32) < (1 : Int32)))).2.1 (by decide) (by decide)) ?_
    show Go _ p e below s _ _ _ (T220.setTop (mkF m 166 #[.val (.int p1), .val (.int p2), .val (.int p3), .val (.int p4), .val (.int p5), .val (.int (1 : Int32)), .val (.int (1 : Int32)), .val (.ref b176), .val (.ref b177), .val (.ref b178), .val (.ref b214), .val (.ref b216), .val (.int (0 : Int32)), .val (.int (0 : Int32)), .unset, .unset] [(.int (0 : Int32))]))
    refine go (fun _ => XS.iconst X220.here hx rfl (hb hby at_166)) ?_
    show Go _ p e below s _ _ _ (T220.setTop (mkF m 167 #[.val (.int p1), .val (.int p2), .val (.int p3), .val (.int p4), .val (.int p5), .val (.int (1 : Int32)), .val (.int (1 : Int32)), .val (.ref b176), .val (.ref b177), .val (.ref b178), .val (.ref b214), .val (.ref b216), .val (.int (0 : Int32)), .val (.int (0 : Int32)), .unset, .unset] [(.int (0 : Int32)), (.int (0 : Int32))]))
    refine go (fun _ => XS.icmpNo X220.here hx rfl (hb hby at_167) rfl (teq (rfl : (0 : Int32) = (0 : Int32))).2) ?_
    show Go _ p e below s _ _ _ (T220.setTop (mkF m 170 #[.val (.int p1), .val (.int p2), .val (.int p3), .val (.int p4), .val (.int p5), .val (.int (1 : Int32)), .val (.int (1 : Int32)), .val (.ref b176), .val (.ref b177), .val (.ref b178), .val (.ref b214), .val (.ref b216), .val (.int (0 : Int32)), .val (.int (0 : Int32)), .unset, .unset] []))
    refine go (fun _ => XS.iload X220.here hx rfl (hb hby at_170) rfl) ?_
    show Go _ p e below s _ _ _ (T220.setTop (mkF m 172 #[.val (.int p1), .val (.int p2), .val (.int p3), .val (.int p4), .val (.int p5), .val (.int (1 : Int32)), .val (.int (1 : Int32)), .val (.ref b176), .val (.ref b177), .val (.ref b178), .val (.ref b214), .val (.ref b216), .val (.int (0 : Int32)), .val (.int (0 : Int32)), .unset, .unset] [(.int (0 : Int32))]))
    refine go (fun _ => XS.iload X220.here hx rfl (hb hby at_172) rfl) ?_
    show Go _ p e below s _ _ _ (T220.setTop (mkF m 174 #[.val (.int p1), .val (.int p2), .val (.int p3), .val (.int p4), .val (.int p5), .val (.int (1 : Int32)), .val (.int (1 : Int32)), .val (.ref b176), .val (.ref b177), .val (.ref b178), .val (.ref b214), .val (.ref b216), .val (.int (0 : Int32)), .val (.int (0 : Int32)), .unset, .unset] [(.int (0 : Int32)), (.int (0 : Int32))]))
    refine go (fun _ => XS.icmpYes X220.here hx rfl (pc0 := 174) (pc' := 179) rfl (hb hby at_174) rfl (teq (rfl : (0 : Int32) = (0 : Int32))).1 (by decide) (by decide)) ?_
    show Go _ p e below s _ _ _ (T220.setTop (mkF m 179 #[.val (.int p1), .val (.int p2), .val (.int p3), .val (.int p4), .val (.int p5), .val (.int (1 : Int32)), .val (.int (1 : Int32)), .val (.ref b176), .val (.ref b177), .val (.ref b178), .val (.ref b214), .val (.ref b216), .val (.int (0 : Int32)), .val (.int (0 : Int32)), .unset, .unset] []))
    refine go (fun _ => XS.iload X220.here hx rfl (hb hby at_179) rfl) ?_
    show Go _ p e below s _ _ _ (T220.setTop (mkF m 181 #[.val (.int p1), .val (.int p2), .val (.int p3), .val (.int p4), .val (.int p5), .val (.int (1 : Int32)), .val (.int (1 : Int32)), .val (.ref b176), .val (.ref b177), .val (.ref b178), .val (.ref b214), .val (.ref b216), .val (.int (0 : Int32)), .val (.int (0 : Int32)), .unset, .unset] [(.int (0 : Int32))]))
    refine go (fun _ => XS.ifNo X220.here hx rfl (hb hby at_181) rfl ((if0 _ _).trans (teq (rfl : (0 : Int32) = (0 : Int32))).2)) ?_
    show Go _ p e below s _ _ _ (T220.setTop (mkF m 184 #[.val (.int p1), .val (.int p2), .val (.int p3), .val (.int p4), .val (.int p5), .val (.int (1 : Int32)), .val (.int (1 : Int32)), .val (.ref b176), .val (.ref b177), .val (.ref b178), .val (.ref b214), .val (.ref b216), .val (.int (0 : Int32)), .val (.int (0 : Int32)), .unset, .unset] []))
    refine go (fun _ => XS.iconst X220.here hx rfl (hb hby at_184)) ?_
    show Go _ p e below s _ _ _ (T220.setTop (mkF m 185 #[.val (.int p1), .val (.int p2), .val (.int p3), .val (.int p4), .val (.int p5), .val (.int (1 : Int32)), .val (.int (1 : Int32)), .val (.ref b176), .val (.ref b177), .val (.ref b178), .val (.ref b214), .val (.ref b216), .val (.int (0 : Int32)), .val (.int (0 : Int32)), .unset, .unset] [(.int (1 : Int32))]))
    refine goRet X220 hx Bd.notSynchronized Bd.returns rfl (Or.inl ⟨rfl, Or.inr (Or.inl rfl), _, rfl⟩) (hb hby at_185) (by decide) (by decide) (by rw [e220]; refine ⟨rfl, N220⟩)
  · rw [show own_min (3 : Int32) (1 : Int32) = (1 : Int32) from by decide]
    show Go _ p e below s _ _ _ (T178.setTop (mkF m 49 #[.val (.int p1), .val (.int p2), .val (.int p3), .val (.int p4), .val (.int p5), .val (.int (1 : Int32)), .val (.int (1 : Int32)), .val (.ref b176), .val (.ref b177), .val (.ref b178), .unset, .unset, .unset, .unset, .unset, .unset] []))
    refine go (fun _ => XS.iload X178.here hx rfl (hb hby at_49) rfl) ?_
    show Go _ p e below s _ _ _ (T178.setTop (mkF m 51 #[.val (.int p1), .val (.int p2), .val (.int p3), .val (.int p4), .val (.int p5), .val (.int (1 : Int32)), .val (.int (1 : Int32)), .val (.ref b176), .val (.ref b177), .val (.ref b178), .unset, .unset, .unset, .unset, .unset, .unset] [(.int (1 : Int32))]))
    obtain ⟨T221, h221, k221, X221, e221, E221, A221, AE221, O221, st221⟩ := newRE X178 hx hZ hown (hw _ (List.mem_of_getElem? (i := 30) rfl)) (hw _ (List.mem_of_getElem? (i := 31) rfl)) rfl (g := (mkF m 51 #[.val (.int p1), .val (.int p2), .val (.int p3), .val (.int p4), .val (.int p5), .val (.int (1 : Int32)), .val (.int (1 : Int32)), .val (.ref b176), .val (.ref b177), .val (.ref b178), .unset, .unset, .unset, .unset, .unset, .unset] [(.int (1 : Int32))])) rfl (hb hby at_51) rfl (by decide) (cap := 1) (by decide) (by decide) (by decide) (by decide) (ad := "[Ljava/lang/String;") (by first | rfl | decide)
    obtain ⟨b221, g221⟩ : ∃ z, z = T178.heap.size := ⟨_, rfl⟩
    rw [← g221] at A221 AE221 st221
    have lt221_b176_b221 : b176 < b221 := Nat.lt_of_lt_of_le c178_1.lt (Nat.le_of_eq g221.symm)
    have lt221_b177_b221 : b177 < b221 := Nat.lt_of_lt_of_le c178_2.lt (Nat.le_of_eq g221.symm)
    have lt221_b178_b221 : b178 < b221 := Nat.lt_of_lt_of_le u178_3.lt (Nat.le_of_eq g221.symm)
    have G_b221 : n0 ≤ b221 := Nat.le_trans ZN178 (Nat.le_of_eq g221.symm)
    have SZ_b221 : h0.size ≤ b221 := Nat.le_trans KK178.1 (Nat.le_of_eq g221.symm)
    have c221_1 := c178_1.ext E221
    have c221_2 := c178_2.ext E221
    have c221_3 := u178_3.ext E221
    have KK221 : Keep h0 h221 [] := KK178.ext E221
    have ZN221 : n0 ≤ h221.size := Nat.le_trans ZN178 E221.1
    have OL221 := OL178.ext E221
    have V221 : Arv Z h221 b221 k221 (.object "java/lang/String") (1 : Int32) [.null] .null := (Arv.new A221 (by decide)).pad (pad_rep [] .null 1)
    refine go st221 ?_
    show Go _ p e below s _ _ _ (T221.setTop (mkF m 54 #[.val (.int p1), .val (.int p2), .val (.int p3), .val (.int p4), .val (.int p5), .val (.int (1 : Int32)), .val (.int (1 : Int32)), .val (.ref b176), .val (.ref b177), .val (.ref b178), .unset, .unset, .unset, .unset, .unset, .unset] [(.ref b221)]))
    refine go (fun _ => XS.astore X221.here hx rfl (hb hby at_54) rfl rfl (l' := #[.val (.int p1), .val (.int p2), .val (.int p3), .val (.int p4), .val (.int p5), .val (.int (1 : Int32)), .val (.int (1 : Int32)), .val (.ref b176), .val (.ref b177), .val (.ref b178), .val (.ref b221), .unset, .unset, .unset, .unset, .unset]) rfl) ?_
    show Go _ p e below s _ _ _ (T221.setTop (mkF m 56 #[.val (.int p1), .val (.int p2), .val (.int p3), .val (.int p4), .val (.int p5), .val (.int (1 : Int32)), .val (.int (1 : Int32)), .val (.ref b176), .val (.ref b177), .val (.ref b178), .val (.ref b221), .unset, .unset, .unset, .unset, .unset] []))
    refine go (fun _ => XS.iload X221.here hx rfl (hb hby at_56) rfl) ?_
    show Go _ p e below s _ _ _ (T221.setTop (mkF m 58 #[.val (.int p1), .val (.int p2), .val (.int p3), .val (.int p4), .val (.int p5), .val (.int (1 : Int32)), .val (.int (1 : Int32)), .val (.ref b176), .val (.ref b177), .val (.ref b178), .val (.ref b221), .unset, .unset, .unset, .unset, .unset] [(.int (1 : Int32))]))
    refine go (fun _ => XS.iconst X221.here hx rfl (hb hby at_58)) ?_
    show Go _ p e below s _ _ _ (T221.setTop (mkF m 59 #[.val (.int p1), .val (.int p2), .val (.int p3), .val (.int p4), .val (.int p5), .val (.int (1 : Int32)), .val (.int (1 : Int32)), .val (.ref b176), .val (.ref b177), .val (.ref b178), .val (.ref b221), .unset, .unset, .unset, .unset, .unset] [(.int (1 : Int32)), (.int (1 : Int32))]))
    refine go (fun _ => XS.icmpNo X221.here hx rfl (hb hby at_59) rfl (flt (by decide : ¬ ((1 : Int32) < (1 : Int32)))).1) ?_
    show Go _ p e below s _ _ _ (T221.setTop (mkF m 62 #[.val (.int p1), .val (.int p2), .val (.int p3), .val (.int p4), .val (.int p5), .val (.int (1 : Int32)), .val (.int (1 : Int32)), .val (.ref b176), .val (.ref b177), .val (.ref b178), .val (.ref b221), .unset, .unset, .unset, .unset, .unset] []))
    refine go (fun _ => XS.aload X221.here hx rfl (hb hby at_62) rfl rfl) ?_
    show Go _ p e below s _ _ _ (T221.setTop (mkF m 64 #[.val (.int p1), .val (.int p2), .val (.int p3), .val (.int p4), .val (.int p5), .val (.int (1 : Int32)), .val (.int (1 : Int32)), .val (.ref b176), .val (.ref b177), .val (.ref b178), .val (.ref b221), .unset, .unset, .unset, .unset, .unset] [(.ref b221)]))
    refine go (fun _ => XS.iconst X221.here hx rfl (hb hby at_64)) ?_
    show Go _ p e below s _ _ _ (T221.setTop (mkF m 65 #[.val (.int p1), .val (.int p2), .val (.int p3), .val (.int p4), .val (.int p5), .val (.int (1 : Int32)), .val (.int (1 : Int32)), .val (.ref b176), .val (.ref b177), .val (.ref b178), .val (.ref b221), .unset, .unset, .unset, .unset, .unset] [(.int (0 : Int32)), (.ref b221)]))
    refine go (fun _ => XS.aload X221.here hx rfl (hb hby at_65) rfl rfl) ?_
    show Go _ p e below s _ _ _ (T221.setTop (mkF m 67 #[.val (.int p1), .val (.int p2), .val (.int p3), .val (.int p4), .val (.int p5), .val (.int (1 : Int32)), .val (.int (1 : Int32)), .val (.ref b176), .val (.ref b177), .val (.ref b178), .val (.ref b221), .unset, .unset, .unset, .unset, .unset] [(.ref b176), (.int (0 : Int32)), (.ref b221)]))
    obtain ⟨cl222, Ar222, q222, Sz222, Nz222, Hs222, Gs222⟩ := id V221
    have hin222 : ¬ ((0 : Int32) < 0 ∨ cl222.slots.size ≤ ((0 : Int32)).toNatClampNeg) := inb_of Sz222 ⟨by decide, by decide⟩
    obtain ⟨T222, h222, X222, e222, W222, st222⟩ := stR X221 hx hZ e221 Ar222 (j := (0 : Int32)) hin222 rfl (Sto.ofV Ar222 q222 O221 (Ins.self c221_1)) (g := (mkF m 67 #[.val (.int p1), .val (.int p2), .val (.int p3), .val (.int p4), .val (.int p5), .val (.int (1 : Int32)), .val (.int (1 : Int32)), .val (.ref b176), .val (.ref b177), .val (.ref b178), .val (.ref b221), .unset, .unset, .unset, .unset, .unset] [(.ref b176), (.int (0 : Int32)), (.ref b221)])) rfl rfl (hb hby at_67)
    have V222 := Arv.set Ar222 q222 Sz222 Nz222 Hs222 Gs222 rfl W222 0 rfl (Nat.le_of_ble_eq_true rfl)
    have VV222 : Arv Z h222 b221 k221 (.object "java/lang/String") (1 : Int32) [(.ref b176)] .null := V222
    have c222_1 := c221_1.wr W222
    have c222_2 := c221_2.wr W222
    have c222_3 := c221_3.wr W222
    have c222_4 := AE221.wr W222
    have KK222 : Keep h0 h222 [] := KK221.wr W222 (Or.inr SZ_b221)
    have ZN222 : n0 ≤ h222.size := Nat.le_trans ZN221 (Keep.of_wr W222).1
    have NN222 := Fr.snoc X222 N178 G_b221
    have OL222 := OL221.wr W222 G_b221
    refine go st222 ?_
    show Go _ p e below s _ _ _ (T222.setTop (mkF m 68 #[.val (.int p1), .val (.int p2), .val (.int p3), .val (.int p4), .val (.int p5), .val (.int (1 : Int32)), .val (.int (1 : Int32)), .val (.ref b176), .val (.ref b177), .val (.ref b178), .val (.ref b221), .unset, .unset, .unset, .unset, .unset] []))
    refine go (fun _ => XS.iload X222.here hx rfl (hb hby at_68) rfl) ?_
    show Go _ p e below s _ _ _ (T222.setTop (mkF m 70 #[.val (.int p1), .val (.int p2), .val (.int p3), .val (.int p4), .val (.int p5), .val (.int (1 : Int32)), .val (.int (1 : Int32)), .val (.ref b176), .val (.ref b177), .val (.ref b178), .val (.ref b221), .unset, .unset, .unset, .unset, .unset] [(.int (1 : Int32))]))
    refine go (fun _ => XS.iconst X222.here hx rfl (hb hby at_70)) ?_
    show Go _ p e below s _ _ _ (T222.setTop (mkF m 71 #[.val (.int p1), .val (.int p2), .val (.int p3), .val (.int p4), .val (.int p5), .val (.int (1 : Int32)), .val (.int (1 : Int32)), .val (.ref b176), .val (.ref b177), .val (.ref b178), .val (.ref b221), .unset, .unset, .unset, .unset, .unset] [(.int (2 : Int32)), (.int (1 : Int32))]))
    refine go (fun _ => XS.icmpYes X222.here hx rfl (pc0 := 71) (pc' := 80) rfl (hb hby at_71) rfl (tlt (by decide : ((1 : Int32) < (2 : Int32)))).1 (by decide) (by decide)) ?_
    show Go _ p e below s _ _ _ (T222.setTop (mkF m 80 #[.val (.int p1), .val (.int p2), .val (.int p3), .val (.int p4), .val (.int p5), .val (.int (1 : Int32)), .val (.int (1 : Int32)), .val (.ref b176), .val (.ref b177), .val (.ref b178), .val (.ref b221), .unset, .unset, .unset, .unset, .unset] []))
    refine go (fun _ => XS.iload X222.here hx rfl (hb hby at_80) rfl) ?_
    show Go _ p e below s _ _ _ (T222.setTop (mkF m 82 #[.val (.int p1), .val (.int p2), .val (.int p3), .val (.int p4), .val (.int p5), .val (.int (1 : Int32)), .val (.int (1 : Int32)), .val (.ref b176), .val (.ref b177), .val (.ref b178), .val (.ref b221), .unset, .unset, .unset, .unset, .unset] [(.int (1 : Int32))]))
    refine go (fun _ => XS.iconst X222.here hx rfl (hb hby at_82)) ?_
    show Go _ p e below s _ _ _ (T222.setTop (mkF m 83 #[.val (.int p1), .val (.int p2), .val (.int p3), .val (.int p4), .val (.int p5), .val (.int (1 : Int32)), .val (.int (1 : Int32)), .val (.ref b176), .val (.ref b177), .val (.ref b178), .val (.ref b221), .unset, .unset, .unset, .unset, .unset] [(.int (3 : Int32)), (.int (1 : Int32))]))
    refine go (fun _ => XS.icmpYes X222.here hx rfl (pc0 := 83) (pc' := 92) rfl (hb hby at_83) rfl (tlt (by decide : ((1 : Int32) < (3 : Int32)))).1 (by decide) (by decide)) ?_
    show Go _ p e below s _ _ _ (T222.setTop (mkF m 92 #[.val (.int p1), .val (.int p2), .val (.int p3), .val (.int p4), .val (.int p5), .val (.int (1 : Int32)), .val (.int (1 : Int32)), .val (.ref b176), .val (.ref b177), .val (.ref b178), .val (.ref b221), .unset, .unset, .unset, .unset, .unset] []))
    obtain ⟨T223, h223, X223, e223, E223, A223, D223, -, st223⟩ := newO X222 hx hZ hown (hw _ (List.mem_of_getElem? (i := 32) rfl)) (hw _ (List.mem_of_getElem? (i := 33) rfl)) (hw _ (List.mem_of_getElem? (i := 34) rfl)) e222 (g := (mkF m 92 #[.val (.int p1), .val (.int p2), .val (.int p3), .val (.int p4), .val (.int p5), .val (.int (1 : Int32)), .val (.int (1 : Int32)), .val (.ref b176), .val (.ref b177), .val (.ref b178), .val (.ref b221), .unset, .unset, .unset, .unset, .unset] [])) rfl (hb hby at_92) (by decide) (by decide)
    obtain ⟨b223, g223⟩ : ∃ z, z = h222.size := ⟨_, rfl⟩
    rw [← g223] at A223 D223 st223
    have lt223_b176_b223 : b176 < b223 := Nat.lt_of_lt_of_le c222_1.lt (Nat.le_of_eq g223.symm)
    have lt223_b177_b223 : b177 < b223 := Nat.lt_of_lt_of_le c222_2.lt (Nat.le_of_eq g223.symm)
    have lt223_b178_b223 : b178 < b223 := Nat.lt_of_lt_of_le c222_3.lt (Nat.le_of_eq g223.symm)
    have lt223_b221_b223 : b221 < b223 := Nat.lt_of_lt_of_le c222_4.lt (Nat.le_of_eq g223.symm)
    have G_b223 : n0 ≤ b223 := Nat.le_trans ZN222 (Nat.le_of_eq g223.symm)
    have SZ_b223 : h0.size ≤ b223 := Nat.le_trans KK222.1 (Nat.le_of_eq g223.symm)
    have c223_1 := c222_1.ext E223
    have c223_2 := c222_2.ext E223
    have c223_3 := c222_3.ext E223
    have c223_4 := c222_4.ext E223
    have c223_5 := VV222.ext E223
    have KK223 : Keep h0 h223 [] := KK222.ext E223
    have ZN223 : n0 ≤ h223.size := Nat.le_trans ZN222 E223.1
    have OL223 := OL222.ext E223
    have F223_49 : Fld Z h223 b223 "com/example/sunder/sunder/cli/Arguments" "args" "[Ljava/lang/String;" .null := D223 (Or.inr (hw _ (List.mem_of_getElem? (i := 49) rfl))) (ty := (.array (.object "java/lang/String"))) (by decide)
    have F223_56 : Fld Z h223 b223 "com/example/sunder/sunder/cli/Arguments" "next" "I" (.int (0 : Int32)) := D223 (Or.inl (hw _ (List.mem_of_getElem? (i := 56) rfl))) (ty := .int) (by decide)
    refine go st223 ?_
    show Go _ p e below s _ _ _ (T223.setTop (mkF m 95 #[.val (.int p1), .val (.int p2), .val (.int p3), .val (.int p4), .val (.int p5), .val (.int (1 : Int32)), .val (.int (1 : Int32)), .val (.ref b176), .val (.ref b177), .val (.ref b178), .val (.ref b221), .unset, .unset, .unset, .unset, .unset] [(.ref b223)]))
    refine go (fun _ => XS.dup X223.here hx rfl (hb hby at_95) rfl rfl) ?_
    show Go _ p e below s _ _ _ (T223.setTop (mkF m 96 #[.val (.int p1), .val (.int p2), .val (.int p3), .val (.int p4), .val (.int p5), .val (.int (1 : Int32)), .val (.int (1 : Int32)), .val (.ref b176), .val (.ref b177), .val (.ref b178), .val (.ref b221), .unset, .unset, .unset, .unset, .unset] [(.ref b223), (.ref b223)]))
    refine go (fun _ => XS.aload X223.here hx rfl (hb hby at_96) rfl rfl) ?_
    show Go _ p e below s _ _ _ (T223.setTop (mkF m 98 #[.val (.int p1), .val (.int p2), .val (.int p3), .val (.int p4), .val (.int p5), .val (.int (1 : Int32)), .val (.int (1 : Int32)), .val (.ref b176), .val (.ref b177), .val (.ref b178), .val (.ref b221), .unset, .unset, .unset, .unset, .unset] [(.ref b221), (.ref b223), (.ref b223)]))
    obtain ⟨_, _, ⟨T224, L224, k224, n224⟩, -, X224, ⟨Lc224, hQ224, l224, y224, z224⟩, st224⟩ := X223.specialBack hx (y := (⟨"com/example/sunder/sunder/cli/Arguments", "<init>", "([Ljava/lang/String;)V"⟩ : MethodName)) rfl hown (mvT hZ (hw _ (List.mem_of_getElem? (i := 35) rfl))) (mvT hZ (hw _ (List.mem_of_getElem? (i := 36) rfl))) (mvT hZ (hw _ (List.mem_of_getElem? (i := 37) rfl))) (by decide) (backOf (W := 1) (rmI1 l Z a0 hw [] b223 b221 k221 b176 .null h223 n0 ZN223 A223 F223_49 F223_56 G_b223 c223_4 c223_5 (Ne.symm (Nat.ne_of_lt lt223_b221_b223))) hZ (hw _ (List.mem_of_getElem? (i := 37) rfl)) (hw _ (List.mem_of_getElem? (i := 34) rfl)) (by decide) (by decide)) (g := (mkF m 98 #[.val (.int p1), .val (.int p2), .val (.int p3), .val (.int p4), .val (.int p5), .val (.int (1 : Int32)), .val (.int (1 : Int32)), .val (.ref b176), .val (.ref b177), .val (.ref b178), .val (.ref b221), .unset, .unset, .unset, .unset, .unset] [(.ref b221), (.ref b223), (.ref b223)])) rfl (by rw [hml]; rfl) (Steps.refl _) (a := b223) (argsL := [(.ref b221)]) (rest := [(.ref b223)]) (lenOf pd_0_2 rfl) rfl (by show 2 * 0 + _ ≤ _; exact Nat.le_of_eq rfl) (hb hby at_98) (fun _ _ => ⟨rfl, e223, (by decide : 8 + 1 ≤ _), (by decide : 18 + 1 ≤ _)⟩)
    dsimp only [Pt.U, Pt.locs, Pt.cells, Pt.slots] at X224 l224 y224 z224 st224 hQ224
    subst l224 y224 z224
    obtain ⟨b224, rfl, N224q, u224_0, u224_1, K224, u224_3, u224_4, u224_5, u224_6⟩ := hQ224
    have N224 := Fr.app NN222 N224q
    have lt224_b176_b224 : b176 < b224 := Nat.lt_of_lt_of_le c223_1.lt u224_0
    have lt224_b177_b224 : b177 < b224 := Nat.lt_of_lt_of_le c223_2.lt u224_0
    have lt224_b178_b224 : b178 < b224 := Nat.lt_of_lt_of_le c223_3.lt u224_0
    have lt224_b221_b224 : b221 < b224 := Nat.lt_of_lt_of_le c223_4.lt u224_0
    have lt224_b223_b224 : b223 < b224 := Nat.lt_of_lt_of_le A223.lt u224_0
    have G_b224 : n0 ≤ b224 := Nat.le_trans ZN223 u224_0
    have SZ_b224 : h0.size ≤ b224 := Nat.le_trans KK223.1 u224_0
    have c224_1 := c223_1.keep K224
    have c224_2 := c223_2.keep K224
    have c224_3 := c223_3.keep K224
    have c224_4 := c223_4.keep K224
    have c224_5 := c223_5.keep K224 (ninS (Nat.ne_of_lt lt223_b221_b223) nin0)
    have c224_6 := A223.keep K224
    have KK224 : Keep h0 T224.heap [] := KK223.trans K224 (allS (P := fun x => x ∈ [] ∨ h0.size ≤ x) (Or.inr SZ_b223) all0)
    have ZN224 : n0 ≤ T224.heap.size := Nat.le_trans ZN223 K224.1
    have OL224 := OL223.keep K224 (allS G_b223 all0)
    refine goT st224 ?_
    show Go _ p e below s _ _ _ (T224.setTop (mkF m 101 #[.val (.int p1), .val (.int p2), .val (.int p3), .val (.int p4), .val (.int p5), .val (.int (1 : Int32)), .val (.int (1 : Int32)), .val (.ref b176), .val (.ref b177), .val (.ref b178), .val (.ref b221), .unset, .unset, .unset, .unset, .unset] [(.ref b223)]))
    refine go (fun _ => XS.astore X224.here hx rfl (hb hby at_101) rfl rfl (l' := #[.val (.int p1), .val (.int p2), .val (.int p3), .val (.int p4), .val (.int p5), .val (.int (1 : Int32)), .val (.int (1 : Int32)), .val (.ref b176), .val (.ref b177), .val (.ref b178), .val (.ref b221), .val (.ref b223), .unset, .unset, .unset, .unset]) rfl) ?_
    show Go _ p e below s _ _ _ (T224.setTop (mkF m 103 #[.val (.int p1), .val (.int p2), .val (.int p3), .val (.int p4), .val (.int p5), .val (.int (1 : Int32)), .val (.int (1 : Int32)), .val (.ref b176), .val (.ref b177), .val (.ref b178), .val (.ref b221), .val (.ref b223), .unset, .unset, .unset, .unset] []))
    refine go (fun _ => XS.iload X224.here hx rfl (hb hby at_103) rfl) ?_
    show Go _ p e below s _ _ _ (T224.setTop (mkF m 105 #[.val (.int p1), .val (.int p2), .val (.int p3), .val (.int p4), .val (.int p5), .val (.int (1 : Int32)), .val (.int (1 : Int32)), .val (.ref b176), .val (.ref b177), .val (.ref b178), .val (.ref b221), .val (.ref b223), .unset, .unset, .unset, .unset] [(.int (1 : Int32))]))
    refine go (fun _ => XS.iconst X224.here hx rfl (hb hby at_105)) ?_
    show Go _ p e below s _ _ _ (T224.setTop (mkF m 106 #[.val (.int p1), .val (.int p2), .val (.int p3), .val (.int p4), .val (.int p5), .val (.int (1 : Int32)), .val (.int (1 : Int32)), .val (.ref b176), .val (.ref b177), .val (.ref b178), .val (.ref b221), .val (.ref b223), .unset, .unset, .unset, .unset] [(.int (1 : Int32)), (.int (1 : Int32))]))
    refine go (fun _ => XS.icmpNo X224.here hx rfl (hb hby at_106) rfl (flt (by decide : ¬ ((1 : Int32) < (1 : Int32)))).1) ?_
    show Go _ p e below s _ _ _ (T224.setTop (mkF m 109 #[.val (.int p1), .val (.int p2), .val (.int p3), .val (.int p4), .val (.int p5), .val (.int (1 : Int32)), .val (.int (1 : Int32)), .val (.ref b176), .val (.ref b177), .val (.ref b178), .val (.ref b221), .val (.ref b223), .unset, .unset, .unset, .unset] []))
    refine go (fun _ => XS.aload X224.here hx rfl (hb hby at_109) rfl rfl) ?_
    show Go _ p e below s _ _ _ (T224.setTop (mkF m 111 #[.val (.int p1), .val (.int p2), .val (.int p3), .val (.int p4), .val (.int p5), .val (.int (1 : Int32)), .val (.int (1 : Int32)), .val (.ref b176), .val (.ref b177), .val (.ref b178), .val (.ref b221), .val (.ref b223), .unset, .unset, .unset, .unset] [(.ref b223)]))
    obtain ⟨cq225, kq225, q225a, q225b, q225c⟩ := isOf hZ rfl c224_6
    obtain ⟨_, _, ⟨T225, L225, k225, n225⟩, -, X225, ⟨Lc225, hQ225, l225, y225, z225⟩, st225⟩ := X224.virtualBack hx (y := (⟨"com/example/sunder/sunder/cli/Arguments", "next", "()Ljava/lang/String;"⟩ : MethodName)) (z := (⟨"com/example/sunder/sunder/cli/Arguments", "next", "()Ljava/lang/String;"⟩ : MethodName)) hown (mvT hZ (hw _ (List.mem_of_getElem? (i := 57) rfl))) (mvT hZ (hw _ (List.mem_of_getElem? (i := 58) rfl))) (notFace_of_selects (args := #[]) (mvT hZ (hw _ (List.mem_of_getElem? (i := 60) rfl)))) (mvT hZ (hw _ (List.mem_of_getElem? (i := 60) rfl))) (mvT hZ (hw _ (List.mem_of_getElem? (i := 59) rfl))) (by decide) (backOf (W := 0) (rmN1_0 l Z a0 hw [] b223 b224 k221 b176 (T224.heap) n0 ZN224 c224_6 u224_3 u224_4 G_b223 u224_6 (Nat.ne_of_lt lt224_b223_b224)) hZ (hw _ (List.mem_of_getElem? (i := 61) rfl)) (hw _ (List.mem_of_getElem? (i := 34) rfl)) (by decide) (by decide)) q225a q225c (g := (mkF m 111 #[.val (.int p1), .val (.int p2), .val (.int p3), .val (.int p4), .val (.int p5), .val (.int (1 : Int32)), .val (.int (1 : Int32)), .val (.ref b176), .val (.ref b177), .val (.ref b178), .val (.ref b221), .val (.ref b223), .unset, .unset, .unset, .unset] [(.ref b223)])) rfl (by rw [hml]; rfl) (Steps.refl _) (argsL := []) (rest := []) (lenOf pd_0_4 rfl) rfl (by show 2 * 0 + _ ≤ _; exact Nat.le_of_eq rfl) (hb hby at_111) (fun _ _ => ⟨rfl, rfl, (by decide : 9 + 0 ≤ _), (by decide : 19 + 0 ≤ _)⟩)
    dsimp only [Pt.U, Pt.locs, Pt.cells, Pt.slots] at X225 l225 y225 z225 st225 hQ225
    subst l225 y225 z225
    obtain ⟨rfl, N225q, K225, u225_1, u225_2⟩ := hQ225
    have N225 := Fr.app N224 N225q
    have c225_1 := c224_1.keep K225
    have c225_2 := c224_2.keep K225
    have c225_3 := c224_3.keep K225
    have c225_4 := c224_4.keep K225
    have c225_5 := c224_5.keep K225 (ninS (Nat.ne_of_lt lt223_b221_b223) nin0)
    have c225_6 := c224_6.keep K225
    have c225_7 := u224_5.keep K225
    have c225_8 := u224_6.keep K225 (ninS (Ne.symm (Nat.ne_of_lt lt224_b223_b224)) nin0)
    have KK225 : Keep h0 T225.heap [] := KK224.trans K225 (allS (P := fun x => x ∈ [] ∨ h0.size ≤ x) (Or.inr SZ_b223) all0)
    have ZN225 : n0 ≤ T225.heap.size := Nat.le_trans ZN224 K225.1
    have OL225 := OL224.keep K225 (allS G_b223 all0)
    refine goT st225 ?_
    show Go _ p e below s _ _ _ (T225.setTop (mkF m 114 #[.val (.int p1), .val (.int p2), .val (.int p3), .val (.int p4), .val (.int p5), .val (.int (1 : Int32)), .val (.int (1 : Int32)), .val (.ref b176), .val (.ref b177), .val (.ref b178), .val (.ref b221), .val (.ref b223), .unset, .unset, .unset, .unset] [(.ref b176)]))
    refine go (fun _ => XS.pop X225.here hx rfl (hb hby at_114) rfl rfl) ?_
    show Go _ p e below s _ _ _ (T225.setTop (mkF m 115 #[.val (.int p1), .val (.int p2), .val (.int p3), .val (.int p4), .val (.int p5), .val (.int (1 : Int32)), .val (.int (1 : Int32)), .val (.ref b176), .val (.ref b177), .val (.ref b178), .val (.ref b221), .val (.ref b223), .unset, .unset, .unset, .unset] []))
    refine go (fun _ => XS.iload X225.here hx rfl (hb hby at_115) rfl) ?_
    show Go _ p e below s _ _ _ (T225.setTop (mkF m 117 #[.val (.int p1), .val (.int p2), .val (.int p3), .val (.int p4), .val (.int p5), .val (.int (1 : Int32)), .val (.int (1 : Int32)), .val (.ref b176), .val (.ref b177), .val (.ref b178), .val (.ref b221), .val (.ref b223), .unset, .unset, .unset, .unset] [(.int (1 : Int32))]))
    refine go (fun _ => XS.iconst X225.here hx rfl (hb hby at_117)) ?_
    show Go _ p e below s _ _ _ (T225.setTop (mkF m 118 #[.val (.int p1), .val (.int p2), .val (.int p3), .val (.int p4), .val (.int p5), .val (.int (1 : Int32)), .val (.int (1 : Int32)), .val (.ref b176), .val (.ref b177), .val (.ref b178), .val (.ref b221), .val (.ref b223), .unset, .unset, .unset, .unset] [(.int (2 : Int32)), (.int (1 : Int32))]))
    refine go (fun _ => XS.icmpYes X225.here hx rfl (pc0 := 118) (pc' := 127) rfl (hb hby at_118) rfl (tlt (by decide : ((1 : Int32) < (2 : Int32)))).1 (by decide) (by decide)) ?_
    show Go _ p e below s _ _ _ (T225.setTop (mkF m 127 #[.val (.int p1), .val (.int p2), .val (.int p3), .val (.int p4), .val (.int p5), .val (.int (1 : Int32)), .val (.int (1 : Int32)), .val (.ref b176), .val (.ref b177), .val (.ref b178), .val (.ref b221), .val (.ref b223), .unset, .unset, .unset, .unset] []))
    refine go (fun _ => XS.iload X225.here hx rfl (hb hby at_127) rfl) ?_
    show Go _ p e below s _ _ _ (T225.setTop (mkF m 129 #[.val (.int p1), .val (.int p2), .val (.int p3), .val (.int p4), .val (.int p5), .val (.int (1 : Int32)), .val (.int (1 : Int32)), .val (.ref b176), .val (.ref b177), .val (.ref b178), .val (.ref b221), .val (.ref b223), .unset, .unset, .unset, .unset] [(.int (1 : Int32))]))
    refine go (fun _ => XS.iconst X225.here hx rfl (hb hby at_129)) ?_
    show Go _ p e below s _ _ _ (T225.setTop (mkF m 130 #[.val (.int p1), .val (.int p2), .val (.int p3), .val (.int p4), .val (.int p5), .val (.int (1 : Int32)), .val (.int (1 : Int32)), .val (.ref b176), .val (.ref b177), .val (.ref b178), .val (.ref b221), .val (.ref b223), .unset, .unset, .unset, .unset] [(.int (3 : Int32)), (.int (1 : Int32))]))
    refine go (fun _ => XS.icmpYes X225.here hx rfl (pc0 := 130) (pc' := 139) rfl (hb hby at_130) rfl (tlt (by decide : ((1 : Int32) < (3 : Int32)))).1 (by decide) (by decide)) ?_
    show Go _ p e below s _ _ _ (T225.setTop (mkF m 139 #[.val (.int p1), .val (.int p2), .val (.int p3), .val (.int p4), .val (.int p5), .val (.int (1 : Int32)), .val (.int (1 : Int32)), .val (.ref b176), .val (.ref b177), .val (.ref b178), .val (.ref b221), .val (.ref b223), .unset, .unset, .unset, .unset] []))
    refine go (fun _ => XS.aload X225.here hx rfl (hb hby at_139) rfl rfl) ?_
    show Go _ p e below s _ _ _ (T225.setTop (mkF m 141 #[.val (.int p1), .val (.int p2), .val (.int p3), .val (.int p4), .val (.int p5), .val (.int (1 : Int32)), .val (.int (1 : Int32)), .val (.ref b176), .val (.ref b177), .val (.ref b178), .val (.ref b221), .val (.ref b223), .unset, .unset, .unset, .unset] [(.ref b223)]))
    obtain ⟨cq226, kq226, q226a, q226b, q226c⟩ := isOf hZ rfl c225_6
    obtain ⟨_, _, ⟨T226, L226, k226, n226⟩, -, X226, ⟨Lc226, hQ226, l226, y226, z226⟩, st226⟩ := X225.virtualBack hx (y := (⟨"com/example/sunder/sunder/cli/Arguments", "hasNext", "()Z"⟩ : MethodName)) (z := (⟨"com/example/sunder/sunder/cli/Arguments", "hasNext", "()Z"⟩ : MethodName)) hown (mvT hZ (hw _ (List.mem_of_getElem? (i := 50) rfl))) (mvT hZ (hw _ (List.mem_of_getElem? (i := 51) rfl))) (notFace_of_selects (args := #[]) (mvT hZ (hw _ (List.mem_of_getElem? (i := 53) rfl)))) (mvT hZ (hw _ (List.mem_of_getElem? (i := 53) rfl))) (mvT hZ (hw _ (List.mem_of_getElem? (i := 52) rfl))) (by decide) (backOf (W := 0) (rmH1_1 l Z a0 hw [] b223 b224 k221 b176 (T225.heap) n0 ZN225 u225_1 u225_2 c225_8) hZ (hw _ (List.mem_of_getElem? (i := 54) rfl)) (hw _ (List.mem_of_getElem? (i := 34) rfl)) (by decide) (by decide)) q226a q226c (g := (mkF m 141 #[.val (.int p1), .val (.int p2), .val (.int p3), .val (.int p4), .val (.int p5), .val (.int (1 : Int32)), .val (.int (1 : Int32)), .val (.ref b176), .val (.ref b177), .val (.ref b178), .val (.ref b221), .val (.ref b223), .unset, .unset, .unset, .unset] [(.ref b223)])) rfl (by rw [hml]; rfl) (Steps.refl _) (argsL := []) (rest := []) (lenOf pd_0_3 rfl) rfl (by show 2 * 0 + _ ≤ _; exact Nat.le_of_eq rfl) (hb hby at_141) (fun _ _ => ⟨rfl, rfl, (by decide : 9 + 0 ≤ _), (by decide : 19 + 0 ≤ _)⟩)
    dsimp only [Pt.U, Pt.locs, Pt.cells, Pt.slots] at X226 l226 y226 z226 st226 hQ226
    subst l226 y226 z226
    obtain ⟨rfl, N226q, e226⟩ := hQ226
    have N226 := Fr.app N225 N226q
    refine goT st226 ?_
    show Go _ p e below s _ _ _ (T226.setTop (mkF m 144 #[.val (.int p1), .val (.int p2), .val (.int p3), .val (.int p4), .val (.int p5), .val (.int (1 : Int32)), .val (.int (1 : Int32)), .val (.ref b176), .val (.ref b177), .val (.ref b178), .val (.ref b221), .val (.ref b223), .unset, .unset, .unset, .unset] [(.int (0 : Int32))]))
    refine go (fun _ => XS.istore X226.here hx rfl (hb hby at_144) rfl (l' := #[.val (.int p1), .val (.int p2), .val (.int p3), .val (.int p4), .val (.int p5), .val (.int (1 : Int32)), .val (.int (1 : Int32)), .val (.ref b176), .val (.ref b177), .val (.ref b178), .val (.ref b221), .val (.ref b223), .val (.int (0 : Int32)), .unset, .unset, .unset]) rfl) ?_
    show Go _ p e below s _ _ _ (T226.setTop (mkF m 146 #[.val (.int p1), .val (.int p2), .val (.int p3), .val (.int p4), .val (.int p5), .val (.int (1 : Int32)), .val (.int (1 : Int32)), .val (.ref b176), .val (.ref b177), .val (.ref b178), .val (.ref b221), .val (.ref b223), .val (.int (0 : Int32)), .unset, .unset, .unset] []))
    refine go (fun _ => XS.aload X226.here hx rfl (hb hby at_146) rfl rfl) ?_
    show Go _ p e below s _ _ _ (T226.setTop (mkF m 148 #[.val (.int p1), .val (.int p2), .val (.int p3), .val (.int p4), .val (.int p5), .val (.int (1 : Int32)), .val (.int (1 : Int32)), .val (.ref b176), .val (.ref b177), .val (.ref b178), .val (.ref b221), .val (.ref b223), .val (.int (0 : Int32)), .unset, .unset, .unset] [(.ref b223)]))
    obtain ⟨cq227, kq227, q227a, q227b, q227c⟩ := isOf hZ e226 c225_6
    obtain ⟨_, _, ⟨T227, L227, k227, n227⟩, -, X227, ⟨Lc227, hQ227, l227, y227, z227⟩, st227⟩ := X226.virtualBack hx (y := (⟨"com/example/sunder/sunder/cli/Arguments", "hasNext", "()Z"⟩ : MethodName)) (z := (⟨"com/example/sunder/sunder/cli/Arguments", "hasNext", "()Z"⟩ : MethodName)) hown (mvT hZ (hw _ (List.mem_of_getElem? (i := 50) rfl))) (mvT hZ (hw _ (List.mem_of_getElem? (i := 51) rfl))) (notFace_of_selects (args := #[]) (mvT hZ (hw _ (List.mem_of_getElem? (i := 53) rfl)))) (mvT hZ (hw _ (List.mem_of_getElem? (i := 53) rfl))) (mvT hZ (hw _ (List.mem_of_getElem? (i := 52) rfl))) (by decide) (backOf (W := 0) (rmH1_1 l Z a0 hw [] b223 b224 k221 b176 (T225.heap) n0 ZN225 u225_1 u225_2 c225_8) hZ (hw _ (List.mem_of_getElem? (i := 54) rfl)) (hw _ (List.mem_of_getElem? (i := 34) rfl)) (by decide) (by decide)) q227a q227c (g := (mkF m 148 #[.val (.int p1), .val (.int p2), .val (.int p3), .val (.int p4), .val (.int p5), .val (.int (1 : Int32)), .val (.int (1 : Int32)), .val (.ref b176), .val (.ref b177), .val (.ref b178), .val (.ref b221), .val (.ref b223), .val (.int (0 : Int32)), .unset, .unset, .unset] [(.ref b223)])) rfl (by rw [hml]; rfl) (Steps.refl _) (argsL := []) (rest := []) (lenOf pd_0_3 rfl) rfl (by show 2 * 0 + _ ≤ _; exact Nat.le_of_eq rfl) (hb hby at_148) (fun _ _ => ⟨rfl, e226, (by decide : 9 + 0 ≤ _), (by decide : 19 + 0 ≤ _)⟩)
    dsimp only [Pt.U, Pt.locs, Pt.cells, Pt.slots] at X227 l227 y227 z227 st227 hQ227
    subst l227 y227 z227
    obtain ⟨rfl, N227q, e227⟩ := hQ227
    have N227 := Fr.app N226 N227q
    refine goT st227 ?_
    show Go _ p e below s _ _ _ (T227.setTop (mkF m 151 #[.val (.int p1), .val (.int p2), .val (.int p3), .val (.int p4), .val (.int p5), .val (.int (1 : Int32)), .val (.int (1 : Int32)), .val (.ref b176), .val (.ref b177), .val (.ref b178), .val (.ref b221), .val (.ref b223), .val (.int (0 : Int32)), .unset, .unset, .unset] [(.int (0 : Int32))]))
    refine go (fun _ => XS.istore X227.here hx rfl (hb hby at_151) rfl (l' := #[.val (.int p1), .val (.int p2), .val (.int p3), .val (.int p4), .val (.int p5), .val (.int (1 : Int32)), .val (.int (1 : Int32)), .val (.ref b176), .val (.ref b177), .val (.ref b178), .val (.ref b221), .val (.ref b223), .val (.int (0 : Int32)), .val (.int (0 : Int32)), .unset, .unset]) rfl) ?_
    show Go _ p e below s _ _ _ (T227.setTop (mkF m 153 #[.val (.int p1), .val (.int p2), .val (.int p3), .val (.int p4), .val (.int p5), .val (.int (1 : Int32)), .val (.int (1 : Int32)), .val (.ref b176), .val (.ref b177), .val (.ref b178), .val (.ref b221), .val (.ref b223), .val (.int (0 : Int32)), .val (.int (0 : Int32)), .unset, .unset] []))
    refine go (fun _ => XS.iload X227.here hx rfl (hb hby at_153) rfl) ?_
    show Go _ p e below s _ _ _ (T227.setTop (mkF m 155 #[.val (.int p1), .val (.int p2), .val (.int p3), .val (.int p4), .val (.int p5), .val (.int (1 : Int32)), .val (.int (1 : Int32)), .val (.ref b176), .val (.ref b177), .val (.ref b178), .val (.ref b221), .val (.ref b223), .val (.int (0 : Int32)), .val (.int (0 : Int32)), .unset, .unset] [(.int (0 : Int32))]))
    refine go (fun _ => XS.iload X227.here hx rfl (hb hby at_155) rfl) ?_
    show Go _ p e below s _ _ _ (T227.setTop (mkF m 157 #[.val (.int p1), .val (.int p2), .val (.int p3), .val (.int p4), .val (.int p5), .val (.int (1 : Int32)), .val (.int (1 : Int32)), .val (.ref b176), .val (.ref b177), .val (.ref b178), .val (.ref b221), .val (.ref b223), .val (.int (0 : Int32)), .val (.int (0 : Int32)), .unset, .unset] [(.int (1 : Int32)), (.int (0 : Int32))]))
    refine go (fun _ => XS.iload X227.here hx rfl (hb hby at_157) rfl) ?_
    show Go _ p e below s _ _ _ (T227.setTop (mkF m 159 #[.val (.int p1), .val (.int p2), .val (.int p3), .val (.int p4), .val (.int p5), .val (.int (1 : Int32)), .val (.int (1 : Int32)), .val (.ref b176), .val (.ref b177), .val (.ref b178), .val (.ref b221), .val (.ref b223), .val (.int (0 : Int32)), .val (.int (0 : Int32)), .unset, .unset] [(.int (1 : Int32)), (.int (1 : Int32)), (.int (0 : Int32))]))
    refine go (fun _ => XS.icmpYes X227.here hx rfl (pc0 := 159) (pc' := 166) rfl (hb hby at_159) rfl (flt (by decide : ¬ ((1 : Int32) < (1 : Int32)))).2.1 (by decide) (by decide)) ?_
    show Go _ p e below s _ _ _ (T227.setTop (mkF m 166 #[.val (.int p1), .val (.int p2), .val (.int p3), .val (.int p4), .val (.int p5), .val (.int (1 : Int32)), .val (.int (1 : Int32)), .val (.ref b176), .val (.ref b177), .val (.ref b178), .val (.ref b221), .val (.ref b223), .val (.int (0 : Int32)), .val (.int (0 : Int32)), .unset, .unset] [(.int (0 : Int32))]))
    refine go (fun _ => XS.iconst X227.here hx rfl (hb hby at_166)) ?_
    show Go _ p e below s _ _ _ (T227.setTop (mkF m 167 #[.val (.int p1), .val (.int p2), .val (.int p3), .val (.int p4), .val (.int p5), .val (.int (1 : Int32)), .val (.int (1 : Int32)), .val (.ref b176), .val (.ref b177), .val (.ref b178), .val (.ref b221), .val (.ref b223), .val (.int (0 : Int32)), .val (.int (0 : Int32)), .unset, .unset] [(.int (0 : Int32)), (.int (0 : Int32))]))
    refine go (fun _ => XS.icmpNo X227.here hx rfl (hb hby at_167) rfl (teq (rfl : (0 : Int32) = (0 : Int32))).2) ?_
    show Go _ p e below s _ _ _ (T227.setTop (mkF m 170 #[.val (.int p1), .val (.int p2), .val (.int p3), .val (.int p4), .val (.int p5), .val (.int (1 : Int32)), .val (.int (1 : Int32)), .val (.ref b176), .val (.ref b177), .val (.ref b178), .val (.ref b221), .val (.ref b223), .val (.int (0 : Int32)), .val (.int (0 : Int32)), .unset, .unset] []))
    refine go (fun _ => XS.iload X227.here hx rfl (hb hby at_170) rfl) ?_
    show Go _ p e below s _ _ _ (T227.setTop (mkF m 172 #[.val (.int p1), .val (.int p2), .val (.int p3), .val (.int p4), .val (.int p5), .val (.int (1 : Int32)), .val (.int (1 : Int32)), .val (.ref b176), .val (.ref b177), .val (.ref b178), .val (.ref b221), .val (.ref b223), .val (.int (0 : Int32)), .val (.int (0 : Int32)), .unset, .unset] [(.int (0 : Int32))]))
    refine go (fun _ => XS.iload X227.here hx rfl (hb hby at_172) rfl) ?_
    show Go _ p e below s _ _ _ (T227.setTop (mkF m 174 #[.val (.int p1), .val (.int p2), .val (.int p3), .val (.int p4), .val (.int p5), .val (.int (1 : Int32)), .val (.int (1 : Int32)), .val (.ref b176), .val (.ref b177), .val (.ref b178), .val (.ref b221), .val (.ref b223), .val (.int (0 : Int32)), .val (.int (0 : Int32)), .unset, .unset] [(.int (0 : Int32)), (.int (0 : Int32))]))
    refine go (fun _ => XS.icmpYes X227.here hx rfl (pc0 := 174) (pc' := 179) rfl (hb hby at_174) rfl (teq (rfl : (0 : Int32) = (0 : Int32))).1 (by decide) (by decide)) ?_
    show Go _ p e below s _ _ _ (T227.setTop (mkF m 179 #[.val (.int p1), .val (.int p2), .val (.int p3), .val (.int p4), .val (.int p5), .val (.int (1 : Int32)), .val (.int (1 : Int32)), .val (.ref b176), .val (.ref b177), .val (.ref b178), .val (.ref b221), .val (.ref b223), .val (.int (0 : Int32)), .val (.int (0 : Int32)), .unset, .unset] []))
    refine go (fun _ => XS.iload X227.here hx rfl (hb hby at_179) rfl) ?_
    show Go _ p e below s _ _ _ (T227.setTop (mkF m 181 #[.val (.int p1), .val (.int p2), .val (.int p3), .val (.int p4), .val (.int p5), .val (.int (1 : Int32)), .val (.int (1 : Int32)), .val (.ref b176), .val (.ref b177), .val (.ref b178), .val (.ref b221), .val (.ref b223), .val (.int (0 : Int32)), .val (.int (0 : Int32)), .unset, .unset] [(.int (0 : Int32))]))
    refine go (fun _ => XS.ifNo X227.here hx rfl (hb hby at_181) rfl ((if0 _ _).trans (teq (rfl : (0 : Int32) = (0 : Int32))).2)) ?_
    show Go _ p e below s _ _ _ (T227.setTop (mkF m 184 #[.val (.int p1), .val (.int p2), .val (.int p3), .val (.int p4), .val (.int p5), .val (.int (1 : Int32)), .val (.int (1 : Int32)), .val (.ref b176), .val (.ref b177), .val (.ref b178), .val (.ref b221), .val (.ref b223), .val (.int (0 : Int32)), .val (.int (0 : Int32)), .unset, .unset] []))
    refine go (fun _ => XS.iconst X227.here hx rfl (hb hby at_184)) ?_
    show Go _ p e below s _ _ _ (T227.setTop (mkF m 185 #[.val (.int p1), .val (.int p2), .val (.int p3), .val (.int p4), .val (.int p5), .val (.int (1 : Int32)), .val (.int (1 : Int32)), .val (.ref b176), .val (.ref b177), .val (.ref b178), .val (.ref b221), .val (.ref b223), .val (.int (0 : Int32)), .val (.int (0 : Int32)), .unset, .unset] [(.int (1 : Int32))]))
    refine goRet X227 hx Bd.notSynchronized Bd.returns rfl (Or.inl ⟨rfl, Or.inr (Or.inl rfl), _, rfl⟩) (hb hby at_185) (by decide) (by decide) (by rw [e227]; refine ⟨rfl, N227⟩)
  · rw [show own_min (0 : Int32) (2 : Int32) = (0 : Int32) from by decide]
    show Go _ p e below s _ _ _ (T178.setTop (mkF m 49 #[.val (.int p1), .val (.int p2), .val (.int p3), .val (.int p4), .val (.int p5), .val (.int (2 : Int32)), .val (.int (0 : Int32)), .val (.ref b176), .val (.ref b177), .val (.ref b178), .unset, .unset, .unset, .unset, .unset, .unset] []))
    refine go (fun _ => XS.iload X178.here hx rfl (hb hby at_49) rfl) ?_
    show Go _ p e below s _ _ _ (T178.setTop (mkF m 51 #[.val (.int p1), .val (.int p2), .val (.int p3), .val (.int p4), .val (.int p5), .val (.int (2 : Int32)), .val (.int (0 : Int32)), .val (.ref b176), .val (.ref b177), .val (.ref b178), .unset, .unset, .unset, .unset, .unset, .unset] [(.int (2 : Int32))]))
    obtain ⟨T228, h228, k228, X228, e228, E228, A228, AE228, O228, st228⟩ := newRE X178 hx hZ hown (hw _ (List.mem_of_getElem? (i := 30) rfl)) (hw _ (List.mem_of_getElem? (i := 31) rfl)) rfl (g := (mkF m 51 #[.val (.int p1), .val (.int p2), .val (.int p3), .val (.int p4), .val (.int p5), .val (.int (2 : Int32)), .val (.int (0 : Int32)), .val (.ref b176), .val (.ref b177), .val (.ref b178), .unset, .unset, .unset, .unset, .unset, .unset] [(.int (2 : Int32))])) rfl (hb hby at_51) rfl (by decide) (cap := 2) (by decide) (by decide) (by decide) (by decide) (ad := "[Ljava/lang/String;") (by first | rfl | decide)
    obtain ⟨b228, g228⟩ : ∃ z, z = T178.heap.size := ⟨_, rfl⟩
    rw [← g228] at A228 AE228 st228
    have lt228_b176_b228 : b176 < b228 := Nat.lt_of_lt_of_le c178_1.lt (Nat.le_of_eq g228.symm)
    have lt228_b177_b228 : b177 < b228 := Nat.lt_of_lt_of_le c178_2.lt (Nat.le_of_eq g228.symm)
    have lt228_b178_b228 : b178 < b228 := Nat.lt_of_lt_of_le u178_3.lt (Nat.le_of_eq g228.symm)
    have G_b228 : n0 ≤ b228 := Nat.le_trans ZN178 (Nat.le_of_eq g228.symm)
    have SZ_b228 : h0.size ≤ b228 := Nat.le_trans KK178.1 (Nat.le_of_eq g228.symm)
    have c228_1 := c178_1.ext E228
    have c228_2 := c178_2.ext E228
    have c228_3 := u178_3.ext E228
    have KK228 : Keep h0 h228 [] := KK178.ext E228
    have ZN228 : n0 ≤ h228.size := Nat.le_trans ZN178 E228.1
    have OL228 := OL178.ext E228
    have V228 : Arv Z h228 b228 k228 (.object "java/lang/String") (2 : Int32) [.null, .null] .null := (Arv.new A228 (by decide)).pad (pad_rep [] .null 2)
    refine go st228 ?_
    show Go _ p e below s _ _ _ (T228.setTop (mkF m 54 #[.val (.int p1), .val (.int p2), .val (.int p3), .val (.int p4), .val (.int p5), .val (.int (2 : Int32)), .val (.int (0 : Int32)), .val (.ref b176), .val (.ref b177), .val (.ref b178), .unset, .unset, .unset, .unset, .unset, .unset] [(.ref b228)]))
    refine go (fun _ => XS.astore X228.here hx rfl (hb hby at_54) rfl rfl (l' := #[.val (.int p1), .val (.int p2), .val (.int p3), .val (.int p4), .val (.int p5), .val (.int (2 : Int32)), .val (.int (0 : Int32)), .val (.ref b176), .val (.ref b177), .val (.ref b178), .val (.ref b228), .unset, .unset, .unset, .unset, .unset]) rfl) ?_
    show Go _ p e below s _ _ _ (T228.setTop (mkF m 56 #[.val (.int p1), .val (.int p2), .val (.int p3), .val (.int p4), .val (.int p5), .val (.int (2 : Int32)), .val (.int (0 : Int32)), .val (.ref b176), .val (.ref b177), .val (.ref b178), .val (.ref b228), .unset, .unset, .unset, .unset, .unset] []))
    refine go (fun _ => XS.iload X228.here hx rfl (hb hby at_56) rfl) ?_
    show Go _ p e below s _ _ _ (T228.setTop (mkF m 58 #[.val (.int p1), .val (.int p2), .val (.int p3), .val (.int p4), .val (.int p5), .val (.int (2 : Int32)), .val (.int (0 : Int32)), .val (.ref b176), .val (.ref b177), .val (.ref b178), .val (.ref b228), .unset, .unset, .unset, .unset, .unset] [(.int (2 : Int32))]))
    refine go (fun _ => XS.iconst X228.here hx rfl (hb hby at_58)) ?_
    show Go _ p e below s _ _ _ (T228.setTop (mkF m 59 #[.val (.int p1), .val (.int p2), .val (.int p3), .val (.int p4), .val (.int p5), .val (.int (2 : Int32)), .val (.int (0 : Int32)), .val (.ref b176), .val (.ref b177), .val (.ref b178), .val (.ref b228), .unset, .unset, .unset, .unset, .unset] [(.int (1 : Int32)), (.int (2 : Int32))]))
    refine go (fun _ => XS.icmpNo X228.here hx rfl (hb hby at_59) rfl (flt (by decide : ¬ ((2 : Int32) < (1 : Int32)))).1) ?_
    show Go _ p e below s _ _ _ (T228.setTop (mkF m 62 #[.val (.int p1), .val (.int p2), .val (.int p3), .val (.int p4), .val (.int p5), .val (.int (2 : Int32)), .val (.int (0 : Int32)), .val (.ref b176), .val (.ref b177), .val (.ref b178), .val (.ref b228), .unset, .unset, .unset, .unset, .unset] []))
    refine go (fun _ => XS.aload X228.here hx rfl (hb hby at_62) rfl rfl) ?_
    show Go _ p e below s _ _ _ (T228.setTop (mkF m 64 #[.val (.int p1), .val (.int p2), .val (.int p3), .val (.int p4), .val (.int p5), .val (.int (2 : Int32)), .val (.int (0 : Int32)), .val (.ref b176), .val (.ref b177), .val (.ref b178), .val (.ref b228), .unset, .unset, .unset, .unset, .unset] [(.ref b228)]))
    refine go (fun _ => XS.iconst X228.here hx rfl (hb hby at_64)) ?_
    show Go _ p e below s _ _ _ (T228.setTop (mkF m 65 #[.val (.int p1), .val (.int p2), .val (.int p3), .val (.int p4), .val (.int p5), .val (.int (2 : Int32)), .val (.int (0 : Int32)), .val (.ref b176), .val (.ref b177), .val (.ref b178), .val (.ref b228), .unset, .unset, .unset, .unset, .unset] [(.int (0 : Int32)), (.ref b228)]))
    refine go (fun _ => XS.aload X228.here hx rfl (hb hby at_65) rfl rfl) ?_
    show Go _ p e below s _ _ _ (T228.setTop (mkF m 67 #[.val (.int p1), .val (.int p2), .val (.int p3), .val (.int p4), .val (.int p5), .val (.int (2 : Int32)), .val (.int (0 : Int32)), .val (.ref b176), .val (.ref b177), .val (.ref b178), .val (.ref b228), .unset, .unset, .unset, .unset, .unset] [(.ref b176), (.int (0 : Int32)), (.ref b228)]))
    obtain ⟨cl229, Ar229, q229, Sz229, Nz229, Hs229, Gs229⟩ := id V228
    have hin229 : ¬ ((0 : Int32) < 0 ∨ cl229.slots.size ≤ ((0 : Int32)).toNatClampNeg) := inb_of Sz229 ⟨by decide, by decide⟩
    obtain ⟨T229, h229, X229, e229, W229, st229⟩ := stR X228 hx hZ e228 Ar229 (j := (0 : Int32)) hin229 rfl (Sto.ofV Ar229 q229 O228 (Ins.self c228_1)) (g := (mkF m 67 #[.val (.int p1), .val (.int p2), .val (.int p3), .val (.int p4), .val (.int p5), .val (.int (2 : Int32)), .val (.int (0 : Int32)), .val (.ref b176), .val (.ref b177), .val (.ref b178), .val (.ref b228), .unset, .unset, .unset, .unset, .unset] [(.ref b176), (.int (0 : Int32)), (.ref b228)])) rfl rfl (hb hby at_67)
    have V229 := Arv.set Ar229 q229 Sz229 Nz229 Hs229 Gs229 rfl W229 0 rfl (Nat.le_of_ble_eq_true rfl)
    have VV229 : Arv Z h229 b228 k228 (.object "java/lang/String") (2 : Int32) [(.ref b176), .null] .null := V229
    have c229_1 := c228_1.wr W229
    have c229_2 := c228_2.wr W229
    have c229_3 := c228_3.wr W229
    have c229_4 := AE228.wr W229
    have KK229 : Keep h0 h229 [] := KK228.wr W229 (Or.inr SZ_b228)
    have ZN229 : n0 ≤ h229.size := Nat.le_trans ZN228 (Keep.of_wr W229).1
    have NN229 := Fr.snoc X229 N178 G_b228
    have OL229 := OL228.wr W229 G_b228
    refine go st229 ?_
    show Go _ p e below s _ _ _ (T229.setTop (mkF m 68 #[.val (.int p1), .val (.int p2), .val (.int p3), .val (.int p4), .val (.int p5), .val (.int (2 : Int32)), .val (.int (0 : Int32)), .val (.ref b176), .val (.ref b177), .val (.ref b178), .val (.ref b228), .unset, .unset, .unset, .unset, .unset] []))
    refine go (fun _ => XS.iload X229.here hx rfl (hb hby at_68) rfl) ?_
    show Go _ p e below s _ _ _ (T229.setTop (mkF m 70 #[.val (.int p1), .val (.int p2), .val (.int p3), .val (.int p4), .val (.int p5), .val (.int (2 : Int32)), .val (.int (0 : Int32)), .val (.ref b176), .val (.ref b177), .val (.ref b178), .val (.ref b228), .unset, .unset, .unset, .unset, .unset] [(.int (2 : Int32))]))
    refine go (fun _ => XS.iconst X229.here hx rfl (hb hby at_70)) ?_
    show Go _ p e below s _ _ _ (T229.setTop (mkF m 71 #[.val (.int p1), .val (.int p2), .val (.int p3), .val (.int p4), .val (.int p5), .val (.int (2 : Int32)), .val (.int (0 : Int32)), .val (.ref b176), .val (.ref b177), .val (.ref b178), .val (.ref b228), .unset, .unset, .unset, .unset, .unset] [(.int (2 : Int32)), (.int (2 : Int32))]))
    refine go (fun _ => XS.icmpNo X229.here hx rfl (hb hby at_71) rfl (flt (by decide : ¬ ((2 : Int32) < (2 : Int32)))).1) ?_
    show Go _ p e below s _ _ _ (T229.setTop (mkF m 74 #[.val (.int p1), .val (.int p2), .val (.int p3), .val (.int p4), .val (.int p5), .val (.int (2 : Int32)), .val (.int (0 : Int32)), .val (.ref b176), .val (.ref b177), .val (.ref b178), .val (.ref b228), .unset, .unset, .unset, .unset, .unset] []))
    refine go (fun _ => XS.aload X229.here hx rfl (hb hby at_74) rfl rfl) ?_
    show Go _ p e below s _ _ _ (T229.setTop (mkF m 76 #[.val (.int p1), .val (.int p2), .val (.int p3), .val (.int p4), .val (.int p5), .val (.int (2 : Int32)), .val (.int (0 : Int32)), .val (.ref b176), .val (.ref b177), .val (.ref b178), .val (.ref b228), .unset, .unset, .unset, .unset, .unset] [(.ref b228)]))
    refine go (fun _ => XS.iconst X229.here hx rfl (hb hby at_76)) ?_
    show Go _ p e below s _ _ _ (T229.setTop (mkF m 77 #[.val (.int p1), .val (.int p2), .val (.int p3), .val (.int p4), .val (.int p5), .val (.int (2 : Int32)), .val (.int (0 : Int32)), .val (.ref b176), .val (.ref b177), .val (.ref b178), .val (.ref b228), .unset, .unset, .unset, .unset, .unset] [(.int (1 : Int32)), (.ref b228)]))
    refine go (fun _ => XS.aload X229.here hx rfl (hb hby at_77) rfl rfl) ?_
    show Go _ p e below s _ _ _ (T229.setTop (mkF m 79 #[.val (.int p1), .val (.int p2), .val (.int p3), .val (.int p4), .val (.int p5), .val (.int (2 : Int32)), .val (.int (0 : Int32)), .val (.ref b176), .val (.ref b177), .val (.ref b178), .val (.ref b228), .unset, .unset, .unset, .unset, .unset] [(.ref b177), (.int (1 : Int32)), (.ref b228)]))
    obtain ⟨cl230, Ar230, q230, Sz230, Nz230, Hs230, Gs230⟩ := id VV229
    have hin230 : ¬ ((1 : Int32) < 0 ∨ cl230.slots.size ≤ ((1 : Int32)).toNatClampNeg) := inb_of Sz230 ⟨by decide, by decide⟩
    obtain ⟨T230, h230, X230, e230, W230, st230⟩ := stR X229 hx hZ e229 Ar230 (j := (1 : Int32)) hin230 rfl (Sto.ofV Ar230 q230 O228 (Ins.self c229_2)) (g := (mkF m 79 #[.val (.int p1), .val (.int p2), .val (.int p3), .val (.int p4), .val (.int p5), .val (.int (2 : Int32)), .val (.int (0 : Int32)), .val (.ref b176), .val (.ref b177), .val (.ref b178), .val (.ref b228), .unset, .unset, .unset, .unset, .unset] [(.ref b177), (.int (1 : Int32)), (.ref b228)])) rfl rfl (hb hby at_79)
    have V230 := Arv.set Ar230 q230 Sz230 Nz230 Hs230 Gs230 rfl W230 1 rfl (Nat.le_of_ble_eq_true rfl)
    have VV230 : Arv Z h230 b228 k228 (.object "java/lang/String") (2 : Int32) [(.ref b176), (.ref b177)] .null := V230
    have c230_1 := c229_1.wr W230
    have c230_2 := c229_2.wr W230
    have c230_3 := c229_3.wr W230
    have c230_4 := c229_4.wr W230
    have KK230 : Keep h0 h230 [] := KK229.wr W230 (Or.inr SZ_b228)
    have ZN230 : n0 ≤ h230.size := Nat.le_trans ZN229 (Keep.of_wr W230).1
    have NN230 := Fr.snoc X230 NN229 G_b228
    have OL230 := OL229.wr W230 G_b228
    refine go st230 ?_
    show Go _ p e below s _ _ _ (T230.setTop (mkF m 80 #[.val (.int p1), .val (.int p2), .val (.int p3), .val (.int p4), .val (.int p5), .val (.int (2 : Int32)), .val (.int (0 : Int32)), .val (.ref b176), .val (.ref b177), .val (.ref b178), .val (.ref b228), .unset, .unset, .unset, .unset, .unset] []))
    refine go (fun _ => XS.iload X230.here hx rfl (hb hby at_80) rfl) ?_
    show Go _ p e below s _ _ _ (T230.setTop (mkF m 82 #[.val (.int p1), .val (.int p2), .val (.int p3), .val (.int p4), .val (.int p5), .val (.int (2 : Int32)), .val (.int (0 : Int32)), .val (.ref b176), .val (.ref b177), .val (.ref b178), .val (.ref b228), .unset, .unset, .unset, .unset, .unset] [(.int (2 : Int32))]))
    refine go (fun _ => XS.iconst X230.here hx rfl (hb hby at_82)) ?_
    show Go _ p e below s _ _ _ (T230.setTop (mkF m 83 #[.val (.int p1), .val (.int p2), .val (.int p3), .val (.int p4), .val (.int p5), .val (.int (2 : Int32)), .val (.int (0 : Int32)), .val (.ref b176), .val (.ref b177), .val (.ref b178), .val (.ref b228), .unset, .unset, .unset, .unset, .unset] [(.int (3 : Int32)), (.int (2 : Int32))]))
    refine go (fun _ => XS.icmpYes X230.here hx rfl (pc0 := 83) (pc' := 92) rfl (hb hby at_83) rfl (tlt (by decide : ((2 : Int32) < (3 : Int32)))).1 (by decide) (by decide)) ?_
    show Go _ p e below s _ _ _ (T230.setTop (mkF m 92 #[.val (.int p1), .val (.int p2), .val (.int p3), .val (.int p4), .val (.int p5), .val (.int (2 : Int32)), .val (.int (0 : Int32)), .val (.ref b176), .val (.ref b177), .val (.ref b178), .val (.ref b228), .unset, .unset, .unset, .unset, .unset] []))
    obtain ⟨T231, h231, X231, e231, E231, A231, D231, -, st231⟩ := newO X230 hx hZ hown (hw _ (List.mem_of_getElem? (i := 32) rfl)) (hw _ (List.mem_of_getElem? (i := 33) rfl)) (hw _ (List.mem_of_getElem? (i := 34) rfl)) e230 (g := (mkF m 92 #[.val (.int p1), .val (.int p2), .val (.int p3), .val (.int p4), .val (.int p5), .val (.int (2 : Int32)), .val (.int (0 : Int32)), .val (.ref b176), .val (.ref b177), .val (.ref b178), .val (.ref b228), .unset, .unset, .unset, .unset, .unset] [])) rfl (hb hby at_92) (by decide) (by decide)
    obtain ⟨b231, g231⟩ : ∃ z, z = h230.size := ⟨_, rfl⟩
    rw [← g231] at A231 D231 st231
    have lt231_b176_b231 : b176 < b231 := Nat.lt_of_lt_of_le c230_1.lt (Nat.le_of_eq g231.symm)
    have lt231_b177_b231 : b177 < b231 := Nat.lt_of_lt_of_le c230_2.lt (Nat.le_of_eq g231.symm)
    have lt231_b178_b231 : b178 < b231 := Nat.lt_of_lt_of_le c230_3.lt (Nat.le_of_eq g231.symm)
    have lt231_b228_b231 : b228 < b231 := Nat.lt_of_lt_of_le c230_4.lt (Nat.le_of_eq g231.symm)
    have G_b231 : n0 ≤ b231 := Nat.le_trans ZN230 (Nat.le_of_eq g231.symm)
    have SZ_b231 : h0.size ≤ b231 := Nat.le_trans KK230.1 (Nat.le_of_eq g231.symm)
    have c231_1 := c230_1.ext E231
    have c231_2 := c230_2.ext E231
    have c231_3 := c230_3.ext E231
    have c231_4 := c230_4.ext E231
    have c231_5 := VV230.ext E231
    have KK231 : Keep h0 h231 [] := KK230.ext E231
    have ZN231 : n0 ≤ h231.size := Nat.le_trans ZN230 E231.1
    have OL231 := OL230.ext E231
    have F231_49 : Fld Z h231 b231 "com/example/sunder/sunder/cli/Arguments" "args" "[Ljava/lang/String;" .null := D231 (Or.inr (hw _ (List.mem_of_getElem? (i := 49) rfl))) (ty := (.array (.object "java/lang/String"))) (by decide)
    have F231_56 : Fld Z h231 b231 "com/example/sunder/sunder/cli/Arguments" "next" "I" (.int (0 : Int32)) := D231 (Or.inl (hw _ (List.mem_of_getElem? (i := 56) rfl))) (ty := .int) (by decide)
    refine go st231 ?_
    show Go _ p e below s _ _ _ (T231.setTop (mkF m 95 #[.val (.int p1), .val (.int p2), .val (.int p3), .val (.int p4), .val (.int p5), .val (.int (2 : Int32)), .val (.int (0 : Int32)), .val (.ref b176), .val (.ref b177), .val (.ref b178), .val (.ref b228), .unset, .unset, .unset, .unset, .unset] [(.ref b231)]))
    refine go (fun _ => XS.dup X231.here hx rfl (hb hby at_95) rfl rfl) ?_
    show Go _ p e below s _ _ _ (T231.setTop (mkF m 96 #[.val (.int p1), .val (.int p2), .val (.int p3), .val (.int p4), .val (.int p5), .val (.int (2 : Int32)), .val (.int (0 : Int32)), .val (.ref b176), .val (.ref b177), .val (.ref b178), .val (.ref b228), .unset, .unset, .unset, .unset, .unset] [(.ref b231), (.ref b231)]))
    refine go (fun _ => XS.aload X231.here hx rfl (hb hby at_96) rfl rfl) ?_
    show Go _ p e below s _ _ _ (T231.setTop (mkF m 98 #[.val (.int p1), .val (.int p2), .val (.int p3), .val (.int p4), .val (.int p5), .val (.int (2 : Int32)), .val (.int (0 : Int32)), .val (.ref b176), .val (.ref b177), .val (.ref b178), .val (.ref b228), .unset, .unset, .unset, .unset, .unset] [(.ref b228), (.ref b231), (.ref b231)]))
    obtain ⟨_, _, ⟨T232, L232, k232, n232⟩, -, X232, ⟨Lc232, hQ232, l232, y232, z232⟩, st232⟩ := X231.specialBack hx (y := (⟨"com/example/sunder/sunder/cli/Arguments", "<init>", "([Ljava/lang/String;)V"⟩ : MethodName)) rfl hown (mvT hZ (hw _ (List.mem_of_getElem? (i := 35) rfl))) (mvT hZ (hw _ (List.mem_of_getElem? (i := 36) rfl))) (mvT hZ (hw _ (List.mem_of_getElem? (i := 37) rfl))) (by decide) (backOf (W := 1) (rmI2 l Z a0 hw [] b231 b228 k228 b176 b177 .null h231 n0 ZN231 A231 F231_49 F231_56 G_b231 c231_4 c231_5 (Ne.symm (Nat.ne_of_lt lt231_b228_b231))) hZ (hw _ (List.mem_of_getElem? (i := 37) rfl)) (hw _ (List.mem_of_getElem? (i := 34) rfl)) (by decide) (by decide)) (g := (mkF m 98 #[.val (.int p1), .val (.int p2), .val (.int p3), .val (.int p4), .val (.int p5), .val (.int (2 : Int32)), .val (.int (0 : Int32)), .val (.ref b176), .val (.ref b177), .val (.ref b178), .val (.ref b228), .unset, .unset, .unset, .unset, .unset] [(.ref b228), (.ref b231), (.ref b231)])) rfl (by rw [hml]; rfl) (Steps.refl _) (a := b231) (argsL := [(.ref b228)]) (rest := [(.ref b231)]) (lenOf pd_0_2 rfl) rfl (by show 2 * 0 + _ ≤ _; exact Nat.le_of_eq rfl) (hb hby at_98) (fun _ _ => ⟨rfl, e231, (by decide : 8 + 1 ≤ _), (by decide : 19 + 2 ≤ _)⟩)
    dsimp only [Pt.U, Pt.locs, Pt.cells, Pt.slots] at X232 l232 y232 z232 st232 hQ232
    subst l232 y232 z232
    obtain ⟨b232, rfl, N232q, u232_0, u232_1, K232, u232_3, u232_4, u232_5, u232_6⟩ := hQ232
    have N232 := Fr.app NN230 N232q
    have lt232_b176_b232 : b176 < b232 := Nat.lt_of_lt_of_le c231_1.lt u232_0
    have lt232_b177_b232 : b177 < b232 := Nat.lt_of_lt_of_le c231_2.lt u232_0
    have lt232_b178_b232 : b178 < b232 := Nat.lt_of_lt_of_le c231_3.lt u232_0
    have lt232_b228_b232 : b228 < b232 := Nat.lt_of_lt_of_le c231_4.lt u232_0
    have lt232_b231_b232 : b231 < b232 := Nat.lt_of_lt_of_le A231.lt u232_0
    have G_b232 : n0 ≤ b232 := Nat.le_trans ZN231 u232_0
    have SZ_b232 : h0.size ≤ b232 := Nat.le_trans KK231.1 u232_0
    have c232_1 := c231_1.keep K232
    have c232_2 := c231_2.keep K232
    have c232_3 := c231_3.keep K232
    have c232_4 := c231_4.keep K232
    have c232_5 := c231_5.keep K232 (ninS (Nat.ne_of_lt lt231_b228_b231) nin0)
    have c232_6 := A231.keep K232
    have KK232 : Keep h0 T232.heap [] := KK231.trans K232 (allS (P := fun x => x ∈ [] ∨ h0.size ≤ x) (Or.inr SZ_b231) all0)
    have ZN232 : n0 ≤ T232.heap.size := Nat.le_trans ZN231 K232.1
    have OL232 := OL231.keep K232 (allS G_b231 all0)
    refine goT st232 ?_
    show Go _ p e below s _ _ _ (T232.setTop (mkF m 101 #[.val (.int p1), .val (.int p2), .val (.int p3), .val (.int p4), .val (.int p5), .val (.int (2 : Int32)), .val (.int (0 : Int32)), .val (.ref b176), .val (.ref b177), .val (.ref b178), .val (.ref b228), .unset, .unset, .unset, .unset, .unset] [(.ref b231)]))
    refine go (fun _ => XS.astore X232.here hx rfl (hb hby at_101) rfl rfl (l' := #[.val (.int p1), .val (.int p2), .val (.int p3), .val (.int p4), .val (.int p5), .val (.int (2 : Int32)), .val (.int (0 : Int32)), .val (.ref b176), .val (.ref b177), .val (.ref b178), .val (.ref b228), .val (.ref b231), .unset, .unset, .unset, .unset]) rfl) ?_
    show Go _ p e below s _ _ _ (T232.setTop (mkF m 103 #[.val (.int p1), .val (.int p2), .val (.int p3), .val (.int p4), .val (.int p5), .val (.int (2 : Int32)), .val (.int (0 : Int32)), .val (.ref b176), .val (.ref b177), .val (.ref b178), .val (.ref b228), .val (.ref b231), .unset, .unset, .unset, .unset] []))
    refine go (fun _ => XS.iload X232.here hx rfl (hb hby at_103) rfl) ?_
    show Go _ p e below s _ _ _ (T232.setTop (mkF m 105 #[.val (.int p1), .val (.int p2), .val (.int p3), .val (.int p4), .val (.int p5), .val (.int (2 : Int32)), .val (.int (0 : Int32)), .val (.ref b176), .val (.ref b177), .val (.ref b178), .val (.ref b228), .val (.ref b231), .unset, .unset, .unset, .unset] [(.int (0 : Int32))]))
    refine go (fun _ => XS.iconst X232.here hx rfl (hb hby at_105)) ?_
    show Go _ p e below s _ _ _ (T232.setTop (mkF m 106 #[.val (.int p1), .val (.int p2), .val (.int p3), .val (.int p4), .val (.int p5), .val (.int (2 : Int32)), .val (.int (0 : Int32)), .val (.ref b176), .val (.ref b177), .val (.ref b178), .val (.ref b228), .val (.ref b231), .unset, .unset, .unset, .unset] [(.int (1 : Int32)), (.int (0 : Int32))]))
    refine go (fun _ => XS.icmpYes X232.here hx rfl (pc0 := 106) (pc' := 115) rfl (hb hby at_106) rfl (tlt (by decide : ((0 : Int32) < (1 : Int32)))).1 (by decide) (by decide)) ?_
    show Go _ p e below s _ _ _ (T232.setTop (mkF m 115 #[.val (.int p1), .val (.int p2), .val (.int p3), .val (.int p4), .val (.int p5), .val (.int (2 : Int32)), .val (.int (0 : Int32)), .val (.ref b176), .val (.ref b177), .val (.ref b178), .val (.ref b228), .val (.ref b231), .unset, .unset, .unset, .unset] []))
    refine go (fun _ => XS.iload X232.here hx rfl (hb hby at_115) rfl) ?_
    show Go _ p e below s _ _ _ (T232.setTop (mkF m 117 #[.val (.int p1), .val (.int p2), .val (.int p3), .val (.int p4), .val (.int p5), .val (.int (2 : Int32)), .val (.int (0 : Int32)), .val (.ref b176), .val (.ref b177), .val (.ref b178), .val (.ref b228), .val (.ref b231), .unset, .unset, .unset, .unset] [(.int (0 : Int32))]))
    refine go (fun _ => XS.iconst X232.here hx rfl (hb hby at_117)) ?_
    show Go _ p e below s _ _ _ (T232.setTop (mkF m 118 #[.val (.int p1), .val (.int p2), .val (.int p3), .val (.int p4), .val (.int p5), .val (.int (2 : Int32)), .val (.int (0 : Int32)), .val (.ref b176), .val (.ref b177), .val (.ref b178), .val (.ref b228), .val (.ref b231), .unset, .unset, .unset, .unset] [(.int (2 : Int32)), (.int (0 : Int32))]))
    refine go (fun _ => XS.icmpYes X232.here hx rfl (pc0 := 118) (pc' := 127) rfl (hb hby at_118) rfl (tlt (by decide : ((0 : Int32) < (2 : Int32)))).1 (by decide) (by decide)) ?_
    show Go _ p e below s _ _ _ (T232.setTop (mkF m 127 #[.val (.int p1), .val (.int p2), .val (.int p3), .val (.int p4), .val (.int p5), .val (.int (2 : Int32)), .val (.int (0 : Int32)), .val (.ref b176), .val (.ref b177), .val (.ref b178), .val (.ref b228), .val (.ref b231), .unset, .unset, .unset, .unset] []))
    refine go (fun _ => XS.iload X232.here hx rfl (hb hby at_127) rfl) ?_
    show Go _ p e below s _ _ _ (T232.setTop (mkF m 129 #[.val (.int p1), .val (.int p2), .val (.int p3), .val (.int p4), .val (.int p5), .val (.int (2 : Int32)), .val (.int (0 : Int32)), .val (.ref b176), .val (.ref b177), .val (.ref b178), .val (.ref b228), .val (.ref b231), .unset, .unset, .unset, .unset] [(.int (0 : Int32))]))
    refine go (fun _ => XS.iconst X232.here hx rfl (hb hby at_129)) ?_
    show Go _ p e below s _ _ _ (T232.setTop (mkF m 130 #[.val (.int p1), .val (.int p2), .val (.int p3), .val (.int p4), .val (.int p5), .val (.int (2 : Int32)), .val (.int (0 : Int32)), .val (.ref b176), .val (.ref b177), .val (.ref b178), .val (.ref b228), .val (.ref b231), .unset, .unset, .unset, .unset] [(.int (3 : Int32)), (.int (0 : Int32))]))
    refine go (fun _ => XS.icmpYes X232.here hx rfl (pc0 := 130) (pc' := 139) rfl (hb hby at_130) rfl (tlt (by decide : ((0 : Int32) < (3 : Int32)))).1 (by decide) (by decide)) ?_
    show Go _ p e below s _ _ _ (T232.setTop (mkF m 139 #[.val (.int p1), .val (.int p2), .val (.int p3), .val (.int p4), .val (.int p5), .val (.int (2 : Int32)), .val (.int (0 : Int32)), .val (.ref b176), .val (.ref b177), .val (.ref b178), .val (.ref b228), .val (.ref b231), .unset, .unset, .unset, .unset] []))
    refine go (fun _ => XS.aload X232.here hx rfl (hb hby at_139) rfl rfl) ?_
    show Go _ p e below s _ _ _ (T232.setTop (mkF m 141 #[.val (.int p1), .val (.int p2), .val (.int p3), .val (.int p4), .val (.int p5), .val (.int (2 : Int32)), .val (.int (0 : Int32)), .val (.ref b176), .val (.ref b177), .val (.ref b178), .val (.ref b228), .val (.ref b231), .unset, .unset, .unset, .unset] [(.ref b231)]))
    obtain ⟨cq233, kq233, q233a, q233b, q233c⟩ := isOf hZ rfl c232_6
    obtain ⟨_, _, ⟨T233, L233, k233, n233⟩, -, X233, ⟨Lc233, hQ233, l233, y233, z233⟩, st233⟩ := X232.virtualBack hx (y := (⟨"com/example/sunder/sunder/cli/Arguments", "hasNext", "()Z"⟩ : MethodName)) (z := (⟨"com/example/sunder/sunder/cli/Arguments", "hasNext", "()Z"⟩ : MethodName)) hown (mvT hZ (hw _ (List.mem_of_getElem? (i := 50) rfl))) (mvT hZ (hw _ (List.mem_of_getElem? (i := 51) rfl))) (notFace_of_selects (args := #[]) (mvT hZ (hw _ (List.mem_of_getElem? (i := 53) rfl)))) (mvT hZ (hw _ (List.mem_of_getElem? (i := 53) rfl))) (mvT hZ (hw _ (List.mem_of_getElem? (i := 52) rfl))) (by decide) (backOf (W := 0) (rmH2_0 l Z a0 hw [] b231 b232 k228 b176 b177 (T232.heap) n0 ZN232 u232_3 u232_4 u232_6) hZ (hw _ (List.mem_of_getElem? (i := 54) rfl)) (hw _ (List.mem_of_getElem? (i := 34) rfl)) (by decide) (by decide)) q233a q233c (g := (mkF m 141 #[.val (.int p1), .val (.int p2), .val (.int p3), .val (.int p4), .val (.int p5), .val (.int (2 : Int32)), .val (.int (0 : Int32)), .val (.ref b176), .val (.ref b177), .val (.ref b178), .val (.ref b228), .val (.ref b231), .unset, .unset, .unset, .unset] [(.ref b231)])) rfl (by rw [hml]; rfl) (Steps.refl _) (argsL := []) (rest := []) (lenOf pd_0_3 rfl) rfl (by show 2 * 0 + _ ≤ _; exact Nat.le_of_eq rfl) (hb hby at_141) (fun _ _ => ⟨rfl, rfl, (by decide : 9 + 0 ≤ _), (by decide : 21 + 0 ≤ _)⟩)
    dsimp only [Pt.U, Pt.locs, Pt.cells, Pt.slots] at X233 l233 y233 z233 st233 hQ233
    subst l233 y233 z233
    obtain ⟨rfl, N233q, e233⟩ := hQ233
    have N233 := Fr.app N232 N233q
    refine goT st233 ?_
    show Go _ p e below s _ _ _ (T233.setTop (mkF m 144 #[.val (.int p1), .val (.int p2), .val (.int p3), .val (.int p4), .val (.int p5), .val (.int (2 : Int32)), .val (.int (0 : Int32)), .val (.ref b176), .val (.ref b177), .val (.ref b178), .val (.ref b228), .val (.ref b231), .unset, .unset, .unset, .unset] [(.int (1 : Int32))]))
    refine go (fun _ => XS.istore X233.here hx rfl (hb hby at_144) rfl (l' := #[.val (.int p1), .val (.int p2), .val (.int p3), .val (.int p4), .val (.int p5), .val (.int (2 : Int32)), .val (.int (0 : Int32)), .val (.ref b176), .val (.ref b177), .val (.ref b178), .val (.ref b228), .val (.ref b231), .val (.int (1 : Int32)), .unset, .unset, .unset]) rfl) ?_
    show Go _ p e below s _ _ _ (T233.setTop (mkF m 146 #[.val (.int p1), .val (.int p2), .val (.int p3), .val (.int p4), .val (.int p5), .val (.int (2 : Int32)), .val (.int (0 : Int32)), .val (.ref b176), .val (.ref b177), .val (.ref b178), .val (.ref b228), .val (.ref b231), .val (.int (1 : Int32)), .unset, .unset, .unset] []))
    refine go (fun _ => XS.aload X233.here hx rfl (hb hby at_146) rfl rfl) ?_
    show Go _ p e below s _ _ _ (T233.setTop (mkF m 148 #[.val (.int p1), .val (.int p2), .val (.int p3), .val (.int p4), .val (.int p5), .val (.int (2 : Int32)), .val (.int (0 : Int32)), .val (.ref b176), .val (.ref b177), .val (.ref b178), .val (.ref b228), .val (.ref b231), .val (.int (1 : Int32)), .unset, .unset, .unset] [(.ref b231)]))
    obtain ⟨cq234, kq234, q234a, q234b, q234c⟩ := isOf hZ e233 c232_6
    obtain ⟨_, _, ⟨T234, L234, k234, n234⟩, -, X234, ⟨Lc234, hQ234, l234, y234, z234⟩, st234⟩ := X233.virtualBack hx (y := (⟨"com/example/sunder/sunder/cli/Arguments", "hasNext", "()Z"⟩ : MethodName)) (z := (⟨"com/example/sunder/sunder/cli/Arguments", "hasNext", "()Z"⟩ : MethodName)) hown (mvT hZ (hw _ (List.mem_of_getElem? (i := 50) rfl))) (mvT hZ (hw _ (List.mem_of_getElem? (i := 51) rfl))) (notFace_of_selects (args := #[]) (mvT hZ (hw _ (List.mem_of_getElem? (i := 53) rfl)))) (mvT hZ (hw _ (List.mem_of_getElem? (i := 53) rfl))) (mvT hZ (hw _ (List.mem_of_getElem? (i := 52) rfl))) (by decide) (backOf (W := 0) (rmH2_0 l Z a0 hw [] b231 b232 k228 b176 b177 (T232.heap) n0 ZN232 u232_3 u232_4 u232_6) hZ (hw _ (List.mem_of_getElem? (i := 54) rfl)) (hw _ (List.mem_of_getElem? (i := 34) rfl)) (by decide) (by decide)) q234a q234c (g := (mkF m 148 #[.val (.int p1), .val (.int p2), .val (.int p3), .val (.int p4), .val (.int p5), .val (.int (2 : Int32)), .val (.int (0 : Int32)), .val (.ref b176), .val (.ref b177), .val (.ref b178), .val (.ref b228), .val (.ref b231), .val (.int (1 : Int32)), .unset, .unset, .unset] [(.ref b231)])) rfl (by rw [hml]; rfl) (Steps.refl _) (argsL := []) (rest := []) (lenOf pd_0_3 rfl) rfl (by show 2 * 0 + _ ≤ _; exact Nat.le_of_eq rfl) (hb hby at_148) (fun _ _ => ⟨rfl, e233, (by decide : 9 + 0 ≤ _), (by decide : 21 + 0 ≤ _)⟩)
    dsimp only [Pt.U, Pt.locs, Pt.cells, Pt.slots] at X234 l234 y234 z234 st234 hQ234
    subst l234 y234 z234
    obtain ⟨rfl, N234q, e234⟩ := hQ234
    have N234 := Fr.app N233 N234q
    refine goT st234 ?_
    show Go _ p e below s _ _ _ (T234.setTop (mkF m 151 #[.val (.int p1), .val (.int p2), .val (.int p3), .val (.int p4), .val (.int p5), .val (.int (2 : Int32)), .val (.int (0 : Int32)), .val (.ref b176), .val (.ref b177), .val (.ref b178), .val (.ref b228), .val (.ref b231), .val (.int (1 : Int32)), .unset, .unset, .unset] [(.int (1 : Int32))]))
    refine go (fun _ => XS.istore X234.here hx rfl (hb hby at_151) rfl (l' := #[.val (.int p1), .val (.int p2), .val (.int p3), .val (.int p4), .val (.int p5), .val (.int (2 : Int32)), .val (.int (0 : Int32)), .val (.ref b176), .val (.ref b177), .val (.ref b178), .val (.ref b228), .val (.ref b231), .val (.int (1 : Int32)), .val (.int (1 : Int32)), .unset, .unset]) rfl) ?_
    show Go _ p e below s _ _ _ (T234.setTop (mkF m 153 #[.val (.int p1), .val (.int p2), .val (.int p3), .val (.int p4), .val (.int p5), .val (.int (2 : Int32)), .val (.int (0 : Int32)), .val (.ref b176), .val (.ref b177), .val (.ref b178), .val (.ref b228), .val (.ref b231), .val (.int (1 : Int32)), .val (.int (1 : Int32)), .unset, .unset] []))
    refine go (fun _ => XS.iload X234.here hx rfl (hb hby at_153) rfl) ?_
    show Go _ p e below s _ _ _ (T234.setTop (mkF m 155 #[.val (.int p1), .val (.int p2), .val (.int p3), .val (.int p4), .val (.int p5), .val (.int (2 : Int32)), .val (.int (0 : Int32)), .val (.ref b176), .val (.ref b177), .val (.ref b178), .val (.ref b228), .val (.ref b231), .val (.int (1 : Int32)), .val (.int (1 : Int32)), .unset, .unset] [(.int (1 : Int32))]))
    refine go (fun _ => XS.iload X234.here hx rfl (hb hby at_155) rfl) ?_
    show Go _ p e below s _ _ _ (T234.setTop (mkF m 157 #[.val (.int p1), .val (.int p2), .val (.int p3), .val (.int p4), .val (.int p5), .val (.int (2 : Int32)), .val (.int (0 : Int32)), .val (.ref b176), .val (.ref b177), .val (.ref b178), .val (.ref b228), .val (.ref b231), .val (.int (1 : Int32)), .val (.int (1 : Int32)), .unset, .unset] [(.int (0 : Int32)), (.int (1 : Int32))]))
    refine go (fun _ => XS.iload X234.here hx rfl (hb hby at_157) rfl) ?_
    show Go _ p e below s _ _ _ (T234.setTop (mkF m 159 #[.val (.int p1), .val (.int p2), .val (.int p3), .val (.int p4), .val (.int p5), .val (.int (2 : Int32)), .val (.int (0 : Int32)), .val (.ref b176), .val (.ref b177), .val (.ref b178), .val (.ref b228), .val (.ref b231), .val (.int (1 : Int32)), .val (.int (1 : Int32)), .unset, .unset] [(.int (2 : Int32)), (.int (0 : Int32)), (.int (1 : Int32))]))
    refine go (fun _ => XS.icmpNo X234.here hx rfl (hb hby at_159) rfl (tlt (by decide : ((0 : Int32) < (2 : Int32)))).2.1) ?_
    show Go _ p e below s _ _ _ (T234.setTop (mkF m 162 #[.val (.int p1), .val (.int p2), .val (.int p3), .val (.int p4), .val (.int p5), .val (.int (2 : Int32)), .val (.int (0 : Int32)), .val (.ref b176), .val (.ref b177), .val (.ref b178), .val (.ref b228), .val (.ref b231), .val (.int (1 : Int32)), .val (.int (1 : Int32)), .unset, .unset] [(.int (1 : Int32))]))
    refine go (fun _ => XS.iconst X234.here hx rfl (hb hby at_162)) ?_
    show Go _ p e below s _ _ _ (T234.setTop (mkF m 163 #[.val (.int p1), .val (.int p2), .val (.int p3), .val (.int p4), .val (.int p5), .val (.int (2 : Int32)), .val (.int (0 : Int32)), .val (.ref b176), .val (.ref b177), .val (.ref b178), .val (.ref b228), .val (.ref b231), .val (.int (1 : Int32)), .val (.int (1 : Int32)), .unset, .unset] [(.int (1 : Int32)), (.int (1 : Int32))]))
    refine go (fun _ => XS.goto X234.here hx rfl (pc0 := 163) (pc' := 167) rfl (hb hby at_163) (by decide) (by decide)) ?_
    show Go _ p e below s _ _ _ (T234.setTop (mkF m 167 #[.val (.int p1), .val (.int p2), .val (.int p3), .val (.int p4), .val (.int p5), .val (.int (2 : Int32)), .val (.int (0 : Int32)), .val (.ref b176), .val (.ref b177), .val (.ref b178), .val (.ref b228), .val (.ref b231), .val (.int (1 : Int32)), .val (.int (1 : Int32)), .unset, .unset] [(.int (1 : Int32)), (.int (1 : Int32))]))
    refine go (fun _ => XS.icmpNo X234.here hx rfl (hb hby at_167) rfl (teq (rfl : (1 : Int32) = (1 : Int32))).2) ?_
    show Go _ p e below s _ _ _ (T234.setTop (mkF m 170 #[.val (.int p1), .val (.int p2), .val (.int p3), .val (.int p4), .val (.int p5), .val (.int (2 : Int32)), .val (.int (0 : Int32)), .val (.ref b176), .val (.ref b177), .val (.ref b178), .val (.ref b228), .val (.ref b231), .val (.int (1 : Int32)), .val (.int (1 : Int32)), .unset, .unset] []))
    refine go (fun _ => XS.iload X234.here hx rfl (hb hby at_170) rfl) ?_
    show Go _ p e below s _ _ _ (T234.setTop (mkF m 172 #[.val (.int p1), .val (.int p2), .val (.int p3), .val (.int p4), .val (.int p5), .val (.int (2 : Int32)), .val (.int (0 : Int32)), .val (.ref b176), .val (.ref b177), .val (.ref b178), .val (.ref b228), .val (.ref b231), .val (.int (1 : Int32)), .val (.int (1 : Int32)), .unset, .unset] [(.int (1 : Int32))]))
    refine go (fun _ => XS.iload X234.here hx rfl (hb hby at_172) rfl) ?_
    show Go _ p e below s _ _ _ (T234.setTop (mkF m 174 #[.val (.int p1), .val (.int p2), .val (.int p3), .val (.int p4), .val (.int p5), .val (.int (2 : Int32)), .val (.int (0 : Int32)), .val (.ref b176), .val (.ref b177), .val (.ref b178), .val (.ref b228), .val (.ref b231), .val (.int (1 : Int32)), .val (.int (1 : Int32)), .unset, .unset] [(.int (1 : Int32)), (.int (1 : Int32))]))
    refine go (fun _ => XS.icmpYes X234.here hx rfl (pc0 := 174) (pc' := 179) rfl (hb hby at_174) rfl (teq (rfl : (1 : Int32) = (1 : Int32))).1 (by decide) (by decide)) ?_
    show Go _ p e below s _ _ _ (T234.setTop (mkF m 179 #[.val (.int p1), .val (.int p2), .val (.int p3), .val (.int p4), .val (.int p5), .val (.int (2 : Int32)), .val (.int (0 : Int32)), .val (.ref b176), .val (.ref b177), .val (.ref b178), .val (.ref b228), .val (.ref b231), .val (.int (1 : Int32)), .val (.int (1 : Int32)), .unset, .unset] []))
    refine go (fun _ => XS.iload X234.here hx rfl (hb hby at_179) rfl) ?_
    show Go _ p e below s _ _ _ (T234.setTop (mkF m 181 #[.val (.int p1), .val (.int p2), .val (.int p3), .val (.int p4), .val (.int p5), .val (.int (2 : Int32)), .val (.int (0 : Int32)), .val (.ref b176), .val (.ref b177), .val (.ref b178), .val (.ref b228), .val (.ref b231), .val (.int (1 : Int32)), .val (.int (1 : Int32)), .unset, .unset] [(.int (1 : Int32))]))
    refine go (fun _ => XS.ifYes X234.here hx rfl (pc0 := 181) (pc' := 186) rfl (hb hby at_181) rfl ((if0 _ _).trans (feq (by decide : ¬ ((1 : Int32) = (0 : Int32)))).2) (by decide) (by decide)) ?_
    show Go _ p e below s _ _ _ (T234.setTop (mkF m 186 #[.val (.int p1), .val (.int p2), .val (.int p3), .val (.int p4), .val (.int p5), .val (.int (2 : Int32)), .val (.int (0 : Int32)), .val (.ref b176), .val (.ref b177), .val (.ref b178), .val (.ref b228), .val (.ref b231), .val (.int (1 : Int32)), .val (.int (1 : Int32)), .unset, .unset] []))
    refine go (fun _ => XS.aload X234.here hx rfl (hb hby at_186) rfl rfl) ?_
    show Go _ p e below s _ _ _ (T234.setTop (mkF m 188 #[.val (.int p1), .val (.int p2), .val (.int p3), .val (.int p4), .val (.int p5), .val (.int (2 : Int32)), .val (.int (0 : Int32)), .val (.ref b176), .val (.ref b177), .val (.ref b178), .val (.ref b228), .val (.ref b231), .val (.int (1 : Int32)), .val (.int (1 : Int32)), .unset, .unset] [(.ref b231)]))
    obtain ⟨cq235, kq235, q235a, q235b, q235c⟩ := isOf hZ e234 c232_6
    obtain ⟨_, _, ⟨T235, L235, k235, n235⟩, -, X235, ⟨Lc235, hQ235, l235, y235, z235⟩, st235⟩ := X234.virtualBack hx (y := (⟨"com/example/sunder/sunder/cli/Arguments", "next", "()Ljava/lang/String;"⟩ : MethodName)) (z := (⟨"com/example/sunder/sunder/cli/Arguments", "next", "()Ljava/lang/String;"⟩ : MethodName)) hown (mvT hZ (hw _ (List.mem_of_getElem? (i := 57) rfl))) (mvT hZ (hw _ (List.mem_of_getElem? (i := 58) rfl))) (notFace_of_selects (args := #[]) (mvT hZ (hw _ (List.mem_of_getElem? (i := 60) rfl)))) (mvT hZ (hw _ (List.mem_of_getElem? (i := 60) rfl))) (mvT hZ (hw _ (List.mem_of_getElem? (i := 59) rfl))) (by decide) (backOf (W := 0) (rmN2_0 l Z a0 hw [] b231 b232 k228 b176 b177 (T232.heap) n0 ZN232 c232_6 u232_3 u232_4 G_b231 u232_6 (Nat.ne_of_lt lt232_b231_b232)) hZ (hw _ (List.mem_of_getElem? (i := 61) rfl)) (hw _ (List.mem_of_getElem? (i := 34) rfl)) (by decide) (by decide)) q235a q235c (g := (mkF m 188 #[.val (.int p1), .val (.int p2), .val (.int p3), .val (.int p4), .val (.int p5), .val (.int (2 : Int32)), .val (.int (0 : Int32)), .val (.ref b176), .val (.ref b177), .val (.ref b178), .val (.ref b228), .val (.ref b231), .val (.int (1 : Int32)), .val (.int (1 : Int32)), .unset, .unset] [(.ref b231)])) rfl (by rw [hml]; rfl) (Steps.refl _) (argsL := []) (rest := []) (lenOf pd_0_4 rfl) rfl (by show 2 * 0 + _ ≤ _; exact Nat.le_of_eq rfl) (hb hby at_188) (fun _ _ => ⟨rfl, e234, (by decide : 9 + 0 ≤ _), (by decide : 21 + 0 ≤ _)⟩)
    dsimp only [Pt.U, Pt.locs, Pt.cells, Pt.slots] at X235 l235 y235 z235 st235 hQ235
    subst l235 y235 z235
    obtain ⟨rfl, N235q, K235, u235_1, u235_2⟩ := hQ235
    have N235 := Fr.app N234 N235q
    have c235_1 := c232_1.keep K235
    have c235_2 := c232_2.keep K235
    have c235_3 := c232_3.keep K235
    have c235_4 := c232_4.keep K235
    have c235_5 := c232_5.keep K235 (ninS (Nat.ne_of_lt lt231_b228_b231) nin0)
    have c235_6 := c232_6.keep K235
    have c235_7 := u232_5.keep K235
    have c235_8 := u232_6.keep K235 (ninS (Ne.symm (Nat.ne_of_lt lt232_b231_b232)) nin0)
    have KK235 : Keep h0 T235.heap [] := KK232.trans K235 (allS (P := fun x => x ∈ [] ∨ h0.size ≤ x) (Or.inr SZ_b231) all0)
    have ZN235 : n0 ≤ T235.heap.size := Nat.le_trans ZN232 K235.1
    have OL235 := OL232.keep K235 (allS G_b231 all0)
    refine goT st235 ?_
    show Go _ p e below s _ _ _ (T235.setTop (mkF m 191 #[.val (.int p1), .val (.int p2), .val (.int p3), .val (.int p4), .val (.int p5), .val (.int (2 : Int32)), .val (.int (0 : Int32)), .val (.ref b176), .val (.ref b177), .val (.ref b178), .val (.ref b228), .val (.ref b231), .val (.int (1 : Int32)), .val (.int (1 : Int32)), .unset, .unset] [(.ref b176)]))
    refine go (fun _ => XS.astore X235.here hx rfl (hb hby at_191) rfl rfl (l' := #[.val (.int p1), .val (.int p2), .val (.int p3), .val (.int p4), .val (.int p5), .val (.int (2 : Int32)), .val (.int (0 : Int32)), .val (.ref b176), .val (.ref b177), .val (.ref b178), .val (.ref b228), .val (.ref b231), .val (.int (1 : Int32)), .val (.int (1 : Int32)), .val (.ref b176), .unset]) rfl) ?_
    show Go _ p e below s _ _ _ (T235.setTop (mkF m 193 #[.val (.int p1), .val (.int p2), .val (.int p3), .val (.int p4), .val (.int p5), .val (.int (2 : Int32)), .val (.int (0 : Int32)), .val (.ref b176), .val (.ref b177), .val (.ref b178), .val (.ref b228), .val (.ref b231), .val (.int (1 : Int32)), .val (.int (1 : Int32)), .val (.ref b176), .unset] []))
    refine go (fun _ => XS.iload X235.here hx rfl (hb hby at_193) rfl) ?_
    show Go _ p e below s _ _ _ (T235.setTop (mkF m 195 #[.val (.int p1), .val (.int p2), .val (.int p3), .val (.int p4), .val (.int p5), .val (.int (2 : Int32)), .val (.int (0 : Int32)), .val (.ref b176), .val (.ref b177), .val (.ref b178), .val (.ref b228), .val (.ref b231), .val (.int (1 : Int32)), .val (.int (1 : Int32)), .val (.ref b176), .unset] [(.int (0 : Int32))]))
    refine go (fun _ => XS.ifNo X235.here hx rfl (hb hby at_195) rfl ((if0 _ _).trans (teq (rfl : (0 : Int32) = (0 : Int32))).2)) ?_
    show Go _ p e below s _ _ _ (T235.setTop (mkF m 198 #[.val (.int p1), .val (.int p2), .val (.int p3), .val (.int p4), .val (.int p5), .val (.int (2 : Int32)), .val (.int (0 : Int32)), .val (.ref b176), .val (.ref b177), .val (.ref b178), .val (.ref b228), .val (.ref b231), .val (.int (1 : Int32)), .val (.int (1 : Int32)), .val (.ref b176), .unset] []))
    refine go (fun _ => XS.aload X235.here hx rfl (hb hby at_198) rfl rfl) ?_
    show Go _ p e below s _ _ _ (T235.setTop (mkF m 200 #[.val (.int p1), .val (.int p2), .val (.int p3), .val (.int p4), .val (.int p5), .val (.int (2 : Int32)), .val (.int (0 : Int32)), .val (.ref b176), .val (.ref b177), .val (.ref b178), .val (.ref b228), .val (.ref b231), .val (.int (1 : Int32)), .val (.int (1 : Int32)), .val (.ref b176), .unset] [(.ref b176)]))
    refine go (fun _ => XS.goto X235.here hx rfl (pc0 := 200) (pc' := 216) rfl (hb hby at_200) (by decide) (by decide)) ?_
    show Go _ p e below s _ _ _ (T235.setTop (mkF m 216 #[.val (.int p1), .val (.int p2), .val (.int p3), .val (.int p4), .val (.int p5), .val (.int (2 : Int32)), .val (.int (0 : Int32)), .val (.ref b176), .val (.ref b177), .val (.ref b178), .val (.ref b228), .val (.ref b231), .val (.int (1 : Int32)), .val (.int (1 : Int32)), .val (.ref b176), .unset] [(.ref b176)]))
    refine go (fun _ => XS.astore X235.here hx rfl (hb hby at_216) rfl rfl (l' := #[.val (.int p1), .val (.int p2), .val (.int p3), .val (.int p4), .val (.int p5), .val (.int (2 : Int32)), .val (.int (0 : Int32)), .val (.ref b176), .val (.ref b177), .val (.ref b178), .val (.ref b228), .val (.ref b231), .val (.int (1 : Int32)), .val (.int (1 : Int32)), .val (.ref b176), .val (.ref b176)]) rfl) ?_
    show Go _ p e below s _ _ _ (T235.setTop (mkF m 218 #[.val (.int p1), .val (.int p2), .val (.int p3), .val (.int p4), .val (.int p5), .val (.int (2 : Int32)), .val (.int (0 : Int32)), .val (.ref b176), .val (.ref b177), .val (.ref b178), .val (.ref b228), .val (.ref b231), .val (.int (1 : Int32)), .val (.int (1 : Int32)), .val (.ref b176), .val (.ref b176)] []))
    refine go (fun _ => XS.aload X235.here hx rfl (hb hby at_218) rfl rfl) ?_
    show Go _ p e below s _ _ _ (T235.setTop (mkF m 220 #[.val (.int p1), .val (.int p2), .val (.int p3), .val (.int p4), .val (.int p5), .val (.int (2 : Int32)), .val (.int (0 : Int32)), .val (.ref b176), .val (.ref b177), .val (.ref b178), .val (.ref b228), .val (.ref b231), .val (.int (1 : Int32)), .val (.int (1 : Int32)), .val (.ref b176), .val (.ref b176)] [(.ref b176)]))
    refine go (fun _ => XS.aload X235.here hx rfl (hb hby at_220) rfl rfl) ?_
    show Go _ p e below s _ _ _ (T235.setTop (mkF m 222 #[.val (.int p1), .val (.int p2), .val (.int p3), .val (.int p4), .val (.int p5), .val (.int (2 : Int32)), .val (.int (0 : Int32)), .val (.ref b176), .val (.ref b177), .val (.ref b178), .val (.ref b228), .val (.ref b231), .val (.int (1 : Int32)), .val (.int (1 : Int32)), .val (.ref b176), .val (.ref b176)] [(.ref b176), (.ref b176)]))
    obtain ⟨cq236, kq236, q236a, q236b, q236c⟩ := isOf hZ rfl c235_1
    obtain ⟨_, _, ⟨T236, L236, k236, n236⟩, -, X236, ⟨Lc236, hQ236, l236, y236, z236⟩, st236⟩ := X235.virtualBack hx (y := (⟨"java/lang/String", "equals", "(Ljava/lang/Object;)Z"⟩ : MethodName)) (z := (⟨"java/lang/String", "equals", "(Ljava/lang/Object;)Z"⟩ : MethodName)) hown (mvT hZ (hw _ (List.mem_of_getElem? (i := 63) rfl))) (mvT hZ (hw _ (List.mem_of_getElem? (i := 64) rfl))) (notFace_of_selects (args := #[]) (mvT hZ (hw _ (List.mem_of_getElem? (i := 66) rfl)))) (mvT hZ (hw _ (List.mem_of_getElem? (i := 66) rfl))) (mvT hZ (hw _ (List.mem_of_getElem? (i := 65) rfl))) (by decide) (backOf (W := 0) (rm10 l Z a0 hw [] b176 b176 (T235.heap) n0 ZN235 rfl) hZ (hw _ (List.mem_of_getElem? (i := 67) rfl)) (hw _ (List.mem_of_getElem? (i := 6) rfl)) (by decide) (by decide)) q236a q236c (g := (mkF m 222 #[.val (.int p1), .val (.int p2), .val (.int p3), .val (.int p4), .val (.int p5), .val (.int (2 : Int32)), .val (.int (0 : Int32)), .val (.ref b176), .val (.ref b177), .val (.ref b178), .val (.ref b228), .val (.ref b231), .val (.int (1 : Int32)), .val (.int (1 : Int32)), .val (.ref b176), .val (.ref b176)] [(.ref b176), (.ref b176)])) rfl (by rw [hml]; rfl) (Steps.refl _) (argsL := [(.ref b176)]) (rest := []) (lenOf pd_0_5 rfl) rfl (by show 2 * 0 + _ ≤ _; exact Nat.le_of_eq rfl) (hb hby at_222) (fun _ _ => ⟨rfl, rfl, (by decide : 9 + 0 ≤ _), (by decide : 21 + 0 ≤ _)⟩)
    dsimp only [Pt.U, Pt.locs, Pt.cells, Pt.slots] at X236 l236 y236 z236 st236 hQ236
    subst l236 y236 z236
    obtain ⟨rfl, N236q, e236⟩ := hQ236
    have N236 := Fr.app N235 N236q
    refine goT st236 ?_
    show Go _ p e below s _ _ _ (T236.setTop (mkF m 225 #[.val (.int p1), .val (.int p2), .val (.int p3), .val (.int p4), .val (.int p5), .val (.int (2 : Int32)), .val (.int (0 : Int32)), .val (.ref b176), .val (.ref b177), .val (.ref b178), .val (.ref b228), .val (.ref b231), .val (.int (1 : Int32)), .val (.int (1 : Int32)), .val (.ref b176), .val (.ref b176)] [(.int (1 : Int32))]))
    refine goRet X236 hx Bd.notSynchronized Bd.returns rfl (Or.inl ⟨rfl, Or.inr (Or.inl rfl), _, rfl⟩) (hb hby at_225) (by decide) (by decide) (by rw [e236]; refine ⟨rfl, N236⟩)
  · rw [show own_min (1 : Int32) (2 : Int32) = (1 : Int32) from by decide]
    show Go _ p e below s _ _ _ (T178.setTop (mkF m 49 #[.val (.int p1), .val (.int p2), .val (.int p3), .val (.int p4), .val (.int p5), .val (.int (2 : Int32)), .val (.int (1 : Int32)), .val (.ref b176), .val (.ref b177), .val (.ref b178), .unset, .unset, .unset, .unset, .unset, .unset] []))
    refine go (fun _ => XS.iload X178.here hx rfl (hb hby at_49) rfl) ?_
    show Go _ p e below s _ _ _ (T178.setTop (mkF m 51 #[.val (.int p1), .val (.int p2), .val (.int p3), .val (.int p4), .val (.int p5), .val (.int (2 : Int32)), .val (.int (1 : Int32)), .val (.ref b176), .val (.ref b177), .val (.ref b178), .unset, .unset, .unset, .unset, .unset, .unset] [(.int (2 : Int32))]))
    obtain ⟨T237, h237, k237, X237, e237, E237, A237, AE237, O237, st237⟩ := newRE X178 hx hZ hown (hw _ (List.mem_of_getElem? (i := 30) rfl)) (hw _ (List.mem_of_getElem? (i := 31) rfl)) rfl (g := (mkF m 51 #[.val (.int p1), .val (.int p2), .val (.int p3), .val (.int p4), .val (.int p5), .val (.int (2 : Int32)), .val (.int (1 : Int32)), .val (.ref b176), .val (.ref b177), .val (.ref b178), .unset, .unset, .unset, .unset, .unset, .unset] [(.int (2 : Int32))])) rfl (hb hby at_51) rfl (by decide) (cap := 2) (by decide) (by decide) (by decide) (by decide) (ad := "[Ljava/lang/String;") (by first | rfl | decide)
    obtain ⟨b237, g237⟩ : ∃ z, z = T178.heap.size := ⟨_, rfl⟩
    rw [← g237] at A237 AE237 st237
    have lt237_b176_b237 : b176 < b237 := Nat.lt_of_lt_of_le c178_1.lt (Nat.le_of_eq g237.symm)
    have lt237_b177_b237 : b177 < b237 := Nat.lt_of_lt_of_le c178_2.lt (Nat.le_of_eq g237.symm)
    have lt237_b178_b237 : b178 < b237 := Nat.lt_of_lt_of_le u178_3.lt (Nat.le_of_eq g237.symm)
    have G_b237 : n0 ≤ b237 := Nat.le_trans ZN178 (Nat.le_of_eq g237.symm)
    have SZ_b237 : h0.size ≤ b237 := Nat.le_trans KK178.1 (Nat.le_of_eq g237.symm)
    have c237_1 := c178_1.ext E237
    have c237_2 := c178_2.ext E237
    have c237_3 := u178_3.ext E237
    have KK237 : Keep h0 h237 [] := KK178.ext E237
    have ZN237 : n0 ≤ h237.size := Nat.le_trans ZN178 E237.1
    have OL237 := OL178.ext E237
    have V237 : Arv Z h237 b237 k237 (.object "java/lang/String") (2 : Int32) [.null, .null] .null := (Arv.new A237 (by decide)).pad (pad_rep [] .null 2)
    refine go st237 ?_
    show Go _ p e below s _ _ _ (T237.setTop (mkF m 54 #[.val (.int p1), .val (.int p2), .val (.int p3), .val (.int p4), .val (.int p5), .val (.int (2 : Int32)), .val (.int (1 : Int32)), .val (.ref b176), .val (.ref b177), .val (.ref b178), .unset, .unset, .unset, .unset, .unset, .unset] [(.ref b237)]))
    refine go (fun _ => XS.astore X237.here hx rfl (hb hby at_54) rfl rfl (l' := #[.val (.int p1), .val (.int p2), .val (.int p3), .val (.int p4), .val (.int p5), .val (.int (2 : Int32)), .val (.int (1 : Int32)), .val (.ref b176), .val (.ref b177), .val (.ref b178), .val (.ref b237), .unset, .unset, .unset, .unset, .unset]) rfl) ?_
    show Go _ p e below s _ _ _ (T237.setTop (mkF m 56 #[.val (.int p1), .val (.int p2), .val (.int p3), .val (.int p4), .val (.int p5), .val (.int (2 : Int32)), .val (.int (1 : Int32)), .val (.ref b176), .val (.ref b177), .val (.ref b178), .val (.ref b237), .unset, .unset, .unset, .unset, .unset] []))
    refine go (fun _ => XS.iload X237.here hx rfl (hb hby at_56) rfl) ?_
    show Go _ p e below s _ _ _ (T237.setTop (mkF m 58 #[.val (.int p1), .val (.int p2), .val (.int p3), .val (.int p4), .val (.int p5), .val (.int (2 : Int32)), .val (.int (1 : Int32)), .val (.ref b176), .val (.ref b177), .val (.ref b178), .val (.ref b237), .unset, .unset, .unset, .unset, .unset] [(.int (2 : Int32))]))
    refine go (fun _ => XS.iconst X237.here hx rfl (hb hby at_58)) ?_
    show Go _ p e below s _ _ _ (T237.setTop (mkF m 59 #[.val (.int p1), .val (.int p2), .val (.int p3), .val (.int p4), .val (.int p5), .val (.int (2 : Int32)), .val (.int (1 : Int32)), .val (.ref b176), .val (.ref b177), .val (.ref b178), .val (.ref b237), .unset, .unset, .unset, .unset, .unset] [(.int (1 : Int32)), (.int (2 : Int32))]))
    refine go (fun _ => XS.icmpNo X237.here hx rfl (hb hby at_59) rfl (flt (by decide : ¬ ((2 : Int32) < (1 : Int32)))).1) ?_
    show Go _ p e below s _ _ _ (T237.setTop (mkF m 62 #[.val (.int p1), .val (.int p2), .val (.int p3), .val (.int p4), .val (.int p5), .val (.int (2 : Int32)), .val (.int (1 : Int32)), .val (.ref b176), .val (.ref b177), .val (.ref b178), .val (.ref b237), .unset, .unset, .unset, .unset, .unset] []))
    refine go (fun _ => XS.aload X237.here hx rfl (hb hby at_62) rfl rfl) ?_
    show Go _ p e below s _ _ _ (T237.setTop (mkF m 64 #[.val (.int p1), .val (.int p2), .val (.int p3), .val (.int p4), .val (.int p5), .val (.int (2 : Int32)), .val (.int (1 : Int32)), .val (.ref b176), .val (.ref b177), .val (.ref b178), .val (.ref b237), .unset, .unset, .unset, .unset, .unset] [(.ref b237)]))
    refine go (fun _ => XS.iconst X237.here hx rfl (hb hby at_64)) ?_
    show Go _ p e below s _ _ _ (T237.setTop (mkF m 65 #[.val (.int p1), .val (.int p2), .val (.int p3), .val (.int p4), .val (.int p5), .val (.int (2 : Int32)), .val (.int (1 : Int32)), .val (.ref b176), .val (.ref b177), .val (.ref b178), .val (.ref b237), .unset, .unset, .unset, .unset, .unset] [(.int (0 : Int32)), (.ref b237)]))
    refine go (fun _ => XS.aload X237.here hx rfl (hb hby at_65) rfl rfl) ?_
    show Go _ p e below s _ _ _ (T237.setTop (mkF m 67 #[.val (.int p1), .val (.int p2), .val (.int p3), .val (.int p4), .val (.int p5), .val (.int (2 : Int32)), .val (.int (1 : Int32)), .val (.ref b176), .val (.ref b177), .val (.ref b178), .val (.ref b237), .unset, .unset, .unset, .unset, .unset] [(.ref b176), (.int (0 : Int32)), (.ref b237)]))
    obtain ⟨cl238, Ar238, q238, Sz238, Nz238, Hs238, Gs238⟩ := id V237
    have hin238 : ¬ ((0 : Int32) < 0 ∨ cl238.slots.size ≤ ((0 : Int32)).toNatClampNeg) := inb_of Sz238 ⟨by decide, by decide⟩
    obtain ⟨T238, h238, X238, e238, W238, st238⟩ := stR X237 hx hZ e237 Ar238 (j := (0 : Int32)) hin238 rfl (Sto.ofV Ar238 q238 O237 (Ins.self c237_1)) (g := (mkF m 67 #[.val (.int p1), .val (.int p2), .val (.int p3), .val (.int p4), .val (.int p5), .val (.int (2 : Int32)), .val (.int (1 : Int32)), .val (.ref b176), .val (.ref b177), .val (.ref b178), .val (.ref b237), .unset, .unset, .unset, .unset, .unset] [(.ref b176), (.int (0 : Int32)), (.ref b237)])) rfl rfl (hb hby at_67)
    have V238 := Arv.set Ar238 q238 Sz238 Nz238 Hs238 Gs238 rfl W238 0 rfl (Nat.le_of_ble_eq_true rfl)
    have VV238 : Arv Z h238 b237 k237 (.object "java/lang/String") (2 : Int32) [(.ref b176), .null] .null := V238
    have c238_1 := c237_1.wr W238
    have c238_2 := c237_2.wr W238
    have c238_3 := c237_3.wr W238
    have c238_4 := AE237.wr W238
    have KK238 : Keep h0 h238 [] := KK237.wr W238 (Or.inr SZ_b237)
    have ZN238 : n0 ≤ h238.size := Nat.le_trans ZN237 (Keep.of_wr W238).1
    have NN238 := Fr.snoc X238 N178 G_b237
    have OL238 := OL237.wr W238 G_b237
    refine go st238 ?_
    show Go _ p e below s _ _ _ (T238.setTop (mkF m 68 #[.val (.int p1), .val (.int p2), .val (.int p3), .val (.int p4), .val (.int p5), .val (.int (2 : Int32)), .val (.int (1 : Int32)), .val (.ref b176), .val (.ref b177), .val (.ref b178), .val (.ref b237), .unset, .unset, .unset, .unset, .unset] []))
    refine go (fun _ => XS.iload X238.here hx rfl (hb hby at_68) rfl) ?_
    show Go _ p e below s _ _ _ (T238.setTop (mkF m 70 #[.val (.int p1), .val (.int p2), .val (.int p3), .val (.int p4), .val (.int p5), .val (.int (2 : Int32)), .val (.int (1 : Int32)), .val (.ref b176), .val (.ref b177), .val (.ref b178), .val (.ref b237), .unset, .unset, .unset, .unset, .unset] [(.int (2 : Int32))]))
    refine go (fun _ => XS.iconst X238.here hx rfl (hb hby at_70)) ?_
    show Go _ p e below s _ _ _ (T238.setTop (mkF m 71 #[.val (.int p1), .val (.int p2), .val (.int p3), .val (.int p4), .val (.int p5), .val (.int (2 : Int32)), .val (.int (1 : Int32)), .val (.ref b176), .val (.ref b177), .val (.ref b178), .val (.ref b237), .unset, .unset, .unset, .unset, .unset] [(.int (2 : Int32)), (.int (2 : Int32))]))
    refine go (fun _ => XS.icmpNo X238.here hx rfl (hb hby at_71) rfl (flt (by decide : ¬ ((2 : Int32) < (2 : Int32)))).1) ?_
    show Go _ p e below s _ _ _ (T238.setTop (mkF m 74 #[.val (.int p1), .val (.int p2), .val (.int p3), .val (.int p4), .val (.int p5), .val (.int (2 : Int32)), .val (.int (1 : Int32)), .val (.ref b176), .val (.ref b177), .val (.ref b178), .val (.ref b237), .unset, .unset, .unset, .unset, .unset] []))
    refine go (fun _ => XS.aload X238.here hx rfl (hb hby at_74) rfl rfl) ?_
    show Go _ p e below s _ _ _ (T238.setTop (mkF m 76 #[.val (.int p1), .val (.int p2), .val (.int p3), .val (.int p4), .val (.int p5), .val (.int (2 : Int32)), .val (.int (1 : Int32)), .val (.ref b176), .val (.ref b177), .val (.ref b178), .val (.ref b237), .unset, .unset, .unset, .unset, .unset] [(.ref b237)]))
    refine go (fun _ => XS.iconst X238.here hx rfl (hb hby at_76)) ?_
    show Go _ p e below s _ _ _ (T238.setTop (mkF m 77 #[.val (.int p1), .val (.int p2), .val (.int p3), .val (.int p4), .val (.int p5), .val (.int (2 : Int32)), .val (.int (1 : Int32)), .val (.ref b176), .val (.ref b177), .val (.ref b178), .val (.ref b237), .unset, .unset, .unset, .unset, .unset] [(.int (1 : Int32)), (.ref b237)]))
    refine go (fun _ => XS.aload X238.here hx rfl (hb hby at_77) rfl rfl) ?_
    show Go _ p e below s _ _ _ (T238.setTop (mkF m 79 #[.val (.int p1), .val (.int p2), .val (.int p3), .val (.int p4), .val (.int p5), .val (.int (2 : Int32)), .val (.int (1 : Int32)), .val (.ref b176), .val (.ref b177), .val (.ref b178), .val (.ref b237), .unset, .unset, .unset, .unset, .unset] [(.ref b177), (.int (1 : Int32)), (.ref b237)]))
    obtain ⟨cl239, Ar239, q239, Sz239, Nz239, Hs239, Gs239⟩ := id VV238
    have hin239 : ¬ ((1 : Int32) < 0 ∨ cl239.slots.size ≤ ((1 : Int32)).toNatClampNeg) := inb_of Sz239 ⟨by decide, by decide⟩
    obtain ⟨T239, h239, X239, e239, W239, st239⟩ := stR X238 hx hZ e238 Ar239 (j := (1 : Int32)) hin239 rfl (Sto.ofV Ar239 q239 O237 (Ins.self c238_2)) (g := (mkF m 79 #[.val (.int p1), .val (.int p2), .val (.int p3), .val (.int p4), .val (.int p5), .val (.int (2 : Int32)), .val (.int (1 : Int32)), .val (.ref b176), .val (.ref b177), .val (.ref b178), .val (.ref b237), .unset, .unset, .unset, .unset, .unset] [(.ref b177), (.int (1 : Int32)), (.ref b237)])) rfl rfl (hb hby at_79)
    have V239 := Arv.set Ar239 q239 Sz239 Nz239 Hs239 Gs239 rfl W239 1 rfl (Nat.le_of_ble_eq_true rfl)
    have VV239 : Arv Z h239 b237 k237 (.object "java/lang/String") (2 : Int32) [(.ref b176), (.ref b177)] .null := V239
    have c239_1 := c238_1.wr W239
    have c239_2 := c238_2.wr W239
    have c239_3 := c238_3.wr W239
    have c239_4 := c238_4.wr W239
    have KK239 : Keep h0 h239 [] := KK238.wr W239 (Or.inr SZ_b237)
    have ZN239 : n0 ≤ h239.size := Nat.le_trans ZN238 (Keep.of_wr W239).1
    have NN239 := Fr.snoc X239 NN238 G_b237
    have OL239 := OL238.wr W239 G_b237
    refine go st239 ?_
    show Go _ p e below s _ _ _ (T239.setTop (mkF m 80 #[.val (.int p1), .val (.int p2), .val (.int p3), .val (.int p4), .val (.int p5), .val (.int (2 : Int32)), .val (.int (1 : Int32)), .val (.ref b176), .val (.ref b177), .val (.ref b178), .val (.ref b237), .unset, .unset, .unset, .unset, .unset] []))
    refine go (fun _ => XS.iload X239.here hx rfl (hb hby at_80) rfl) ?_
    show Go _ p e below s _ _ _ (T239.setTop (mkF m 82 #[.val (.int p1), .val (.int p2), .val (.int p3), .val (.int p4), .val (.int p5), .val (.int (2 : Int32)), .val (.int (1 : Int32)), .val (.ref b176), .val (.ref b177), .val (.ref b178), .val (.ref b237), .unset, .unset, .unset, .unset, .unset] [(.int (2 : Int32))]))
    refine go (fun _ => XS.iconst X239.here hx rfl (hb hby at_82)) ?_
    show Go _ p e below s _ _ _ (T239.setTop (mkF m 83 #[.val (.int p1), .val (.int p2), .val (.int p3), .val (.int p4), .val (.int p5), .val (.int (2 : Int32)), .val (.int (1 : Int32)), .val (.ref b176), .val (.ref b177), .val (.ref b178), .val (.ref b237), .unset, .unset, .unset, .unset, .unset] [(.int (3 : Int32)), (.int (2 : Int32))]))
    refine go (fun _ => XS.icmpYes X239.here hx rfl (pc0 := 83) (pc' := 92) rfl (hb hby at_83) rfl (tlt (by decide : ((2 : Int32) < (3 : Int32)))).1 (by decide) (by decide)) ?_
    show Go _ p e below s _ _ _ (T239.setTop (mkF m 92 #[.val (.int p1), .val (.int p2), .val (.int p3), .val (.int p4), .val (.int p5), .val (.int (2 : Int32)), .val (.int (1 : Int32)), .val (.ref b176), .val (.ref b177), .val (.ref b178), .val (.ref b237), .unset, .unset, .unset, .unset, .unset] []))
    obtain ⟨T240, h240, X240, e240, E240, A240, D240, -, st240⟩ := newO X239 hx hZ hown (hw _ (List.mem_of_getElem? (i := 32) rfl)) (hw _ (List.mem_of_getElem? (i := 33) rfl)) (hw _ (List.mem_of_getElem? (i := 34) rfl)) e239 (g := (mkF m 92 #[.val (.int p1), .val (.int p2), .val (.int p3), .val (.int p4), .val (.int p5), .val (.int (2 : Int32)), .val (.int (1 : Int32)), .val (.ref b176), .val (.ref b177), .val (.ref b178), .val (.ref b237), .unset, .unset, .unset, .unset, .unset] [])) rfl (hb hby at_92) (by decide) (by decide)
    obtain ⟨b240, g240⟩ : ∃ z, z = h239.size := ⟨_, rfl⟩
    rw [← g240] at A240 D240 st240
    have lt240_b176_b240 : b176 < b240 := Nat.lt_of_lt_of_le c239_1.lt (Nat.le_of_eq g240.symm)
    have lt240_b177_b240 : b177 < b240 := Nat.lt_of_lt_of_le c239_2.lt (Nat.le_of_eq g240.symm)
    have lt240_b178_b240 : b178 < b240 := Nat.lt_of_lt_of_le c239_3.lt (Nat.le_of_eq g240.symm)
    have lt240_b237_b240 : b237 < b240 := Nat.lt_of_lt_of_le c239_4.lt (Nat.le_of_eq g240.symm)
    have G_b240 : n0 ≤ b240 := Nat.le_trans ZN239 (Nat.le_of_eq g240.symm)
    have SZ_b240 : h0.size ≤ b240 := Nat.le_trans KK239.1 (Nat.le_of_eq g240.symm)
    have c240_1 := c239_1.ext E240
    have c240_2 := c239_2.ext E240
    have c240_3 := c239_3.ext E240
    have c240_4 := c239_4.ext E240
    have c240_5 := VV239.ext E240
    have KK240 : Keep h0 h240 [] := KK239.ext E240
    have ZN240 : n0 ≤ h240.size := Nat.le_trans ZN239 E240.1
    have OL240 := OL239.ext E240
    have F240_49 : Fld Z h240 b240 "com/example/sunder/sunder/cli/Arguments" "args" "[Ljava/lang/String;" .null := D240 (Or.inr (hw _ (List.mem_of_getElem? (i := 49) rfl))) (ty := (.array (.object "java/lang/String"))) (by decide)
    have F240_56 : Fld Z h240 b240 "com/example/sunder/sunder/cli/Arguments" "next" "I" (.int (0 : Int32)) := D240 (Or.inl (hw _ (List.mem_of_getElem? (i := 56) rfl))) (ty := .int) (by decide)
    refine go st240 ?_
    show Go _ p e below s _ _ _ (T240.setTop (mkF m 95 #[.val (.int p1), .val (.int p2), .val (.int p3), .val (.int p4), .val (.int p5), .val (.int (2 : Int32)), .val (.int (1 : Int32)), .val (.ref b176), .val (.ref b177), .val (.ref b178), .val (.ref b237), .unset, .unset, .unset, .unset, .unset] [(.ref b240)]))
    refine go (fun _ => XS.dup X240.here hx rfl (hb hby at_95) rfl rfl) ?_
    show Go _ p e below s _ _ _ (T240.setTop (mkF m 96 #[.val (.int p1), .val (.int p2), .val (.int p3), .val (.int p4), .val (.int p5), .val (.int (2 : Int32)), .val (.int (1 : Int32)), .val (.ref b176), .val (.ref b177), .val (.ref b178), .val (.ref b237), .unset, .unset, .unset, .unset, .unset] [(.ref b240), (.ref b240)]))
    refine go (fun _ => XS.aload X240.here hx rfl (hb hby at_96) rfl rfl) ?_
    show Go _ p e below s _ _ _ (T240.setTop (mkF m 98 #[.val (.int p1), .val (.int p2), .val (.int p3), .val (.int p4), .val (.int p5), .val (.int (2 : Int32)), .val (.int (1 : Int32)), .val (.ref b176), .val (.ref b177), .val (.ref b178), .val (.ref b237), .unset, .unset, .unset, .unset, .unset] [(.ref b237), (.ref b240), (.ref b240)]))
    obtain ⟨_, _, ⟨T241, L241, k241, n241⟩, -, X241, ⟨Lc241, hQ241, l241, y241, z241⟩, st241⟩ := X240.specialBack hx (y := (⟨"com/example/sunder/sunder/cli/Arguments", "<init>", "([Ljava/lang/String;)V"⟩ : MethodName)) rfl hown (mvT hZ (hw _ (List.mem_of_getElem? (i := 35) rfl))) (mvT hZ (hw _ (List.mem_of_getElem? (i := 36) rfl))) (mvT hZ (hw _ (List.mem_of_getElem? (i := 37) rfl))) (by decide) (backOf (W := 1) (rmI2 l Z a0 hw [] b240 b237 k237 b176 b177 .null h240 n0 ZN240 A240 F240_49 F240_56 G_b240 c240_4 c240_5 (Ne.symm (Nat.ne_of_lt lt240_b237_b240))) hZ (hw _ (List.mem_of_getElem? (i := 37) rfl)) (hw _ (List.mem_of_getElem? (i := 34) rfl)) (by decide) (by decide)) (g := (mkF m 98 #[.val (.int p1), .val (.int p2), .val (.int p3), .val (.int p4), .val (.int p5), .val (.int (2 : Int32)), .val (.int (1 : Int32)), .val (.ref b176), .val (.ref b177), .val (.ref b178), .val (.ref b237), .unset, .unset, .unset, .unset, .unset] [(.ref b237), (.ref b240), (.ref b240)])) rfl (by rw [hml]; rfl) (Steps.refl _) (a := b240) (argsL := [(.ref b237)]) (rest := [(.ref b240)]) (lenOf pd_0_2 rfl) rfl (by show 2 * 0 + _ ≤ _; exact Nat.le_of_eq rfl) (hb hby at_98) (fun _ _ => ⟨rfl, e240, (by decide : 8 + 1 ≤ _), (by decide : 19 + 2 ≤ _)⟩)
    dsimp only [Pt.U, Pt.locs, Pt.cells, Pt.slots] at X241 l241 y241 z241 st241 hQ241
    subst l241 y241 z241
    obtain ⟨b241, rfl, N241q, u241_0, u241_1, K241, u241_3, u241_4, u241_5, u241_6⟩ := hQ241
    have N241 := Fr.app NN239 N241q
    have lt241_b176_b241 : b176 < b241 := Nat.lt_of_lt_of_le c240_1.lt u241_0
    have lt241_b177_b241 : b177 < b241 := Nat.lt_of_lt_of_le c240_2.lt u241_0
    have lt241_b178_b241 : b178 < b241 := Nat.lt_of_lt_of_le c240_3.lt u241_0
    have lt241_b237_b241 : b237 < b241 := Nat.lt_of_lt_of_le c240_4.lt u241_0
    have lt241_b240_b241 : b240 < b241 := Nat.lt_of_lt_of_le A240.lt u241_0
    have G_b241 : n0 ≤ b241 := Nat.le_trans ZN240 u241_0
    have SZ_b241 : h0.size ≤ b241 := Nat.le_trans KK240.1 u241_0
    have c241_1 := c240_1.keep K241
    have c241_2 := c240_2.keep K241
    have c241_3 := c240_3.keep K241
    have c241_4 := c240_4.keep K241
    have c241_5 := c240_5.keep K241 (ninS (Nat.ne_of_lt lt240_b237_b240) nin0)
    have c241_6 := A240.keep K241
    have KK241 : Keep h0 T241.heap [] := KK240.trans K241 (allS (P := fun x => x ∈ [] ∨ h0.size ≤ x) (Or.inr SZ_b240) all0)
    have ZN241 : n0 ≤ T241.heap.size := Nat.le_trans ZN240 K241.1
    have OL241 := OL240.keep K241 (allS G_b240 all0)
    refine goT st241 ?_
    show Go _ p e below s _ _ _ (T241.setTop (mkF m 101 #[.val (.int p1), .val (.int p2), .val (.int p3), .val (.int p4), .val (.int p5), .val (.int (2 : Int32)), .val (.int (1 : Int32)), .val (.ref b176), .val (.ref b177), .val (.ref b178), .val (.ref b237), .unset, .unset, .unset, .unset, .unset] [(.ref b240)]))
    refine go (fun _ => XS.astore X241.here hx rfl (hb hby at_101) rfl rfl (l' := #[.val (.int p1), .val (.int p2), .val (.int p3), .val (.int p4), .val (.int p5), .val (.int (2 : Int32)), .val (.int (1 : Int32)), .val (.ref b176), .val (.ref b177), .val (.ref b178), .val (.ref b237), .val (.ref b240), .unset, .unset, .unset, .unset]) rfl) ?_
    show Go _ p e below s _ _ _ (T241.setTop (mkF m 103 #[.val (.int p1), .val (.int p2), .val (.int p3), .val (.int p4), .val (.int p5), .val (.int (2 : Int32)), .val (.int (1 : Int32)), .val (.ref b176), .val (.ref b177), .val (.ref b178), .val (.ref b237), .val (.ref b240), .unset, .unset, .unset, .unset] []))
    refine go (fun _ => XS.iload X241.here hx rfl (hb hby at_103) rfl) ?_
    show Go _ p e below s _ _ _ (T241.setTop (mkF m 105 #[.val (.int p1), .val (.int p2), .val (.int p3), .val (.int p4), .val (.int p5), .val (.int (2 : Int32)), .val (.int (1 : Int32)), .val (.ref b176), .val (.ref b177), .val (.ref b178), .val (.ref b237), .val (.ref b240), .unset, .unset, .unset, .unset] [(.int (1 : Int32))]))
    refine go (fun _ => XS.iconst X241.here hx rfl (hb hby at_105)) ?_
    show Go _ p e below s _ _ _ (T241.setTop (mkF m 106 #[.val (.int p1), .val (.int p2), .val (.int p3), .val (.int p4), .val (.int p5), .val (.int (2 : Int32)), .val (.int (1 : Int32)), .val (.ref b176), .val (.ref b177), .val (.ref b178), .val (.ref b237), .val (.ref b240), .unset, .unset, .unset, .unset] [(.int (1 : Int32)), (.int (1 : Int32))]))
    refine go (fun _ => XS.icmpNo X241.here hx rfl (hb hby at_106) rfl (flt (by decide : ¬ ((1 : Int32) < (1 : Int32)))).1) ?_
    show Go _ p e below s _ _ _ (T241.setTop (mkF m 109 #[.val (.int p1), .val (.int p2), .val (.int p3), .val (.int p4), .val (.int p5), .val (.int (2 : Int32)), .val (.int (1 : Int32)), .val (.ref b176), .val (.ref b177), .val (.ref b178), .val (.ref b237), .val (.ref b240), .unset, .unset, .unset, .unset] []))
    refine go (fun _ => XS.aload X241.here hx rfl (hb hby at_109) rfl rfl) ?_
    show Go _ p e below s _ _ _ (T241.setTop (mkF m 111 #[.val (.int p1), .val (.int p2), .val (.int p3), .val (.int p4), .val (.int p5), .val (.int (2 : Int32)), .val (.int (1 : Int32)), .val (.ref b176), .val (.ref b177), .val (.ref b178), .val (.ref b237), .val (.ref b240), .unset, .unset, .unset, .unset] [(.ref b240)]))
    obtain ⟨cq242, kq242, q242a, q242b, q242c⟩ := isOf hZ rfl c241_6
    obtain ⟨_, _, ⟨T242, L242, k242, n242⟩, -, X242, ⟨Lc242, hQ242, l242, y242, z242⟩, st242⟩ := X241.virtualBack hx (y := (⟨"com/example/sunder/sunder/cli/Arguments", "next", "()Ljava/lang/String;"⟩ : MethodName)) (z := (⟨"com/example/sunder/sunder/cli/Arguments", "next", "()Ljava/lang/String;"⟩ : MethodName)) hown (mvT hZ (hw _ (List.mem_of_getElem? (i := 57) rfl))) (mvT hZ (hw _ (List.mem_of_getElem? (i := 58) rfl))) (notFace_of_selects (args := #[]) (mvT hZ (hw _ (List.mem_of_getElem? (i := 60) rfl)))) (mvT hZ (hw _ (List.mem_of_getElem? (i := 60) rfl))) (mvT hZ (hw _ (List.mem_of_getElem? (i := 59) rfl))) (by decide) (backOf (W := 0) (rmN2_0 l Z a0 hw [] b240 b241 k237 b176 b177 (T241.heap) n0 ZN241 c241_6 u241_3 u241_4 G_b240 u241_6 (Nat.ne_of_lt lt241_b240_b241)) hZ (hw _ (List.mem_of_getElem? (i := 61) rfl)) (hw _ (List.mem_of_getElem? (i := 34) rfl)) (by decide) (by decide)) q242a q242c (g := (mkF m 111 #[.val (.int p1), .val (.int p2), .val (.int p3), .val (.int p4), .val (.int p5), .val (.int (2 : Int32)), .val (.int (1 : Int32)), .val (.ref b176), .val (.ref b177), .val (.ref b178), .val (.ref b237), .val (.ref b240), .unset, .unset, .unset, .unset] [(.ref b240)])) rfl (by rw [hml]; rfl) (Steps.refl _) (argsL := []) (rest := []) (lenOf pd_0_4 rfl) rfl (by show 2 * 0 + _ ≤ _; exact Nat.le_of_eq rfl) (hb hby at_111) (fun _ _ => ⟨rfl, rfl, (by decide : 9 + 0 ≤ _), (by decide : 21 + 0 ≤ _)⟩)
    dsimp only [Pt.U, Pt.locs, Pt.cells, Pt.slots] at X242 l242 y242 z242 st242 hQ242
    subst l242 y242 z242
    obtain ⟨rfl, N242q, K242, u242_1, u242_2⟩ := hQ242
    have N242 := Fr.app N241 N242q
    have c242_1 := c241_1.keep K242
    have c242_2 := c241_2.keep K242
    have c242_3 := c241_3.keep K242
    have c242_4 := c241_4.keep K242
    have c242_5 := c241_5.keep K242 (ninS (Nat.ne_of_lt lt240_b237_b240) nin0)
    have c242_6 := c241_6.keep K242
    have c242_7 := u241_5.keep K242
    have c242_8 := u241_6.keep K242 (ninS (Ne.symm (Nat.ne_of_lt lt241_b240_b241)) nin0)
    have KK242 : Keep h0 T242.heap [] := KK241.trans K242 (allS (P := fun x => x ∈ [] ∨ h0.size ≤ x) (Or.inr SZ_b240) all0)
    have ZN242 : n0 ≤ T242.heap.size := Nat.le_trans ZN241 K242.1
    have OL242 := OL241.keep K242 (allS G_b240 all0)
    refine goT st242 ?_
    show Go _ p e below s _ _ _ (T242.setTop (mkF m 114 #[.val (.int p1), .val (.int p2), .val (.int p3), .val (.int p4), .val (.int p5), .val (.int (2 : Int32)), .val (.int (1 : Int32)), .val (.ref b176), .val (.ref b177), .val (.ref b178), .val (.ref b237), .val (.ref b240), .unset, .unset, .unset, .unset] [(.ref b176)]))
    refine go (fun _ => XS.pop X242.here hx rfl (hb hby at_114) rfl rfl) ?_
    show Go _ p e below s _ _ _ (T242.setTop (mkF m 115 #[.val (.int p1), .val (.int p2), .val (.int p3), .val (.int p4), .val (.int p5), .val (.int (2 : Int32)), .val (.int (1 : Int32)), .val (.ref b176), .val (.ref b177), .val (.ref b178), .val (.ref b237), .val (.ref b240), .unset, .unset, .unset, .unset] []))
    refine go (fun _ => XS.iload X242.here hx rfl (hb hby at_115) rfl) ?_
    show Go _ p e below s _ _ _ (T242.setTop (mkF m 117 #[.val (.int p1), .val (.int p2), .val (.int p3), .val (.int p4), .val (.int p5), .val (.int (2 : Int32)), .val (.int (1 : Int32)), .val (.ref b176), .val (.ref b177), .val (.ref b178), .val (.ref b237), .val (.ref b240), .unset, .unset, .unset, .unset] [(.int (1 : Int32))]))
    refine go (fun _ => XS.iconst X242.here hx rfl (hb hby at_117)) ?_
    show Go _ p e below s _ _ _ (T242.setTop (mkF m 118 #[.val (.int p1), .val (.int p2), .val (.int p3), .val (.int p4), .val (.int p5), .val (.int (2 : Int32)), .val (.int (1 : Int32)), .val (.ref b176), .val (.ref b177), .val (.ref b178), .val (.ref b237), .val (.ref b240), .unset, .unset, .unset, .unset] [(.int (2 : Int32)), (.int (1 : Int32))]))
    refine go (fun _ => XS.icmpYes X242.here hx rfl (pc0 := 118) (pc' := 127) rfl (hb hby at_118) rfl (tlt (by decide : ((1 : Int32) < (2 : Int32)))).1 (by decide) (by decide)) ?_
    show Go _ p e below s _ _ _ (T242.setTop (mkF m 127 #[.val (.int p1), .val (.int p2), .val (.int p3), .val (.int p4), .val (.int p5), .val (.int (2 : Int32)), .val (.int (1 : Int32)), .val (.ref b176), .val (.ref b177), .val (.ref b178), .val (.ref b237), .val (.ref b240), .unset, .unset, .unset, .unset] []))
    refine go (fun _ => XS.iload X242.here hx rfl (hb hby at_127) rfl) ?_
    show Go _ p e below s _ _ _ (T242.setTop (mkF m 129 #[.val (.int p1), .val (.int p2), .val (.int p3), .val (.int p4), .val (.int p5), .val (.int (2 : Int32)), .val (.int (1 : Int32)), .val (.ref b176), .val (.ref b177), .val (.ref b178), .val (.ref b237), .val (.ref b240), .unset, .unset, .unset, .unset] [(.int (1 : Int32))]))
    refine go (fun _ => XS.iconst X242.here hx rfl (hb hby at_129)) ?_
    show Go _ p e below s _ _ _ (T242.setTop (mkF m 130 #[.val (.int p1), .val (.int p2), .val (.int p3), .val (.int p4), .val (.int p5), .val (.int (2 : Int32)), .val (.int (1 : Int32)), .val (.ref b176), .val (.ref b177), .val (.ref b178), .val (.ref b237), .val (.ref b240), .unset, .unset, .unset, .unset] [(.int (3 : Int32)), (.int (1 : Int32))]))
    refine go (fun _ => XS.icmpYes X242.here hx rfl (pc0 := 130) (pc' := 139) rfl (hb hby at_130) rfl (tlt (by decide : ((1 : Int32) < (3 : Int32)))).1 (by decide) (by decide)) ?_
    show Go _ p e below s _ _ _ (T242.setTop (mkF m 139 #[.val (.int p1), .val (.int p2), .val (.int p3), .val (.int p4), .val (.int p5), .val (.int (2 : Int32)), .val (.int (1 : Int32)), .val (.ref b176), .val (.ref b177), .val (.ref b178), .val (.ref b237), .val (.ref b240), .unset, .unset, .unset, .unset] []))
    refine go (fun _ => XS.aload X242.here hx rfl (hb hby at_139) rfl rfl) ?_
    show Go _ p e below s _ _ _ (T242.setTop (mkF m 141 #[.val (.int p1), .val (.int p2), .val (.int p3), .val (.int p4), .val (.int p5), .val (.int (2 : Int32)), .val (.int (1 : Int32)), .val (.ref b176), .val (.ref b177), .val (.ref b178), .val (.ref b237), .val (.ref b240), .unset, .unset, .unset, .unset] [(.ref b240)]))
    obtain ⟨cq243, kq243, q243a, q243b, q243c⟩ := isOf hZ rfl c242_6
    obtain ⟨_, _, ⟨T243, L243, k243, n243⟩, -, X243, ⟨Lc243, hQ243, l243, y243, z243⟩, st243⟩ := X242.virtualBack hx (y := (⟨"com/example/sunder/sunder/cli/Arguments", "hasNext", "()Z"⟩ : MethodName)) (z := (⟨"com/example/sunder/sunder/cli/Arguments", "hasNext", "()Z"⟩ : MethodName)) hown (mvT hZ (hw _ (List.mem_of_getElem? (i := 50) rfl))) (mvT hZ (hw _ (List.mem_of_getElem? (i := 51) rfl))) (notFace_of_selects (args := #[]) (mvT hZ (hw _ (List.mem_of_getElem? (i := 53) rfl)))) (mvT hZ (hw _ (List.mem_of_getElem? (i := 53) rfl))) (mvT hZ (hw _ (List.mem_of_getElem? (i := 52) rfl))) (by decide) (backOf (W := 0) (rmH2_1 l Z a0 hw [] b240 b241 k237 b176 b177 (T242.heap) n0 ZN242 u242_1 u242_2 c242_8) hZ (hw _ (List.mem_of_getElem? (i := 54) rfl)) (hw _ (List.mem_of_getElem? (i := 34) rfl)) (by decide) (by decide)) q243a q243c (g := (mkF m 141 #[.val (.int p1), .val (.int p2), .val (.int p3), .val (.int p4), .val (.int p5), .val (.int (2 : Int32)), .val (.int (1 : Int32)), .val (.ref b176), .val (.ref b177), .val (.ref b178), .val (.ref b237), .val (.ref b240), .unset, .unset, .unset, .unset] [(.ref b240)])) rfl (by rw [hml]; rfl) (Steps.refl _) (argsL := []) (rest := []) (lenOf pd_0_3 rfl) rfl (by show 2 * 0 + _ ≤ _; exact Nat.le_of_eq rfl) (hb hby at_141) (fun _ _ => ⟨rfl, rfl, (by decide : 9 + 0 ≤ _), (by decide : 21 + 0 ≤ _)⟩)
    dsimp only [Pt.U, Pt.locs, Pt.cells, Pt.slots] at X243 l243 y243 z243 st243 hQ243
    subst l243 y243 z243
    obtain ⟨rfl, N243q, e243⟩ := hQ243
    have N243 := Fr.app N242 N243q
    refine goT st243 ?_
    show Go _ p e below s _ _ _ (T243.setTop (mkF m 144 #[.val (.int p1), .val (.int p2), .val (.int p3), .val (.int p4), .val (.int p5), .val (.int (2 : Int32)), .val (.int (1 : Int32)), .val (.ref b176), .val (.ref b177), .val (.ref b178), .val (.ref b237), .val (.ref b240), .unset, .unset, .unset, .unset] [(.int (1 : Int32))]))
    refine go (fun _ => XS.istore X243.here hx rfl (hb hby at_144) rfl (l' := #[.val (.int p1), .val (.int p2), .val (.int p3), .val (.int p4), .val (.int p5), .val (.int (2 : Int32)), .val (.int (1 : Int32)), .val (.ref b176), .val (.ref b177), .val (.ref b178), .val (.ref b237), .val (.ref b240), .val (.int (1 : Int32)), .unset, .unset, .unset]) rfl) ?_
    show Go _ p e below s _ _ _ (T243.setTop (mkF m 146 #[.val (.int p1), .val (.int p2), .val (.int p3), .val (.int p4), .val (.int p5), .val (.int (2 : Int32)), .val (.int (1 : Int32)), .val (.ref b176), .val (.ref b177), .val (.ref b178), .val (.ref b237), .val (.ref b240), .val (.int (1 : Int32)), .unset, .unset, .unset] []))
    refine go (fun _ => XS.aload X243.here hx rfl (hb hby at_146) rfl rfl) ?_
    show Go _ p e below s _ _ _ (T243.setTop (mkF m 148 #[.val (.int p1), .val (.int p2), .val (.int p3), .val (.int p4), .val (.int p5), .val (.int (2 : Int32)), .val (.int (1 : Int32)), .val (.ref b176), .val (.ref b177), .val (.ref b178), .val (.ref b237), .val (.ref b240), .val (.int (1 : Int32)), .unset, .unset, .unset] [(.ref b240)]))
    obtain ⟨cq244, kq244, q244a, q244b, q244c⟩ := isOf hZ e243 c242_6
    obtain ⟨_, _, ⟨T244, L244, k244, n244⟩, -, X244, ⟨Lc244, hQ244, l244, y244, z244⟩, st244⟩ := X243.virtualBack hx (y := (⟨"com/example/sunder/sunder/cli/Arguments", "hasNext", "()Z"⟩ : MethodName)) (z := (⟨"com/example/sunder/sunder/cli/Arguments", "hasNext", "()Z"⟩ : MethodName)) hown (mvT hZ (hw _ (List.mem_of_getElem? (i := 50) rfl))) (mvT hZ (hw _ (List.mem_of_getElem? (i := 51) rfl))) (notFace_of_selects (args := #[]) (mvT hZ (hw _ (List.mem_of_getElem? (i := 53) rfl)))) (mvT hZ (hw _ (List.mem_of_getElem? (i := 53) rfl))) (mvT hZ (hw _ (List.mem_of_getElem? (i := 52) rfl))) (by decide) (backOf (W := 0) (rmH2_1 l Z a0 hw [] b240 b241 k237 b176 b177 (T242.heap) n0 ZN242 u242_1 u242_2 c242_8) hZ (hw _ (List.mem_of_getElem? (i := 54) rfl)) (hw _ (List.mem_of_getElem? (i := 34) rfl)) (by decide) (by decide)) q244a q244c (g := (mkF m 148 #[.val (.int p1), .val (.int p2), .val (.int p3), .val (.int p4), .val (.int p5), .val (.int (2 : Int32)), .val (.int (1 : Int32)), .val (.ref b176), .val (.ref b177), .val (.ref b178), .val (.ref b237), .val (.ref b240), .val (.int (1 : Int32)), .unset, .unset, .unset] [(.ref b240)])) rfl (by rw [hml]; rfl) (Steps.refl _) (argsL := []) (rest := []) (lenOf pd_0_3 rfl) rfl (by show 2 * 0 + _ ≤ _; exact Nat.le_of_eq rfl) (hb hby at_148) (fun _ _ => ⟨rfl, e243, (by decide : 9 + 0 ≤ _), (by decide : 21 + 0 ≤ _)⟩)
    dsimp only [Pt.U, Pt.locs, Pt.cells, Pt.slots] at X244 l244 y244 z244 st244 hQ244
    subst l244 y244 z244
    obtain ⟨rfl, N244q, e244⟩ := hQ244
    have N244 := Fr.app N243 N244q
    refine goT st244 ?_
    show Go _ p e below s _ _ _ (T244.setTop (mkF m 151 #[.val (.int p1), .val (.int p2), .val (.int p3), .val (.int p4), .val (.int p5), .val (.int (2 : Int32)), .val (.int (1 : Int32)), .val (.ref b176), .val (.ref b177), .val (.ref b178), .val (.ref b237), .val (.ref b240), .val (.int (1 : Int32)), .unset, .unset, .unset] [(.int (1 : Int32))]))
    refine go (fun _ => XS.istore X244.here hx rfl (hb hby at_151) rfl (l' := #[.val (.int p1), .val (.int p2), .val (.int p3), .val (.int p4), .val (.int p5), .val (.int (2 : Int32)), .val (.int (1 : Int32)), .val (.ref b176), .val (.ref b177), .val (.ref b178), .val (.ref b237), .val (.ref b240), .val (.int (1 : Int32)), .val (.int (1 : Int32)), .unset, .unset]) rfl) ?_
    show Go _ p e below s _ _ _ (T244.setTop (mkF m 153 #[.val (.int p1), .val (.int p2), .val (.int p3), .val (.int p4), .val (.int p5), .val (.int (2 : Int32)), .val (.int (1 : Int32)), .val (.ref b176), .val (.ref b177), .val (.ref b178), .val (.ref b237), .val (.ref b240), .val (.int (1 : Int32)), .val (.int (1 : Int32)), .unset, .unset] []))
    refine go (fun _ => XS.iload X244.here hx rfl (hb hby at_153) rfl) ?_
    show Go _ p e below s _ _ _ (T244.setTop (mkF m 155 #[.val (.int p1), .val (.int p2), .val (.int p3), .val (.int p4), .val (.int p5), .val (.int (2 : Int32)), .val (.int (1 : Int32)), .val (.ref b176), .val (.ref b177), .val (.ref b178), .val (.ref b237), .val (.ref b240), .val (.int (1 : Int32)), .val (.int (1 : Int32)), .unset, .unset] [(.int (1 : Int32))]))
    refine go (fun _ => XS.iload X244.here hx rfl (hb hby at_155) rfl) ?_
    show Go _ p e below s _ _ _ (T244.setTop (mkF m 157 #[.val (.int p1), .val (.int p2), .val (.int p3), .val (.int p4), .val (.int p5), .val (.int (2 : Int32)), .val (.int (1 : Int32)), .val (.ref b176), .val (.ref b177), .val (.ref b178), .val (.ref b237), .val (.ref b240), .val (.int (1 : Int32)), .val (.int (1 : Int32)), .unset, .unset] [(.int (1 : Int32)), (.int (1 : Int32))]))
    refine go (fun _ => XS.iload X244.here hx rfl (hb hby at_157) rfl) ?_
    show Go _ p e below s _ _ _ (T244.setTop (mkF m 159 #[.val (.int p1), .val (.int p2), .val (.int p3), .val (.int p4), .val (.int p5), .val (.int (2 : Int32)), .val (.int (1 : Int32)), .val (.ref b176), .val (.ref b177), .val (.ref b178), .val (.ref b237), .val (.ref b240), .val (.int (1 : Int32)), .val (.int (1 : Int32)), .unset, .unset] [(.int (2 : Int32)), (.int (1 : Int32)), (.int (1 : Int32))]))
    refine go (fun _ => XS.icmpNo X244.here hx rfl (hb hby at_159) rfl (tlt (by decide : ((1 : Int32) < (2 : Int32)))).2.1) ?_
    show Go _ p e below s _ _ _ (T244.setTop (mkF m 162 #[.val (.int p1), .val (.int p2), .val (.int p3), .val (.int p4), .val (.int p5), .val (.int (2 : Int32)), .val (.int (1 : Int32)), .val (.ref b176), .val (.ref b177), .val (.ref b178), .val (.ref b237), .val (.ref b240), .val (.int (1 : Int32)), .val (.int (1 : Int32)), .unset, .unset] [(.int (1 : Int32))]))
    refine go (fun _ => XS.iconst X244.here hx rfl (hb hby at_162)) ?_
    show Go _ p e below s _ _ _ (T244.setTop (mkF m 163 #[.val (.int p1), .val (.int p2), .val (.int p3), .val (.int p4), .val (.int p5), .val (.int (2 : Int32)), .val (.int (1 : Int32)), .val (.ref b176), .val (.ref b177), .val (.ref b178), .val (.ref b237), .val (.ref b240), .val (.int (1 : Int32)), .val (.int (1 : Int32)), .unset, .unset] [(.int (1 : Int32)), (.int (1 : Int32))]))
    refine go (fun _ => XS.goto X244.here hx rfl (pc0 := 163) (pc' := 167) rfl (hb hby at_163) (by decide) (by decide)) ?_
    show Go _ p e below s _ _ _ (T244.setTop (mkF m 167 #[.val (.int p1), .val (.int p2), .val (.int p3), .val (.int p4), .val (.int p5), .val (.int (2 : Int32)), .val (.int (1 : Int32)), .val (.ref b176), .val (.ref b177), .val (.ref b178), .val (.ref b237), .val (.ref b240), .val (.int (1 : Int32)), .val (.int (1 : Int32)), .unset, .unset] [(.int (1 : Int32)), (.int (1 : Int32))]))
    refine go (fun _ => XS.icmpNo X244.here hx rfl (hb hby at_167) rfl (teq (rfl : (1 : Int32) = (1 : Int32))).2) ?_
    show Go _ p e below s _ _ _ (T244.setTop (mkF m 170 #[.val (.int p1), .val (.int p2), .val (.int p3), .val (.int p4), .val (.int p5), .val (.int (2 : Int32)), .val (.int (1 : Int32)), .val (.ref b176), .val (.ref b177), .val (.ref b178), .val (.ref b237), .val (.ref b240), .val (.int (1 : Int32)), .val (.int (1 : Int32)), .unset, .unset] []))
    refine go (fun _ => XS.iload X244.here hx rfl (hb hby at_170) rfl) ?_
    show Go _ p e below s _ _ _ (T244.setTop (mkF m 172 #[.val (.int p1), .val (.int p2), .val (.int p3), .val (.int p4), .val (.int p5), .val (.int (2 : Int32)), .val (.int (1 : Int32)), .val (.ref b176), .val (.ref b177), .val (.ref b178), .val (.ref b237), .val (.ref b240), .val (.int (1 : Int32)), .val (.int (1 : Int32)), .unset, .unset] [(.int (1 : Int32))]))
    refine go (fun _ => XS.iload X244.here hx rfl (hb hby at_172) rfl) ?_
    show Go _ p e below s _ _ _ (T244.setTop (mkF m 174 #[.val (.int p1), .val (.int p2), .val (.int p3), .val (.int p4), .val (.int p5), .val (.int (2 : Int32)), .val (.int (1 : Int32)), .val (.ref b176), .val (.ref b177), .val (.ref b178), .val (.ref b237), .val (.ref b240), .val (.int (1 : Int32)), .val (.int (1 : Int32)), .unset, .unset] [(.int (1 : Int32)), (.int (1 : Int32))]))
    refine go (fun _ => XS.icmpYes X244.here hx rfl (pc0 := 174) (pc' := 179) rfl (hb hby at_174) rfl (teq (rfl : (1 : Int32) = (1 : Int32))).1 (by decide) (by decide)) ?_
    show Go _ p e below s _ _ _ (T244.setTop (mkF m 179 #[.val (.int p1), .val (.int p2), .val (.int p3), .val (.int p4), .val (.int p5), .val (.int (2 : Int32)), .val (.int (1 : Int32)), .val (.ref b176), .val (.ref b177), .val (.ref b178), .val (.ref b237), .val (.ref b240), .val (.int (1 : Int32)), .val (.int (1 : Int32)), .unset, .unset] []))
    refine go (fun _ => XS.iload X244.here hx rfl (hb hby at_179) rfl) ?_
    show Go _ p e below s _ _ _ (T244.setTop (mkF m 181 #[.val (.int p1), .val (.int p2), .val (.int p3), .val (.int p4), .val (.int p5), .val (.int (2 : Int32)), .val (.int (1 : Int32)), .val (.ref b176), .val (.ref b177), .val (.ref b178), .val (.ref b237), .val (.ref b240), .val (.int (1 : Int32)), .val (.int (1 : Int32)), .unset, .unset] [(.int (1 : Int32))]))
    refine go (fun _ => XS.ifYes X244.here hx rfl (pc0 := 181) (pc' := 186) rfl (hb hby at_181) rfl ((if0 _ _).trans (feq (by decide : ¬ ((1 : Int32) = (0 : Int32)))).2) (by decide) (by decide)) ?_
    show Go _ p e below s _ _ _ (T244.setTop (mkF m 186 #[.val (.int p1), .val (.int p2), .val (.int p3), .val (.int p4), .val (.int p5), .val (.int (2 : Int32)), .val (.int (1 : Int32)), .val (.ref b176), .val (.ref b177), .val (.ref b178), .val (.ref b237), .val (.ref b240), .val (.int (1 : Int32)), .val (.int (1 : Int32)), .unset, .unset] []))
    refine go (fun _ => XS.aload X244.here hx rfl (hb hby at_186) rfl rfl) ?_
    show Go _ p e below s _ _ _ (T244.setTop (mkF m 188 #[.val (.int p1), .val (.int p2), .val (.int p3), .val (.int p4), .val (.int p5), .val (.int (2 : Int32)), .val (.int (1 : Int32)), .val (.ref b176), .val (.ref b177), .val (.ref b178), .val (.ref b237), .val (.ref b240), .val (.int (1 : Int32)), .val (.int (1 : Int32)), .unset, .unset] [(.ref b240)]))
    obtain ⟨cq245, kq245, q245a, q245b, q245c⟩ := isOf hZ e244 c242_6
    obtain ⟨_, _, ⟨T245, L245, k245, n245⟩, -, X245, ⟨Lc245, hQ245, l245, y245, z245⟩, st245⟩ := X244.virtualBack hx (y := (⟨"com/example/sunder/sunder/cli/Arguments", "next", "()Ljava/lang/String;"⟩ : MethodName)) (z := (⟨"com/example/sunder/sunder/cli/Arguments", "next", "()Ljava/lang/String;"⟩ : MethodName)) hown (mvT hZ (hw _ (List.mem_of_getElem? (i := 57) rfl))) (mvT hZ (hw _ (List.mem_of_getElem? (i := 58) rfl))) (notFace_of_selects (args := #[]) (mvT hZ (hw _ (List.mem_of_getElem? (i := 60) rfl)))) (mvT hZ (hw _ (List.mem_of_getElem? (i := 60) rfl))) (mvT hZ (hw _ (List.mem_of_getElem? (i := 59) rfl))) (by decide) (backOf (W := 0) (rmN2_1 l Z a0 hw [] b240 b241 k237 b176 b177 (T242.heap) n0 ZN242 c242_6 u242_1 u242_2 G_b240 c242_8 (Nat.ne_of_lt lt241_b240_b241)) hZ (hw _ (List.mem_of_getElem? (i := 61) rfl)) (hw _ (List.mem_of_getElem? (i := 34) rfl)) (by decide) (by decide)) q245a q245c (g := (mkF m 188 #[.val (.int p1), .val (.int p2), .val (.int p3), .val (.int p4), .val (.int p5), .val (.int (2 : Int32)), .val (.int (1 : Int32)), .val (.ref b176), .val (.ref b177), .val (.ref b178), .val (.ref b237), .val (.ref b240), .val (.int (1 : Int32)), .val (.int (1 : Int32)), .unset, .unset] [(.ref b240)])) rfl (by rw [hml]; rfl) (Steps.refl _) (argsL := []) (rest := []) (lenOf pd_0_4 rfl) rfl (by show 2 * 0 + _ ≤ _; exact Nat.le_of_eq rfl) (hb hby at_188) (fun _ _ => ⟨rfl, e244, (by decide : 9 + 0 ≤ _), (by decide : 21 + 0 ≤ _)⟩)
    dsimp only [Pt.U, Pt.locs, Pt.cells, Pt.slots] at X245 l245 y245 z245 st245 hQ245
    subst l245 y245 z245
    obtain ⟨rfl, N245q, K245, u245_1, u245_2⟩ := hQ245
    have N245 := Fr.app N244 N245q
    have c245_1 := c242_1.keep K245
    have c245_2 := c242_2.keep K245
    have c245_3 := c242_3.keep K245
    have c245_4 := c242_4.keep K245
    have c245_5 := c242_5.keep K245 (ninS (Nat.ne_of_lt lt240_b237_b240) nin0)
    have c245_6 := c242_6.keep K245
    have c245_7 := c242_7.keep K245
    have c245_8 := c242_8.keep K245 (ninS (Ne.symm (Nat.ne_of_lt lt241_b240_b241)) nin0)
    have KK245 : Keep h0 T245.heap [] := KK242.trans K245 (allS (P := fun x => x ∈ [] ∨ h0.size ≤ x) (Or.inr SZ_b240) all0)
    have ZN245 : n0 ≤ T245.heap.size := Nat.le_trans ZN242 K245.1
    have OL245 := OL242.keep K245 (allS G_b240 all0)
    refine goT st245 ?_
    show Go _ p e below s _ _ _ (T245.setTop (mkF m 191 #[.val (.int p1), .val (.int p2), .val (.int p3), .val (.int p4), .val (.int p5), .val (.int (2 : Int32)), .val (.int (1 : Int32)), .val (.ref b176), .val (.ref b177), .val (.ref b178), .val (.ref b237), .val (.ref b240), .val (.int (1 : Int32)), .val (.int (1 : Int32)), .unset, .unset] [(.ref b177)]))
    refine go (fun _ => XS.astore X245.here hx rfl (hb hby at_191) rfl rfl (l' := #[.val (.int p1), .val (.int p2), .val (.int p3), .val (.int p4), .val (.int p5), .val (.int (2 : Int32)), .val (.int (1 : Int32)), .val (.ref b176), .val (.ref b177), .val (.ref b178), .val (.ref b237), .val (.ref b240), .val (.int (1 : Int32)), .val (.int (1 : Int32)), .val (.ref b177), .unset]) rfl) ?_
    show Go _ p e below s _ _ _ (T245.setTop (mkF m 193 #[.val (.int p1), .val (.int p2), .val (.int p3), .val (.int p4), .val (.int p5), .val (.int (2 : Int32)), .val (.int (1 : Int32)), .val (.ref b176), .val (.ref b177), .val (.ref b178), .val (.ref b237), .val (.ref b240), .val (.int (1 : Int32)), .val (.int (1 : Int32)), .val (.ref b177), .unset] []))
    refine go (fun _ => XS.iload X245.here hx rfl (hb hby at_193) rfl) ?_
    show Go _ p e below s _ _ _ (T245.setTop (mkF m 195 #[.val (.int p1), .val (.int p2), .val (.int p3), .val (.int p4), .val (.int p5), .val (.int (2 : Int32)), .val (.int (1 : Int32)), .val (.ref b176), .val (.ref b177), .val (.ref b178), .val (.ref b237), .val (.ref b240), .val (.int (1 : Int32)), .val (.int (1 : Int32)), .val (.ref b177), .unset] [(.int (1 : Int32))]))
    refine go (fun _ => XS.ifYes X245.here hx rfl (pc0 := 195) (pc' := 203) rfl (hb hby at_195) rfl ((if0 _ _).trans (feq (by decide : ¬ ((1 : Int32) = (0 : Int32)))).2) (by decide) (by decide)) ?_
    show Go _ p e below s _ _ _ (T245.setTop (mkF m 203 #[.val (.int p1), .val (.int p2), .val (.int p3), .val (.int p4), .val (.int p5), .val (.int (2 : Int32)), .val (.int (1 : Int32)), .val (.ref b176), .val (.ref b177), .val (.ref b178), .val (.ref b237), .val (.ref b240), .val (.int (1 : Int32)), .val (.int (1 : Int32)), .val (.ref b177), .unset] []))
    refine go (fun _ => XS.iload X245.here hx rfl (hb hby at_203) rfl) ?_
    show Go _ p e below s _ _ _ (T245.setTop (mkF m 205 #[.val (.int p1), .val (.int p2), .val (.int p3), .val (.int p4), .val (.int p5), .val (.int (2 : Int32)), .val (.int (1 : Int32)), .val (.ref b176), .val (.ref b177), .val (.ref b178), .val (.ref b237), .val (.ref b240), .val (.int (1 : Int32)), .val (.int (1 : Int32)), .val (.ref b177), .unset] [(.int (1 : Int32))]))
    refine go (fun _ => XS.iconst X245.here hx rfl (hb hby at_205)) ?_
    show Go _ p e below s _ _ _ (T245.setTop (mkF m 206 #[.val (.int p1), .val (.int p2), .val (.int p3), .val (.int p4), .val (.int p5), .val (.int (2 : Int32)), .val (.int (1 : Int32)), .val (.ref b176), .val (.ref b177), .val (.ref b178), .val (.ref b237), .val (.ref b240), .val (.int (1 : Int32)), .val (.int (1 : Int32)), .val (.ref b177), .unset] [(.int (1 : Int32)), (.int (1 : Int32))]))
    refine go (fun _ => XS.icmpNo X245.here hx rfl (hb hby at_206) rfl (teq (rfl : (1 : Int32) = (1 : Int32))).2) ?_
    show Go _ p e below s _ _ _ (T245.setTop (mkF m 209 #[.val (.int p1), .val (.int p2), .val (.int p3), .val (.int p4), .val (.int p5), .val (.int (2 : Int32)), .val (.int (1 : Int32)), .val (.ref b176), .val (.ref b177), .val (.ref b178), .val (.ref b237), .val (.ref b240), .val (.int (1 : Int32)), .val (.int (1 : Int32)), .val (.ref b177), .unset] []))
    refine go (fun _ => XS.aload X245.here hx rfl (hb hby at_209) rfl rfl) ?_
    show Go _ p e below s _ _ _ (T245.setTop (mkF m 211 #[.val (.int p1), .val (.int p2), .val (.int p3), .val (.int p4), .val (.int p5), .val (.int (2 : Int32)), .val (.int (1 : Int32)), .val (.ref b176), .val (.ref b177), .val (.ref b178), .val (.ref b237), .val (.ref b240), .val (.int (1 : Int32)), .val (.int (1 : Int32)), .val (.ref b177), .unset] [(.ref b177)]))
    refine go (fun _ => XS.goto X245.here hx rfl (pc0 := 211) (pc' := 216) rfl (hb hby at_211) (by decide) (by decide)) ?_
    show Go _ p e below s _ _ _ (T245.setTop (mkF m 216 #[.val (.int p1), .val (.int p2), .val (.int p3), .val (.int p4), .val (.int p5), .val (.int (2 : Int32)), .val (.int (1 : Int32)), .val (.ref b176), .val (.ref b177), .val (.ref b178), .val (.ref b237), .val (.ref b240), .val (.int (1 : Int32)), .val (.int (1 : Int32)), .val (.ref b177), .unset] [(.ref b177)]))
    refine go (fun _ => XS.astore X245.here hx rfl (hb hby at_216) rfl rfl (l' := #[.val (.int p1), .val (.int p2), .val (.int p3), .val (.int p4), .val (.int p5), .val (.int (2 : Int32)), .val (.int (1 : Int32)), .val (.ref b176), .val (.ref b177), .val (.ref b178), .val (.ref b237), .val (.ref b240), .val (.int (1 : Int32)), .val (.int (1 : Int32)), .val (.ref b177), .val (.ref b177)]) rfl) ?_
    show Go _ p e below s _ _ _ (T245.setTop (mkF m 218 #[.val (.int p1), .val (.int p2), .val (.int p3), .val (.int p4), .val (.int p5), .val (.int (2 : Int32)), .val (.int (1 : Int32)), .val (.ref b176), .val (.ref b177), .val (.ref b178), .val (.ref b237), .val (.ref b240), .val (.int (1 : Int32)), .val (.int (1 : Int32)), .val (.ref b177), .val (.ref b177)] []))
    refine go (fun _ => XS.aload X245.here hx rfl (hb hby at_218) rfl rfl) ?_
    show Go _ p e below s _ _ _ (T245.setTop (mkF m 220 #[.val (.int p1), .val (.int p2), .val (.int p3), .val (.int p4), .val (.int p5), .val (.int (2 : Int32)), .val (.int (1 : Int32)), .val (.ref b176), .val (.ref b177), .val (.ref b178), .val (.ref b237), .val (.ref b240), .val (.int (1 : Int32)), .val (.int (1 : Int32)), .val (.ref b177), .val (.ref b177)] [(.ref b177)]))
    refine go (fun _ => XS.aload X245.here hx rfl (hb hby at_220) rfl rfl) ?_
    show Go _ p e below s _ _ _ (T245.setTop (mkF m 222 #[.val (.int p1), .val (.int p2), .val (.int p3), .val (.int p4), .val (.int p5), .val (.int (2 : Int32)), .val (.int (1 : Int32)), .val (.ref b176), .val (.ref b177), .val (.ref b178), .val (.ref b237), .val (.ref b240), .val (.int (1 : Int32)), .val (.int (1 : Int32)), .val (.ref b177), .val (.ref b177)] [(.ref b177), (.ref b177)]))
    obtain ⟨cq246, kq246, q246a, q246b, q246c⟩ := isOf hZ rfl c245_2
    obtain ⟨_, _, ⟨T246, L246, k246, n246⟩, -, X246, ⟨Lc246, hQ246, l246, y246, z246⟩, st246⟩ := X245.virtualBack hx (y := (⟨"java/lang/String", "equals", "(Ljava/lang/Object;)Z"⟩ : MethodName)) (z := (⟨"java/lang/String", "equals", "(Ljava/lang/Object;)Z"⟩ : MethodName)) hown (mvT hZ (hw _ (List.mem_of_getElem? (i := 63) rfl))) (mvT hZ (hw _ (List.mem_of_getElem? (i := 64) rfl))) (notFace_of_selects (args := #[]) (mvT hZ (hw _ (List.mem_of_getElem? (i := 66) rfl)))) (mvT hZ (hw _ (List.mem_of_getElem? (i := 66) rfl))) (mvT hZ (hw _ (List.mem_of_getElem? (i := 65) rfl))) (by decide) (backOf (W := 0) (rm10 l Z a0 hw [] b177 b177 (T245.heap) n0 ZN245 rfl) hZ (hw _ (List.mem_of_getElem? (i := 67) rfl)) (hw _ (List.mem_of_getElem? (i := 6) rfl)) (by decide) (by decide)) q246a q246c (g := (mkF m 222 #[.val (.int p1), .val (.int p2), .val (.int p3), .val (.int p4), .val (.int p5), .val (.int (2 : Int32)), .val (.int (1 : Int32)), .val (.ref b176), .val (.ref b177), .val (.ref b178), .val (.ref b237), .val (.ref b240), .val (.int (1 : Int32)), .val (.int (1 : Int32)), .val (.ref b177), .val (.ref b177)] [(.ref b177), (.ref b177)])) rfl (by rw [hml]; rfl) (Steps.refl _) (argsL := [(.ref b177)]) (rest := []) (lenOf pd_0_5 rfl) rfl (by show 2 * 0 + _ ≤ _; exact Nat.le_of_eq rfl) (hb hby at_222) (fun _ _ => ⟨rfl, rfl, (by decide : 9 + 0 ≤ _), (by decide : 21 + 0 ≤ _)⟩)
    dsimp only [Pt.U, Pt.locs, Pt.cells, Pt.slots] at X246 l246 y246 z246 st246 hQ246
    subst l246 y246 z246
    obtain ⟨rfl, N246q, e246⟩ := hQ246
    have N246 := Fr.app N245 N246q
    refine goT st246 ?_
    show Go _ p e below s _ _ _ (T246.setTop (mkF m 225 #[.val (.int p1), .val (.int p2), .val (.int p3), .val (.int p4), .val (.int p5), .val (.int (2 : Int32)), .val (.int (1 : Int32)), .val (.ref b176), .val (.ref b177), .val (.ref b178), .val (.ref b237), .val (.ref b240), .val (.int (1 : Int32)), .val (.int (1 : Int32)), .val (.ref b177), .val (.ref b177)] [(.int (1 : Int32))]))
    refine goRet X246 hx Bd.notSynchronized Bd.returns rfl (Or.inl ⟨rfl, Or.inr (Or.inl rfl), _, rfl⟩) (hb hby at_225) (by decide) (by decide) (by rw [e246]; refine ⟨rfl, N246⟩)
  · rw [show own_min (2 : Int32) (2 : Int32) = (2 : Int32) from by decide]
    show Go _ p e below s _ _ _ (T178.setTop (mkF m 49 #[.val (.int p1), .val (.int p2), .val (.int p3), .val (.int p4), .val (.int p5), .val (.int (2 : Int32)), .val (.int (2 : Int32)), .val (.ref b176), .val (.ref b177), .val (.ref b178), .unset, .unset, .unset, .unset, .unset, .unset] []))
    refine go (fun _ => XS.iload X178.here hx rfl (hb hby at_49) rfl) ?_
    show Go _ p e below s _ _ _ (T178.setTop (mkF m 51 #[.val (.int p1), .val (.int p2), .val (.int p3), .val (.int p4), .val (.int p5), .val (.int (2 : Int32)), .val (.int (2 : Int32)), .val (.ref b176), .val (.ref b177), .val (.ref b178), .unset, .unset, .unset, .unset, .unset, .unset] [(.int (2 : Int32))]))
    obtain ⟨T247, h247, k247, X247, e247, E247, A247, AE247, O247, st247⟩ := newRE X178 hx hZ hown (hw _ (List.mem_of_getElem? (i := 30) rfl)) (hw _ (List.mem_of_getElem? (i := 31) rfl)) rfl (g := (mkF m 51 #[.val (.int p1), .val (.int p2), .val (.int p3), .val (.int p4), .val (.int p5), .val (.int (2 : Int32)), .val (.int (2 : Int32)), .val (.ref b176), .val (.ref b177), .val (.ref b178), .unset, .unset, .unset, .unset, .unset, .unset] [(.int (2 : Int32))])) rfl (hb hby at_51) rfl (by decide) (cap := 2) (by decide) (by decide) (by decide) (by decide) (ad := "[Ljava/lang/String;") (by first | rfl | decide)
    obtain ⟨b247, g247⟩ : ∃ z, z = T178.heap.size := ⟨_, rfl⟩
    rw [← g247] at A247 AE247 st247
    have lt247_b176_b247 : b176 < b247 := Nat.lt_of_lt_of_le c178_1.lt (Nat.le_of_eq g247.symm)
    have lt247_b177_b247 : b177 < b247 := Nat.lt_of_lt_of_le c178_2.lt (Nat.le_of_eq g247.symm)
    have lt247_b178_b247 : b178 < b247 := Nat.lt_of_lt_of_le u178_3.lt (Nat.le_of_eq g247.symm)
    have G_b247 : n0 ≤ b247 := Nat.le_trans ZN178 (Nat.le_of_eq g247.symm)
    have SZ_b247 : h0.size ≤ b247 := Nat.le_trans KK178.1 (Nat.le_of_eq g247.symm)
    have c247_1 := c178_1.ext E247
    have c247_2 := c178_2.ext E247
    have c247_3 := u178_3.ext E247
    have KK247 : Keep h0 h247 [] := KK178.ext E247
    have ZN247 : n0 ≤ h247.size := Nat.le_trans ZN178 E247.1
    have OL247 := OL178.ext E247
    have V247 : Arv Z h247 b247 k247 (.object "java/lang/String") (2 : Int32) [.null, .null] .null := (Arv.new A247 (by decide)).pad (pad_rep [] .null 2)
    refine go st247 ?_
    show Go _ p e below s _ _ _ (T247.setTop (mkF m 54 #[.val (.int p1), .val (.int p2), .val (.int p3), .val (.int p4), .val (.int p5), .val (.int (2 : Int32)), .val (.int (2 : Int32)), .val (.ref b176), .val (.ref b177), .val (.ref b178), .unset, .unset, .unset, .unset, .unset, .unset] [(.ref b247)]))
    refine go (fun _ => XS.astore X247.here hx rfl (hb hby at_54) rfl rfl (l' := #[.val (.int p1), .val (.int p2), .val (.int p3), .val (.int p4), .val (.int p5), .val (.int (2 : Int32)), .val (.int (2 : Int32)), .val (.ref b176), .val (.ref b177), .val (.ref b178), .val (.ref b247), .unset, .unset, .unset, .unset, .unset]) rfl) ?_
    show Go _ p e below s _ _ _ (T247.setTop (mkF m 56 #[.val (.int p1), .val (.int p2), .val (.int p3), .val (.int p4), .val (.int p5), .val (.int (2 : Int32)), .val (.int (2 : Int32)), .val (.ref b176), .val (.ref b177), .val (.ref b178), .val (.ref b247), .unset, .unset, .unset, .unset, .unset] []))
    refine go (fun _ => XS.iload X247.here hx rfl (hb hby at_56) rfl) ?_
    show Go _ p e below s _ _ _ (T247.setTop (mkF m 58 #[.val (.int p1), .val (.int p2), .val (.int p3), .val (.int p4), .val (.int p5), .val (.int (2 : Int32)), .val (.int (2 : Int32)), .val (.ref b176), .val (.ref b177), .val (.ref b178), .val (.ref b247), .unset, .unset, .unset, .unset, .unset] [(.int (2 : Int32))]))
    refine go (fun _ => XS.iconst X247.here hx rfl (hb hby at_58)) ?_
    show Go _ p e below s _ _ _ (T247.setTop (mkF m 59 #[.val (.int p1), .val (.int p2), .val (.int p3), .val (.int p4), .val (.int p5), .val (.int (2 : Int32)), .val (.int (2 : Int32)), .val (.ref b176), .val (.ref b177), .val (.ref b178), .val (.ref b247), .unset, .unset, .unset, .unset, .unset] [(.int (1 : Int32)), (.int (2 : Int32))]))
    refine go (fun _ => XS.icmpNo X247.here hx rfl (hb hby at_59) rfl (flt (by decide : ¬ ((2 : Int32) < (1 : Int32)))).1) ?_
    show Go _ p e below s _ _ _ (T247.setTop (mkF m 62 #[.val (.int p1), .val (.int p2), .val (.int p3), .val (.int p4), .val (.int p5), .val (.int (2 : Int32)), .val (.int (2 : Int32)), .val (.ref b176), .val (.ref b177), .val (.ref b178), .val (.ref b247), .unset, .unset, .unset, .unset, .unset] []))
    refine go (fun _ => XS.aload X247.here hx rfl (hb hby at_62) rfl rfl) ?_
    show Go _ p e below s _ _ _ (T247.setTop (mkF m 64 #[.val (.int p1), .val (.int p2), .val (.int p3), .val (.int p4), .val (.int p5), .val (.int (2 : Int32)), .val (.int (2 : Int32)), .val (.ref b176), .val (.ref b177), .val (.ref b178), .val (.ref b247), .unset, .unset, .unset, .unset, .unset] [(.ref b247)]))
    refine go (fun _ => XS.iconst X247.here hx rfl (hb hby at_64)) ?_
    show Go _ p e below s _ _ _ (T247.setTop (mkF m 65 #[.val (.int p1), .val (.int p2), .val (.int p3), .val (.int p4), .val (.int p5), .val (.int (2 : Int32)), .val (.int (2 : Int32)), .val (.ref b176), .val (.ref b177), .val (.ref b178), .val (.ref b247), .unset, .unset, .unset, .unset, .unset] [(.int (0 : Int32)), (.ref b247)]))
    refine go (fun _ => XS.aload X247.here hx rfl (hb hby at_65) rfl rfl) ?_
    show Go _ p e below s _ _ _ (T247.setTop (mkF m 67 #[.val (.int p1), .val (.int p2), .val (.int p3), .val (.int p4), .val (.int p5), .val (.int (2 : Int32)), .val (.int (2 : Int32)), .val (.ref b176), .val (.ref b177), .val (.ref b178), .val (.ref b247), .unset, .unset, .unset, .unset, .unset] [(.ref b176), (.int (0 : Int32)), (.ref b247)]))
    obtain ⟨cl248, Ar248, q248, Sz248, Nz248, Hs248, Gs248⟩ := id V247
    have hin248 : ¬ ((0 : Int32) < 0 ∨ cl248.slots.size ≤ ((0 : Int32)).toNatClampNeg) := inb_of Sz248 ⟨by decide, by decide⟩
    obtain ⟨T248, h248, X248, e248, W248, st248⟩ := stR X247 hx hZ e247 Ar248 (j := (0 : Int32)) hin248 rfl (Sto.ofV Ar248 q248 O247 (Ins.self c247_1)) (g := (mkF m 67 #[.val (.int p1), .val (.int p2), .val (.int p3), .val (.int p4), .val (.int p5), .val (.int (2 : Int32)), .val (.int (2 : Int32)), .val (.ref b176), .val (.ref b177), .val (.ref b178), .val (.ref b247), .unset, .unset, .unset, .unset, .unset] [(.ref b176), (.int (0 : Int32)), (.ref b247)])) rfl rfl (hb hby at_67)
    have V248 := Arv.set Ar248 q248 Sz248 Nz248 Hs248 Gs248 rfl W248 0 rfl (Nat.le_of_ble_eq_true rfl)
    have VV248 : Arv Z h248 b247 k247 (.object "java/lang/String") (2 : Int32) [(.ref b176), .null] .null := V248
    have c248_1 := c247_1.wr W248
    have c248_2 := c247_2.wr W248
    have c248_3 := c247_3.wr W248
    have c248_4 := AE247.wr W248
    have KK248 : Keep h0 h248 [] := KK247.wr W248 (Or.inr SZ_b247)
    have ZN248 : n0 ≤ h248.size := Nat.le_trans ZN247 (Keep.of_wr W248).1
    have NN248 := Fr.snoc X248 N178 G_b247
    have OL248 := OL247.wr W248 G_b247
    refine go st248 ?_
    show Go _ p e below s _ _ _ (T248.setTop (mkF m 68 #[.val (.int p1), .val (.int p2), .val (.int p3), .val (.int p4), .val (.int p5), .val (.int (2 : Int32)), .val (.int (2 : Int32)), .val (.ref b176), .val (.ref b177), .val (.ref b178), .val (.ref b247), .unset, .unset, .unset, .unset, .unset] []))
    refine go (fun _ => XS.iload X248.here hx rfl (hb hby at_68) rfl) ?_
    show Go _ p e below s _ _ _ (T248.setTop (mkF m 70 #[.val (.int p1), .val (.int p2), .val (.int p3), .val (.int p4), .val (.int p5), .val (.int (2 : Int32)), .val (.int (2 : Int32)), .val (.ref b176), .val (.ref b177), .val (.ref b178), .val (.ref b247), .unset, .unset, .unset, .unset, .unset] [(.int (2 : Int32))]))
    refine go (fun _ => XS.iconst X248.here hx rfl (hb hby at_70)) ?_
    show Go _ p e below s _ _ _ (T248.setTop (mkF m 71 #[.val (.int p1), .val (.int p2), .val (.int p3), .val (.int p4), .val (.int p5), .val (.int (2 : Int32)), .val (.int (2 : Int32)), .val (.ref b176), .val (.ref b177), .val (.ref b178), .val (.ref b247), .unset, .unset, .unset, .unset, .unset] [(.int (2 : Int32)), (.int (2 : Int32))]))
    refine go (fun _ => XS.icmpNo X248.here hx rfl (hb hby at_71) rfl (flt (by decide : ¬ ((2 : Int32) < (2 : Int32)))).1) ?_
    show Go _ p e below s _ _ _ (T248.setTop (mkF m 74 #[.val (.int p1), .val (.int p2), .val (.int p3), .val (.int p4), .val (.int p5), .val (.int (2 : Int32)), .val (.int (2 : Int32)), .val (.ref b176), .val (.ref b177), .val (.ref b178), .val (.ref b247), .unset, .unset, .unset, .unset, .unset] []))
    refine go (fun _ => XS.aload X248.here hx rfl (hb hby at_74) rfl rfl) ?_
    show Go _ p e below s _ _ _ (T248.setTop (mkF m 76 #[.val (.int p1), .val (.int p2), .val (.int p3), .val (.int p4), .val (.int p5), .val (.int (2 : Int32)), .val (.int (2 : Int32)), .val (.ref b176), .val (.ref b177), .val (.ref b178), .val (.ref b247), .unset, .unset, .unset, .unset, .unset] [(.ref b247)]))
    refine go (fun _ => XS.iconst X248.here hx rfl (hb hby at_76)) ?_
    show Go _ p e below s _ _ _ (T248.setTop (mkF m 77 #[.val (.int p1), .val (.int p2), .val (.int p3), .val (.int p4), .val (.int p5), .val (.int (2 : Int32)), .val (.int (2 : Int32)), .val (.ref b176), .val (.ref b177), .val (.ref b178), .val (.ref b247), .unset, .unset, .unset, .unset, .unset] [(.int (1 : Int32)), (.ref b247)]))
    refine go (fun _ => XS.aload X248.here hx rfl (hb hby at_77) rfl rfl) ?_
    show Go _ p e below s _ _ _ (T248.setTop (mkF m 79 #[.val (.int p1), .val (.int p2), .val (.int p3), .val (.int p4), .val (.int p5), .val (.int (2 : Int32)), .val (.int (2 : Int32)), .val (.ref b176), .val (.ref b177), .val (.ref b178), .val (.ref b247), .unset, .unset, .unset, .unset, .unset] [(.ref b177), (.int (1 : Int32)), (.ref b247)]))
    obtain ⟨cl249, Ar249, q249, Sz249, Nz249, Hs249, Gs249⟩ := id VV248
    have hin249 : ¬ ((1 : Int32) < 0 ∨ cl249.slots.size ≤ ((1 : Int32)).toNatClampNeg) := inb_of Sz249 ⟨by decide, by decide⟩
    obtain ⟨T249, h249, X249, e249, W249, st249⟩ := stR X248 hx hZ e248 Ar249 (j := (1 : Int32)) hin249 rfl (Sto.ofV Ar249 q249 O247 (Ins.self c248_2)) (g := (mkF m 79 #[.val (.int p1), .val (.int p2), .val (.int p3), .val (.int p4), .val (.int p5), .val (.int (2 : Int32)), .val (.int (2 : Int32)), .val (.ref b176), .val (.ref b177), .val (.ref b178), .val (.ref b247), .unset, .unset, .unset, .unset, .unset] [(.ref b177), (.int (1 : Int32)), (.ref b247)])) rfl rfl (hb hby at_79)
    have V249 := Arv.set Ar249 q249 Sz249 Nz249 Hs249 Gs249 rfl W249 1 rfl (Nat.le_of_ble_eq_true rfl)
    have VV249 : Arv Z h249 b247 k247 (.object "java/lang/String") (2 : Int32) [(.ref b176), (.ref b177)] .null := V249
    have c249_1 := c248_1.wr W249
    have c249_2 := c248_2.wr W249
    have c249_3 := c248_3.wr W249
    have c249_4 := c248_4.wr W249
    have KK249 : Keep h0 h249 [] := KK248.wr W249 (Or.inr SZ_b247)
    have ZN249 : n0 ≤ h249.size := Nat.le_trans ZN248 (Keep.of_wr W249).1
    have NN249 := Fr.snoc X249 NN248 G_b247
    have OL249 := OL248.wr W249 G_b247
    refine go st249 ?_
    show Go _ p e below s _ _ _ (T249.setTop (mkF m 80 #[.val (.int p1), .val (.int p2), .val (.int p3), .val (.int p4), .val (.int p5), .val (.int (2 : Int32)), .val (.int (2 : Int32)), .val (.ref b176), .val (.ref b177), .val (.ref b178), .val (.ref b247), .unset, .unset, .unset, .unset, .unset] []))
    refine go (fun _ => XS.iload X249.here hx rfl (hb hby at_80) rfl) ?_
    show Go _ p e below s _ _ _ (T249.setTop (mkF m 82 #[.val (.int p1), .val (.int p2), .val (.int p3), .val (.int p4), .val (.int p5), .val (.int (2 : Int32)), .val (.int (2 : Int32)), .val (.ref b176), .val (.ref b177), .val (.ref b178), .val (.ref b247), .unset, .unset, .unset, .unset, .unset] [(.int (2 : Int32))]))
    refine go (fun _ => XS.iconst X249.here hx rfl (hb hby at_82)) ?_
    show Go _ p e below s _ _ _ (T249.setTop (mkF m 83 #[.val (.int p1), .val (.int p2), .val (.int p3), .val (.int p4), .val (.int p5), .val (.int (2 : Int32)), .val (.int (2 : Int32)), .val (.ref b176), .val (.ref b177), .val (.ref b178), .val (.ref b247), .unset, .unset, .unset, .unset, .unset] [(.int (3 : Int32)), (.int (2 : Int32))]))
    refine go (fun _ => XS.icmpYes X249.here hx rfl (pc0 := 83) (pc' := 92) rfl (hb hby at_83) rfl (tlt (by decide : ((2 : Int32) < (3 : Int32)))).1 (by decide) (by decide)) ?_
    show Go _ p e below s _ _ _ (T249.setTop (mkF m 92 #[.val (.int p1), .val (.int p2), .val (.int p3), .val (.int p4), .val (.int p5), .val (.int (2 : Int32)), .val (.int (2 : Int32)), .val (.ref b176), .val (.ref b177), .val (.ref b178), .val (.ref b247), .unset, .unset, .unset, .unset, .unset] []))
    obtain ⟨T250, h250, X250, e250, E250, A250, D250, -, st250⟩ := newO X249 hx hZ hown (hw _ (List.mem_of_getElem? (i := 32) rfl)) (hw _ (List.mem_of_getElem? (i := 33) rfl)) (hw _ (List.mem_of_getElem? (i := 34) rfl)) e249 (g := (mkF m 92 #[.val (.int p1), .val (.int p2), .val (.int p3), .val (.int p4), .val (.int p5), .val (.int (2 : Int32)), .val (.int (2 : Int32)), .val (.ref b176), .val (.ref b177), .val (.ref b178), .val (.ref b247), .unset, .unset, .unset, .unset, .unset] [])) rfl (hb hby at_92) (by decide) (by decide)
    obtain ⟨b250, g250⟩ : ∃ z, z = h249.size := ⟨_, rfl⟩
    rw [← g250] at A250 D250 st250
    have lt250_b176_b250 : b176 < b250 := Nat.lt_of_lt_of_le c249_1.lt (Nat.le_of_eq g250.symm)
    have lt250_b177_b250 : b177 < b250 := Nat.lt_of_lt_of_le c249_2.lt (Nat.le_of_eq g250.symm)
    have lt250_b178_b250 : b178 < b250 := Nat.lt_of_lt_of_le c249_3.lt (Nat.le_of_eq g250.symm)
    have lt250_b247_b250 : b247 < b250 := Nat.lt_of_lt_of_le c249_4.lt (Nat.le_of_eq g250.symm)
    have G_b250 : n0 ≤ b250 := Nat.le_trans ZN249 (Nat.le_of_eq g250.symm)
    have SZ_b250 : h0.size ≤ b250 := Nat.le_trans KK249.1 (Nat.le_of_eq g250.symm)
    have c250_1 := c249_1.ext E250
    have c250_2 := c249_2.ext E250
    have c250_3 := c249_3.ext E250
    have c250_4 := c249_4.ext E250
    have c250_5 := VV249.ext E250
    have KK250 : Keep h0 h250 [] := KK249.ext E250
    have ZN250 : n0 ≤ h250.size := Nat.le_trans ZN249 E250.1
    have OL250 := OL249.ext E250
    have F250_49 : Fld Z h250 b250 "com/example/sunder/sunder/cli/Arguments" "args" "[Ljava/lang/String;" .null := D250 (Or.inr (hw _ (List.mem_of_getElem? (i := 49) rfl))) (ty := (.array (.object "java/lang/String"))) (by decide)
    have F250_56 : Fld Z h250 b250 "com/example/sunder/sunder/cli/Arguments" "next" "I" (.int (0 : Int32)) := D250 (Or.inl (hw _ (List.mem_of_getElem? (i := 56) rfl))) (ty := .int) (by decide)
    refine go st250 ?_
    show Go _ p e below s _ _ _ (T250.setTop (mkF m 95 #[.val (.int p1), .val (.int p2), .val (.int p3), .val (.int p4), .val (.int p5), .val (.int (2 : Int32)), .val (.int (2 : Int32)), .val (.ref b176), .val (.ref b177), .val (.ref b178), .val (.ref b247), .unset, .unset, .unset, .unset, .unset] [(.ref b250)]))
    refine go (fun _ => XS.dup X250.here hx rfl (hb hby at_95) rfl rfl) ?_
    show Go _ p e below s _ _ _ (T250.setTop (mkF m 96 #[.val (.int p1), .val (.int p2), .val (.int p3), .val (.int p4), .val (.int p5), .val (.int (2 : Int32)), .val (.int (2 : Int32)), .val (.ref b176), .val (.ref b177), .val (.ref b178), .val (.ref b247), .unset, .unset, .unset, .unset, .unset] [(.ref b250), (.ref b250)]))
    refine go (fun _ => XS.aload X250.here hx rfl (hb hby at_96) rfl rfl) ?_
    show Go _ p e below s _ _ _ (T250.setTop (mkF m 98 #[.val (.int p1), .val (.int p2), .val (.int p3), .val (.int p4), .val (.int p5), .val (.int (2 : Int32)), .val (.int (2 : Int32)), .val (.ref b176), .val (.ref b177), .val (.ref b178), .val (.ref b247), .unset, .unset, .unset, .unset, .unset] [(.ref b247), (.ref b250), (.ref b250)]))
    obtain ⟨_, _, ⟨T251, L251, k251, n251⟩, -, X251, ⟨Lc251, hQ251, l251, y251, z251⟩, st251⟩ := X250.specialBack hx (y := (⟨"com/example/sunder/sunder/cli/Arguments", "<init>", "([Ljava/lang/String;)V"⟩ : MethodName)) rfl hown (mvT hZ (hw _ (List.mem_of_getElem? (i := 35) rfl))) (mvT hZ (hw _ (List.mem_of_getElem? (i := 36) rfl))) (mvT hZ (hw _ (List.mem_of_getElem? (i := 37) rfl))) (by decide) (backOf (W := 1) (rmI2 l Z a0 hw [] b250 b247 k247 b176 b177 .null h250 n0 ZN250 A250 F250_49 F250_56 G_b250 c250_4 c250_5 (Ne.symm (Nat.ne_of_lt lt250_b247_b250))) hZ (hw _ (List.mem_of_getElem? (i := 37) rfl)) (hw _ (List.mem_of_getElem? (i := 34) rfl)) (by decide) (by decide)) (g := (mkF m 98 #[.val (.int p1), .val (.int p2), .val (.int p3), .val (.int p4), .val (.int p5), .val (.int (2 : Int32)), .val (.int (2 : Int32)), .val (.ref b176), .val (.ref b177), .val (.ref b178), .val (.ref b247), .unset, .unset, .unset, .unset, .unset] [(.ref b247), (.ref b250), (.ref b250)])) rfl (by rw [hml]; rfl) (Steps.refl _) (a := b250) (argsL := [(.ref b247)]) (rest := [(.ref b250)]) (lenOf pd_0_2 rfl) rfl (by show 2 * 0 + _ ≤ _; exact Nat.le_of_eq rfl) (hb hby at_98) (fun _ _ => ⟨rfl, e250, (by decide : 8 + 1 ≤ _), (by decide : 19 + 2 ≤ _)⟩)
    dsimp only [Pt.U, Pt.locs, Pt.cells, Pt.slots] at X251 l251 y251 z251 st251 hQ251
    subst l251 y251 z251
    obtain ⟨b251, rfl, N251q, u251_0, u251_1, K251, u251_3, u251_4, u251_5, u251_6⟩ := hQ251
    have N251 := Fr.app NN249 N251q
    have lt251_b176_b251 : b176 < b251 := Nat.lt_of_lt_of_le c250_1.lt u251_0
    have lt251_b177_b251 : b177 < b251 := Nat.lt_of_lt_of_le c250_2.lt u251_0
    have lt251_b178_b251 : b178 < b251 := Nat.lt_of_lt_of_le c250_3.lt u251_0
    have lt251_b247_b251 : b247 < b251 := Nat.lt_of_lt_of_le c250_4.lt u251_0
    have lt251_b250_b251 : b250 < b251 := Nat.lt_of_lt_of_le A250.lt u251_0
    have G_b251 : n0 ≤ b251 := Nat.le_trans ZN250 u251_0
    have SZ_b251 : h0.size ≤ b251 := Nat.le_trans KK250.1 u251_0
    have c251_1 := c250_1.keep K251
    have c251_2 := c250_2.keep K251
    have c251_3 := c250_3.keep K251
    have c251_4 := c250_4.keep K251
    have c251_5 := c250_5.keep K251 (ninS (Nat.ne_of_lt lt250_b247_b250) nin0)
    have c251_6 := A250.keep K251
    have KK251 : Keep h0 T251.heap [] := KK250.trans K251 (allS (P := fun x => x ∈ [] ∨ h0.size ≤ x) (Or.inr SZ_b250) all0)
    have ZN251 : n0 ≤ T251.heap.size := Nat.le_trans ZN250 K251.1
    have OL251 := OL250.keep K251 (allS G_b250 all0)
    refine goT st251 ?_
    show Go _ p e below s _ _ _ (T251.setTop (mkF m 101 #[.val (.int p1), .val (.int p2), .val (.int p3), .val (.int p4), .val (.int p5), .val (.int (2 : Int32)), .val (.int (2 : Int32)), .val (.ref b176), .val (.ref b177), .val (.ref b178), .val (.ref b247), .unset, .unset, .unset, .unset, .unset] [(.ref b250)]))
    refine go (fun _ => XS.astore X251.here hx rfl (hb hby at_101) rfl rfl (l' := #[.val (.int p1), .val (.int p2), .val (.int p3), .val (.int p4), .val (.int p5), .val (.int (2 : Int32)), .val (.int (2 : Int32)), .val (.ref b176), .val (.ref b177), .val (.ref b178), .val (.ref b247), .val (.ref b250), .unset, .unset, .unset, .unset]) rfl) ?_
    show Go _ p e below s _ _ _ (T251.setTop (mkF m 103 #[.val (.int p1), .val (.int p2), .val (.int p3), .val (.int p4), .val (.int p5), .val (.int (2 : Int32)), .val (.int (2 : Int32)), .val (.ref b176), .val (.ref b177), .val (.ref b178), .val (.ref b247), .val (.ref b250), .unset, .unset, .unset, .unset] []))
    refine go (fun _ => XS.iload X251.here hx rfl (hb hby at_103) rfl) ?_
    show Go _ p e below s _ _ _ (T251.setTop (mkF m 105 #[.val (.int p1), .val (.int p2), .val (.int p3), .val (.int p4), .val (.int p5), .val (.int (2 : Int32)), .val (.int (2 : Int32)), .val (.ref b176), .val (.ref b177), .val (.ref b178), .val (.ref b247), .val (.ref b250), .unset, .unset, .unset, .unset] [(.int (2 : Int32))]))
    refine go (fun _ => XS.iconst X251.here hx rfl (hb hby at_105)) ?_
    show Go _ p e below s _ _ _ (T251.setTop (mkF m 106 #[.val (.int p1), .val (.int p2), .val (.int p3), .val (.int p4), .val (.int p5), .val (.int (2 : Int32)), .val (.int (2 : Int32)), .val (.ref b176), .val (.ref b177), .val (.ref b178), .val (.ref b247), .val (.ref b250), .unset, .unset, .unset, .unset] [(.int (1 : Int32)), (.int (2 : Int32))]))
    refine go (fun _ => XS.icmpNo X251.here hx rfl (hb hby at_106) rfl (flt (by decide : ¬ ((2 : Int32) < (1 : Int32)))).1) ?_
    show Go _ p e below s _ _ _ (T251.setTop (mkF m 109 #[.val (.int p1), .val (.int p2), .val (.int p3), .val (.int p4), .val (.int p5), .val (.int (2 : Int32)), .val (.int (2 : Int32)), .val (.ref b176), .val (.ref b177), .val (.ref b178), .val (.ref b247), .val (.ref b250), .unset, .unset, .unset, .unset] []))
    refine go (fun _ => XS.aload X251.here hx rfl (hb hby at_109) rfl rfl) ?_
    show Go _ p e below s _ _ _ (T251.setTop (mkF m 111 #[.val (.int p1), .val (.int p2), .val (.int p3), .val (.int p4), .val (.int p5), .val (.int (2 : Int32)), .val (.int (2 : Int32)), .val (.ref b176), .val (.ref b177), .val (.ref b178), .val (.ref b247), .val (.ref b250), .unset, .unset, .unset, .unset] [(.ref b250)]))
    obtain ⟨cq252, kq252, q252a, q252b, q252c⟩ := isOf hZ rfl c251_6
    obtain ⟨_, _, ⟨T252, L252, k252, n252⟩, -, X252, ⟨Lc252, hQ252, l252, y252, z252⟩, st252⟩ := X251.virtualBack hx (y := (⟨"com/example/sunder/sunder/cli/Arguments", "next", "()Ljava/lang/String;"⟩ : MethodName)) (z := (⟨"com/example/sunder/sunder/cli/Arguments", "next", "()Ljava/lang/String;"⟩ : MethodName)) hown (mvT hZ (hw _ (List.mem_of_getElem? (i := 57) rfl))) (mvT hZ (hw _ (List.mem_of_getElem? (i := 58) rfl))) (notFace_of_selects (args := #[]) (mvT hZ (hw _ (List.mem_of_getElem? (i := 60) rfl)))) (mvT hZ (hw _ (List.mem_of_getElem? (i := 60) rfl))) (mvT hZ (hw _ (List.mem_of_getElem? (i := 59) rfl))) (by decide) (backOf (W := 0) (rmN2_0 l Z a0 hw [] b250 b251 k247 b176 b177 (T251.heap) n0 ZN251 c251_6 u251_3 u251_4 G_b250 u251_6 (Nat.ne_of_lt lt251_b250_b251)) hZ (hw _ (List.mem_of_getElem? (i := 61) rfl)) (hw _ (List.mem_of_getElem? (i := 34) rfl)) (by decide) (by decide)) q252a q252c (g := (mkF m 111 #[.val (.int p1), .val (.int p2), .val (.int p3), .val (.int p4), .val (.int p5), .val (.int (2 : Int32)), .val (.int (2 : Int32)), .val (.ref b176), .val (.ref b177), .val (.ref b178), .val (.ref b247), .val (.ref b250), .unset, .unset, .unset, .unset] [(.ref b250)])) rfl (by rw [hml]; rfl) (Steps.refl _) (argsL := []) (rest := []) (lenOf pd_0_4 rfl) rfl (by show 2 * 0 + _ ≤ _; exact Nat.le_of_eq rfl) (hb hby at_111) (fun _ _ => ⟨rfl, rfl, (by decide : 9 + 0 ≤ _), (by decide : 21 + 0 ≤ _)⟩)
    dsimp only [Pt.U, Pt.locs, Pt.cells, Pt.slots] at X252 l252 y252 z252 st252 hQ252
    subst l252 y252 z252
    obtain ⟨rfl, N252q, K252, u252_1, u252_2⟩ := hQ252
    have N252 := Fr.app N251 N252q
    have c252_1 := c251_1.keep K252
    have c252_2 := c251_2.keep K252
    have c252_3 := c251_3.keep K252
    have c252_4 := c251_4.keep K252
    have c252_5 := c251_5.keep K252 (ninS (Nat.ne_of_lt lt250_b247_b250) nin0)
    have c252_6 := c251_6.keep K252
    have c252_7 := u251_5.keep K252
    have c252_8 := u251_6.keep K252 (ninS (Ne.symm (Nat.ne_of_lt lt251_b250_b251)) nin0)
    have KK252 : Keep h0 T252.heap [] := KK251.trans K252 (allS (P := fun x => x ∈ [] ∨ h0.size ≤ x) (Or.inr SZ_b250) all0)
    have ZN252 : n0 ≤ T252.heap.size := Nat.le_trans ZN251 K252.1
    have OL252 := OL251.keep K252 (allS G_b250 all0)
    refine goT st252 ?_
    show Go _ p e below s _ _ _ (T252.setTop (mkF m 114 #[.val (.int p1), .val (.int p2), .val (.int p3), .val (.int p4), .val (.int p5), .val (.int (2 : Int32)), .val (.int (2 : Int32)), .val (.ref b176), .val (.ref b177), .val (.ref b178), .val (.ref b247), .val (.ref b250), .unset, .unset, .unset, .unset] [(.ref b176)]))
    refine go (fun _ => XS.pop X252.here hx rfl (hb hby at_114) rfl rfl) ?_
    show Go _ p e below s _ _ _ (T252.setTop (mkF m 115 #[.val (.int p1), .val (.int p2), .val (.int p3), .val (.int p4), .val (.int p5), .val (.int (2 : Int32)), .val (.int (2 : Int32)), .val (.ref b176), .val (.ref b177), .val (.ref b178), .val (.ref b247), .val (.ref b250), .unset, .unset, .unset, .unset] []))
    refine go (fun _ => XS.iload X252.here hx rfl (hb hby at_115) rfl) ?_
    show Go _ p e below s _ _ _ (T252.setTop (mkF m 117 #[.val (.int p1), .val (.int p2), .val (.int p3), .val (.int p4), .val (.int p5), .val (.int (2 : Int32)), .val (.int (2 : Int32)), .val (.ref b176), .val (.ref b177), .val (.ref b178), .val (.ref b247), .val (.ref b250), .unset, .unset, .unset, .unset] [(.int (2 : Int32))]))
    refine go (fun _ => XS.iconst X252.here hx rfl (hb hby at_117)) ?_
    show Go _ p e below s _ _ _ (T252.setTop (mkF m 118 #[.val (.int p1), .val (.int p2), .val (.int p3), .val (.int p4), .val (.int p5), .val (.int (2 : Int32)), .val (.int (2 : Int32)), .val (.ref b176), .val (.ref b177), .val (.ref b178), .val (.ref b247), .val (.ref b250), .unset, .unset, .unset, .unset] [(.int (2 : Int32)), (.int (2 : Int32))]))
    refine go (fun _ => XS.icmpNo X252.here hx rfl (hb hby at_118) rfl (flt (by decide : ¬ ((2 : Int32) < (2 : Int32)))).1) ?_
    show Go _ p e below s _ _ _ (T252.setTop (mkF m 121 #[.val (.int p1), .val (.int p2), .val (.int p3), .val (.int p4), .val (.int p5), .val (.int (2 : Int32)), .val (.int (2 : Int32)), .val (.ref b176), .val (.ref b177), .val (.ref b178), .val (.ref b247), .val (.ref b250), .unset, .unset, .unset, .unset] []))
    refine go (fun _ => XS.aload X252.here hx rfl (hb hby at_121) rfl rfl) ?_
    show Go _ p e below s _ _ _ (T252.setTop (mkF m 123 #[.val (.int p1), .val (.int p2), .val (.int p3), .val (.int p4), .val (.int p5), .val (.int (2 : Int32)), .val (.int (2 : Int32)), .val (.ref b176), .val (.ref b177), .val (.ref b178), .val (.ref b247), .val (.ref b250), .unset, .unset, .unset, .unset] [(.ref b250)]))
    obtain ⟨cq253, kq253, q253a, q253b, q253c⟩ := isOf hZ rfl c252_6
    obtain ⟨_, _, ⟨T253, L253, k253, n253⟩, -, X253, ⟨Lc253, hQ253, l253, y253, z253⟩, st253⟩ := X252.virtualBack hx (y := (⟨"com/example/sunder/sunder/cli/Arguments", "next", "()Ljava/lang/String;"⟩ : MethodName)) (z := (⟨"com/example/sunder/sunder/cli/Arguments", "next", "()Ljava/lang/String;"⟩ : MethodName)) hown (mvT hZ (hw _ (List.mem_of_getElem? (i := 57) rfl))) (mvT hZ (hw _ (List.mem_of_getElem? (i := 58) rfl))) (notFace_of_selects (args := #[]) (mvT hZ (hw _ (List.mem_of_getElem? (i := 60) rfl)))) (mvT hZ (hw _ (List.mem_of_getElem? (i := 60) rfl))) (mvT hZ (hw _ (List.mem_of_getElem? (i := 59) rfl))) (by decide) (backOf (W := 0) (rmN2_1 l Z a0 hw [] b250 b251 k247 b176 b177 (T252.heap) n0 ZN252 c252_6 u252_1 u252_2 G_b250 c252_8 (Nat.ne_of_lt lt251_b250_b251)) hZ (hw _ (List.mem_of_getElem? (i := 61) rfl)) (hw _ (List.mem_of_getElem? (i := 34) rfl)) (by decide) (by decide)) q253a q253c (g := (mkF m 123 #[.val (.int p1), .val (.int p2), .val (.int p3), .val (.int p4), .val (.int p5), .val (.int (2 : Int32)), .val (.int (2 : Int32)), .val (.ref b176), .val (.ref b177), .val (.ref b178), .val (.ref b247), .val (.ref b250), .unset, .unset, .unset, .unset] [(.ref b250)])) rfl (by rw [hml]; rfl) (Steps.refl _) (argsL := []) (rest := []) (lenOf pd_0_4 rfl) rfl (by show 2 * 0 + _ ≤ _; exact Nat.le_of_eq rfl) (hb hby at_123) (fun _ _ => ⟨rfl, rfl, (by decide : 9 + 0 ≤ _), (by decide : 21 + 0 ≤ _)⟩)
    dsimp only [Pt.U, Pt.locs, Pt.cells, Pt.slots] at X253 l253 y253 z253 st253 hQ253
    subst l253 y253 z253
    obtain ⟨rfl, N253q, K253, u253_1, u253_2⟩ := hQ253
    have N253 := Fr.app N252 N253q
    have c253_1 := c252_1.keep K253
    have c253_2 := c252_2.keep K253
    have c253_3 := c252_3.keep K253
    have c253_4 := c252_4.keep K253
    have c253_5 := c252_5.keep K253 (ninS (Nat.ne_of_lt lt250_b247_b250) nin0)
    have c253_6 := c252_6.keep K253
    have c253_7 := c252_7.keep K253
    have c253_8 := c252_8.keep K253 (ninS (Ne.symm (Nat.ne_of_lt lt251_b250_b251)) nin0)
    have KK253 : Keep h0 T253.heap [] := KK252.trans K253 (allS (P := fun x => x ∈ [] ∨ h0.size ≤ x) (Or.inr SZ_b250) all0)
    have ZN253 : n0 ≤ T253.heap.size := Nat.le_trans ZN252 K253.1
    have OL253 := OL252.keep K253 (allS G_b250 all0)
    refine goT st253 ?_
    show Go _ p e below s _ _ _ (T253.setTop (mkF m 126 #[.val (.int p1), .val (.int p2), .val (.int p3), .val (.int p4), .val (.int p5), .val (.int (2 : Int32)), .val (.int (2 : Int32)), .val (.ref b176), .val (.ref b177), .val (.ref b178), .val (.ref b247), .val (.ref b250), .unset, .unset, .unset, .unset] [(.ref b177)]))
    refine go (fun _ => XS.pop X253.here hx rfl (hb hby at_126) rfl rfl) ?_
    show Go _ p e below s _ _ _ (T253.setTop (mkF m 127 #[.val (.int p1), .val (.int p2), .val (.int p3), .val (.int p4), .val (.int p5), .val (.int (2 : Int32)), .val (.int (2 : Int32)), .val (.ref b176), .val (.ref b177), .val (.ref b178), .val (.ref b247), .val (.ref b250), .unset, .unset, .unset, .unset] []))
    refine go (fun _ => XS.iload X253.here hx rfl (hb hby at_127) rfl) ?_
    show Go _ p e below s _ _ _ (T253.setTop (mkF m 129 #[.val (.int p1), .val (.int p2), .val (.int p3), .val (.int p4), .val (.int p5), .val (.int (2 : Int32)), .val (.int (2 : Int32)), .val (.ref b176), .val (.ref b177), .val (.ref b178), .val (.ref b247), .val (.ref b250), .unset, .unset, .unset, .unset] [(.int (2 : Int32))]))
    refine go (fun _ => XS.iconst X253.here hx rfl (hb hby at_129)) ?_
    show Go _ p e below s _ _ _ (T253.setTop (mkF m 130 #[.val (.int p1), .val (.int p2), .val (.int p3), .val (.int p4), .val (.int p5), .val (.int (2 : Int32)), .val (.int (2 : Int32)), .val (.ref b176), .val (.ref b177), .val (.ref b178), .val (.ref b247), .val (.ref b250), .unset, .unset, .unset, .unset] [(.int (3 : Int32)), (.int (2 : Int32))]))
    refine go (fun _ => XS.icmpYes X253.here hx rfl (pc0 := 130) (pc' := 139) rfl (hb hby at_130) rfl (tlt (by decide : ((2 : Int32) < (3 : Int32)))).1 (by decide) (by decide)) ?_
    show Go _ p e below s _ _ _ (T253.setTop (mkF m 139 #[.val (.int p1), .val (.int p2), .val (.int p3), .val (.int p4), .val (.int p5), .val (.int (2 : Int32)), .val (.int (2 : Int32)), .val (.ref b176), .val (.ref b177), .val (.ref b178), .val (.ref b247), .val (.ref b250), .unset, .unset, .unset, .unset] []))
    refine go (fun _ => XS.aload X253.here hx rfl (hb hby at_139) rfl rfl) ?_
    show Go _ p e below s _ _ _ (T253.setTop (mkF m 141 #[.val (.int p1), .val (.int p2), .val (.int p3), .val (.int p4), .val (.int p5), .val (.int (2 : Int32)), .val (.int (2 : Int32)), .val (.ref b176), .val (.ref b177), .val (.ref b178), .val (.ref b247), .val (.ref b250), .unset, .unset, .unset, .unset] [(.ref b250)]))
    obtain ⟨cq254, kq254, q254a, q254b, q254c⟩ := isOf hZ rfl c253_6
    obtain ⟨_, _, ⟨T254, L254, k254, n254⟩, -, X254, ⟨Lc254, hQ254, l254, y254, z254⟩, st254⟩ := X253.virtualBack hx (y := (⟨"com/example/sunder/sunder/cli/Arguments", "hasNext", "()Z"⟩ : MethodName)) (z := (⟨"com/example/sunder/sunder/cli/Arguments", "hasNext", "()Z"⟩ : MethodName)) hown (mvT hZ (hw _ (List.mem_of_getElem? (i := 50) rfl))) (mvT hZ (hw _ (List.mem_of_getElem? (i := 51) rfl))) (notFace_of_selects (args := #[]) (mvT hZ (hw _ (List.mem_of_getElem? (i := 53) rfl)))) (mvT hZ (hw _ (List.mem_of_getElem? (i := 53) rfl))) (mvT hZ (hw _ (List.mem_of_getElem? (i := 52) rfl))) (by decide) (backOf (W := 0) (rmH2_2 l Z a0 hw [] b250 b251 k247 b176 b177 (T253.heap) n0 ZN253 u253_1 u253_2 c253_8) hZ (hw _ (List.mem_of_getElem? (i := 54) rfl)) (hw _ (List.mem_of_getElem? (i := 34) rfl)) (by decide) (by decide)) q254a q254c (g := (mkF m 141 #[.val (.int p1), .val (.int p2), .val (.int p3), .val (.int p4), .val (.int p5), .val (.int (2 : Int32)), .val (.int (2 : Int32)), .val (.ref b176), .val (.ref b177), .val (.ref b178), .val (.ref b247), .val (.ref b250), .unset, .unset, .unset, .unset] [(.ref b250)])) rfl (by rw [hml]; rfl) (Steps.refl _) (argsL := []) (rest := []) (lenOf pd_0_3 rfl) rfl (by show 2 * 0 + _ ≤ _; exact Nat.le_of_eq rfl) (hb hby at_141) (fun _ _ => ⟨rfl, rfl, (by decide : 9 + 0 ≤ _), (by decide : 21 + 0 ≤ _)⟩)
    dsimp only [Pt.U, Pt.locs, Pt.cells, Pt.slots] at X254 l254 y254 z254 st254 hQ254
    subst l254 y254 z254
    obtain ⟨rfl, N254q, e254⟩ := hQ254
    have N254 := Fr.app N253 N254q
    refine goT st254 ?_
    show Go _ p e below s _ _ _ (T254.setTop (mkF m 144 #[.val (.int p1), .val (.int p2), .val (.int p3), .val (.int p4), .val (.int p5), .val (.int (2 : Int32)), .val (.int (2 : Int32)), .val (.ref b176), .val (.ref b177), .val (.ref b178), .val (.ref b247), .val (.ref b250), .unset, .unset, .unset, .unset] [(.int (0 : Int32))]))
    refine go (fun _ => XS.istore X254.here hx rfl (hb hby at_144) rfl (l' := #[.val (.int p1), .val (.int p2), .val (.int p3), .val (.int p4), .val (.int p5), .val (.int (2 : Int32)), .val (.int (2 : Int32)), .val (.ref b176), .val (.ref b177), .val (.ref b178), .val (.ref b247), .val (.ref b250), .val (.int (0 : Int32)), .unset, .unset, .unset]) rfl) ?_
    show Go _ p e below s _ _ _ (T254.setTop (mkF m 146 #[.val (.int p1), .val (.int p2), .val (.int p3), .val (.int p4), .val (.int p5), .val (.int (2 : Int32)), .val (.int (2 : Int32)), .val (.ref b176), .val (.ref b177), .val (.ref b178), .val (.ref b247), .val (.ref b250), .val (.int (0 : Int32)), .unset, .unset, .unset] []))
    refine go (fun _ => XS.aload X254.here hx rfl (hb hby at_146) rfl rfl) ?_
    show Go _ p e below s _ _ _ (T254.setTop (mkF m 148 #[.val (.int p1), .val (.int p2), .val (.int p3), .val (.int p4), .val (.int p5), .val (.int (2 : Int32)), .val (.int (2 : Int32)), .val (.ref b176), .val (.ref b177), .val (.ref b178), .val (.ref b247), .val (.ref b250), .val (.int (0 : Int32)), .unset, .unset, .unset] [(.ref b250)]))
    obtain ⟨cq255, kq255, q255a, q255b, q255c⟩ := isOf hZ e254 c253_6
    obtain ⟨_, _, ⟨T255, L255, k255, n255⟩, -, X255, ⟨Lc255, hQ255, l255, y255, z255⟩, st255⟩ := X254.virtualBack hx (y := (⟨"com/example/sunder/sunder/cli/Arguments", "hasNext", "()Z"⟩ : MethodName)) (z := (⟨"com/example/sunder/sunder/cli/Arguments", "hasNext", "()Z"⟩ : MethodName)) hown (mvT hZ (hw _ (List.mem_of_getElem? (i := 50) rfl))) (mvT hZ (hw _ (List.mem_of_getElem? (i := 51) rfl))) (notFace_of_selects (args := #[]) (mvT hZ (hw _ (List.mem_of_getElem? (i := 53) rfl)))) (mvT hZ (hw _ (List.mem_of_getElem? (i := 53) rfl))) (mvT hZ (hw _ (List.mem_of_getElem? (i := 52) rfl))) (by decide) (backOf (W := 0) (rmH2_2 l Z a0 hw [] b250 b251 k247 b176 b177 (T253.heap) n0 ZN253 u253_1 u253_2 c253_8) hZ (hw _ (List.mem_of_getElem? (i := 54) rfl)) (hw _ (List.mem_of_getElem? (i := 34) rfl)) (by decide) (by decide)) q255a q255c (g := (mkF m 148 #[.val (.int p1), .val (.int p2), .val (.int p3), .val (.int p4), .val (.int p5), .val (.int (2 : Int32)), .val (.int (2 : Int32)), .val (.ref b176), .val (.ref b177), .val (.ref b178), .val (.ref b247), .val (.ref b250), .val (.int (0 : Int32)), .unset, .unset, .unset] [(.ref b250)])) rfl (by rw [hml]; rfl) (Steps.refl _) (argsL := []) (rest := []) (lenOf pd_0_3 rfl) rfl (by show 2 * 0 + _ ≤ _; exact Nat.le_of_eq rfl) (hb hby at_148) (fun _ _ => ⟨rfl, e254, (by decide : 9 + 0 ≤ _), (by decide : 21 + 0 ≤ _)⟩)
    dsimp only [Pt.U, Pt.locs, Pt.cells, Pt.slots] at X255 l255 y255 z255 st255 hQ255
    subst l255 y255 z255
    obtain ⟨rfl, N255q, e255⟩ := hQ255
    have N255 := Fr.app N254 N255q
    refine goT st255 ?_
    show Go _ p e below s _ _ _ (T255.setTop (mkF m 151 #[.val (.int p1), .val (.int p2), .val (.int p3), .val (.int p4), .val (.int p5), .val (.int (2 : Int32)), .val (.int (2 : Int32)), .val (.ref b176), .val (.ref b177), .val (.ref b178), .val (.ref b247), .val (.ref b250), .val (.int (0 : Int32)), .unset, .unset, .unset] [(.int (0 : Int32))]))
    refine go (fun _ => XS.istore X255.here hx rfl (hb hby at_151) rfl (l' := #[.val (.int p1), .val (.int p2), .val (.int p3), .val (.int p4), .val (.int p5), .val (.int (2 : Int32)), .val (.int (2 : Int32)), .val (.ref b176), .val (.ref b177), .val (.ref b178), .val (.ref b247), .val (.ref b250), .val (.int (0 : Int32)), .val (.int (0 : Int32)), .unset, .unset]) rfl) ?_
    show Go _ p e below s _ _ _ (T255.setTop (mkF m 153 #[.val (.int p1), .val (.int p2), .val (.int p3), .val (.int p4), .val (.int p5), .val (.int (2 : Int32)), .val (.int (2 : Int32)), .val (.ref b176), .val (.ref b177), .val (.ref b178), .val (.ref b247), .val (.ref b250), .val (.int (0 : Int32)), .val (.int (0 : Int32)), .unset, .unset] []))
    refine go (fun _ => XS.iload X255.here hx rfl (hb hby at_153) rfl) ?_
    show Go _ p e below s _ _ _ (T255.setTop (mkF m 155 #[.val (.int p1), .val (.int p2), .val (.int p3), .val (.int p4), .val (.int p5), .val (.int (2 : Int32)), .val (.int (2 : Int32)), .val (.ref b176), .val (.ref b177), .val (.ref b178), .val (.ref b247), .val (.ref b250), .val (.int (0 : Int32)), .val (.int (0 : Int32)), .unset, .unset] [(.int (0 : Int32))]))
    refine go (fun _ => XS.iload X255.here hx rfl (hb hby at_155) rfl) ?_
    show Go _ p e below s _ _ _ (T255.setTop (mkF m 157 #[.val (.int p1), .val (.int p2), .val (.int p3), .val (.int p4), .val (.int p5), .val (.int (2 : Int32)), .val (.int (2 : Int32)), .val (.ref b176), .val (.ref b177), .val (.ref b178), .val (.ref b247), .val (.ref b250), .val (.int (0 : Int32)), .val (.int (0 : Int32)), .unset, .unset] [(.int (2 : Int32)), (.int (0 : Int32))]))
    refine go (fun _ => XS.iload X255.here hx rfl (hb hby at_157) rfl) ?_
    show Go _ p e below s _ _ _ (T255.setTop (mkF m 159 #[.val (.int p1), .val (.int p2), .val (.int p3), .val (.int p4), .val (.int p5), .val (.int (2 : Int32)), .val (.int (2 : Int32)), .val (.ref b176), .val (.ref b177), .val (.ref b178), .val (.ref b247), .val (.ref b250), .val (.int (0 : Int32)), .val (.int (0 : Int32)), .unset, .unset] [(.int (2 : Int32)), (.int (2 : Int32)), (.int (0 : Int32))]))
    refine go (fun _ => XS.icmpYes X255.here hx rfl (pc0 := 159) (pc' := 166) rfl (hb hby at_159) rfl (flt (by decide : ¬ ((2 : Int32) < (2 : Int32)))).2.1 (by decide) (by decide)) ?_
    show Go _ p e below s _ _ _ (T255.setTop (mkF m 166 #[.val (.int p1), .val (.int p2), .val (.int p3), .val (.int p4), .val (.int p5), .val (.int (2 : Int32)), .val (.int (2 : Int32)), .val (.ref b176), .val (.ref b177), .val (.ref b178), .val (.ref b247), .val (.ref b250), .val (.int (0 : Int32)), .val (.int (0 : Int32)), .unset, .unset] [(.int (0 : Int32))]))
    refine go (fun _ => XS.iconst X255.here hx rfl (hb hby at_166)) ?_
    show Go _ p e below s _ _ _ (T255.setTop (mkF m 167 #[.val (.int p1), .val (.int p2), .val (.int p3), .val (.int p4), .val (.int p5), .val (.int (2 : Int32)), .val (.int (2 : Int32)), .val (.ref b176), .val (.ref b177), .val (.ref b178), .val (.ref b247), .val (.ref b250), .val (.int (0 : Int32)), .val (.int (0 : Int32)), .unset, .unset] [(.int (0 : Int32)), (.int (0 : Int32))]))
    refine go (fun _ => XS.icmpNo X255.here hx rfl (hb hby at_167) rfl (teq (rfl : (0 : Int32) = (0 : Int32))).2) ?_
    show Go _ p e below s _ _ _ (T255.setTop (mkF m 170 #[.val (.int p1), .val (.int p2), .val (.int p3), .val (.int p4), .val (.int p5), .val (.int (2 : Int32)), .val (.int (2 : Int32)), .val (.ref b176), .val (.ref b177), .val (.ref b178), .val (.ref b247), .val (.ref b250), .val (.int (0 : Int32)), .val (.int (0 : Int32)), .unset, .unset] []))
    refine go (fun _ => XS.iload X255.here hx rfl (hb hby at_170) rfl) ?_
    show Go _ p e below s _ _ _ (T255.setTop (mkF m 172 #[.val (.int p1), .val (.int p2), .val (.int p3), .val (.int p4), .val (.int p5), .val (.int (2 : Int32)), .val (.int (2 : Int32)), .val (.ref b176), .val (.ref b177), .val (.ref b178), .val (.ref b247), .val (.ref b250), .val (.int (0 : Int32)), .val (.int (0 : Int32)), .unset, .unset] [(.int (0 : Int32))]))
    refine go (fun _ => XS.iload X255.here hx rfl (hb hby at_172) rfl) ?_
    show Go _ p e below s _ _ _ (T255.setTop (mkF m 174 #[.val (.int p1), .val (.int p2), .val (.int p3), .val (.int p4), .val (.int p5), .val (.int (2 : Int32)), .val (.int (2 : Int32)), .val (.ref b176), .val (.ref b177), .val (.ref b178), .val (.ref b247), .val (.ref b250), .val (.int (0 : Int32)), .val (.int (0 : Int32)), .unset, .unset] [(.int (0 : Int32)), (.int (0 : Int32))]))
    refine go (fun _ => XS.icmpYes X255.here hx rfl (pc0 := 174) (pc' := 179) rfl (hb hby at_174) rfl (teq (rfl : (0 : Int32) = (0 : Int32))).1 (by decide) (by decide)) ?_
    show Go _ p e below s _ _ _ (T255.setTop (mkF m 179 #[.val (.int p1), .val (.int p2), .val (.int p3), .val (.int p4), .val (.int p5), .val (.int (2 : Int32)), .val (.int (2 : Int32)), .val (.ref b176), .val (.ref b177), .val (.ref b178), .val (.ref b247), .val (.ref b250), .val (.int (0 : Int32)), .val (.int (0 : Int32)), .unset, .unset] []))
    refine go (fun _ => XS.iload X255.here hx rfl (hb hby at_179) rfl) ?_
    show Go _ p e below s _ _ _ (T255.setTop (mkF m 181 #[.val (.int p1), .val (.int p2), .val (.int p3), .val (.int p4), .val (.int p5), .val (.int (2 : Int32)), .val (.int (2 : Int32)), .val (.ref b176), .val (.ref b177), .val (.ref b178), .val (.ref b247), .val (.ref b250), .val (.int (0 : Int32)), .val (.int (0 : Int32)), .unset, .unset] [(.int (0 : Int32))]))
    refine go (fun _ => XS.ifNo X255.here hx rfl (hb hby at_181) rfl ((if0 _ _).trans (teq (rfl : (0 : Int32) = (0 : Int32))).2)) ?_
    show Go _ p e below s _ _ _ (T255.setTop (mkF m 184 #[.val (.int p1), .val (.int p2), .val (.int p3), .val (.int p4), .val (.int p5), .val (.int (2 : Int32)), .val (.int (2 : Int32)), .val (.ref b176), .val (.ref b177), .val (.ref b178), .val (.ref b247), .val (.ref b250), .val (.int (0 : Int32)), .val (.int (0 : Int32)), .unset, .unset] []))
    refine go (fun _ => XS.iconst X255.here hx rfl (hb hby at_184)) ?_
    show Go _ p e below s _ _ _ (T255.setTop (mkF m 185 #[.val (.int p1), .val (.int p2), .val (.int p3), .val (.int p4), .val (.int p5), .val (.int (2 : Int32)), .val (.int (2 : Int32)), .val (.ref b176), .val (.ref b177), .val (.ref b178), .val (.ref b247), .val (.ref b250), .val (.int (0 : Int32)), .val (.int (0 : Int32)), .unset, .unset] [(.int (1 : Int32))]))
    refine goRet X255 hx Bd.notSynchronized Bd.returns rfl (Or.inl ⟨rfl, Or.inr (Or.inl rfl), _, rfl⟩) (hb hby at_185) (by decide) (by decide) (by rw [e255]; refine ⟨rfl, N255⟩)
  · rw [show own_min (3 : Int32) (2 : Int32) = (2 : Int32) from by decide]
    show Go _ p e below s _ _ _ (T178.setTop (mkF m 49 #[.val (.int p1), .val (.int p2), .val (.int p3), .val (.int p4), .val (.int p5), .val (.int (2 : Int32)), .val (.int (2 : Int32)), .val (.ref b176), .val (.ref b177), .val (.ref b178), .unset, .unset, .unset, .unset, .unset, .unset] []))
    refine go (fun _ => XS.iload X178.here hx rfl (hb hby at_49) rfl) ?_
    show Go _ p e below s _ _ _ (T178.setTop (mkF m 51 #[.val (.int p1), .val (.int p2), .val (.int p3), .val (.int p4), .val (.int p5), .val (.int (2 : Int32)), .val (.int (2 : Int32)), .val (.ref b176), .val (.ref b177), .val (.ref b178), .unset, .unset, .unset, .unset, .unset, .unset] [(.int (2 : Int32))]))
    obtain ⟨T256, h256, k256, X256, e256, E256, A256, AE256, O256, st256⟩ := newRE X178 hx hZ hown (hw _ (List.mem_of_getElem? (i := 30) rfl)) (hw _ (List.mem_of_getElem? (i := 31) rfl)) rfl (g := (mkF m 51 #[.val (.int p1), .val (.int p2), .val (.int p3), .val (.int p4), .val (.int p5), .val (.int (2 : Int32)), .val (.int (2 : Int32)), .val (.ref b176), .val (.ref b177), .val (.ref b178), .unset, .unset, .unset, .unset, .unset, .unset] [(.int (2 : Int32))])) rfl (hb hby at_51) rfl (by decide) (cap := 2) (by decide) (by decide) (by decide) (by decide) (ad := "[Ljava/lang/String;") (by first | rfl | decide)
    obtain ⟨b256, g256⟩ : ∃ z, z = T178.heap.size := ⟨_, rfl⟩
    rw [← g256] at A256 AE256 st256
    have lt256_b176_b256 : b176 < b256 := Nat.lt_of_lt_of_le c178_1.lt (Nat.le_of_eq g256.symm)
    have lt256_b177_b256 : b177 < b256 := Nat.lt_of_lt_of_le c178_2.lt (Nat.le_of_eq g256.symm)
    have lt256_b178_b256 : b178 < b256 := Nat.lt_of_lt_of_le u178_3.lt (Nat.le_of_eq g256.symm)
    have G_b256 : n0 ≤ b256 := Nat.le_trans ZN178 (Nat.le_of_eq g256.symm)
    have SZ_b256 : h0.size ≤ b256 := Nat.le_trans KK178.1 (Nat.le_of_eq g256.symm)
    have c256_1 := c178_1.ext E256
    have c256_2 := c178_2.ext E256
    have c256_3 := u178_3.ext E256
    have KK256 : Keep h0 h256 [] := KK178.ext E256
    have ZN256 : n0 ≤ h256.size := Nat.le_trans ZN178 E256.1
    have OL256 := OL178.ext E256
    have V256 : Arv Z h256 b256 k256 (.object "java/lang/String") (2 : Int32) [.null, .null] .null := (Arv.new A256 (by decide)).pad (pad_rep [] .null 2)
    refine go st256 ?_
    show Go _ p e below s _ _ _ (T256.setTop (mkF m 54 #[.val (.int p1), .val (.int p2), .val (.int p3), .val (.int p4), .val (.int p5), .val (.int (2 : Int32)), .val (.int (2 : Int32)), .val (.ref b176), .val (.ref b177), .val (.ref b178), .unset, .unset, .unset, .unset, .unset, .unset] [(.ref b256)]))
    refine go (fun _ => XS.astore X256.here hx rfl (hb hby at_54) rfl rfl (l' := #[.val (.int p1), .val (.int p2), .val (.int p3), .val (.int p4), .val (.int p5), .val (.int (2 : Int32)), .val (.int (2 : Int32)), .val (.ref b176), .val (.ref b177), .val (.ref b178), .val (.ref b256), .unset, .unset, .unset, .unset, .unset]) rfl) ?_
    show Go _ p e below s _ _ _ (T256.setTop (mkF m 56 #[.val (.int p1), .val (.int p2), .val (.int p3), .val (.int p4), .val (.int p5), .val (.int (2 : Int32)), .val (.int (2 : Int32)), .val (.ref b176), .val (.ref b177), .val (.ref b178), .val (.ref b256), .unset, .unset, .unset, .unset, .unset] []))
    refine go (fun _ => XS.iload X256.here hx rfl (hb hby at_56) rfl) ?_
    show Go _ p e below s _ _ _ (T256.setTop (mkF m 58 #[.val (.int p1), .val (.int p2), .val (.int p3), .val (.int p4), .val (.int p5), .val (.int (2 : Int32)), .val (.int (2 : Int32)), .val (.ref b176), .val (.ref b177), .val (.ref b178), .val (.ref b256), .unset, .unset, .unset, .unset, .unset] [(.int (2 : Int32))]))
    refine go (fun _ => XS.iconst X256.here hx rfl (hb hby at_58)) ?_
    show Go _ p e below s _ _ _ (T256.setTop (mkF m 59 #[.val (.int p1), .val (.int p2), .val (.int p3), .val (.int p4), .val (.int p5), .val (.int (2 : Int32)), .val (.int (2 : Int32)), .val (.ref b176), .val (.ref b177), .val (.ref b178), .val (.ref b256), .unset, .unset, .unset, .unset, .unset] [(.int (1 : Int32)), (.int (2 : Int32))]))
    refine go (fun _ => XS.icmpNo X256.here hx rfl (hb hby at_59) rfl (flt (by decide : ¬ ((2 : Int32) < (1 : Int32)))).1) ?_
    show Go _ p e below s _ _ _ (T256.setTop (mkF m 62 #[.val (.int p1), .val (.int p2), .val (.int p3), .val (.int p4), .val (.int p5), .val (.int (2 : Int32)), .val (.int (2 : Int32)), .val (.ref b176), .val (.ref b177), .val (.ref b178), .val (.ref b256), .unset, .unset, .unset, .unset, .unset] []))
    refine go (fun _ => XS.aload X256.here hx rfl (hb hby at_62) rfl rfl) ?_
    show Go _ p e below s _ _ _ (T256.setTop (mkF m 64 #[.val (.int p1), .val (.int p2), .val (.int p3), .val (.int p4), .val (.int p5), .val (.int (2 : Int32)), .val (.int (2 : Int32)), .val (.ref b176), .val (.ref b177), .val (.ref b178), .val (.ref b256), .unset, .unset, .unset, .unset, .unset] [(.ref b256)]))
    refine go (fun _ => XS.iconst X256.here hx rfl (hb hby at_64)) ?_
    show Go _ p e below s _ _ _ (T256.setTop (mkF m 65 #[.val (.int p1), .val (.int p2), .val (.int p3), .val (.int p4), .val (.int p5), .val (.int (2 : Int32)), .val (.int (2 : Int32)), .val (.ref b176), .val (.ref b177), .val (.ref b178), .val (.ref b256), .unset, .unset, .unset, .unset, .unset] [(.int (0 : Int32)), (.ref b256)]))
    refine go (fun _ => XS.aload X256.here hx rfl (hb hby at_65) rfl rfl) ?_
    show Go _ p e below s _ _ _ (T256.setTop (mkF m 67 #[.val (.int p1), .val (.int p2), .val (.int p3), .val (.int p4), .val (.int p5), .val (.int (2 : Int32)), .val (.int (2 : Int32)), .val (.ref b176), .val (.ref b177), .val (.ref b178), .val (.ref b256), .unset, .unset, .unset, .unset, .unset] [(.ref b176), (.int (0 : Int32)), (.ref b256)]))
    obtain ⟨cl257, Ar257, q257, Sz257, Nz257, Hs257, Gs257⟩ := id V256
    have hin257 : ¬ ((0 : Int32) < 0 ∨ cl257.slots.size ≤ ((0 : Int32)).toNatClampNeg) := inb_of Sz257 ⟨by decide, by decide⟩
    obtain ⟨T257, h257, X257, e257, W257, st257⟩ := stR X256 hx hZ e256 Ar257 (j := (0 : Int32)) hin257 rfl (Sto.ofV Ar257 q257 O256 (Ins.self c256_1)) (g := (mkF m 67 #[.val (.int p1), .val (.int p2), .val (.int p3), .val (.int p4), .val (.int p5), .val (.int (2 : Int32)), .val (.int (2 : Int32)), .val (.ref b176), .val (.ref b177), .val (.ref b178), .val (.ref b256), .unset, .unset, .unset, .unset, .unset] [(.ref b176), (.int (0 : Int32)), (.ref b256)])) rfl rfl (hb hby at_67)
    have V257 := Arv.set Ar257 q257 Sz257 Nz257 Hs257 Gs257 rfl W257 0 rfl (Nat.le_of_ble_eq_true rfl)
    have VV257 : Arv Z h257 b256 k256 (.object "java/lang/String") (2 : Int32) [(.ref b176), .null] .null := V257
    have c257_1 := c256_1.wr W257
    have c257_2 := c256_2.wr W257
    have c257_3 := c256_3.wr W257
    have c257_4 := AE256.wr W257
    have KK257 : Keep h0 h257 [] := KK256.wr W257 (Or.inr SZ_b256)
    have ZN257 : n0 ≤ h257.size := Nat.le_trans ZN256 (Keep.of_wr W257).1
    have NN257 := Fr.snoc X257 N178 G_b256
    have OL257 := OL256.wr W257 G_b256
    refine go st257 ?_
    show Go _ p e below s _ _ _ (T257.setTop (mkF m 68 #[.val (.int p1), .val (.int p2), .val (.int p3), .val (.int p4), .val (.int p5), .val (.int (2 : Int32)), .val (.int (2 : Int32)), .val (.ref b176), .val (.ref b177), .val (.ref b178), .val (.ref b256), .unset, .unset, .unset, .unset, .unset] []))
    refine go (fun _ => XS.iload X257.here hx rfl (hb hby at_68) rfl) ?_
    show Go _ p e below s _ _ _ (T257.setTop (mkF m 70 #[.val (.int p1), .val (.int p2), .val (.int p3), .val (.int p4), .val (.int p5), .val (.int (2 : Int32)), .val (.int (2 : Int32)), .val (.ref b176), .val (.ref b177), .val (.ref b178), .val (.ref b256), .unset, .unset, .unset, .unset, .unset] [(.int (2 : Int32))]))
    refine go (fun _ => XS.iconst X257.here hx rfl (hb hby at_70)) ?_
    show Go _ p e below s _ _ _ (T257.setTop (mkF m 71 #[.val (.int p1), .val (.int p2), .val (.int p3), .val (.int p4), .val (.int p5), .val (.int (2 : Int32)), .val (.int (2 : Int32)), .val (.ref b176), .val (.ref b177), .val (.ref b178), .val (.ref b256), .unset, .unset, .unset, .unset, .unset] [(.int (2 : Int32)), (.int (2 : Int32))]))
    refine go (fun _ => XS.icmpNo X257.here hx rfl (hb hby at_71) rfl (flt (by decide : ¬ ((2 : Int32) < (2 : Int32)))).1) ?_
    show Go _ p e below s _ _ _ (T257.setTop (mkF m 74 #[.val (.int p1), .val (.int p2), .val (.int p3), .val (.int p4), .val (.int p5), .val (.int (2 : Int32)), .val (.int (2 : Int32)), .val (.ref b176), .val (.ref b177), .val (.ref b178), .val (.ref b256), .unset, .unset, .unset, .unset, .unset] []))
    refine go (fun _ => XS.aload X257.here hx rfl (hb hby at_74) rfl rfl) ?_
    show Go _ p e below s _ _ _ (T257.setTop (mkF m 76 #[.val (.int p1), .val (.int p2), .val (.int p3), .val (.int p4), .val (.int p5), .val (.int (2 : Int32)), .val (.int (2 : Int32)), .val (.ref b176), .val (.ref b177), .val (.ref b178), .val (.ref b256), .unset, .unset, .unset, .unset, .unset] [(.ref b256)]))
    refine go (fun _ => XS.iconst X257.here hx rfl (hb hby at_76)) ?_
    show Go _ p e below s _ _ _ (T257.setTop (mkF m 77 #[.val (.int p1), .val (.int p2), .val (.int p3), .val (.int p4), .val (.int p5), .val (.int (2 : Int32)), .val (.int (2 : Int32)), .val (.ref b176), .val (.ref b177), .val (.ref b178), .val (.ref b256), .unset, .unset, .unset, .unset, .unset] [(.int (1 : Int32)), (.ref b256)]))
    refine go (fun _ => XS.aload X257.here hx rfl (hb hby at_77) rfl rfl) ?_
    show Go _ p e below s _ _ _ (T257.setTop (mkF m 79 #[.val (.int p1), .val (.int p2), .val (.int p3), .val (.int p4), .val (.int p5), .val (.int (2 : Int32)), .val (.int (2 : Int32)), .val (.ref b176), .val (.ref b177), .val (.ref b178), .val (.ref b256), .unset, .unset, .unset, .unset, .unset] [(.ref b177), (.int (1 : Int32)), (.ref b256)]))
    obtain ⟨cl258, Ar258, q258, Sz258, Nz258, Hs258, Gs258⟩ := id VV257
    have hin258 : ¬ ((1 : Int32) < 0 ∨ cl258.slots.size ≤ ((1 : Int32)).toNatClampNeg) := inb_of Sz258 ⟨by decide, by decide⟩
    obtain ⟨T258, h258, X258, e258, W258, st258⟩ := stR X257 hx hZ e257 Ar258 (j := (1 : Int32)) hin258 rfl (Sto.ofV Ar258 q258 O256 (Ins.self c257_2)) (g := (mkF m 79 #[.val (.int p1), .val (.int p2), .val (.int p3), .val (.int p4), .val (.int p5), .val (.int (2 : Int32)), .val (.int (2 : Int32)), .val (.ref b176), .val (.ref b177), .val (.ref b178), .val (.ref b256), .unset, .unset, .unset, .unset, .unset] [(.ref b177), (.int (1 : Int32)), (.ref b256)])) rfl rfl (hb hby at_79)
    have V258 := Arv.set Ar258 q258 Sz258 Nz258 Hs258 Gs258 rfl W258 1 rfl (Nat.le_of_ble_eq_true rfl)
    have VV258 : Arv Z h258 b256 k256 (.object "java/lang/String") (2 : Int32) [(.ref b176), (.ref b177)] .null := V258
    have c258_1 := c257_1.wr W258
    have c258_2 := c257_2.wr W258
    have c258_3 := c257_3.wr W258
    have c258_4 := c257_4.wr W258
    have KK258 : Keep h0 h258 [] := KK257.wr W258 (Or.inr SZ_b256)
    have ZN258 : n0 ≤ h258.size := Nat.le_trans ZN257 (Keep.of_wr W258).1
    have NN258 := Fr.snoc X258 NN257 G_b256
    have OL258 := OL257.wr W258 G_b256
    refine go st258 ?_
    show Go _ p e below s _ _ _ (T258.setTop (mkF m 80 #[.val (.int p1), .val (.int p2), .val (.int p3), .val (.int p4), .val (.int p5), .val (.int (2 : Int32)), .val (.int (2 : Int32)), .val (.ref b176), .val (.ref b177), .val (.ref b178), .val (.ref b256), .unset, .unset, .unset, .unset, .unset] []))
    refine go (fun _ => XS.iload X258.here hx rfl (hb hby at_80) rfl) ?_
    show Go _ p e below s _ _ _ (T258.setTop (mkF m 82 #[.val (.int p1), .val (.int p2), .val (.int p3), .val (.int p4), .val (.int p5), .val (.int (2 : Int32)), .val (.int (2 : Int32)), .val (.ref b176), .val (.ref b177), .val (.ref b178), .val (.ref b256), .unset, .unset, .unset, .unset, .unset] [(.int (2 : Int32))]))
    refine go (fun _ => XS.iconst X258.here hx rfl (hb hby at_82)) ?_
    show Go _ p e below s _ _ _ (T258.setTop (mkF m 83 #[.val (.int p1), .val (.int p2), .val (.int p3), .val (.int p4), .val (.int p5), .val (.int (2 : Int32)), .val (.int (2 : Int32)), .val (.ref b176), .val (.ref b177), .val (.ref b178), .val (.ref b256), .unset, .unset, .unset, .unset, .unset] [(.int (3 : Int32)), (.int (2 : Int32))]))
    refine go (fun _ => XS.icmpYes X258.here hx rfl (pc0 := 83) (pc' := 92) rfl (hb hby at_83) rfl (tlt (by decide : ((2 : Int32) < (3 : Int32)))).1 (by decide) (by decide)) ?_
    show Go _ p e below s _ _ _ (T258.setTop (mkF m 92 #[.val (.int p1), .val (.int p2), .val (.int p3), .val (.int p4), .val (.int p5), .val (.int (2 : Int32)), .val (.int (2 : Int32)), .val (.ref b176), .val (.ref b177), .val (.ref b178), .val (.ref b256), .unset, .unset, .unset, .unset, .unset] []))
    obtain ⟨T259, h259, X259, e259, E259, A259, D259, -, st259⟩ := newO X258 hx hZ hown (hw _ (List.mem_of_getElem? (i := 32) rfl)) (hw _ (List.mem_of_getElem? (i := 33) rfl)) (hw _ (List.mem_of_getElem? (i := 34) rfl)) e258 (g := (mkF m 92 #[.val (.int p1), .val (.int p2), .val (.int p3), .val (.int p4), .val (.int p5), .val (.int (2 : Int32)), .val (.int (2 : Int32)), .val (.ref b176), .val (.ref b177), .val (.ref b178), .val (.ref b256), .unset, .unset, .unset, .unset, .unset] [])) rfl (hb hby at_92) (by decide) (by decide)
    obtain ⟨b259, g259⟩ : ∃ z, z = h258.size := ⟨_, rfl⟩
    rw [← g259] at A259 D259 st259
    have lt259_b176_b259 : b176 < b259 := Nat.lt_of_lt_of_le c258_1.lt (Nat.le_of_eq g259.symm)
    have lt259_b177_b259 : b177 < b259 := Nat.lt_of_lt_of_le c258_2.lt (Nat.le_of_eq g259.symm)
    have lt259_b178_b259 : b178 < b259 := Nat.lt_of_lt_of_le c258_3.lt (Nat.le_of_eq g259.symm)
    have lt259_b256_b259 : b256 < b259 := Nat.lt_of_lt_of_le c258_4.lt (Nat.le_of_eq g259.symm)
    have G_b259 : n0 ≤ b259 := Nat.le_trans ZN258 (Nat.le_of_eq g259.symm)
    have SZ_b259 : h0.size ≤ b259 := Nat.le_trans KK258.1 (Nat.le_of_eq g259.symm)
    have c259_1 := c258_1.ext E259
    have c259_2 := c258_2.ext E259
    have c259_3 := c258_3.ext E259
    have c259_4 := c258_4.ext E259
    have c259_5 := VV258.ext E259
    have KK259 : Keep h0 h259 [] := KK258.ext E259
    have ZN259 : n0 ≤ h259.size := Nat.le_trans ZN258 E259.1
    have OL259 := OL258.ext E259
    have F259_49 : Fld Z h259 b259 "com/example/sunder/sunder/cli/Arguments" "args" "[Ljava/lang/String;" .null := D259 (Or.inr (hw _ (List.mem_of_getElem? (i := 49) rfl))) (ty := (.array (.object "java/lang/String"))) (by decide)
    have F259_56 : Fld Z h259 b259 "com/example/sunder/sunder/cli/Arguments" "next" "I" (.int (0 : Int32)) := D259 (Or.inl (hw _ (List.mem_of_getElem? (i := 56) rfl))) (ty := .int) (by decide)
    refine go st259 ?_
    show Go _ p e below s _ _ _ (T259.setTop (mkF m 95 #[.val (.int p1), .val (.int p2), .val (.int p3), .val (.int p4), .val (.int p5), .val (.int (2 : Int32)), .val (.int (2 : Int32)), .val (.ref b176), .val (.ref b177), .val (.ref b178), .val (.ref b256), .unset, .unset, .unset, .unset, .unset] [(.ref b259)]))
    refine go (fun _ => XS.dup X259.here hx rfl (hb hby at_95) rfl rfl) ?_
    show Go _ p e below s _ _ _ (T259.setTop (mkF m 96 #[.val (.int p1), .val (.int p2), .val (.int p3), .val (.int p4), .val (.int p5), .val (.int (2 : Int32)), .val (.int (2 : Int32)), .val (.ref b176), .val (.ref b177), .val (.ref b178), .val (.ref b256), .unset, .unset, .unset, .unset, .unset] [(.ref b259), (.ref b259)]))
    refine go (fun _ => XS.aload X259.here hx rfl (hb hby at_96) rfl rfl) ?_
    show Go _ p e below s _ _ _ (T259.setTop (mkF m 98 #[.val (.int p1), .val (.int p2), .val (.int p3), .val (.int p4), .val (.int p5), .val (.int (2 : Int32)), .val (.int (2 : Int32)), .val (.ref b176), .val (.ref b177), .val (.ref b178), .val (.ref b256), .unset, .unset, .unset, .unset, .unset] [(.ref b256), (.ref b259), (.ref b259)]))
    obtain ⟨_, _, ⟨T260, L260, k260, n260⟩, -, X260, ⟨Lc260, hQ260, l260, y260, z260⟩, st260⟩ := X259.specialBack hx (y := (⟨"com/example/sunder/sunder/cli/Arguments", "<init>", "([Ljava/lang/String;)V"⟩ : MethodName)) rfl hown (mvT hZ (hw _ (List.mem_of_getElem? (i := 35) rfl))) (mvT hZ (hw _ (List.mem_of_getElem? (i := 36) rfl))) (mvT hZ (hw _ (List.mem_of_getElem? (i := 37) rfl))) (by decide) (backOf (W := 1) (rmI2 l Z a0 hw [] b259 b256 k256 b176 b177 .null h259 n0 ZN259 A259 F259_49 F259_56 G_b259 c259_4 c259_5 (Ne.symm (Nat.ne_of_lt lt259_b256_b259))) hZ (hw _ (List.mem_of_getElem? (i := 37) rfl)) (hw _ (List.mem_of_getElem? (i := 34) rfl)) (by decide) (by decide)) (g := (mkF m 98 #[.val (.int p1), .val (.int p2), .val (.int p3), .val (.int p4), .val (.int p5), .val (.int (2 : Int32)), .val (.int (2 : Int32)), .val (.ref b176), .val (.ref b177), .val (.ref b178), .val (.ref b256), .unset, .unset, .unset, .unset, .unset] [(.ref b256), (.ref b259), (.ref b259)])) rfl (by rw [hml]; rfl) (Steps.refl _) (a := b259) (argsL := [(.ref b256)]) (rest := [(.ref b259)]) (lenOf pd_0_2 rfl) rfl (by show 2 * 0 + _ ≤ _; exact Nat.le_of_eq rfl) (hb hby at_98) (fun _ _ => ⟨rfl, e259, (by decide : 8 + 1 ≤ _), (by decide : 19 + 2 ≤ _)⟩)
    dsimp only [Pt.U, Pt.locs, Pt.cells, Pt.slots] at X260 l260 y260 z260 st260 hQ260
    subst l260 y260 z260
    obtain ⟨b260, rfl, N260q, u260_0, u260_1, K260, u260_3, u260_4, u260_5, u260_6⟩ := hQ260
    have N260 := Fr.app NN258 N260q
    have lt260_b176_b260 : b176 < b260 := Nat.lt_of_lt_of_le c259_1.lt u260_0
    have lt260_b177_b260 : b177 < b260 := Nat.lt_of_lt_of_le c259_2.lt u260_0
    have lt260_b178_b260 : b178 < b260 := Nat.lt_of_lt_of_le c259_3.lt u260_0
    have lt260_b256_b260 : b256 < b260 := Nat.lt_of_lt_of_le c259_4.lt u260_0
    have lt260_b259_b260 : b259 < b260 := Nat.lt_of_lt_of_le A259.lt u260_0
    have G_b260 : n0 ≤ b260 := Nat.le_trans ZN259 u260_0
    have SZ_b260 : h0.size ≤ b260 := Nat.le_trans KK259.1 u260_0
    have c260_1 := c259_1.keep K260
    have c260_2 := c259_2.keep K260
    have c260_3 := c259_3.keep K260
    have c260_4 := c259_4.keep K260
    have c260_5 := c259_5.keep K260 (ninS (Nat.ne_of_lt lt259_b256_b259) nin0)
    have c260_6 := A259.keep K260
    have KK260 : Keep h0 T260.heap [] := KK259.trans K260 (allS (P := fun x => x ∈ [] ∨ h0.size ≤ x) (Or.inr SZ_b259) all0)
    have ZN260 : n0 ≤ T260.heap.size := Nat.le_trans ZN259 K260.1
    have OL260 := OL259.keep K260 (allS G_b259 all0)
    refine goT st260 ?_
    show Go _ p e below s _ _ _ (T260.setTop (mkF m 101 #[.val (.int p1), .val (.int p2), .val (.int p3), .val (.int p4), .val (.int p5), .val (.int (2 : Int32)), .val (.int (2 : Int32)), .val (.ref b176), .val (.ref b177), .val (.ref b178), .val (.ref b256), .unset, .unset, .unset, .unset, .unset] [(.ref b259)]))
    refine go (fun _ => XS.astore X260.here hx rfl (hb hby at_101) rfl rfl (l' := #[.val (.int p1), .val (.int p2), .val (.int p3), .val (.int p4), .val (.int p5), .val (.int (2 : Int32)), .val (.int (2 : Int32)), .val (.ref b176), .val (.ref b177), .val (.ref b178), .val (.ref b256), .val (.ref b259), .unset, .unset, .unset, .unset]) rfl) ?_
    show Go _ p e below s _ _ _ (T260.setTop (mkF m 103 #[.val (.int p1), .val (.int p2), .val (.int p3), .val (.int p4), .val (.int p5), .val (.int (2 : Int32)), .val (.int (2 : Int32)), .val (.ref b176), .val (.ref b177), .val (.ref b178), .val (.ref b256), .val (.ref b259), .unset, .unset, .unset, .unset] []))
    refine go (fun _ => XS.iload X260.here hx rfl (hb hby at_103) rfl) ?_
    show Go _ p e below s _ _ _ (T260.setTop (mkF m 105 #[.val (.int p1), .val (.int p2), .val (.int p3), .val (.int p4), .val (.int p5), .val (.int (2 : Int32)), .val (.int (2 : Int32)), .val (.ref b176), .val (.ref b177), .val (.ref b178), .val (.ref b256), .val (.ref b259), .unset, .unset, .unset, .unset] [(.int (2 : Int32))]))
    refine go (fun _ => XS.iconst X260.here hx rfl (hb hby at_105)) ?_
    show Go _ p e below s _ _ _ (T260.setTop (mkF m 106 #[.val (.int p1), .val (.int p2), .val (.int p3), .val (.int p4), .val (.int p5), .val (.int (2 : Int32)), .val (.int (2 : Int32)), .val (.ref b176), .val (.ref b177), .val (.ref b178), .val (.ref b256), .val (.ref b259), .unset, .unset, .unset, .unset] [(.int (1 : Int32)), (.int (2 : Int32))]))
    refine go (fun _ => XS.icmpNo X260.here hx rfl (hb hby at_106) rfl (flt (by decide : ¬ ((2 : Int32) < (1 : Int32)))).1) ?_
    show Go _ p e below s _ _ _ (T260.setTop (mkF m 109 #[.val (.int p1), .val (.int p2), .val (.int p3), .val (.int p4), .val (.int p5), .val (.int (2 : Int32)), .val (.int (2 : Int32)), .val (.ref b176), .val (.ref b177), .val (.ref b178), .val (.ref b256), .val (.ref b259), .unset, .unset, .unset, .unset] []))
    refine go (fun _ => XS.aload X260.here hx rfl (hb hby at_109) rfl rfl) ?_
    show Go _ p e below s _ _ _ (T260.setTop (mkF m 111 #[.val (.int p1), .val (.int p2), .val (.int p3), .val (.int p4), .val (.int p5), .val (.int (2 : Int32)), .val (.int (2 : Int32)), .val (.ref b176), .val (.ref b177), .val (.ref b178), .val (.ref b256), .val (.ref b259), .unset, .unset, .unset, .unset] [(.ref b259)]))
    obtain ⟨cq261, kq261, q261a, q261b, q261c⟩ := isOf hZ rfl c260_6
    obtain ⟨_, _, ⟨T261, L261, k261, n261⟩, -, X261, ⟨Lc261, hQ261, l261, y261, z261⟩, st261⟩ := X260.virtualBack hx (y := (⟨"com/example/sunder/sunder/cli/Arguments", "next", "()Ljava/lang/String;"⟩ : MethodName)) (z := (⟨"com/example/sunder/sunder/cli/Arguments", "next", "()Ljava/lang/String;"⟩ : MethodName)) hown (mvT hZ (hw _ (List.mem_of_getElem? (i := 57) rfl))) (mvT hZ (hw _ (List.mem_of_getElem? (i := 58) rfl))) (notFace_of_selects (args := #[]) (mvT hZ (hw _ (List.mem_of_getElem? (i := 60) rfl)))) (mvT hZ (hw _ (List.mem_of_getElem? (i := 60) rfl))) (mvT hZ (hw _ (List.mem_of_getElem? (i := 59) rfl))) (by decide) (backOf (W := 0) (rmN2_0 l Z a0 hw [] b259 b260 k256 b176 b177 (T260.heap) n0 ZN260 c260_6 u260_3 u260_4 G_b259 u260_6 (Nat.ne_of_lt lt260_b259_b260)) hZ (hw _ (List.mem_of_getElem? (i := 61) rfl)) (hw _ (List.mem_of_getElem? (i := 34) rfl)) (by decide) (by decide)) q261a q261c (g := (mkF m 111 #[.val (.int p1), .val (.int p2), .val (.int p3), .val (.int p4), .val (.int p5), .val (.int (2 : Int32)), .val (.int (2 : Int32)), .val (.ref b176), .val (.ref b177), .val (.ref b178), .val (.ref b256), .val (.ref b259), .unset, .unset, .unset, .unset] [(.ref b259)])) rfl (by rw [hml]; rfl) (Steps.refl _) (argsL := []) (rest := []) (lenOf pd_0_4 rfl) rfl (by show 2 * 0 + _ ≤ _; exact Nat.le_of_eq rfl) (hb hby at_111) (fun _ _ => ⟨rfl, rfl, (by decide : 9 + 0 ≤ _), (by decide : 21 + 0 ≤ _)⟩)
    dsimp only [Pt.U, Pt.locs, Pt.cells, Pt.slots] at X261 l261 y261 z261 st261 hQ261
    subst l261 y261 z261
    obtain ⟨rfl, N261q, K261, u261_1, u261_2⟩ := hQ261
    have N261 := Fr.app N260 N261q
    have c261_1 := c260_1.keep K261
    have c261_2 := c260_2.keep K261
    have c261_3 := c260_3.keep K261
    have c261_4 := c260_4.keep K261
    have c261_5 := c260_5.keep K261 (ninS (Nat.ne_of_lt lt259_b256_b259) nin0)
    have c261_6 := c260_6.keep K261
    have c261_7 := u260_5.keep K261
    have c261_8 := u260_6.keep K261 (ninS (Ne.symm (Nat.ne_of_lt lt260_b259_b260)) nin0)
    have KK261 : Keep h0 T261.heap [] := KK260.trans K261 (allS (P := fun x => x ∈ [] ∨ h0.size ≤ x) (Or.inr SZ_b259) all0)
    have ZN261 : n0 ≤ T261.heap.size := Nat.le_trans ZN260 K261.1
    have OL261 := OL260.keep K261 (allS G_b259 all0)
    refine goT st261 ?_
    show Go _ p e below s _ _ _ (T261.setTop (mkF m 114 #[.val (.int p1), .val (.int p2), .val (.int p3), .val (.int p4), .val (.int p5), .val (.int (2 : Int32)), .val (.int (2 : Int32)), .val (.ref b176), .val (.ref b177), .val (.ref b178), .val (.ref b256), .val (.ref b259), .unset, .unset, .unset, .unset] [(.ref b176)]))
    refine go (fun _ => XS.pop X261.here hx rfl (hb hby at_114) rfl rfl) ?_
    show Go _ p e below s _ _ _ (T261.setTop (mkF m 115 #[.val (.int p1), .val (.int p2), .val (.int p3), .val (.int p4), .val (.int p5), .val (.int (2 : Int32)), .val (.int (2 : Int32)), .val (.ref b176), .val (.ref b177), .val (.ref b178), .val (.ref b256), .val (.ref b259), .unset, .unset, .unset, .unset] []))
    refine go (fun _ => XS.iload X261.here hx rfl (hb hby at_115) rfl) ?_
    show Go _ p e below s _ _ _ (T261.setTop (mkF m 117 #[.val (.int p1), .val (.int p2), .val (.int p3), .val (.int p4), .val (.int p5), .val (.int (2 : Int32)), .val (.int (2 : Int32)), .val (.ref b176), .val (.ref b177), .val (.ref b178), .val (.ref b256), .val (.ref b259), .unset, .unset, .unset, .unset] [(.int (2 : Int32))]))
    refine go (fun _ => XS.iconst X261.here hx rfl (hb hby at_117)) ?_
    show Go _ p e below s _ _ _ (T261.setTop (mkF m 118 #[.val (.int p1), .val (.int p2), .val (.int p3), .val (.int p4), .val (.int p5), .val (.int (2 : Int32)), .val (.int (2 : Int32)), .val (.ref b176), .val (.ref b177), .val (.ref b178), .val (.ref b256), .val (.ref b259), .unset, .unset, .unset, .unset] [(.int (2 : Int32)), (.int (2 : Int32))]))
    refine go (fun _ => XS.icmpNo X261.here hx rfl (hb hby at_118) rfl (flt (by decide : ¬ ((2 : Int32) < (2 : Int32)))).1) ?_
    show Go _ p e below s _ _ _ (T261.setTop (mkF m 121 #[.val (.int p1), .val (.int p2), .val (.int p3), .val (.int p4), .val (.int p5), .val (.int (2 : Int32)), .val (.int (2 : Int32)), .val (.ref b176), .val (.ref b177), .val (.ref b178), .val (.ref b256), .val (.ref b259), .unset, .unset, .unset, .unset] []))
    refine go (fun _ => XS.aload X261.here hx rfl (hb hby at_121) rfl rfl) ?_
    show Go _ p e below s _ _ _ (T261.setTop (mkF m 123 #[.val (.int p1), .val (.int p2), .val (.int p3), .val (.int p4), .val (.int p5), .val (.int (2 : Int32)), .val (.int (2 : Int32)), .val (.ref b176), .val (.ref b177), .val (.ref b178), .val (.ref b256), .val (.ref b259), .unset, .unset, .unset, .unset] [(.ref b259)]))
    obtain ⟨cq262, kq262, q262a, q262b, q262c⟩ := isOf hZ rfl c261_6
    obtain ⟨_, _, ⟨T262, L262, k262, n262⟩, -, X262, ⟨Lc262, hQ262, l262, y262, z262⟩, st262⟩ := X261.virtualBack hx (y := (⟨"com/example/sunder/sunder/cli/Arguments", "next", "()Ljava/lang/String;"⟩ : MethodName)) (z := (⟨"com/example/sunder/sunder/cli/Arguments", "next", "()Ljava/lang/String;"⟩ : MethodName)) hown (mvT hZ (hw _ (List.mem_of_getElem? (i := 57) rfl))) (mvT hZ (hw _ (List.mem_of_getElem? (i := 58) rfl))) (notFace_of_selects (args := #[]) (mvT hZ (hw _ (List.mem_of_getElem? (i := 60) rfl)))) (mvT hZ (hw _ (List.mem_of_getElem? (i := 60) rfl))) (mvT hZ (hw _ (List.mem_of_getElem? (i := 59) rfl))) (by decide) (backOf (W := 0) (rmN2_1 l Z a0 hw [] b259 b260 k256 b176 b177 (T261.heap) n0 ZN261 c261_6 u261_1 u261_2 G_b259 c261_8 (Nat.ne_of_lt lt260_b259_b260)) hZ (hw _ (List.mem_of_getElem? (i := 61) rfl)) (hw _ (List.mem_of_getElem? (i := 34) rfl)) (by decide) (by decide)) q262a q262c (g := (mkF m 123 #[.val (.int p1), .val (.int p2), .val (.int p3), .val (.int p4), .val (.int p5), .val (.int (2 : Int32)), .val (.int (2 : Int32)), .val (.ref b176), .val (.ref b177), .val (.ref b178), .val (.ref b256), .val (.ref b259), .unset, .unset, .unset, .unset] [(.ref b259)])) rfl (by rw [hml]; rfl) (Steps.refl _) (argsL := []) (rest := []) (lenOf pd_0_4 rfl) rfl (by show 2 * 0 + _ ≤ _; exact Nat.le_of_eq rfl) (hb hby at_123) (fun _ _ => ⟨rfl, rfl, (by decide : 9 + 0 ≤ _), (by decide : 21 + 0 ≤ _)⟩)
    dsimp only [Pt.U, Pt.locs, Pt.cells, Pt.slots] at X262 l262 y262 z262 st262 hQ262
    subst l262 y262 z262
    obtain ⟨rfl, N262q, K262, u262_1, u262_2⟩ := hQ262
    have N262 := Fr.app N261 N262q
    have c262_1 := c261_1.keep K262
    have c262_2 := c261_2.keep K262
    have c262_3 := c261_3.keep K262
    have c262_4 := c261_4.keep K262
    have c262_5 := c261_5.keep K262 (ninS (Nat.ne_of_lt lt259_b256_b259) nin0)
    have c262_6 := c261_6.keep K262
    have c262_7 := c261_7.keep K262
    have c262_8 := c261_8.keep K262 (ninS (Ne.symm (Nat.ne_of_lt lt260_b259_b260)) nin0)
    have KK262 : Keep h0 T262.heap [] := KK261.trans K262 (allS (P := fun x => x ∈ [] ∨ h0.size ≤ x) (Or.inr SZ_b259) all0)
    have ZN262 : n0 ≤ T262.heap.size := Nat.le_trans ZN261 K262.1
    have OL262 := OL261.keep K262 (allS G_b259 all0)
    refine goT st262 ?_
    show Go _ p e below s _ _ _ (T262.setTop (mkF m 126 #[.val (.int p1), .val (.int p2), .val (.int p3), .val (.int p4), .val (.int p5), .val (.int (2 : Int32)), .val (.int (2 : Int32)), .val (.ref b176), .val (.ref b177), .val (.ref b178), .val (.ref b256), .val (.ref b259), .unset, .unset, .unset, .unset] [(.ref b177)]))
    refine go (fun _ => XS.pop X262.here hx rfl (hb hby at_126) rfl rfl) ?_
    show Go _ p e below s _ _ _ (T262.setTop (mkF m 127 #[.val (.int p1), .val (.int p2), .val (.int p3), .val (.int p4), .val (.int p5), .val (.int (2 : Int32)), .val (.int (2 : Int32)), .val (.ref b176), .val (.ref b177), .val (.ref b178), .val (.ref b256), .val (.ref b259), .unset, .unset, .unset, .unset] []))
    refine go (fun _ => XS.iload X262.here hx rfl (hb hby at_127) rfl) ?_
    show Go _ p e below s _ _ _ (T262.setTop (mkF m 129 #[.val (.int p1), .val (.int p2), .val (.int p3), .val (.int p4), .val (.int p5), .val (.int (2 : Int32)), .val (.int (2 : Int32)), .val (.ref b176), .val (.ref b177), .val (.ref b178), .val (.ref b256), .val (.ref b259), .unset, .unset, .unset, .unset] [(.int (2 : Int32))]))
    refine go (fun _ => XS.iconst X262.here hx rfl (hb hby at_129)) ?_
    show Go _ p e below s _ _ _ (T262.setTop (mkF m 130 #[.val (.int p1), .val (.int p2), .val (.int p3), .val (.int p4), .val (.int p5), .val (.int (2 : Int32)), .val (.int (2 : Int32)), .val (.ref b176), .val (.ref b177), .val (.ref b178), .val (.ref b256), .val (.ref b259), .unset, .unset, .unset, .unset] [(.int (3 : Int32)), (.int (2 : Int32))]))
    refine go (fun _ => XS.icmpYes X262.here hx rfl (pc0 := 130) (pc' := 139) rfl (hb hby at_130) rfl (tlt (by decide : ((2 : Int32) < (3 : Int32)))).1 (by decide) (by decide)) ?_
    show Go _ p e below s _ _ _ (T262.setTop (mkF m 139 #[.val (.int p1), .val (.int p2), .val (.int p3), .val (.int p4), .val (.int p5), .val (.int (2 : Int32)), .val (.int (2 : Int32)), .val (.ref b176), .val (.ref b177), .val (.ref b178), .val (.ref b256), .val (.ref b259), .unset, .unset, .unset, .unset] []))
    refine go (fun _ => XS.aload X262.here hx rfl (hb hby at_139) rfl rfl) ?_
    show Go _ p e below s _ _ _ (T262.setTop (mkF m 141 #[.val (.int p1), .val (.int p2), .val (.int p3), .val (.int p4), .val (.int p5), .val (.int (2 : Int32)), .val (.int (2 : Int32)), .val (.ref b176), .val (.ref b177), .val (.ref b178), .val (.ref b256), .val (.ref b259), .unset, .unset, .unset, .unset] [(.ref b259)]))
    obtain ⟨cq263, kq263, q263a, q263b, q263c⟩ := isOf hZ rfl c262_6
    obtain ⟨_, _, ⟨T263, L263, k263, n263⟩, -, X263, ⟨Lc263, hQ263, l263, y263, z263⟩, st263⟩ := X262.virtualBack hx (y := (⟨"com/example/sunder/sunder/cli/Arguments", "hasNext", "()Z"⟩ : MethodName)) (z := (⟨"com/example/sunder/sunder/cli/Arguments", "hasNext", "()Z"⟩ : MethodName)) hown (mvT hZ (hw _ (List.mem_of_getElem? (i := 50) rfl))) (mvT hZ (hw _ (List.mem_of_getElem? (i := 51) rfl))) (notFace_of_selects (args := #[]) (mvT hZ (hw _ (List.mem_of_getElem? (i := 53) rfl)))) (mvT hZ (hw _ (List.mem_of_getElem? (i := 53) rfl))) (mvT hZ (hw _ (List.mem_of_getElem? (i := 52) rfl))) (by decide) (backOf (W := 0) (rmH2_2 l Z a0 hw [] b259 b260 k256 b176 b177 (T262.heap) n0 ZN262 u262_1 u262_2 c262_8) hZ (hw _ (List.mem_of_getElem? (i := 54) rfl)) (hw _ (List.mem_of_getElem? (i := 34) rfl)) (by decide) (by decide)) q263a q263c (g := (mkF m 141 #[.val (.int p1), .val (.int p2), .val (.int p3), .val (.int p4), .val (.int p5), .val (.int (2 : Int32)), .val (.int (2 : Int32)), .val (.ref b176), .val (.ref b177), .val (.ref b178), .val (.ref b256), .val (.ref b259), .unset, .unset, .unset, .unset] [(.ref b259)])) rfl (by rw [hml]; rfl) (Steps.refl _) (argsL := []) (rest := []) (lenOf pd_0_3 rfl) rfl (by show 2 * 0 + _ ≤ _; exact Nat.le_of_eq rfl) (hb hby at_141) (fun _ _ => ⟨rfl, rfl, (by decide : 9 + 0 ≤ _), (by decide : 21 + 0 ≤ _)⟩)
    dsimp only [Pt.U, Pt.locs, Pt.cells, Pt.slots] at X263 l263 y263 z263 st263 hQ263
    subst l263 y263 z263
    obtain ⟨rfl, N263q, e263⟩ := hQ263
    have N263 := Fr.app N262 N263q
    refine goT st263 ?_
    show Go _ p e below s _ _ _ (T263.setTop (mkF m 144 #[.val (.int p1), .val (.int p2), .val (.int p3), .val (.int p4), .val (.int p5), .val (.int (2 : Int32)), .val (.int (2 : Int32)), .val (.ref b176), .val (.ref b177), .val (.ref b178), .val (.ref b256), .val (.ref b259), .unset, .unset, .unset, .unset] [(.int (0 : Int32))]))
    refine go (fun _ => XS.istore X263.here hx rfl (hb hby at_144) rfl (l' := #[.val (.int p1), .val (.int p2), .val (.int p3), .val (.int p4), .val (.int p5), .val (.int (2 : Int32)), .val (.int (2 : Int32)), .val (.ref b176), .val (.ref b177), .val (.ref b178), .val (.ref b256), .val (.ref b259), .val (.int (0 : Int32)), .unset, .unset, .unset]) rfl) ?_
    show Go _ p e below s _ _ _ (T263.setTop (mkF m 146 #[.val (.int p1), .val (.int p2), .val (.int p3), .val (.int p4), .val (.int p5), .val (.int (2 : Int32)), .val (.int (2 : Int32)), .val (.ref b176), .val (.ref b177), .val (.ref b178), .val (.ref b256), .val (.ref b259), .val (.int (0 : Int32)), .unset, .unset, .unset] []))
    refine go (fun _ => XS.aload X263.here hx rfl (hb hby at_146) rfl rfl) ?_
    show Go _ p e below s _ _ _ (T263.setTop (mkF m 148 #[.val (.int p1), .val (.int p2), .val (.int p3), .val (.int p4), .val (.int p5), .val (.int (2 : Int32)), .val (.int (2 : Int32)), .val (.ref b176), .val (.ref b177), .val (.ref b178), .val (.ref b256), .val (.ref b259), .val (.int (0 : Int32)), .unset, .unset, .unset] [(.ref b259)]))
    obtain ⟨cq264, kq264, q264a, q264b, q264c⟩ := isOf hZ e263 c262_6
    obtain ⟨_, _, ⟨T264, L264, k264, n264⟩, -, X264, ⟨Lc264, hQ264, l264, y264, z264⟩, st264⟩ := X263.virtualBack hx (y := (⟨"com/example/sunder/sunder/cli/Arguments", "hasNext", "()Z"⟩ : MethodName)) (z := (⟨"com/example/sunder/sunder/cli/Arguments", "hasNext", "()Z"⟩ : MethodName)) hown (mvT hZ (hw _ (List.mem_of_getElem? (i := 50) rfl))) (mvT hZ (hw _ (List.mem_of_getElem? (i := 51) rfl))) (notFace_of_selects (args := #[]) (mvT hZ (hw _ (List.mem_of_getElem? (i := 53) rfl)))) (mvT hZ (hw _ (List.mem_of_getElem? (i := 53) rfl))) (mvT hZ (hw _ (List.mem_of_getElem? (i := 52) rfl))) (by decide) (backOf (W := 0) (rmH2_2 l Z a0 hw [] b259 b260 k256 b176 b177 (T262.heap) n0 ZN262 u262_1 u262_2 c262_8) hZ (hw _ (List.mem_of_getElem? (i := 54) rfl)) (hw _ (List.mem_of_getElem? (i := 34) rfl)) (by decide) (by decide)) q264a q264c (g := (mkF m 148 #[.val (.int p1), .val (.int p2), .val (.int p3), .val (.int p4), .val (.int p5), .val (.int (2 : Int32)), .val (.int (2 : Int32)), .val (.ref b176), .val (.ref b177), .val (.ref b178), .val (.ref b256), .val (.ref b259), .val (.int (0 : Int32)), .unset, .unset, .unset] [(.ref b259)])) rfl (by rw [hml]; rfl) (Steps.refl _) (argsL := []) (rest := []) (lenOf pd_0_3 rfl) rfl (by show 2 * 0 + _ ≤ _; exact Nat.le_of_eq rfl) (hb hby at_148) (fun _ _ => ⟨rfl, e263, (by decide : 9 + 0 ≤ _), (by decide : 21 + 0 ≤ _)⟩)
    dsimp only [Pt.U, Pt.locs, Pt.cells, Pt.slots] at X264 l264 y264 z264 st264 hQ264
    subst l264 y264 z264
    obtain ⟨rfl, N264q, e264⟩ := hQ264
    have N264 := Fr.app N263 N264q
    refine goT st264 ?_
    show Go _ p e below s _ _ _ (T264.setTop (mkF m 151 #[.val (.int p1), .val (.int p2), .val (.int p3), .val (.int p4), .val (.int p5), .val (.int (2 : Int32)), .val (.int (2 : Int32)), .val (.ref b176), .val (.ref b177), .val (.ref b178), .val (.ref b256), .val (.ref b259), .val (.int (0 : Int32)), .unset, .unset, .unset] [(.int (0 : Int32))]))
    refine go (fun _ => XS.istore X264.here hx rfl (hb hby at_151) rfl (l' := #[.val (.int p1), .val (.int p2), .val (.int p3), .val (.int p4), .val (.int p5), .val (.int (2 : Int32)), .val (.int (2 : Int32)), .val (.ref b176), .val (.ref b177), .val (.ref b178), .val (.ref b256), .val (.ref b259), .val (.int (0 : Int32)), .val (.int (0 : Int32)), .unset, .unset]) rfl) ?_
    show Go _ p e below s _ _ _ (T264.setTop (mkF m 153 #[.val (.int p1), .val (.int p2), .val (.int p3), .val (.int p4), .val (.int p5), .val (.int (2 : Int32)), .val (.int (2 : Int32)), .val (.ref b176), .val (.ref b177), .val (.ref b178), .val (.ref b256), .val (.ref b259), .val (.int (0 : Int32)), .val (.int (0 : Int32)), .unset, .unset] []))
    refine go (fun _ => XS.iload X264.here hx rfl (hb hby at_153) rfl) ?_
    show Go _ p e below s _ _ _ (T264.setTop (mkF m 155 #[.val (.int p1), .val (.int p2), .val (.int p3), .val (.int p4), .val (.int p5), .val (.int (2 : Int32)), .val (.int (2 : Int32)), .val (.ref b176), .val (.ref b177), .val (.ref b178), .val (.ref b256), .val (.ref b259), .val (.int (0 : Int32)), .val (.int (0 : Int32)), .unset, .unset] [(.int (0 : Int32))]))
    refine go (fun _ => XS.iload X264.here hx rfl (hb hby at_155) rfl) ?_
    show Go _ p e below s _ _ _ (T264.setTop (mkF m 157 #[.val (.int p1), .val (.int p2), .val (.int p3), .val (.int p4), .val (.int p5), .val (.int (2 : Int32)), .val (.int (2 : Int32)), .val (.ref b176), .val (.ref b177), .val (.ref b178), .val (.ref b256), .val (.ref b259), .val (.int (0 : Int32)), .val (.int (0 : Int32)), .unset, .unset] [(.int (2 : Int32)), (.int (0 : Int32))]))
    refine go (fun _ => XS.iload X264.here hx rfl (hb hby at_157) rfl) ?_
    show Go _ p e below s _ _ _ (T264.setTop (mkF m 159 #[.val (.int p1), .val (.int p2), .val (.int p3), .val (.int p4), .val (.int p5), .val (.int (2 : Int32)), .val (.int (2 : Int32)), .val (.ref b176), .val (.ref b177), .val (.ref b178), .val (.ref b256), .val (.ref b259), .val (.int (0 : Int32)), .val (.int (0 : Int32)), .unset, .unset] [(.int (2 : Int32)), (.int (2 : Int32)), (.int (0 : Int32))]))
    refine go (fun _ => XS.icmpYes X264.here hx rfl (pc0 := 159) (pc' := 166) rfl (hb hby at_159) rfl (flt (by decide : ¬ ((2 : Int32) < (2 : Int32)))).2.1 (by decide) (by decide)) ?_
    show Go _ p e below s _ _ _ (T264.setTop (mkF m 166 #[.val (.int p1), .val (.int p2), .val (.int p3), .val (.int p4), .val (.int p5), .val (.int (2 : Int32)), .val (.int (2 : Int32)), .val (.ref b176), .val (.ref b177), .val (.ref b178), .val (.ref b256), .val (.ref b259), .val (.int (0 : Int32)), .val (.int (0 : Int32)), .unset, .unset] [(.int (0 : Int32))]))
    refine go (fun _ => XS.iconst X264.here hx rfl (hb hby at_166)) ?_
    show Go _ p e below s _ _ _ (T264.setTop (mkF m 167 #[.val (.int p1), .val (.int p2), .val (.int p3), .val (.int p4), .val (.int p5), .val (.int (2 : Int32)), .val (.int (2 : Int32)), .val (.ref b176), .val (.ref b177), .val (.ref b178), .val (.ref b256), .val (.ref b259), .val (.int (0 : Int32)), .val (.int (0 : Int32)), .unset, .unset] [(.int (0 : Int32)), (.int (0 : Int32))]))
    refine go (fun _ => XS.icmpNo X264.here hx rfl (hb hby at_167) rfl (teq (rfl : (0 : Int32) = (0 : Int32))).2) ?_
    show Go _ p e below s _ _ _ (T264.setTop (mkF m 170 #[.val (.int p1), .val (.int p2), .val (.int p3), .val (.int p4), .val (.int p5), .val (.int (2 : Int32)), .val (.int (2 : Int32)), .val (.ref b176), .val (.ref b177), .val (.ref b178), .val (.ref b256), .val (.ref b259), .val (.int (0 : Int32)), .val (.int (0 : Int32)), .unset, .unset] []))
    refine go (fun _ => XS.iload X264.here hx rfl (hb hby at_170) rfl) ?_
    show Go _ p e below s _ _ _ (T264.setTop (mkF m 172 #[.val (.int p1), .val (.int p2), .val (.int p3), .val (.int p4), .val (.int p5), .val (.int (2 : Int32)), .val (.int (2 : Int32)), .val (.ref b176), .val (.ref b177), .val (.ref b178), .val (.ref b256), .val (.ref b259), .val (.int (0 : Int32)), .val (.int (0 : Int32)), .unset, .unset] [(.int (0 : Int32))]))
    refine go (fun _ => XS.iload X264.here hx rfl (hb hby at_172) rfl) ?_
    show Go _ p e below s _ _ _ (T264.setTop (mkF m 174 #[.val (.int p1), .val (.int p2), .val (.int p3), .val (.int p4), .val (.int p5), .val (.int (2 : Int32)), .val (.int (2 : Int32)), .val (.ref b176), .val (.ref b177), .val (.ref b178), .val (.ref b256), .val (.ref b259), .val (.int (0 : Int32)), .val (.int (0 : Int32)), .unset, .unset] [(.int (0 : Int32)), (.int (0 : Int32))]))
    refine go (fun _ => XS.icmpYes X264.here hx rfl (pc0 := 174) (pc' := 179) rfl (hb hby at_174) rfl (teq (rfl : (0 : Int32) = (0 : Int32))).1 (by decide) (by decide)) ?_
    show Go _ p e below s _ _ _ (T264.setTop (mkF m 179 #[.val (.int p1), .val (.int p2), .val (.int p3), .val (.int p4), .val (.int p5), .val (.int (2 : Int32)), .val (.int (2 : Int32)), .val (.ref b176), .val (.ref b177), .val (.ref b178), .val (.ref b256), .val (.ref b259), .val (.int (0 : Int32)), .val (.int (0 : Int32)), .unset, .unset] []))
    refine go (fun _ => XS.iload X264.here hx rfl (hb hby at_179) rfl) ?_
    show Go _ p e below s _ _ _ (T264.setTop (mkF m 181 #[.val (.int p1), .val (.int p2), .val (.int p3), .val (.int p4), .val (.int p5), .val (.int (2 : Int32)), .val (.int (2 : Int32)), .val (.ref b176), .val (.ref b177), .val (.ref b178), .val (.ref b256), .val (.ref b259), .val (.int (0 : Int32)), .val (.int (0 : Int32)), .unset, .unset] [(.int (0 : Int32))]))
    refine go (fun _ => XS.ifNo X264.here hx rfl (hb hby at_181) rfl ((if0 _ _).trans (teq (rfl : (0 : Int32) = (0 : Int32))).2)) ?_
    show Go _ p e below s _ _ _ (T264.setTop (mkF m 184 #[.val (.int p1), .val (.int p2), .val (.int p3), .val (.int p4), .val (.int p5), .val (.int (2 : Int32)), .val (.int (2 : Int32)), .val (.ref b176), .val (.ref b177), .val (.ref b178), .val (.ref b256), .val (.ref b259), .val (.int (0 : Int32)), .val (.int (0 : Int32)), .unset, .unset] []))
    refine go (fun _ => XS.iconst X264.here hx rfl (hb hby at_184)) ?_
    show Go _ p e below s _ _ _ (T264.setTop (mkF m 185 #[.val (.int p1), .val (.int p2), .val (.int p3), .val (.int p4), .val (.int p5), .val (.int (2 : Int32)), .val (.int (2 : Int32)), .val (.ref b176), .val (.ref b177), .val (.ref b178), .val (.ref b256), .val (.ref b259), .val (.int (0 : Int32)), .val (.int (0 : Int32)), .unset, .unset] [(.int (1 : Int32))]))
    refine goRet X264 hx Bd.notSynchronized Bd.returns rfl (Or.inl ⟨rfl, Or.inr (Or.inl rfl), _, rfl⟩) (hb hby at_185) (by decide) (by decide) (by rw [e264]; refine ⟨rfl, N264⟩)
  · rw [show own_min (0 : Int32) (3 : Int32) = (0 : Int32) from by decide]
    show Go _ p e below s _ _ _ (T178.setTop (mkF m 49 #[.val (.int p1), .val (.int p2), .val (.int p3), .val (.int p4), .val (.int p5), .val (.int (3 : Int32)), .val (.int (0 : Int32)), .val (.ref b176), .val (.ref b177), .val (.ref b178), .unset, .unset, .unset, .unset, .unset, .unset] []))
    refine go (fun _ => XS.iload X178.here hx rfl (hb hby at_49) rfl) ?_
    show Go _ p e below s _ _ _ (T178.setTop (mkF m 51 #[.val (.int p1), .val (.int p2), .val (.int p3), .val (.int p4), .val (.int p5), .val (.int (3 : Int32)), .val (.int (0 : Int32)), .val (.ref b176), .val (.ref b177), .val (.ref b178), .unset, .unset, .unset, .unset, .unset, .unset] [(.int (3 : Int32))]))
    obtain ⟨T265, h265, k265, X265, e265, E265, A265, AE265, O265, st265⟩ := newRE X178 hx hZ hown (hw _ (List.mem_of_getElem? (i := 30) rfl)) (hw _ (List.mem_of_getElem? (i := 31) rfl)) rfl (g := (mkF m 51 #[.val (.int p1), .val (.int p2), .val (.int p3), .val (.int p4), .val (.int p5), .val (.int (3 : Int32)), .val (.int (0 : Int32)), .val (.ref b176), .val (.ref b177), .val (.ref b178), .unset, .unset, .unset, .unset, .unset, .unset] [(.int (3 : Int32))])) rfl (hb hby at_51) rfl (by decide) (cap := 3) (by decide) (by decide) (by decide) (by decide) (ad := "[Ljava/lang/String;") (by first | rfl | decide)
    obtain ⟨b265, g265⟩ : ∃ z, z = T178.heap.size := ⟨_, rfl⟩
    rw [← g265] at A265 AE265 st265
    have lt265_b176_b265 : b176 < b265 := Nat.lt_of_lt_of_le c178_1.lt (Nat.le_of_eq g265.symm)
    have lt265_b177_b265 : b177 < b265 := Nat.lt_of_lt_of_le c178_2.lt (Nat.le_of_eq g265.symm)
    have lt265_b178_b265 : b178 < b265 := Nat.lt_of_lt_of_le u178_3.lt (Nat.le_of_eq g265.symm)
    have G_b265 : n0 ≤ b265 := Nat.le_trans ZN178 (Nat.le_of_eq g265.symm)
    have SZ_b265 : h0.size ≤ b265 := Nat.le_trans KK178.1 (Nat.le_of_eq g265.symm)
    have c265_1 := c178_1.ext E265
    have c265_2 := c178_2.ext E265
    have c265_3 := u178_3.ext E265
    have KK265 : Keep h0 h265 [] := KK178.ext E265
    have ZN265 : n0 ≤ h265.size := Nat.le_trans ZN178 E265.1
    have OL265 := OL178.ext E265
    have V265 : Arv Z h265 b265 k265 (.object "java/lang/String") (3 : Int32) [.null, .null, .null] .null := (Arv.new A265 (by decide)).pad (pad_rep [] .null 3)
    refine go st265 ?_
    show Go _ p e below s _ _ _ (T265.setTop (mkF m 54 #[.val (.int p1), .val (.int p2), .val (.int p3), .val (.int p4), .val (.int p5), .val (.int (3 : Int32)), .val (.int (0 : Int32)), .val (.ref b176), .val (.ref b177), .val (.ref b178), .unset, .unset, .unset, .unset, .unset, .unset] [(.ref b265)]))
    refine go (fun _ => XS.astore X265.here hx rfl (hb hby at_54) rfl rfl (l' := #[.val (.int p1), .val (.int p2), .val (.int p3), .val (.int p4), .val (.int p5), .val (.int (3 : Int32)), .val (.int (0 : Int32)), .val (.ref b176), .val (.ref b177), .val (.ref b178), .val (.ref b265), .unset, .unset, .unset, .unset, .unset]) rfl) ?_
    show Go _ p e below s _ _ _ (T265.setTop (mkF m 56 #[.val (.int p1), .val (.int p2), .val (.int p3), .val (.int p4), .val (.int p5), .val (.int (3 : Int32)), .val (.int (0 : Int32)), .val (.ref b176), .val (.ref b177), .val (.ref b178), .val (.ref b265), .unset, .unset, .unset, .unset, .unset] []))
    refine go (fun _ => XS.iload X265.here hx rfl (hb hby at_56) rfl) ?_
    show Go _ p e below s _ _ _ (T265.setTop (mkF m 58 #[.val (.int p1), .val (.int p2), .val (.int p3), .val (.int p4), .val (.int p5), .val (.int (3 : Int32)), .val (.int (0 : Int32)), .val (.ref b176), .val (.ref b177), .val (.ref b178), .val (.ref b265), .unset, .unset, .unset, .unset, .unset] [(.int (3 : Int32))]))
    refine go (fun _ => XS.iconst X265.here hx rfl (hb hby at_58)) ?_
    show Go _ p e below s _ _ _ (T265.setTop (mkF m 59 #[.val (.int p1), .val (.int p2), .val (.int p3), .val (.int p4), .val (.int p5), .val (.int (3 : Int32)), .val (.int (0 : Int32)), .val (.ref b176), .val (.ref b177), .val (.ref b178), .val (.ref b265), .unset, .unset, .unset, .unset, .unset] [(.int (1 : Int32)), (.int (3 : Int32))]))
    refine go (fun _ => XS.icmpNo X265.here hx rfl (hb hby at_59) rfl (flt (by decide : ¬ ((3 : Int32) < (1 : Int32)))).1) ?_
    show Go _ p e below s _ _ _ (T265.setTop (mkF m 62 #[.val (.int p1), .val (.int p2), .val (.int p3), .val (.int p4), .val (.int p5), .val (.int (3 : Int32)), .val (.int (0 : Int32)), .val (.ref b176), .val (.ref b177), .val (.ref b178), .val (.ref b265), .unset, .unset, .unset, .unset, .unset] []))
    refine go (fun _ => XS.aload X265.here hx rfl (hb hby at_62) rfl rfl) ?_
    show Go _ p e below s _ _ _ (T265.setTop (mkF m 64 #[.val (.int p1), .val (.int p2), .val (.int p3), .val (.int p4), .val (.int p5), .val (.int (3 : Int32)), .val (.int (0 : Int32)), .val (.ref b176), .val (.ref b177), .val (.ref b178), .val (.ref b265), .unset, .unset, .unset, .unset, .unset] [(.ref b265)]))
    refine go (fun _ => XS.iconst X265.here hx rfl (hb hby at_64)) ?_
    show Go _ p e below s _ _ _ (T265.setTop (mkF m 65 #[.val (.int p1), .val (.int p2), .val (.int p3), .val (.int p4), .val (.int p5), .val (.int (3 : Int32)), .val (.int (0 : Int32)), .val (.ref b176), .val (.ref b177), .val (.ref b178), .val (.ref b265), .unset, .unset, .unset, .unset, .unset] [(.int (0 : Int32)), (.ref b265)]))
    refine go (fun _ => XS.aload X265.here hx rfl (hb hby at_65) rfl rfl) ?_
    show Go _ p e below s _ _ _ (T265.setTop (mkF m 67 #[.val (.int p1), .val (.int p2), .val (.int p3), .val (.int p4), .val (.int p5), .val (.int (3 : Int32)), .val (.int (0 : Int32)), .val (.ref b176), .val (.ref b177), .val (.ref b178), .val (.ref b265), .unset, .unset, .unset, .unset, .unset] [(.ref b176), (.int (0 : Int32)), (.ref b265)]))
    obtain ⟨cl266, Ar266, q266, Sz266, Nz266, Hs266, Gs266⟩ := id V265
    have hin266 : ¬ ((0 : Int32) < 0 ∨ cl266.slots.size ≤ ((0 : Int32)).toNatClampNeg) := inb_of Sz266 ⟨by decide, by decide⟩
    obtain ⟨T266, h266, X266, e266, W266, st266⟩ := stR X265 hx hZ e265 Ar266 (j := (0 : Int32)) hin266 rfl (Sto.ofV Ar266 q266 O265 (Ins.self c265_1)) (g := (mkF m 67 #[.val (.int p1), .val (.int p2), .val (.int p3), .val (.int p4), .val (.int p5), .val (.int (3 : Int32)), .val (.int (0 : Int32)), .val (.ref b176), .val (.ref b177), .val (.ref b178), .val (.ref b265), .unset, .unset, .unset, .unset, .unset] [(.ref b176), (.int (0 : Int32)), (.ref b265)])) rfl rfl (hb hby at_67)
    have V266 := Arv.set Ar266 q266 Sz266 Nz266 Hs266 Gs266 rfl W266 0 rfl (Nat.le_of_ble_eq_true rfl)
    have VV266 : Arv Z h266 b265 k265 (.object "java/lang/String") (3 : Int32) [(.ref b176), .null, .null] .null := V266
    have c266_1 := c265_1.wr W266
    have c266_2 := c265_2.wr W266
    have c266_3 := c265_3.wr W266
    have c266_4 := AE265.wr W266
    have KK266 : Keep h0 h266 [] := KK265.wr W266 (Or.inr SZ_b265)
    have ZN266 : n0 ≤ h266.size := Nat.le_trans ZN265 (Keep.of_wr W266).1
    have NN266 := Fr.snoc X266 N178 G_b265
    have OL266 := OL265.wr W266 G_b265
    refine go st266 ?_
    show Go _ p e below s _ _ _ (T266.setTop (mkF m 68 #[.val (.int p1), .val (.int p2), .val (.int p3), .val (.int p4), .val (.int p5), .val (.int (3 : Int32)), .val (.int (0 : Int32)), .val (.ref b176), .val (.ref b177), .val (.ref b178), .val (.ref b265), .unset, .unset, .unset, .unset, .unset] []))
    refine go (fun _ => XS.iload X266.here hx rfl (hb hby at_68) rfl) ?_
    show Go _ p e below s _ _ _ (T266.setTop (mkF m 70 #[.val (.int p1), .val (.int p2), .val (.int p3), .val (.int p4), .val (.int p5), .val (.int (3 : Int32)), .val (.int (0 : Int32)), .val (.ref b176), .val (.ref b177), .val (.ref b178), .val (.ref b265), .unset, .unset, .unset, .unset, .unset] [(.int (3 : Int32))]))
    refine go (fun _ => XS.iconst X266.here hx rfl (hb hby at_70)) ?_
    show Go _ p e below s _ _ _ (T266.setTop (mkF m 71 #[.val (.int p1), .val (.int p2), .val (.int p3), .val (.int p4), .val (.int p5), .val (.int (3 : Int32)), .val (.int (0 : Int32)), .val (.ref b176), .val (.ref b177), .val (.ref b178), .val (.ref b265), .unset, .unset, .unset, .unset, .unset] [(.int (2 : Int32)), (.int (3 : Int32))]))
    refine go (fun _ => XS.icmpNo X266.here hx rfl (hb hby at_71) rfl (flt (by decide : ¬ ((3 : Int32) < (2 : Int32)))).1) ?_
    show Go _ p e below s _ _ _ (T266.setTop (mkF m 74 #[.val (.int p1), .val (.int p2), .val (.int p3), .val (.int p4), .val (.int p5), .val (.int (3 : Int32)), .val (.int (0 : Int32)), .val (.ref b176), .val (.ref b177), .val (.ref b178), .val (.ref b265), .unset, .unset, .unset, .unset, .unset] []))
    refine go (fun _ => XS.aload X266.here hx rfl (hb hby at_74) rfl rfl) ?_
    show Go _ p e below s _ _ _ (T266.setTop (mkF m 76 #[.val (.int p1), .val (.int p2), .val (.int p3), .val (.int p4), .val (.int p5), .val (.int (3 : Int32)), .val (.int (0 : Int32)), .val (.ref b176), .val (.ref b177), .val (.ref b178), .val (.ref b265), .unset, .unset, .unset, .unset, .unset] [(.ref b265)]))
    refine go (fun _ => XS.iconst X266.here hx rfl (hb hby at_76)) ?_
    show Go _ p e below s _ _ _ (T266.setTop (mkF m 77 #[.val (.int p1), .val (.int p2), .val (.int p3), .val (.int p4), .val (.int p5), .val (.int (3 : Int32)), .val (.int (0 : Int32)), .val (.ref b176), .val (.ref b177), .val (.ref b178), .val (.ref b265), .unset, .unset, .unset, .unset, .unset] [(.int (1 : Int32)), (.ref b265)]))
    refine go (fun _ => XS.aload X266.here hx rfl (hb hby at_77) rfl rfl) ?_
    show Go _ p e below s _ _ _ (T266.setTop (mkF m 79 #[.val (.int p1), .val (.int p2), .val (.int p3), .val (.int p4), .val (.int p5), .val (.int (3 : Int32)), .val (.int (0 : Int32)), .val (.ref b176), .val (.ref b177), .val (.ref b178), .val (.ref b265), .unset, .unset, .unset, .unset, .unset] [(.ref b177), (.int (1 : Int32)), (.ref b265)]))
    obtain ⟨cl267, Ar267, q267, Sz267, Nz267, Hs267, Gs267⟩ := id VV266
    have hin267 : ¬ ((1 : Int32) < 0 ∨ cl267.slots.size ≤ ((1 : Int32)).toNatClampNeg) := inb_of Sz267 ⟨by decide, by decide⟩
    obtain ⟨T267, h267, X267, e267, W267, st267⟩ := stR X266 hx hZ e266 Ar267 (j := (1 : Int32)) hin267 rfl (Sto.ofV Ar267 q267 O265 (Ins.self c266_2)) (g := (mkF m 79 #[.val (.int p1), .val (.int p2), .val (.int p3), .val (.int p4), .val (.int p5), .val (.int (3 : Int32)), .val (.int (0 : Int32)), .val (.ref b176), .val (.ref b177), .val (.ref b178), .val (.ref b265), .unset, .unset, .unset, .unset, .unset] [(.ref b177), (.int (1 : Int32)), (.ref b265)])) rfl rfl (hb hby at_79)
    have V267 := Arv.set Ar267 q267 Sz267 Nz267 Hs267 Gs267 rfl W267 1 rfl (Nat.le_of_ble_eq_true rfl)
    have VV267 : Arv Z h267 b265 k265 (.object "java/lang/String") (3 : Int32) [(.ref b176), (.ref b177), .null] .null := V267
    have c267_1 := c266_1.wr W267
    have c267_2 := c266_2.wr W267
    have c267_3 := c266_3.wr W267
    have c267_4 := c266_4.wr W267
    have KK267 : Keep h0 h267 [] := KK266.wr W267 (Or.inr SZ_b265)
    have ZN267 : n0 ≤ h267.size := Nat.le_trans ZN266 (Keep.of_wr W267).1
    have NN267 := Fr.snoc X267 NN266 G_b265
    have OL267 := OL266.wr W267 G_b265
    refine go st267 ?_
    show Go _ p e below s _ _ _ (T267.setTop (mkF m 80 #[.val (.int p1), .val (.int p2), .val (.int p3), .val (.int p4), .val (.int p5), .val (.int (3 : Int32)), .val (.int (0 : Int32)), .val (.ref b176), .val (.ref b177), .val (.ref b178), .val (.ref b265), .unset, .unset, .unset, .unset, .unset] []))
    refine go (fun _ => XS.iload X267.here hx rfl (hb hby at_80) rfl) ?_
    show Go _ p e below s _ _ _ (T267.setTop (mkF m 82 #[.val (.int p1), .val (.int p2), .val (.int p3), .val (.int p4), .val (.int p5), .val (.int (3 : Int32)), .val (.int (0 : Int32)), .val (.ref b176), .val (.ref b177), .val (.ref b178), .val (.ref b265), .unset, .unset, .unset, .unset, .unset] [(.int (3 : Int32))]))
    refine go (fun _ => XS.iconst X267.here hx rfl (hb hby at_82)) ?_
    show Go _ p e below s _ _ _ (T267.setTop (mkF m 83 #[.val (.int p1), .val (.int p2), .val (.int p3), .val (.int p4), .val (.int p5), .val (.int (3 : Int32)), .val (.int (0 : Int32)), .val (.ref b176), .val (.ref b177), .val (.ref b178), .val (.ref b265), .unset, .unset, .unset, .unset, .unset] [(.int (3 : Int32)), (.int (3 : Int32))]))
    refine go (fun _ => XS.icmpNo X267.here hx rfl (hb hby at_83) rfl (flt (by decide : ¬ ((3 : Int32) < (3 : Int32)))).1) ?_
    show Go _ p e below s _ _ _ (T267.setTop (mkF m 86 #[.val (.int p1), .val (.int p2), .val (.int p3), .val (.int p4), .val (.int p5), .val (.int (3 : Int32)), .val (.int (0 : Int32)), .val (.ref b176), .val (.ref b177), .val (.ref b178), .val (.ref b265), .unset, .unset, .unset, .unset, .unset] []))
    refine go (fun _ => XS.aload X267.here hx rfl (hb hby at_86) rfl rfl) ?_
    show Go _ p e below s _ _ _ (T267.setTop (mkF m 88 #[.val (.int p1), .val (.int p2), .val (.int p3), .val (.int p4), .val (.int p5), .val (.int (3 : Int32)), .val (.int (0 : Int32)), .val (.ref b176), .val (.ref b177), .val (.ref b178), .val (.ref b265), .unset, .unset, .unset, .unset, .unset] [(.ref b265)]))
    refine go (fun _ => XS.iconst X267.here hx rfl (hb hby at_88)) ?_
    show Go _ p e below s _ _ _ (T267.setTop (mkF m 89 #[.val (.int p1), .val (.int p2), .val (.int p3), .val (.int p4), .val (.int p5), .val (.int (3 : Int32)), .val (.int (0 : Int32)), .val (.ref b176), .val (.ref b177), .val (.ref b178), .val (.ref b265), .unset, .unset, .unset, .unset, .unset] [(.int (2 : Int32)), (.ref b265)]))
    refine go (fun _ => XS.aload X267.here hx rfl (hb hby at_89) rfl rfl) ?_
    show Go _ p e below s _ _ _ (T267.setTop (mkF m 91 #[.val (.int p1), .val (.int p2), .val (.int p3), .val (.int p4), .val (.int p5), .val (.int (3 : Int32)), .val (.int (0 : Int32)), .val (.ref b176), .val (.ref b177), .val (.ref b178), .val (.ref b265), .unset, .unset, .unset, .unset, .unset] [(.ref b178), (.int (2 : Int32)), (.ref b265)]))
    obtain ⟨cl268, Ar268, q268, Sz268, Nz268, Hs268, Gs268⟩ := id VV267
    have hin268 : ¬ ((2 : Int32) < 0 ∨ cl268.slots.size ≤ ((2 : Int32)).toNatClampNeg) := inb_of Sz268 ⟨by decide, by decide⟩
    obtain ⟨T268, h268, X268, e268, W268, st268⟩ := stR X267 hx hZ e267 Ar268 (j := (2 : Int32)) hin268 rfl (Sto.ofV Ar268 q268 O265 (Ins.self c267_3)) (g := (mkF m 91 #[.val (.int p1), .val (.int p2), .val (.int p3), .val (.int p4), .val (.int p5), .val (.int (3 : Int32)), .val (.int (0 : Int32)), .val (.ref b176), .val (.ref b177), .val (.ref b178), .val (.ref b265), .unset, .unset, .unset, .unset, .unset] [(.ref b178), (.int (2 : Int32)), (.ref b265)])) rfl rfl (hb hby at_91)
    have V268 := Arv.set Ar268 q268 Sz268 Nz268 Hs268 Gs268 rfl W268 2 rfl (Nat.le_of_ble_eq_true rfl)
    have VV268 : Arv Z h268 b265 k265 (.object "java/lang/String") (3 : Int32) [(.ref b176), (.ref b177), (.ref b178)] .null := V268
    have c268_1 := c267_1.wr W268
    have c268_2 := c267_2.wr W268
    have c268_3 := c267_3.wr W268
    have c268_4 := c267_4.wr W268
    have KK268 : Keep h0 h268 [] := KK267.wr W268 (Or.inr SZ_b265)
    have ZN268 : n0 ≤ h268.size := Nat.le_trans ZN267 (Keep.of_wr W268).1
    have NN268 := Fr.snoc X268 NN267 G_b265
    have OL268 := OL267.wr W268 G_b265
    refine go st268 ?_
    show Go _ p e below s _ _ _ (T268.setTop (mkF m 92 #[.val (.int p1), .val (.int p2), .val (.int p3), .val (.int p4), .val (.int p5), .val (.int (3 : Int32)), .val (.int (0 : Int32)), .val (.ref b176), .val (.ref b177), .val (.ref b178), .val (.ref b265), .unset, .unset, .unset, .unset, .unset] []))
    obtain ⟨T269, h269, X269, e269, E269, A269, D269, -, st269⟩ := newO X268 hx hZ hown (hw _ (List.mem_of_getElem? (i := 32) rfl)) (hw _ (List.mem_of_getElem? (i := 33) rfl)) (hw _ (List.mem_of_getElem? (i := 34) rfl)) e268 (g := (mkF m 92 #[.val (.int p1), .val (.int p2), .val (.int p3), .val (.int p4), .val (.int p5), .val (.int (3 : Int32)), .val (.int (0 : Int32)), .val (.ref b176), .val (.ref b177), .val (.ref b178), .val (.ref b265), .unset, .unset, .unset, .unset, .unset] [])) rfl (hb hby at_92) (by decide) (by decide)
    obtain ⟨b269, g269⟩ : ∃ z, z = h268.size := ⟨_, rfl⟩
    rw [← g269] at A269 D269 st269
    have lt269_b176_b269 : b176 < b269 := Nat.lt_of_lt_of_le c268_1.lt (Nat.le_of_eq g269.symm)
    have lt269_b177_b269 : b177 < b269 := Nat.lt_of_lt_of_le c268_2.lt (Nat.le_of_eq g269.symm)
    have lt269_b178_b269 : b178 < b269 := Nat.lt_of_lt_of_le c268_3.lt (Nat.le_of_eq g269.symm)
    have lt269_b265_b269 : b265 < b269 := Nat.lt_of_lt_of_le c268_4.lt (Nat.le_of_eq g269.symm)
    have G_b269 : n0 ≤ b269 := Nat.le_trans ZN268 (Nat.le_of_eq g269.symm)
    have SZ_b269 : h0.size ≤ b269 := Nat.le_trans KK268.1 (Nat.le_of_eq g269.symm)
    have c269_1 := c268_1.ext E269
    have c269_2 := c268_2.ext E269
    have c269_3 := c268_3.ext E269
    have c269_4 := c268_4.ext E269
    have c269_5 := VV268.ext E269
    have KK269 : Keep h0 h269 [] := KK268.ext E269
    have ZN269 : n0 ≤ h269.size := Nat.le_trans ZN268 E269.1
    have OL269 := OL268.ext E269
    have F269_49 : Fld Z h269 b269 "com/example/sunder/sunder/cli/Arguments" "args" "[Ljava/lang/String;" .null := D269 (Or.inr (hw _ (List.mem_of_getElem? (i := 49) rfl))) (ty := (.array (.object "java/lang/String"))) (by decide)
    have F269_56 : Fld Z h269 b269 "com/example/sunder/sunder/cli/Arguments" "next" "I" (.int (0 : Int32)) := D269 (Or.inl (hw _ (List.mem_of_getElem? (i := 56) rfl))) (ty := .int) (by decide)
    refine go st269 ?_
    show Go _ p e below s _ _ _ (T269.setTop (mkF m 95 #[.val (.int p1), .val (.int p2), .val (.int p3), .val (.int p4), .val (.int p5), .val (.int (3 : Int32)), .val (.int (0 : Int32)), .val (.ref b176), .val (.ref b177), .val (.ref b178), .val (.ref b265), .unset, .unset, .unset, .unset, .unset] [(.ref b269)]))
    refine go (fun _ => XS.dup X269.here hx rfl (hb hby at_95) rfl rfl) ?_
    show Go _ p e below s _ _ _ (T269.setTop (mkF m 96 #[.val (.int p1), .val (.int p2), .val (.int p3), .val (.int p4), .val (.int p5), .val (.int (3 : Int32)), .val (.int (0 : Int32)), .val (.ref b176), .val (.ref b177), .val (.ref b178), .val (.ref b265), .unset, .unset, .unset, .unset, .unset] [(.ref b269), (.ref b269)]))
    refine go (fun _ => XS.aload X269.here hx rfl (hb hby at_96) rfl rfl) ?_
    show Go _ p e below s _ _ _ (T269.setTop (mkF m 98 #[.val (.int p1), .val (.int p2), .val (.int p3), .val (.int p4), .val (.int p5), .val (.int (3 : Int32)), .val (.int (0 : Int32)), .val (.ref b176), .val (.ref b177), .val (.ref b178), .val (.ref b265), .unset, .unset, .unset, .unset, .unset] [(.ref b265), (.ref b269), (.ref b269)]))
    obtain ⟨_, _, ⟨T270, L270, k270, n270⟩, -, X270, ⟨Lc270, hQ270, l270, y270, z270⟩, st270⟩ := X269.specialBack hx (y := (⟨"com/example/sunder/sunder/cli/Arguments", "<init>", "([Ljava/lang/String;)V"⟩ : MethodName)) rfl hown (mvT hZ (hw _ (List.mem_of_getElem? (i := 35) rfl))) (mvT hZ (hw _ (List.mem_of_getElem? (i := 36) rfl))) (mvT hZ (hw _ (List.mem_of_getElem? (i := 37) rfl))) (by decide) (backOf (W := 1) (rmI3 l Z a0 hw [] b269 b265 k265 b176 b177 b178 .null h269 n0 ZN269 A269 F269_49 F269_56 G_b269 c269_4 c269_5 (Ne.symm (Nat.ne_of_lt lt269_b265_b269))) hZ (hw _ (List.mem_of_getElem? (i := 37) rfl)) (hw _ (List.mem_of_getElem? (i := 34) rfl)) (by decide) (by decide)) (g := (mkF m 98 #[.val (.int p1), .val (.int p2), .val (.int p3), .val (.int p4), .val (.int p5), .val (.int (3 : Int32)), .val (.int (0 : Int32)), .val (.ref b176), .val (.ref b177), .val (.ref b178), .val (.ref b265), .unset, .unset, .unset, .unset, .unset] [(.ref b265), (.ref b269), (.ref b269)])) rfl (by rw [hml]; rfl) (Steps.refl _) (a := b269) (argsL := [(.ref b265)]) (rest := [(.ref b269)]) (lenOf pd_0_2 rfl) rfl (by show 2 * 0 + _ ≤ _; exact Nat.le_of_eq rfl) (hb hby at_98) (fun _ _ => ⟨rfl, e269, (by decide : 8 + 1 ≤ _), (by decide : 20 + 3 ≤ _)⟩)
    dsimp only [Pt.U, Pt.locs, Pt.cells, Pt.slots] at X270 l270 y270 z270 st270 hQ270
    subst l270 y270 z270
    obtain ⟨b270, rfl, N270q, u270_0, u270_1, K270, u270_3, u270_4, u270_5, u270_6⟩ := hQ270
    have N270 := Fr.app NN268 N270q
    have lt270_b176_b270 : b176 < b270 := Nat.lt_of_lt_of_le c269_1.lt u270_0
    have lt270_b177_b270 : b177 < b270 := Nat.lt_of_lt_of_le c269_2.lt u270_0
    have lt270_b178_b270 : b178 < b270 := Nat.lt_of_lt_of_le c269_3.lt u270_0
    have lt270_b265_b270 : b265 < b270 := Nat.lt_of_lt_of_le c269_4.lt u270_0
    have lt270_b269_b270 : b269 < b270 := Nat.lt_of_lt_of_le A269.lt u270_0
    have G_b270 : n0 ≤ b270 := Nat.le_trans ZN269 u270_0
    have SZ_b270 : h0.size ≤ b270 := Nat.le_trans KK269.1 u270_0
    have c270_1 := c269_1.keep K270
    have c270_2 := c269_2.keep K270
    have c270_3 := c269_3.keep K270
    have c270_4 := c269_4.keep K270
    have c270_5 := c269_5.keep K270 (ninS (Nat.ne_of_lt lt269_b265_b269) nin0)
    have c270_6 := A269.keep K270
    have KK270 : Keep h0 T270.heap [] := KK269.trans K270 (allS (P := fun x => x ∈ [] ∨ h0.size ≤ x) (Or.inr SZ_b269) all0)
    have ZN270 : n0 ≤ T270.heap.size := Nat.le_trans ZN269 K270.1
    have OL270 := OL269.keep K270 (allS G_b269 all0)
    refine goT st270 ?_
    show Go _ p e below s _ _ _ (T270.setTop (mkF m 101 #[.val (.int p1), .val (.int p2), .val (.int p3), .val (.int p4), .val (.int p5), .val (.int (3 : Int32)), .val (.int (0 : Int32)), .val (.ref b176), .val (.ref b177), .val (.ref b178), .val (.ref b265), .unset, .unset, .unset, .unset, .unset] [(.ref b269)]))
    refine go (fun _ => XS.astore X270.here hx rfl (hb hby at_101) rfl rfl (l' := #[.val (.int p1), .val (.int p2), .val (.int p3), .val (.int p4), .val (.int p5), .val (.int (3 : Int32)), .val (.int (0 : Int32)), .val (.ref b176), .val (.ref b177), .val (.ref b178), .val (.ref b265), .val (.ref b269), .unset, .unset, .unset, .unset]) rfl) ?_
    show Go _ p e below s _ _ _ (T270.setTop (mkF m 103 #[.val (.int p1), .val (.int p2), .val (.int p3), .val (.int p4), .val (.int p5), .val (.int (3 : Int32)), .val (.int (0 : Int32)), .val (.ref b176), .val (.ref b177), .val (.ref b178), .val (.ref b265), .val (.ref b269), .unset, .unset, .unset, .unset] []))
    refine go (fun _ => XS.iload X270.here hx rfl (hb hby at_103) rfl) ?_
    show Go _ p e below s _ _ _ (T270.setTop (mkF m 105 #[.val (.int p1), .val (.int p2), .val (.int p3), .val (.int p4), .val (.int p5), .val (.int (3 : Int32)), .val (.int (0 : Int32)), .val (.ref b176), .val (.ref b177), .val (.ref b178), .val (.ref b265), .val (.ref b269), .unset, .unset, .unset, .unset] [(.int (0 : Int32))]))
    refine go (fun _ => XS.iconst X270.here hx rfl (hb hby at_105)) ?_
    show Go _ p e below s _ _ _ (T270.setTop (mkF m 106 #[.val (.int p1), .val (.int p2), .val (.int p3), .val (.int p4), .val (.int p5), .val (.int (3 : Int32)), .val (.int (0 : Int32)), .val (.ref b176), .val (.ref b177), .val (.ref b178), .val (.ref b265), .val (.ref b269), .unset, .unset, .unset, .unset] [(.int (1 : Int32)), (.int (0 : Int32))]))
    refine go (fun _ => XS.icmpYes X270.here hx rfl (pc0 := 106) (pc' := 115) rfl (hb hby at_106) rfl (tlt (by decide : ((0 : Int32) < (1 : Int32)))).1 (by decide) (by decide)) ?_
    show Go _ p e below s _ _ _ (T270.setTop (mkF m 115 #[.val (.int p1), .val (.int p2), .val (.int p3), .val (.int p4), .val (.int p5), .val (.int (3 : Int32)), .val (.int (0 : Int32)), .val (.ref b176), .val (.ref b177), .val (.ref b178), .val (.ref b265), .val (.ref b269), .unset, .unset, .unset, .unset] []))
    refine go (fun _ => XS.iload X270.here hx rfl (hb hby at_115) rfl) ?_
    show Go _ p e below s _ _ _ (T270.setTop (mkF m 117 #[.val (.int p1), .val (.int p2), .val (.int p3), .val (.int p4), .val (.int p5), .val (.int (3 : Int32)), .val (.int (0 : Int32)), .val (.ref b176), .val (.ref b177), .val (.ref b178), .val (.ref b265), .val (.ref b269), .unset, .unset, .unset, .unset] [(.int (0 : Int32))]))
    refine go (fun _ => XS.iconst X270.here hx rfl (hb hby at_117)) ?_
    show Go _ p e below s _ _ _ (T270.setTop (mkF m 118 #[.val (.int p1), .val (.int p2), .val (.int p3), .val (.int p4), .val (.int p5), .val (.int (3 : Int32)), .val (.int (0 : Int32)), .val (.ref b176), .val (.ref b177), .val (.ref b178), .val (.ref b265), .val (.ref b269), .unset, .unset, .unset, .unset] [(.int (2 : Int32)), (.int (0 : Int32))]))
    refine go (fun _ => XS.icmpYes X270.here hx rfl (pc0 := 118) (pc' := 127) rfl (hb hby at_118) rfl (tlt (by decide : ((0 : Int32) < (2 : Int32)))).1 (by decide) (by decide)) ?_
    show Go _ p e below s _ _ _ (T270.setTop (mkF m 127 #[.val (.int p1), .val (.int p2), .val (.int p3), .val (.int p4), .val (.int p5), .val (.int (3 : Int32)), .val (.int (0 : Int32)), .val (.ref b176), .val (.ref b177), .val (.ref b178), .val (.ref b265), .val (.ref b269), .unset, .unset, .unset, .unset] []))
    refine go (fun _ => XS.iload X270.here hx rfl (hb hby at_127) rfl) ?_
    show Go _ p e below s _ _ _ (T270.setTop (mkF m 129 #[.val (.int p1), .val (.int p2), .val (.int p3), .val (.int p4), .val (.int p5), .val (.int (3 : Int32)), .val (.int (0 : Int32)), .val (.ref b176), .val (.ref b177), .val (.ref b178), .val (.ref b265), .val (.ref b269), .unset, .unset, .unset, .unset] [(.int (0 : Int32))]))
    refine go (fun _ => XS.iconst X270.here hx rfl (hb hby at_129)) ?_
    show Go _ p e below s _ _ _ (T270.setTop (mkF m 130 #[.val (.int p1), .val (.int p2), .val (.int p3), .val (.int p4), .val (.int p5), .val (.int (3 : Int32)), .val (.int (0 : Int32)), .val (.ref b176), .val (.ref b177), .val (.ref b178), .val (.ref b265), .val (.ref b269), .unset, .unset, .unset, .unset] [(.int (3 : Int32)), (.int (0 : Int32))]))
    refine go (fun _ => XS.icmpYes X270.here hx rfl (pc0 := 130) (pc' := 139) rfl (hb hby at_130) rfl (tlt (by decide : ((0 : Int32) < (3 : Int32)))).1 (by decide) (by decide)) ?_
    show Go _ p e below s _ _ _ (T270.setTop (mkF m 139 #[.val (.int p1), .val (.int p2), .val (.int p3), .val (.int p4), .val (.int p5), .val (.int (3 : Int32)), .val (.int (0 : Int32)), .val (.ref b176), .val (.ref b177), .val (.ref b178), .val (.ref b265), .val (.ref b269), .unset, .unset, .unset, .unset] []))
    refine go (fun _ => XS.aload X270.here hx rfl (hb hby at_139) rfl rfl) ?_
    show Go _ p e below s _ _ _ (T270.setTop (mkF m 141 #[.val (.int p1), .val (.int p2), .val (.int p3), .val (.int p4), .val (.int p5), .val (.int (3 : Int32)), .val (.int (0 : Int32)), .val (.ref b176), .val (.ref b177), .val (.ref b178), .val (.ref b265), .val (.ref b269), .unset, .unset, .unset, .unset] [(.ref b269)]))
    obtain ⟨cq271, kq271, q271a, q271b, q271c⟩ := isOf hZ rfl c270_6
    obtain ⟨_, _, ⟨T271, L271, k271, n271⟩, -, X271, ⟨Lc271, hQ271, l271, y271, z271⟩, st271⟩ := X270.virtualBack hx (y := (⟨"com/example/sunder/sunder/cli/Arguments", "hasNext", "()Z"⟩ : MethodName)) (z := (⟨"com/example/sunder/sunder/cli/Arguments", "hasNext", "()Z"⟩ : MethodName)) hown (mvT hZ (hw _ (List.mem_of_getElem? (i := 50) rfl))) (mvT hZ (hw _ (List.mem_of_getElem? (i := 51) rfl))) (notFace_of_selects (args := #[]) (mvT hZ (hw _ (List.mem_of_getElem? (i := 53) rfl)))) (mvT hZ (hw _ (List.mem_of_getElem? (i := 53) rfl))) (mvT hZ (hw _ (List.mem_of_getElem? (i := 52) rfl))) (by decide) (backOf (W := 0) (rmH3_0 l Z a0 hw [] b269 b270 k265 b176 b177 b178 (T270.heap) n0 ZN270 u270_3 u270_4 u270_6) hZ (hw _ (List.mem_of_getElem? (i := 54) rfl)) (hw _ (List.mem_of_getElem? (i := 34) rfl)) (by decide) (by decide)) q271a q271c (g := (mkF m 141 #[.val (.int p1), .val (.int p2), .val (.int p3), .val (.int p4), .val (.int p5), .val (.int (3 : Int32)), .val (.int (0 : Int32)), .val (.ref b176), .val (.ref b177), .val (.ref b178), .val (.ref b265), .val (.ref b269), .unset, .unset, .unset, .unset] [(.ref b269)])) rfl (by rw [hml]; rfl) (Steps.refl _) (argsL := []) (rest := []) (lenOf pd_0_3 rfl) rfl (by show 2 * 0 + _ ≤ _; exact Nat.le_of_eq rfl) (hb hby at_141) (fun _ _ => ⟨rfl, rfl, (by decide : 9 + 0 ≤ _), (by decide : 23 + 0 ≤ _)⟩)
    dsimp only [Pt.U, Pt.locs, Pt.cells, Pt.slots] at X271 l271 y271 z271 st271 hQ271
    subst l271 y271 z271
    obtain ⟨rfl, N271q, e271⟩ := hQ271
    have N271 := Fr.app N270 N271q
    refine goT st271 ?_
    show Go _ p e below s _ _ _ (T271.setTop (mkF m 144 #[.val (.int p1), .val (.int p2), .val (.int p3), .val (.int p4), .val (.int p5), .val (.int (3 : Int32)), .val (.int (0 : Int32)), .val (.ref b176), .val (.ref b177), .val (.ref b178), .val (.ref b265), .val (.ref b269), .unset, .unset, .unset, .unset] [(.int (1 : Int32))]))
    refine go (fun _ => XS.istore X271.here hx rfl (hb hby at_144) rfl (l' := #[.val (.int p1), .val (.int p2), .val (.int p3), .val (.int p4), .val (.int p5), .val (.int (3 : Int32)), .val (.int (0 : Int32)), .val (.ref b176), .val (.ref b177), .val (.ref b178), .val (.ref b265), .val (.ref b269), .val (.int (1 : Int32)), .unset, .unset, .unset]) rfl) ?_
    show Go _ p e below s _ _ _ (T271.setTop (mkF m 146 #[.val (.int p1), .val (.int p2), .val (.int p3), .val (.int p4), .val (.int p5), .val (.int (3 : Int32)), .val (.int (0 : Int32)), .val (.ref b176), .val (.ref b177), .val (.ref b178), .val (.ref b265), .val (.ref b269), .val (.int (1 : Int32)), .unset, .unset, .unset] []))
    refine go (fun _ => XS.aload X271.here hx rfl (hb hby at_146) rfl rfl) ?_
    show Go _ p e below s _ _ _ (T271.setTop (mkF m 148 #[.val (.int p1), .val (.int p2), .val (.int p3), .val (.int p4), .val (.int p5), .val (.int (3 : Int32)), .val (.int (0 : Int32)), .val (.ref b176), .val (.ref b177), .val (.ref b178), .val (.ref b265), .val (.ref b269), .val (.int (1 : Int32)), .unset, .unset, .unset] [(.ref b269)]))
    obtain ⟨cq272, kq272, q272a, q272b, q272c⟩ := isOf hZ e271 c270_6
    obtain ⟨_, _, ⟨T272, L272, k272, n272⟩, -, X272, ⟨Lc272, hQ272, l272, y272, z272⟩, st272⟩ := X271.virtualBack hx (y := (⟨"com/example/sunder/sunder/cli/Arguments", "hasNext", "()Z"⟩ : MethodName)) (z := (⟨"com/example/sunder/sunder/cli/Arguments", "hasNext", "()Z"⟩ : MethodName)) hown (mvT hZ (hw _ (List.mem_of_getElem? (i := 50) rfl))) (mvT hZ (hw _ (List.mem_of_getElem? (i := 51) rfl))) (notFace_of_selects (args := #[]) (mvT hZ (hw _ (List.mem_of_getElem? (i := 53) rfl)))) (mvT hZ (hw _ (List.mem_of_getElem? (i := 53) rfl))) (mvT hZ (hw _ (List.mem_of_getElem? (i := 52) rfl))) (by decide) (backOf (W := 0) (rmH3_0 l Z a0 hw [] b269 b270 k265 b176 b177 b178 (T270.heap) n0 ZN270 u270_3 u270_4 u270_6) hZ (hw _ (List.mem_of_getElem? (i := 54) rfl)) (hw _ (List.mem_of_getElem? (i := 34) rfl)) (by decide) (by decide)) q272a q272c (g := (mkF m 148 #[.val (.int p1), .val (.int p2), .val (.int p3), .val (.int p4), .val (.int p5), .val (.int (3 : Int32)), .val (.int (0 : Int32)), .val (.ref b176), .val (.ref b177), .val (.ref b178), .val (.ref b265), .val (.ref b269), .val (.int (1 : Int32)), .unset, .unset, .unset] [(.ref b269)])) rfl (by rw [hml]; rfl) (Steps.refl _) (argsL := []) (rest := []) (lenOf pd_0_3 rfl) rfl (by show 2 * 0 + _ ≤ _; exact Nat.le_of_eq rfl) (hb hby at_148) (fun _ _ => ⟨rfl, e271, (by decide : 9 + 0 ≤ _), (by decide : 23 + 0 ≤ _)⟩)
    dsimp only [Pt.U, Pt.locs, Pt.cells, Pt.slots] at X272 l272 y272 z272 st272 hQ272
    subst l272 y272 z272
    obtain ⟨rfl, N272q, e272⟩ := hQ272
    have N272 := Fr.app N271 N272q
    refine goT st272 ?_
    show Go _ p e below s _ _ _ (T272.setTop (mkF m 151 #[.val (.int p1), .val (.int p2), .val (.int p3), .val (.int p4), .val (.int p5), .val (.int (3 : Int32)), .val (.int (0 : Int32)), .val (.ref b176), .val (.ref b177), .val (.ref b178), .val (.ref b265), .val (.ref b269), .val (.int (1 : Int32)), .unset, .unset, .unset] [(.int (1 : Int32))]))
    refine go (fun _ => XS.istore X272.here hx rfl (hb hby at_151) rfl (l' := #[.val (.int p1), .val (.int p2), .val (.int p3), .val (.int p4), .val (.int p5), .val (.int (3 : Int32)), .val (.int (0 : Int32)), .val (.ref b176), .val (.ref b177), .val (.ref b178), .val (.ref b265), .val (.ref b269), .val (.int (1 : Int32)), .val (.int (1 : Int32)), .unset, .unset]) rfl) ?_
    show Go _ p e below s _ _ _ (T272.setTop (mkF m 153 #[.val (.int p1), .val (.int p2), .val (.int p3), .val (.int p4), .val (.int p5), .val (.int (3 : Int32)), .val (.int (0 : Int32)), .val (.ref b176), .val (.ref b177), .val (.ref b178), .val (.ref b265), .val (.ref b269), .val (.int (1 : Int32)), .val (.int (1 : Int32)), .unset, .unset] []))
    refine go (fun _ => XS.iload X272.here hx rfl (hb hby at_153) rfl) ?_
    show Go _ p e below s _ _ _ (T272.setTop (mkF m 155 #[.val (.int p1), .val (.int p2), .val (.int p3), .val (.int p4), .val (.int p5), .val (.int (3 : Int32)), .val (.int (0 : Int32)), .val (.ref b176), .val (.ref b177), .val (.ref b178), .val (.ref b265), .val (.ref b269), .val (.int (1 : Int32)), .val (.int (1 : Int32)), .unset, .unset] [(.int (1 : Int32))]))
    refine go (fun _ => XS.iload X272.here hx rfl (hb hby at_155) rfl) ?_
    show Go _ p e below s _ _ _ (T272.setTop (mkF m 157 #[.val (.int p1), .val (.int p2), .val (.int p3), .val (.int p4), .val (.int p5), .val (.int (3 : Int32)), .val (.int (0 : Int32)), .val (.ref b176), .val (.ref b177), .val (.ref b178), .val (.ref b265), .val (.ref b269), .val (.int (1 : Int32)), .val (.int (1 : Int32)), .unset, .unset] [(.int (0 : Int32)), (.int (1 : Int32))]))
    refine go (fun _ => XS.iload X272.here hx rfl (hb hby at_157) rfl) ?_
    show Go _ p e below s _ _ _ (T272.setTop (mkF m 159 #[.val (.int p1), .val (.int p2), .val (.int p3), .val (.int p4), .val (.int p5), .val (.int (3 : Int32)), .val (.int (0 : Int32)), .val (.ref b176), .val (.ref b177), .val (.ref b178), .val (.ref b265), .val (.ref b269), .val (.int (1 : Int32)), .val (.int (1 : Int32)), .unset, .unset] [(.int (3 : Int32)), (.int (0 : Int32)), (.int (1 : Int32))]))
    refine go (fun _ => XS.icmpNo X272.here hx rfl (hb hby at_159) rfl (tlt (by decide : ((0 : Int32) < (3 : Int32)))).2.1) ?_
    show Go _ p e below s _ _ _ (T272.setTop (mkF m 162 #[.val (.int p1), .val (.int p2), .val (.int p3), .val (.int p4), .val (.int p5), .val (.int (3 : Int32)), .val (.int (0 : Int32)), .val (.ref b176), .val (.ref b177), .val (.ref b178), .val (.ref b265), .val (.ref b269), .val (.int (1 : Int32)), .val (.int (1 : Int32)), .unset, .unset] [(.int (1 : Int32))]))
    refine go (fun _ => XS.iconst X272.here hx rfl (hb hby at_162)) ?_
    show Go _ p e below s _ _ _ (T272.setTop (mkF m 163 #[.val (.int p1), .val (.int p2), .val (.int p3), .val (.int p4), .val (.int p5), .val (.int (3 : Int32)), .val (.int (0 : Int32)), .val (.ref b176), .val (.ref b177), .val (.ref b178), .val (.ref b265), .val (.ref b269), .val (.int (1 : Int32)), .val (.int (1 : Int32)), .unset, .unset] [(.int (1 : Int32)), (.int (1 : Int32))]))
    refine go (fun _ => XS.goto X272.here hx rfl (pc0 := 163) (pc' := 167) rfl (hb hby at_163) (by decide) (by decide)) ?_
    show Go _ p e below s _ _ _ (T272.setTop (mkF m 167 #[.val (.int p1), .val (.int p2), .val (.int p3), .val (.int p4), .val (.int p5), .val (.int (3 : Int32)), .val (.int (0 : Int32)), .val (.ref b176), .val (.ref b177), .val (.ref b178), .val (.ref b265), .val (.ref b269), .val (.int (1 : Int32)), .val (.int (1 : Int32)), .unset, .unset] [(.int (1 : Int32)), (.int (1 : Int32))]))
    refine go (fun _ => XS.icmpNo X272.here hx rfl (hb hby at_167) rfl (teq (rfl : (1 : Int32) = (1 : Int32))).2) ?_
    show Go _ p e below s _ _ _ (T272.setTop (mkF m 170 #[.val (.int p1), .val (.int p2), .val (.int p3), .val (.int p4), .val (.int p5), .val (.int (3 : Int32)), .val (.int (0 : Int32)), .val (.ref b176), .val (.ref b177), .val (.ref b178), .val (.ref b265), .val (.ref b269), .val (.int (1 : Int32)), .val (.int (1 : Int32)), .unset, .unset] []))
    refine go (fun _ => XS.iload X272.here hx rfl (hb hby at_170) rfl) ?_
    show Go _ p e below s _ _ _ (T272.setTop (mkF m 172 #[.val (.int p1), .val (.int p2), .val (.int p3), .val (.int p4), .val (.int p5), .val (.int (3 : Int32)), .val (.int (0 : Int32)), .val (.ref b176), .val (.ref b177), .val (.ref b178), .val (.ref b265), .val (.ref b269), .val (.int (1 : Int32)), .val (.int (1 : Int32)), .unset, .unset] [(.int (1 : Int32))]))
    refine go (fun _ => XS.iload X272.here hx rfl (hb hby at_172) rfl) ?_
    show Go _ p e below s _ _ _ (T272.setTop (mkF m 174 #[.val (.int p1), .val (.int p2), .val (.int p3), .val (.int p4), .val (.int p5), .val (.int (3 : Int32)), .val (.int (0 : Int32)), .val (.ref b176), .val (.ref b177), .val (.ref b178), .val (.ref b265), .val (.ref b269), .val (.int (1 : Int32)), .val (.int (1 : Int32)), .unset, .unset] [(.int (1 : Int32)), (.int (1 : Int32))]))
    refine go (fun _ => XS.icmpYes X272.here hx rfl (pc0 := 174) (pc' := 179) rfl (hb hby at_174) rfl (teq (rfl : (1 : Int32) = (1 : Int32))).1 (by decide) (by decide)) ?_
    show Go _ p e below s _ _ _ (T272.setTop (mkF m 179 #[.val (.int p1), .val (.int p2), .val (.int p3), .val (.int p4), .val (.int p5), .val (.int (3 : Int32)), .val (.int (0 : Int32)), .val (.ref b176), .val (.ref b177), .val (.ref b178), .val (.ref b265), .val (.ref b269), .val (.int (1 : Int32)), .val (.int (1 : Int32)), .unset, .unset] []))
    refine go (fun _ => XS.iload X272.here hx rfl (hb hby at_179) rfl) ?_
    show Go _ p e below s _ _ _ (T272.setTop (mkF m 181 #[.val (.int p1), .val (.int p2), .val (.int p3), .val (.int p4), .val (.int p5), .val (.int (3 : Int32)), .val (.int (0 : Int32)), .val (.ref b176), .val (.ref b177), .val (.ref b178), .val (.ref b265), .val (.ref b269), .val (.int (1 : Int32)), .val (.int (1 : Int32)), .unset, .unset] [(.int (1 : Int32))]))
    refine go (fun _ => XS.ifYes X272.here hx rfl (pc0 := 181) (pc' := 186) rfl (hb hby at_181) rfl ((if0 _ _).trans (feq (by decide : ¬ ((1 : Int32) = (0 : Int32)))).2) (by decide) (by decide)) ?_
    show Go _ p e below s _ _ _ (T272.setTop (mkF m 186 #[.val (.int p1), .val (.int p2), .val (.int p3), .val (.int p4), .val (.int p5), .val (.int (3 : Int32)), .val (.int (0 : Int32)), .val (.ref b176), .val (.ref b177), .val (.ref b178), .val (.ref b265), .val (.ref b269), .val (.int (1 : Int32)), .val (.int (1 : Int32)), .unset, .unset] []))
    refine go (fun _ => XS.aload X272.here hx rfl (hb hby at_186) rfl rfl) ?_
    show Go _ p e below s _ _ _ (T272.setTop (mkF m 188 #[.val (.int p1), .val (.int p2), .val (.int p3), .val (.int p4), .val (.int p5), .val (.int (3 : Int32)), .val (.int (0 : Int32)), .val (.ref b176), .val (.ref b177), .val (.ref b178), .val (.ref b265), .val (.ref b269), .val (.int (1 : Int32)), .val (.int (1 : Int32)), .unset, .unset] [(.ref b269)]))
    obtain ⟨cq273, kq273, q273a, q273b, q273c⟩ := isOf hZ e272 c270_6
    obtain ⟨_, _, ⟨T273, L273, k273, n273⟩, -, X273, ⟨Lc273, hQ273, l273, y273, z273⟩, st273⟩ := X272.virtualBack hx (y := (⟨"com/example/sunder/sunder/cli/Arguments", "next", "()Ljava/lang/String;"⟩ : MethodName)) (z := (⟨"com/example/sunder/sunder/cli/Arguments", "next", "()Ljava/lang/String;"⟩ : MethodName)) hown (mvT hZ (hw _ (List.mem_of_getElem? (i := 57) rfl))) (mvT hZ (hw _ (List.mem_of_getElem? (i := 58) rfl))) (notFace_of_selects (args := #[]) (mvT hZ (hw _ (List.mem_of_getElem? (i := 60) rfl)))) (mvT hZ (hw _ (List.mem_of_getElem? (i := 60) rfl))) (mvT hZ (hw _ (List.mem_of_getElem? (i := 59) rfl))) (by decide) (backOf (W := 0) (rmN3_0 l Z a0 hw [] b269 b270 k265 b176 b177 b178 (T270.heap) n0 ZN270 c270_6 u270_3 u270_4 G_b269 u270_6 (Nat.ne_of_lt lt270_b269_b270)) hZ (hw _ (List.mem_of_getElem? (i := 61) rfl)) (hw _ (List.mem_of_getElem? (i := 34) rfl)) (by decide) (by decide)) q273a q273c (g := (mkF m 188 #[.val (.int p1), .val (.int p2), .val (.int p3), .val (.int p4), .val (.int p5), .val (.int (3 : Int32)), .val (.int (0 : Int32)), .val (.ref b176), .val (.ref b177), .val (.ref b178), .val (.ref b265), .val (.ref b269), .val (.int (1 : Int32)), .val (.int (1 : Int32)), .unset, .unset] [(.ref b269)])) rfl (by rw [hml]; rfl) (Steps.refl _) (argsL := []) (rest := []) (lenOf pd_0_4 rfl) rfl (by show 2 * 0 + _ ≤ _; exact Nat.le_of_eq rfl) (hb hby at_188) (fun _ _ => ⟨rfl, e272, (by decide : 9 + 0 ≤ _), (by decide : 23 + 0 ≤ _)⟩)
    dsimp only [Pt.U, Pt.locs, Pt.cells, Pt.slots] at X273 l273 y273 z273 st273 hQ273
    subst l273 y273 z273
    obtain ⟨rfl, N273q, K273, u273_1, u273_2⟩ := hQ273
    have N273 := Fr.app N272 N273q
    have c273_1 := c270_1.keep K273
    have c273_2 := c270_2.keep K273
    have c273_3 := c270_3.keep K273
    have c273_4 := c270_4.keep K273
    have c273_5 := c270_5.keep K273 (ninS (Nat.ne_of_lt lt269_b265_b269) nin0)
    have c273_6 := c270_6.keep K273
    have c273_7 := u270_5.keep K273
    have c273_8 := u270_6.keep K273 (ninS (Ne.symm (Nat.ne_of_lt lt270_b269_b270)) nin0)
    have KK273 : Keep h0 T273.heap [] := KK270.trans K273 (allS (P := fun x => x ∈ [] ∨ h0.size ≤ x) (Or.inr SZ_b269) all0)
    have ZN273 : n0 ≤ T273.heap.size := Nat.le_trans ZN270 K273.1
    have OL273 := OL270.keep K273 (allS G_b269 all0)
    refine goT st273 ?_
    show Go _ p e below s _ _ _ (T273.setTop (mkF m 191 #[.val (.int p1), .val (.int p2), .val (.int p3), .val (.int p4), .val (.int p5), .val (.int (3 : Int32)), .val (.int (0 : Int32)), .val (.ref b176), .val (.ref b177), .val (.ref b178), .val (.ref b265), .val (.ref b269), .val (.int (1 : Int32)), .val (.int (1 : Int32)), .unset, .unset] [(.ref b176)]))
    refine go (fun _ => XS.astore X273.here hx rfl (hb hby at_191) rfl rfl (l' := #[.val (.int p1), .val (.int p2), .val (.int p3), .val (.int p4), .val (.int p5), .val (.int (3 : Int32)), .val (.int (0 : Int32)), .val (.ref b176), .val (.ref b177), .val (.ref b178), .val (.ref b265), .val (.ref b269), .val (.int (1 : Int32)), .val (.int (1 : Int32)), .val (.ref b176), .unset]) rfl) ?_
    show Go _ p e below s _ _ _ (T273.setTop (mkF m 193 #[.val (.int p1), .val (.int p2), .val (.int p3), .val (.int p4), .val (.int p5), .val (.int (3 : Int32)), .val (.int (0 : Int32)), .val (.ref b176), .val (.ref b177), .val (.ref b178), .val (.ref b265), .val (.ref b269), .val (.int (1 : Int32)), .val (.int (1 : Int32)), .val (.ref b176), .unset] []))
    refine go (fun _ => XS.iload X273.here hx rfl (hb hby at_193) rfl) ?_
    show Go _ p e below s _ _ _ (T273.setTop (mkF m 195 #[.val (.int p1), .val (.int p2), .val (.int p3), .val (.int p4), .val (.int p5), .val (.int (3 : Int32)), .val (.int (0 : Int32)), .val (.ref b176), .val (.ref b177), .val (.ref b178), .val (.ref b265), .val (.ref b269), .val (.int (1 : Int32)), .val (.int (1 : Int32)), .val (.ref b176), .unset] [(.int (0 : Int32))]))
    refine go (fun _ => XS.ifNo X273.here hx rfl (hb hby at_195) rfl ((if0 _ _).trans (teq (rfl : (0 : Int32) = (0 : Int32))).2)) ?_
    show Go _ p e below s _ _ _ (T273.setTop (mkF m 198 #[.val (.int p1), .val (.int p2), .val (.int p3), .val (.int p4), .val (.int p5), .val (.int (3 : Int32)), .val (.int (0 : Int32)), .val (.ref b176), .val (.ref b177), .val (.ref b178), .val (.ref b265), .val (.ref b269), .val (.int (1 : Int32)), .val (.int (1 : Int32)), .val (.ref b176), .unset] []))
    refine go (fun _ => XS.aload X273.here hx rfl (hb hby at_198) rfl rfl) ?_
    show Go _ p e below s _ _ _ (T273.setTop (mkF m 200 #[.val (.int p1), .val (.int p2), .val (.int p3), .val (.int p4), .val (.int p5), .val (.int (3 : Int32)), .val (.int (0 : Int32)), .val (.ref b176), .val (.ref b177), .val (.ref b178), .val (.ref b265), .val (.ref b269), .val (.int (1 : Int32)), .val (.int (1 : Int32)), .val (.ref b176), .unset] [(.ref b176)]))
    refine go (fun _ => XS.goto X273.here hx rfl (pc0 := 200) (pc' := 216) rfl (hb hby at_200) (by decide) (by decide)) ?_
    show Go _ p e below s _ _ _ (T273.setTop (mkF m 216 #[.val (.int p1), .val (.int p2), .val (.int p3), .val (.int p4), .val (.int p5), .val (.int (3 : Int32)), .val (.int (0 : Int32)), .val (.ref b176), .val (.ref b177), .val (.ref b178), .val (.ref b265), .val (.ref b269), .val (.int (1 : Int32)), .val (.int (1 : Int32)), .val (.ref b176), .unset] [(.ref b176)]))
    refine go (fun _ => XS.astore X273.here hx rfl (hb hby at_216) rfl rfl (l' := #[.val (.int p1), .val (.int p2), .val (.int p3), .val (.int p4), .val (.int p5), .val (.int (3 : Int32)), .val (.int (0 : Int32)), .val (.ref b176), .val (.ref b177), .val (.ref b178), .val (.ref b265), .val (.ref b269), .val (.int (1 : Int32)), .val (.int (1 : Int32)), .val (.ref b176), .val (.ref b176)]) rfl) ?_
    show Go _ p e below s _ _ _ (T273.setTop (mkF m 218 #[.val (.int p1), .val (.int p2), .val (.int p3), .val (.int p4), .val (.int p5), .val (.int (3 : Int32)), .val (.int (0 : Int32)), .val (.ref b176), .val (.ref b177), .val (.ref b178), .val (.ref b265), .val (.ref b269), .val (.int (1 : Int32)), .val (.int (1 : Int32)), .val (.ref b176), .val (.ref b176)] []))
    refine go (fun _ => XS.aload X273.here hx rfl (hb hby at_218) rfl rfl) ?_
    show Go _ p e below s _ _ _ (T273.setTop (mkF m 220 #[.val (.int p1), .val (.int p2), .val (.int p3), .val (.int p4), .val (.int p5), .val (.int (3 : Int32)), .val (.int (0 : Int32)), .val (.ref b176), .val (.ref b177), .val (.ref b178), .val (.ref b265), .val (.ref b269), .val (.int (1 : Int32)), .val (.int (1 : Int32)), .val (.ref b176), .val (.ref b176)] [(.ref b176)]))
    refine go (fun _ => XS.aload X273.here hx rfl (hb hby at_220) rfl rfl) ?_
    show Go _ p e below s _ _ _ (T273.setTop (mkF m 222 #[.val (.int p1), .val (.int p2), .val (.int p3), .val (.int p4), .val (.int p5), .val (.int (3 : Int32)), .val (.int (0 : Int32)), .val (.ref b176), .val (.ref b177), .val (.ref b178), .val (.ref b265), .val (.ref b269), .val (.int (1 : Int32)), .val (.int (1 : Int32)), .val (.ref b176), .val (.ref b176)] [(.ref b176), (.ref b176)]))
    obtain ⟨cq274, kq274, q274a, q274b, q274c⟩ := isOf hZ rfl c273_1
    obtain ⟨_, _, ⟨T274, L274, k274, n274⟩, -, X274, ⟨Lc274, hQ274, l274, y274, z274⟩, st274⟩ := X273.virtualBack hx (y := (⟨"java/lang/String", "equals", "(Ljava/lang/Object;)Z"⟩ : MethodName)) (z := (⟨"java/lang/String", "equals", "(Ljava/lang/Object;)Z"⟩ : MethodName)) hown (mvT hZ (hw _ (List.mem_of_getElem? (i := 63) rfl))) (mvT hZ (hw _ (List.mem_of_getElem? (i := 64) rfl))) (notFace_of_selects (args := #[]) (mvT hZ (hw _ (List.mem_of_getElem? (i := 66) rfl)))) (mvT hZ (hw _ (List.mem_of_getElem? (i := 66) rfl))) (mvT hZ (hw _ (List.mem_of_getElem? (i := 65) rfl))) (by decide) (backOf (W := 0) (rm10 l Z a0 hw [] b176 b176 (T273.heap) n0 ZN273 rfl) hZ (hw _ (List.mem_of_getElem? (i := 67) rfl)) (hw _ (List.mem_of_getElem? (i := 6) rfl)) (by decide) (by decide)) q274a q274c (g := (mkF m 222 #[.val (.int p1), .val (.int p2), .val (.int p3), .val (.int p4), .val (.int p5), .val (.int (3 : Int32)), .val (.int (0 : Int32)), .val (.ref b176), .val (.ref b177), .val (.ref b178), .val (.ref b265), .val (.ref b269), .val (.int (1 : Int32)), .val (.int (1 : Int32)), .val (.ref b176), .val (.ref b176)] [(.ref b176), (.ref b176)])) rfl (by rw [hml]; rfl) (Steps.refl _) (argsL := [(.ref b176)]) (rest := []) (lenOf pd_0_5 rfl) rfl (by show 2 * 0 + _ ≤ _; exact Nat.le_of_eq rfl) (hb hby at_222) (fun _ _ => ⟨rfl, rfl, (by decide : 9 + 0 ≤ _), (by decide : 23 + 0 ≤ _)⟩)
    dsimp only [Pt.U, Pt.locs, Pt.cells, Pt.slots] at X274 l274 y274 z274 st274 hQ274
    subst l274 y274 z274
    obtain ⟨rfl, N274q, e274⟩ := hQ274
    have N274 := Fr.app N273 N274q
    refine goT st274 ?_
    show Go _ p e below s _ _ _ (T274.setTop (mkF m 225 #[.val (.int p1), .val (.int p2), .val (.int p3), .val (.int p4), .val (.int p5), .val (.int (3 : Int32)), .val (.int (0 : Int32)), .val (.ref b176), .val (.ref b177), .val (.ref b178), .val (.ref b265), .val (.ref b269), .val (.int (1 : Int32)), .val (.int (1 : Int32)), .val (.ref b176), .val (.ref b176)] [(.int (1 : Int32))]))
    refine goRet X274 hx Bd.notSynchronized Bd.returns rfl (Or.inl ⟨rfl, Or.inr (Or.inl rfl), _, rfl⟩) (hb hby at_225) (by decide) (by decide) (by rw [e274]; refine ⟨rfl, N274⟩)
  · rw [show own_min (1 : Int32) (3 : Int32) = (1 : Int32) from by decide]
    show Go _ p e below s _ _ _ (T178.setTop (mkF m 49 #[.val (.int p1), .val (.int p2), .val (.int p3), .val (.int p4), .val (.int p5), .val (.int (3 : Int32)), .val (.int (1 : Int32)), .val (.ref b176), .val (.ref b177), .val (.ref b178), .unset, .unset, .unset, .unset, .unset, .unset] []))
    refine go (fun _ => XS.iload X178.here hx rfl (hb hby at_49) rfl) ?_
    show Go _ p e below s _ _ _ (T178.setTop (mkF m 51 #[.val (.int p1), .val (.int p2), .val (.int p3), .val (.int p4), .val (.int p5), .val (.int (3 : Int32)), .val (.int (1 : Int32)), .val (.ref b176), .val (.ref b177), .val (.ref b178), .unset, .unset, .unset, .unset, .unset, .unset] [(.int (3 : Int32))]))
    obtain ⟨T275, h275, k275, X275, e275, E275, A275, AE275, O275, st275⟩ := newRE X178 hx hZ hown (hw _ (List.mem_of_getElem? (i := 30) rfl)) (hw _ (List.mem_of_getElem? (i := 31) rfl)) rfl (g := (mkF m 51 #[.val (.int p1), .val (.int p2), .val (.int p3), .val (.int p4), .val (.int p5), .val (.int (3 : Int32)), .val (.int (1 : Int32)), .val (.ref b176), .val (.ref b177), .val (.ref b178), .unset, .unset, .unset, .unset, .unset, .unset] [(.int (3 : Int32))])) rfl (hb hby at_51) rfl (by decide) (cap := 3) (by decide) (by decide) (by decide) (by decide) (ad := "[Ljava/lang/String;") (by first | rfl | decide)
    obtain ⟨b275, g275⟩ : ∃ z, z = T178.heap.size := ⟨_, rfl⟩
    rw [← g275] at A275 AE275 st275
    have lt275_b176_b275 : b176 < b275 := Nat.lt_of_lt_of_le c178_1.lt (Nat.le_of_eq g275.symm)
    have lt275_b177_b275 : b177 < b275 := Nat.lt_of_lt_of_le c178_2.lt (Nat.le_of_eq g275.symm)
    have lt275_b178_b275 : b178 < b275 := Nat.lt_of_lt_of_le u178_3.lt (Nat.le_of_eq g275.symm)
    have G_b275 : n0 ≤ b275 := Nat.le_trans ZN178 (Nat.le_of_eq g275.symm)
    have SZ_b275 : h0.size ≤ b275 := Nat.le_trans KK178.1 (Nat.le_of_eq g275.symm)
    have c275_1 := c178_1.ext E275
    have c275_2 := c178_2.ext E275
    have c275_3 := u178_3.ext E275
    have KK275 : Keep h0 h275 [] := KK178.ext E275
    have ZN275 : n0 ≤ h275.size := Nat.le_trans ZN178 E275.1
    have OL275 := OL178.ext E275
    have V275 : Arv Z h275 b275 k275 (.object "java/lang/String") (3 : Int32) [.null, .null, .null] .null := (Arv.new A275 (by decide)).pad (pad_rep [] .null 3)
    refine go st275 ?_
    show Go _ p e below s _ _ _ (T275.setTop (mkF m 54 #[.val (.int p1), .val (.int p2), .val (.int p3), .val (.int p4), .val (.int p5), .val (.int (3 : Int32)), .val (.int (1 : Int32)), .val (.ref b176), .val (.ref b177), .val (.ref b178), .unset, .unset, .unset, .unset, .unset, .unset] [(.ref b275)]))
    refine go (fun _ => XS.astore X275.here hx rfl (hb hby at_54) rfl rfl (l' := #[.val (.int p1), .val (.int p2), .val (.int p3), .val (.int p4), .val (.int p5), .val (.int (3 : Int32)), .val (.int (1 : Int32)), .val (.ref b176), .val (.ref b177), .val (.ref b178), .val (.ref b275), .unset, .unset, .unset, .unset, .unset]) rfl) ?_
    show Go _ p e below s _ _ _ (T275.setTop (mkF m 56 #[.val (.int p1), .val (.int p2), .val (.int p3), .val (.int p4), .val (.int p5), .val (.int (3 : Int32)), .val (.int (1 : Int32)), .val (.ref b176), .val (.ref b177), .val (.ref b178), .val (.ref b275), .unset, .unset, .unset, .unset, .unset] []))
    refine go (fun _ => XS.iload X275.here hx rfl (hb hby at_56) rfl) ?_
    show Go _ p e below s _ _ _ (T275.setTop (mkF m 58 #[.val (.int p1), .val (.int p2), .val (.int p3), .val (.int p4), .val (.int p5), .val (.int (3 : Int32)), .val (.int (1 : Int32)), .val (.ref b176), .val (.ref b177), .val (.ref b178), .val (.ref b275), .unset, .unset, .unset, .unset, .unset] [(.int (3 : Int32))]))
    refine go (fun _ => XS.iconst X275.here hx rfl (hb hby at_58)) ?_
    show Go _ p e below s _ _ _ (T275.setTop (mkF m 59 #[.val (.int p1), .val (.int p2), .val (.int p3), .val (.int p4), .val (.int p5), .val (.int (3 : Int32)), .val (.int (1 : Int32)), .val (.ref b176), .val (.ref b177), .val (.ref b178), .val (.ref b275), .unset, .unset, .unset, .unset, .unset] [(.int (1 : Int32)), (.int (3 : Int32))]))
    refine go (fun _ => XS.icmpNo X275.here hx rfl (hb hby at_59) rfl (flt (by decide : ¬ ((3 : Int32) < (1 : Int32)))).1) ?_
    show Go _ p e below s _ _ _ (T275.setTop (mkF m 62 #[.val (.int p1), .val (.int p2), .val (.int p3), .val (.int p4), .val (.int p5), .val (.int (3 : Int32)), .val (.int (1 : Int32)), .val (.ref b176), .val (.ref b177), .val (.ref b178), .val (.ref b275), .unset, .unset, .unset, .unset, .unset] []))
    refine go (fun _ => XS.aload X275.here hx rfl (hb hby at_62) rfl rfl) ?_
    show Go _ p e below s _ _ _ (T275.setTop (mkF m 64 #[.val (.int p1), .val (.int p2), .val (.int p3), .val (.int p4), .val (.int p5), .val (.int (3 : Int32)), .val (.int (1 : Int32)), .val (.ref b176), .val (.ref b177), .val (.ref b178), .val (.ref b275), .unset, .unset, .unset, .unset, .unset] [(.ref b275)]))
    refine go (fun _ => XS.iconst X275.here hx rfl (hb hby at_64)) ?_
    show Go _ p e below s _ _ _ (T275.setTop (mkF m 65 #[.val (.int p1), .val (.int p2), .val (.int p3), .val (.int p4), .val (.int p5), .val (.int (3 : Int32)), .val (.int (1 : Int32)), .val (.ref b176), .val (.ref b177), .val (.ref b178), .val (.ref b275), .unset, .unset, .unset, .unset, .unset] [(.int (0 : Int32)), (.ref b275)]))
    refine go (fun _ => XS.aload X275.here hx rfl (hb hby at_65) rfl rfl) ?_
    show Go _ p e below s _ _ _ (T275.setTop (mkF m 67 #[.val (.int p1), .val (.int p2), .val (.int p3), .val (.int p4), .val (.int p5), .val (.int (3 : Int32)), .val (.int (1 : Int32)), .val (.ref b176), .val (.ref b177), .val (.ref b178), .val (.ref b275), .unset, .unset, .unset, .unset, .unset] [(.ref b176), (.int (0 : Int32)), (.ref b275)]))
    obtain ⟨cl276, Ar276, q276, Sz276, Nz276, Hs276, Gs276⟩ := id V275
    have hin276 : ¬ ((0 : Int32) < 0 ∨ cl276.slots.size ≤ ((0 : Int32)).toNatClampNeg) := inb_of Sz276 ⟨by decide, by decide⟩
    obtain ⟨T276, h276, X276, e276, W276, st276⟩ := stR X275 hx hZ e275 Ar276 (j := (0 : Int32)) hin276 rfl (Sto.ofV Ar276 q276 O275 (Ins.self c275_1)) (g := (mkF m 67 #[.val (.int p1), .val (.int p2), .val (.int p3), .val (.int p4), .val (.int p5), .val (.int (3 : Int32)), .val (.int (1 : Int32)), .val (.ref b176), .val (.ref b177), .val (.ref b178), .val (.ref b275), .unset, .unset, .unset, .unset, .unset] [(.ref b176), (.int (0 : Int32)), (.ref b275)])) rfl rfl (hb hby at_67)
    have V276 := Arv.set Ar276 q276 Sz276 Nz276 Hs276 Gs276 rfl W276 0 rfl (Nat.le_of_ble_eq_true rfl)
    have VV276 : Arv Z h276 b275 k275 (.object "java/lang/String") (3 : Int32) [(.ref b176), .null, .null] .null := V276
    have c276_1 := c275_1.wr W276
    have c276_2 := c275_2.wr W276
    have c276_3 := c275_3.wr W276
    have c276_4 := AE275.wr W276
    have KK276 : Keep h0 h276 [] := KK275.wr W276 (Or.inr SZ_b275)
    have ZN276 : n0 ≤ h276.size := Nat.le_trans ZN275 (Keep.of_wr W276).1
    have NN276 := Fr.snoc X276 N178 G_b275
    have OL276 := OL275.wr W276 G_b275
    refine go st276 ?_
    show Go _ p e below s _ _ _ (T276.setTop (mkF m 68 #[.val (.int p1), .val (.int p2), .val (.int p3), .val (.int p4), .val (.int p5), .val (.int (3 : Int32)), .val (.int (1 : Int32)), .val (.ref b176), .val (.ref b177), .val (.ref b178), .val (.ref b275), .unset, .unset, .unset, .unset, .unset] []))
    refine go (fun _ => XS.iload X276.here hx rfl (hb hby at_68) rfl) ?_
    show Go _ p e below s _ _ _ (T276.setTop (mkF m 70 #[.val (.int p1), .val (.int p2), .val (.int p3), .val (.int p4), .val (.int p5), .val (.int (3 : Int32)), .val (.int (1 : Int32)), .val (.ref b176), .val (.ref b177), .val (.ref b178), .val (.ref b275), .unset, .unset, .unset, .unset, .unset] [(.int (3 : Int32))]))
    refine go (fun _ => XS.iconst X276.here hx rfl (hb hby at_70)) ?_
    show Go _ p e below s _ _ _ (T276.setTop (mkF m 71 #[.val (.int p1), .val (.int p2), .val (.int p3), .val (.int p4), .val (.int p5), .val (.int (3 : Int32)), .val (.int (1 : Int32)), .val (.ref b176), .val (.ref b177), .val (.ref b178), .val (.ref b275), .unset, .unset, .unset, .unset, .unset] [(.int (2 : Int32)), (.int (3 : Int32))]))
    refine go (fun _ => XS.icmpNo X276.here hx rfl (hb hby at_71) rfl (flt (by decide : ¬ ((3 : Int32) < (2 : Int32)))).1) ?_
    show Go _ p e below s _ _ _ (T276.setTop (mkF m 74 #[.val (.int p1), .val (.int p2), .val (.int p3), .val (.int p4), .val (.int p5), .val (.int (3 : Int32)), .val (.int (1 : Int32)), .val (.ref b176), .val (.ref b177), .val (.ref b178), .val (.ref b275), .unset, .unset, .unset, .unset, .unset] []))
    refine go (fun _ => XS.aload X276.here hx rfl (hb hby at_74) rfl rfl) ?_
    show Go _ p e below s _ _ _ (T276.setTop (mkF m 76 #[.val (.int p1), .val (.int p2), .val (.int p3), .val (.int p4), .val (.int p5), .val (.int (3 : Int32)), .val (.int (1 : Int32)), .val (.ref b176), .val (.ref b177), .val (.ref b178), .val (.ref b275), .unset, .unset, .unset, .unset, .unset] [(.ref b275)]))
    refine go (fun _ => XS.iconst X276.here hx rfl (hb hby at_76)) ?_
    show Go _ p e below s _ _ _ (T276.setTop (mkF m 77 #[.val (.int p1), .val (.int p2), .val (.int p3), .val (.int p4), .val (.int p5), .val (.int (3 : Int32)), .val (.int (1 : Int32)), .val (.ref b176), .val (.ref b177), .val (.ref b178), .val (.ref b275), .unset, .unset, .unset, .unset, .unset] [(.int (1 : Int32)), (.ref b275)]))
    refine go (fun _ => XS.aload X276.here hx rfl (hb hby at_77) rfl rfl) ?_
    show Go _ p e below s _ _ _ (T276.setTop (mkF m 79 #[.val (.int p1), .val (.int p2), .val (.int p3), .val (.int p4), .val (.int p5), .val (.int (3 : Int32)), .val (.int (1 : Int32)), .val (.ref b176), .val (.ref b177), .val (.ref b178), .val (.ref b275), .unset, .unset, .unset, .unset, .unset] [(.ref b177), (.int (1 : Int32)), (.ref b275)]))
    obtain ⟨cl277, Ar277, q277, Sz277, Nz277, Hs277, Gs277⟩ := id VV276
    have hin277 : ¬ ((1 : Int32) < 0 ∨ cl277.slots.size ≤ ((1 : Int32)).toNatClampNeg) := inb_of Sz277 ⟨by decide, by decide⟩
    obtain ⟨T277, h277, X277, e277, W277, st277⟩ := stR X276 hx hZ e276 Ar277 (j := (1 : Int32)) hin277 rfl (Sto.ofV Ar277 q277 O275 (Ins.self c276_2)) (g := (mkF m 79 #[.val (.int p1), .val (.int p2), .val (.int p3), .val (.int p4), .val (.int p5), .val (.int (3 : Int32)), .val (.int (1 : Int32)), .val (.ref b176), .val (.ref b177), .val (.ref b178), .val (.ref b275), .unset, .unset, .unset, .unset, .unset] [(.ref b177), (.int (1 : Int32)), (.ref b275)])) rfl rfl (hb hby at_79)
    have V277 := Arv.set Ar277 q277 Sz277 Nz277 Hs277 Gs277 rfl W277 1 rfl (Nat.le_of_ble_eq_true rfl)
    have VV277 : Arv Z h277 b275 k275 (.object "java/lang/String") (3 : Int32) [(.ref b176), (.ref b177), .null] .null := V277
    have c277_1 := c276_1.wr W277
    have c277_2 := c276_2.wr W277
    have c277_3 := c276_3.wr W277
    have c277_4 := c276_4.wr W277
    have KK277 : Keep h0 h277 [] := KK276.wr W277 (Or.inr SZ_b275)
    have ZN277 : n0 ≤ h277.size := Nat.le_trans ZN276 (Keep.of_wr W277).1
    have NN277 := Fr.snoc X277 NN276 G_b275
    have OL277 := OL276.wr W277 G_b275
    refine go st277 ?_
    show Go _ p e below s _ _ _ (T277.setTop (mkF m 80 #[.val (.int p1), .val (.int p2), .val (.int p3), .val (.int p4), .val (.int p5), .val (.int (3 : Int32)), .val (.int (1 : Int32)), .val (.ref b176), .val (.ref b177), .val (.ref b178), .val (.ref b275), .unset, .unset, .unset, .unset, .unset] []))
    refine go (fun _ => XS.iload X277.here hx rfl (hb hby at_80) rfl) ?_
    show Go _ p e below s _ _ _ (T277.setTop (mkF m 82 #[.val (.int p1), .val (.int p2), .val (.int p3), .val (.int p4), .val (.int p5), .val (.int (3 : Int32)), .val (.int (1 : Int32)), .val (.ref b176), .val (.ref b177), .val (.ref b178), .val (.ref b275), .unset, .unset, .unset, .unset, .unset] [(.int (3 : Int32))]))
    refine go (fun _ => XS.iconst X277.here hx rfl (hb hby at_82)) ?_
    show Go _ p e below s _ _ _ (T277.setTop (mkF m 83 #[.val (.int p1), .val (.int p2), .val (.int p3), .val (.int p4), .val (.int p5), .val (.int (3 : Int32)), .val (.int (1 : Int32)), .val (.ref b176), .val (.ref b177), .val (.ref b178), .val (.ref b275), .unset, .unset, .unset, .unset, .unset] [(.int (3 : Int32)), (.int (3 : Int32))]))
    refine go (fun _ => XS.icmpNo X277.here hx rfl (hb hby at_83) rfl (flt (by decide : ¬ ((3 : Int32) < (3 : Int32)))).1) ?_
    show Go _ p e below s _ _ _ (T277.setTop (mkF m 86 #[.val (.int p1), .val (.int p2), .val (.int p3), .val (.int p4), .val (.int p5), .val (.int (3 : Int32)), .val (.int (1 : Int32)), .val (.ref b176), .val (.ref b177), .val (.ref b178), .val (.ref b275), .unset, .unset, .unset, .unset, .unset] []))
    refine go (fun _ => XS.aload X277.here hx rfl (hb hby at_86) rfl rfl) ?_
    show Go _ p e below s _ _ _ (T277.setTop (mkF m 88 #[.val (.int p1), .val (.int p2), .val (.int p3), .val (.int p4), .val (.int p5), .val (.int (3 : Int32)), .val (.int (1 : Int32)), .val (.ref b176), .val (.ref b177), .val (.ref b178), .val (.ref b275), .unset, .unset, .unset, .unset, .unset] [(.ref b275)]))
    refine go (fun _ => XS.iconst X277.here hx rfl (hb hby at_88)) ?_
    show Go _ p e below s _ _ _ (T277.setTop (mkF m 89 #[.val (.int p1), .val (.int p2), .val (.int p3), .val (.int p4), .val (.int p5), .val (.int (3 : Int32)), .val (.int (1 : Int32)), .val (.ref b176), .val (.ref b177), .val (.ref b178), .val (.ref b275), .unset, .unset, .unset, .unset, .unset] [(.int (2 : Int32)), (.ref b275)]))
    refine go (fun _ => XS.aload X277.here hx rfl (hb hby at_89) rfl rfl) ?_
    show Go _ p e below s _ _ _ (T277.setTop (mkF m 91 #[.val (.int p1), .val (.int p2), .val (.int p3), .val (.int p4), .val (.int p5), .val (.int (3 : Int32)), .val (.int (1 : Int32)), .val (.ref b176), .val (.ref b177), .val (.ref b178), .val (.ref b275), .unset, .unset, .unset, .unset, .unset] [(.ref b178), (.int (2 : Int32)), (.ref b275)]))
    obtain ⟨cl278, Ar278, q278, Sz278, Nz278, Hs278, Gs278⟩ := id VV277
    have hin278 : ¬ ((2 : Int32) < 0 ∨ cl278.slots.size ≤ ((2 : Int32)).toNatClampNeg) := inb_of Sz278 ⟨by decide, by decide⟩
    obtain ⟨T278, h278, X278, e278, W278, st278⟩ := stR X277 hx hZ e277 Ar278 (j := (2 : Int32)) hin278 rfl (Sto.ofV Ar278 q278 O275 (Ins.self c277_3)) (g := (mkF m 91 #[.val (.int p1), .val (.int p2), .val (.int p3), .val (.int p4), .val (.int p5), .val (.int (3 : Int32)), .val (.int (1 : Int32)), .val (.ref b176), .val (.ref b177), .val (.ref b178), .val (.ref b275), .unset, .unset, .unset, .unset, .unset] [(.ref b178), (.int (2 : Int32)), (.ref b275)])) rfl rfl (hb hby at_91)
    have V278 := Arv.set Ar278 q278 Sz278 Nz278 Hs278 Gs278 rfl W278 2 rfl (Nat.le_of_ble_eq_true rfl)
    have VV278 : Arv Z h278 b275 k275 (.object "java/lang/String") (3 : Int32) [(.ref b176), (.ref b177), (.ref b178)] .null := V278
    have c278_1 := c277_1.wr W278
    have c278_2 := c277_2.wr W278
    have c278_3 := c277_3.wr W278
    have c278_4 := c277_4.wr W278
    have KK278 : Keep h0 h278 [] := KK277.wr W278 (Or.inr SZ_b275)
    have ZN278 : n0 ≤ h278.size := Nat.le_trans ZN277 (Keep.of_wr W278).1
    have NN278 := Fr.snoc X278 NN277 G_b275
    have OL278 := OL277.wr W278 G_b275
    refine go st278 ?_
    show Go _ p e below s _ _ _ (T278.setTop (mkF m 92 #[.val (.int p1), .val (.int p2), .val (.int p3), .val (.int p4), .val (.int p5), .val (.int (3 : Int32)), .val (.int (1 : Int32)), .val (.ref b176), .val (.ref b177), .val (.ref b178), .val (.ref b275), .unset, .unset, .unset, .unset, .unset] []))
    obtain ⟨T279, h279, X279, e279, E279, A279, D279, -, st279⟩ := newO X278 hx hZ hown (hw _ (List.mem_of_getElem? (i := 32) rfl)) (hw _ (List.mem_of_getElem? (i := 33) rfl)) (hw _ (List.mem_of_getElem? (i := 34) rfl)) e278 (g := (mkF m 92 #[.val (.int p1), .val (.int p2), .val (.int p3), .val (.int p4), .val (.int p5), .val (.int (3 : Int32)), .val (.int (1 : Int32)), .val (.ref b176), .val (.ref b177), .val (.ref b178), .val (.ref b275), .unset, .unset, .unset, .unset, .unset] [])) rfl (hb hby at_92) (by decide) (by decide)
    obtain ⟨b279, g279⟩ : ∃ z, z = h278.size := ⟨_, rfl⟩
    rw [← g279] at A279 D279 st279
    have lt279_b176_b279 : b176 < b279 := Nat.lt_of_lt_of_le c278_1.lt (Nat.le_of_eq g279.symm)
    have lt279_b177_b279 : b177 < b279 := Nat.lt_of_lt_of_le c278_2.lt (Nat.le_of_eq g279.symm)
    have lt279_b178_b279 : b178 < b279 := Nat.lt_of_lt_of_le c278_3.lt (Nat.le_of_eq g279.symm)
    have lt279_b275_b279 : b275 < b279 := Nat.lt_of_lt_of_le c278_4.lt (Nat.le_of_eq g279.symm)
    have G_b279 : n0 ≤ b279 := Nat.le_trans ZN278 (Nat.le_of_eq g279.symm)
    have SZ_b279 : h0.size ≤ b279 := Nat.le_trans KK278.1 (Nat.le_of_eq g279.symm)
    have c279_1 := c278_1.ext E279
    have c279_2 := c278_2.ext E279
    have c279_3 := c278_3.ext E279
    have c279_4 := c278_4.ext E279
    have c279_5 := VV278.ext E279
    have KK279 : Keep h0 h279 [] := KK278.ext E279
    have ZN279 : n0 ≤ h279.size := Nat.le_trans ZN278 E279.1
    have OL279 := OL278.ext E279
    have F279_49 : Fld Z h279 b279 "com/example/sunder/sunder/cli/Arguments" "args" "[Ljava/lang/String;" .null := D279 (Or.inr (hw _ (List.mem_of_getElem? (i := 49) rfl))) (ty := (.array (.object "java/lang/String"))) (by decide)
    have F279_56 : Fld Z h279 b279 "com/example/sunder/sunder/cli/Arguments" "next" "I" (.int (0 : Int32)) := D279 (Or.inl (hw _ (List.mem_of_getElem? (i := 56) rfl))) (ty := .int) (by decide)
    refine go st279 ?_
    show Go _ p e below s _ _ _ (T279.setTop (mkF m 95 #[.val (.int p1), .val (.int p2), .val (.int p3), .val (.int p4), .val (.int p5), .val (.int (3 : Int32)), .val (.int (1 : Int32)), .val (.ref b176), .val (.ref b177), .val (.ref b178), .val (.ref b275), .unset, .unset, .unset, .unset, .unset] [(.ref b279)]))
    refine go (fun _ => XS.dup X279.here hx rfl (hb hby at_95) rfl rfl) ?_
    show Go _ p e below s _ _ _ (T279.setTop (mkF m 96 #[.val (.int p1), .val (.int p2), .val (.int p3), .val (.int p4), .val (.int p5), .val (.int (3 : Int32)), .val (.int (1 : Int32)), .val (.ref b176), .val (.ref b177), .val (.ref b178), .val (.ref b275), .unset, .unset, .unset, .unset, .unset] [(.ref b279), (.ref b279)]))
    refine go (fun _ => XS.aload X279.here hx rfl (hb hby at_96) rfl rfl) ?_
    show Go _ p e below s _ _ _ (T279.setTop (mkF m 98 #[.val (.int p1), .val (.int p2), .val (.int p3), .val (.int p4), .val (.int p5), .val (.int (3 : Int32)), .val (.int (1 : Int32)), .val (.ref b176), .val (.ref b177), .val (.ref b178), .val (.ref b275), .unset, .unset, .unset, .unset, .unset] [(.ref b275), (.ref b279), (.ref b279)]))
    obtain ⟨_, _, ⟨T280, L280, k280, n280⟩, -, X280, ⟨Lc280, hQ280, l280, y280, z280⟩, st280⟩ := X279.specialBack hx (y := (⟨"com/example/sunder/sunder/cli/Arguments", "<init>", "([Ljava/lang/String;)V"⟩ : MethodName)) rfl hown (mvT hZ (hw _ (List.mem_of_getElem? (i := 35) rfl))) (mvT hZ (hw _ (List.mem_of_getElem? (i := 36) rfl))) (mvT hZ (hw _ (List.mem_of_getElem? (i := 37) rfl))) (by decide) (backOf (W := 1) (rmI3 l Z a0 hw [] b279 b275 k275 b176 b177 b178 .null h279 n0 ZN279 A279 F279_49 F279_56 G_b279 c279_4 c279_5 (Ne.symm (Nat.ne_of_lt lt279_b275_b279))) hZ (hw _ (List.mem_of_getElem? (i := 37) rfl)) (hw _ (List.mem_of_getElem? (i := 34) rfl)) (by decide) (by decide)) (g := (mkF m 98 #[.val (.int p1), .val (.int p2), .val (.int p3), .val (.int p4), .val (.int p5), .val (.int (3 : Int32)), .val (.int (1 : Int32)), .val (.ref b176), .val (.ref b177), .val (.ref b178), .val (.ref b275), .unset, .unset, .unset, .unset, .unset] [(.ref b275), (.ref b279), (.ref b279)])) rfl (by rw [hml]; rfl) (Steps.refl _) (a := b279) (argsL := [(.ref b275)]) (rest := [(.ref b279)]) (lenOf pd_0_2 rfl) rfl (by show 2 * 0 + _ ≤ _; exact Nat.le_of_eq rfl) (hb hby at_98) (fun _ _ => ⟨rfl, e279, (by decide : 8 + 1 ≤ _), (by decide : 20 + 3 ≤ _)⟩)
    dsimp only [Pt.U, Pt.locs, Pt.cells, Pt.slots] at X280 l280 y280 z280 st280 hQ280
    subst l280 y280 z280
    obtain ⟨b280, rfl, N280q, u280_0, u280_1, K280, u280_3, u280_4, u280_5, u280_6⟩ := hQ280
    have N280 := Fr.app NN278 N280q
    have lt280_b176_b280 : b176 < b280 := Nat.lt_of_lt_of_le c279_1.lt u280_0
    have lt280_b177_b280 : b177 < b280 := Nat.lt_of_lt_of_le c279_2.lt u280_0
    have lt280_b178_b280 : b178 < b280 := Nat.lt_of_lt_of_le c279_3.lt u280_0
    have lt280_b275_b280 : b275 < b280 := Nat.lt_of_lt_of_le c279_4.lt u280_0
    have lt280_b279_b280 : b279 < b280 := Nat.lt_of_lt_of_le A279.lt u280_0
    have G_b280 : n0 ≤ b280 := Nat.le_trans ZN279 u280_0
    have SZ_b280 : h0.size ≤ b280 := Nat.le_trans KK279.1 u280_0
    have c280_1 := c279_1.keep K280
    have c280_2 := c279_2.keep K280
    have c280_3 := c279_3.keep K280
    have c280_4 := c279_4.keep K280
    have c280_5 := c279_5.keep K280 (ninS (Nat.ne_of_lt lt279_b275_b279) nin0)
    have c280_6 := A279.keep K280
    have KK280 : Keep h0 T280.heap [] := KK279.trans K280 (allS (P := fun x => x ∈ [] ∨ h0.size ≤ x) (Or.inr SZ_b279) all0)
    have ZN280 : n0 ≤ T280.heap.size := Nat.le_trans ZN279 K280.1
    have OL280 := OL279.keep K280 (allS G_b279 all0)
    refine goT st280 ?_
    show Go _ p e below s _ _ _ (T280.setTop (mkF m 101 #[.val (.int p1), .val (.int p2), .val (.int p3), .val (.int p4), .val (.int p5), .val (.int (3 : Int32)), .val (.int (1 : Int32)), .val (.ref b176), .val (.ref b177), .val (.ref b178), .val (.ref b275), .unset, .unset, .unset, .unset, .unset] [(.ref b279)]))
    refine go (fun _ => XS.astore X280.here hx rfl (hb hby at_101) rfl rfl (l' := #[.val (.int p1), .val (.int p2), .val (.int p3), .val (.int p4), .val (.int p5), .val (.int (3 : Int32)), .val (.int (1 : Int32)), .val (.ref b176), .val (.ref b177), .val (.ref b178), .val (.ref b275), .val (.ref b279), .unset, .unset, .unset, .unset]) rfl) ?_
    show Go _ p e below s _ _ _ (T280.setTop (mkF m 103 #[.val (.int p1), .val (.int p2), .val (.int p3), .val (.int p4), .val (.int p5), .val (.int (3 : Int32)), .val (.int (1 : Int32)), .val (.ref b176), .val (.ref b177), .val (.ref b178), .val (.ref b275), .val (.ref b279), .unset, .unset, .unset, .unset] []))
    refine go (fun _ => XS.iload X280.here hx rfl (hb hby at_103) rfl) ?_
    show Go _ p e below s _ _ _ (T280.setTop (mkF m 105 #[.val (.int p1), .val (.int p2), .val (.int p3), .val (.int p4), .val (.int p5), .val (.int (3 : Int32)), .val (.int (1 : Int32)), .val (.ref b176), .val (.ref b177), .val (.ref b178), .val (.ref b275), .val (.ref b279), .unset, .unset, .unset, .unset] [(.int (1 : Int32))]))
    refine go (fun _ => XS.iconst X280.here hx rfl (hb hby at_105)) ?_
    show Go _ p e below s _ _ _ (T280.setTop (mkF m 106 #[.val (.int p1), .val (.int p2), .val (.int p3), .val (.int p4), .val (.int p5), .val (.int (3 : Int32)), .val (.int (1 : Int32)), .val (.ref b176), .val (.ref b177), .val (.ref b178), .val (.ref b275), .val (.ref b279), .unset, .unset, .unset, .unset] [(.int (1 : Int32)), (.int (1 : Int32))]))
    refine go (fun _ => XS.icmpNo X280.here hx rfl (hb hby at_106) rfl (flt (by decide : ¬ ((1 : Int32) < (1 : Int32)))).1) ?_
    show Go _ p e below s _ _ _ (T280.setTop (mkF m 109 #[.val (.int p1), .val (.int p2), .val (.int p3), .val (.int p4), .val (.int p5), .val (.int (3 : Int32)), .val (.int (1 : Int32)), .val (.ref b176), .val (.ref b177), .val (.ref b178), .val (.ref b275), .val (.ref b279), .unset, .unset, .unset, .unset] []))
    refine go (fun _ => XS.aload X280.here hx rfl (hb hby at_109) rfl rfl) ?_
    show Go _ p e below s _ _ _ (T280.setTop (mkF m 111 #[.val (.int p1), .val (.int p2), .val (.int p3), .val (.int p4), .val (.int p5), .val (.int (3 : Int32)), .val (.int (1 : Int32)), .val (.ref b176), .val (.ref b177), .val (.ref b178), .val (.ref b275), .val (.ref b279), .unset, .unset, .unset, .unset] [(.ref b279)]))
    obtain ⟨cq281, kq281, q281a, q281b, q281c⟩ := isOf hZ rfl c280_6
    obtain ⟨_, _, ⟨T281, L281, k281, n281⟩, -, X281, ⟨Lc281, hQ281, l281, y281, z281⟩, st281⟩ := X280.virtualBack hx (y := (⟨"com/example/sunder/sunder/cli/Arguments", "next", "()Ljava/lang/String;"⟩ : MethodName)) (z := (⟨"com/example/sunder/sunder/cli/Arguments", "next", "()Ljava/lang/String;"⟩ : MethodName)) hown (mvT hZ (hw _ (List.mem_of_getElem? (i := 57) rfl))) (mvT hZ (hw _ (List.mem_of_getElem? (i := 58) rfl))) (notFace_of_selects (args := #[]) (mvT hZ (hw _ (List.mem_of_getElem? (i := 60) rfl)))) (mvT hZ (hw _ (List.mem_of_getElem? (i := 60) rfl))) (mvT hZ (hw _ (List.mem_of_getElem? (i := 59) rfl))) (by decide) (backOf (W := 0) (rmN3_0 l Z a0 hw [] b279 b280 k275 b176 b177 b178 (T280.heap) n0 ZN280 c280_6 u280_3 u280_4 G_b279 u280_6 (Nat.ne_of_lt lt280_b279_b280)) hZ (hw _ (List.mem_of_getElem? (i := 61) rfl)) (hw _ (List.mem_of_getElem? (i := 34) rfl)) (by decide) (by decide)) q281a q281c (g := (mkF m 111 #[.val (.int p1), .val (.int p2), .val (.int p3), .val (.int p4), .val (.int p5), .val (.int (3 : Int32)), .val (.int (1 : Int32)), .val (.ref b176), .val (.ref b177), .val (.ref b178), .val (.ref b275), .val (.ref b279), .unset, .unset, .unset, .unset] [(.ref b279)])) rfl (by rw [hml]; rfl) (Steps.refl _) (argsL := []) (rest := []) (lenOf pd_0_4 rfl) rfl (by show 2 * 0 + _ ≤ _; exact Nat.le_of_eq rfl) (hb hby at_111) (fun _ _ => ⟨rfl, rfl, (by decide : 9 + 0 ≤ _), (by decide : 23 + 0 ≤ _)⟩)
    dsimp only [Pt.U, Pt.locs, Pt.cells, Pt.slots] at X281 l281 y281 z281 st281 hQ281
    subst l281 y281 z281
    obtain ⟨rfl, N281q, K281, u281_1, u281_2⟩ := hQ281
    have N281 := Fr.app N280 N281q
    have c281_1 := c280_1.keep K281
    have c281_2 := c280_2.keep K281
    have c281_3 := c280_3.keep K281
    have c281_4 := c280_4.keep K281
    have c281_5 := c280_5.keep K281 (ninS (Nat.ne_of_lt lt279_b275_b279) nin0)
    have c281_6 := c280_6.keep K281
    have c281_7 := u280_5.keep K281
    have c281_8 := u280_6.keep K281 (ninS (Ne.symm (Nat.ne_of_lt lt280_b279_b280)) nin0)
    have KK281 : Keep h0 T281.heap [] := KK280.trans K281 (allS (P := fun x => x ∈ [] ∨ h0.size ≤ x) (Or.inr SZ_b279) all0)
    have ZN281 : n0 ≤ T281.heap.size := Nat.le_trans ZN280 K281.1
    have OL281 := OL280.keep K281 (allS G_b279 all0)
    refine goT st281 ?_
    show Go _ p e below s _ _ _ (T281.setTop (mkF m 114 #[.val (.int p1), .val (.int p2), .val (.int p3), .val (.int p4), .val (.int p5), .val (.int (3 : Int32)), .val (.int (1 : Int32)), .val (.ref b176), .val (.ref b177), .val (.ref b178), .val (.ref b275), .val (.ref b279), .unset, .unset, .unset, .unset] [(.ref b176)]))
    refine go (fun _ => XS.pop X281.here hx rfl (hb hby at_114) rfl rfl) ?_
    show Go _ p e below s _ _ _ (T281.setTop (mkF m 115 #[.val (.int p1), .val (.int p2), .val (.int p3), .val (.int p4), .val (.int p5), .val (.int (3 : Int32)), .val (.int (1 : Int32)), .val (.ref b176), .val (.ref b177), .val (.ref b178), .val (.ref b275), .val (.ref b279), .unset, .unset, .unset, .unset] []))
    refine go (fun _ => XS.iload X281.here hx rfl (hb hby at_115) rfl) ?_
    show Go _ p e below s _ _ _ (T281.setTop (mkF m 117 #[.val (.int p1), .val (.int p2), .val (.int p3), .val (.int p4), .val (.int p5), .val (.int (3 : Int32)), .val (.int (1 : Int32)), .val (.ref b176), .val (.ref b177), .val (.ref b178), .val (.ref b275), .val (.ref b279), .unset, .unset, .unset, .unset] [(.int (1 : Int32))]))
    refine go (fun _ => XS.iconst X281.here hx rfl (hb hby at_117)) ?_
    show Go _ p e below s _ _ _ (T281.setTop (mkF m 118 #[.val (.int p1), .val (.int p2), .val (.int p3), .val (.int p4), .val (.int p5), .val (.int (3 : Int32)), .val (.int (1 : Int32)), .val (.ref b176), .val (.ref b177), .val (.ref b178), .val (.ref b275), .val (.ref b279), .unset, .unset, .unset, .unset] [(.int (2 : Int32)), (.int (1 : Int32))]))
    refine go (fun _ => XS.icmpYes X281.here hx rfl (pc0 := 118) (pc' := 127) rfl (hb hby at_118) rfl (tlt (by decide : ((1 : Int32) < (2 : Int32)))).1 (by decide) (by decide)) ?_
    show Go _ p e below s _ _ _ (T281.setTop (mkF m 127 #[.val (.int p1), .val (.int p2), .val (.int p3), .val (.int p4), .val (.int p5), .val (.int (3 : Int32)), .val (.int (1 : Int32)), .val (.ref b176), .val (.ref b177), .val (.ref b178), .val (.ref b275), .val (.ref b279), .unset, .unset, .unset, .unset] []))
    refine go (fun _ => XS.iload X281.here hx rfl (hb hby at_127) rfl) ?_
    show Go _ p e below s _ _ _ (T281.setTop (mkF m 129 #[.val (.int p1), .val (.int p2), .val (.int p3), .val (.int p4), .val (.int p5), .val (.int (3 : Int32)), .val (.int (1 : Int32)), .val (.ref b176), .val (.ref b177), .val (.ref b178), .val (.ref b275), .val (.ref b279), .unset, .unset, .unset, .unset] [(.int (1 : Int32))]))
    refine go (fun _ => XS.iconst X281.here hx rfl (hb hby at_129)) ?_
    show Go _ p e below s _ _ _ (T281.setTop (mkF m 130 #[.val (.int p1), .val (.int p2), .val (.int p3), .val (.int p4), .val (.int p5), .val (.int (3 : Int32)), .val (.int (1 : Int32)), .val (.ref b176), .val (.ref b177), .val (.ref b178), .val (.ref b275), .val (.ref b279), .unset, .unset, .unset, .unset] [(.int (3 : Int32)), (.int (1 : Int32))]))
    refine go (fun _ => XS.icmpYes X281.here hx rfl (pc0 := 130) (pc' := 139) rfl (hb hby at_130) rfl (tlt (by decide : ((1 : Int32) < (3 : Int32)))).1 (by decide) (by decide)) ?_
    show Go _ p e below s _ _ _ (T281.setTop (mkF m 139 #[.val (.int p1), .val (.int p2), .val (.int p3), .val (.int p4), .val (.int p5), .val (.int (3 : Int32)), .val (.int (1 : Int32)), .val (.ref b176), .val (.ref b177), .val (.ref b178), .val (.ref b275), .val (.ref b279), .unset, .unset, .unset, .unset] []))
    refine go (fun _ => XS.aload X281.here hx rfl (hb hby at_139) rfl rfl) ?_
    show Go _ p e below s _ _ _ (T281.setTop (mkF m 141 #[.val (.int p1), .val (.int p2), .val (.int p3), .val (.int p4), .val (.int p5), .val (.int (3 : Int32)), .val (.int (1 : Int32)), .val (.ref b176), .val (.ref b177), .val (.ref b178), .val (.ref b275), .val (.ref b279), .unset, .unset, .unset, .unset] [(.ref b279)]))
    obtain ⟨cq282, kq282, q282a, q282b, q282c⟩ := isOf hZ rfl c281_6
    obtain ⟨_, _, ⟨T282, L282, k282, n282⟩, -, X282, ⟨Lc282, hQ282, l282, y282, z282⟩, st282⟩ := X281.virtualBack hx (y := (⟨"com/example/sunder/sunder/cli/Arguments", "hasNext", "()Z"⟩ : MethodName)) (z := (⟨"com/example/sunder/sunder/cli/Arguments", "hasNext", "()Z"⟩ : MethodName)) hown (mvT hZ (hw _ (List.mem_of_getElem? (i := 50) rfl))) (mvT hZ (hw _ (List.mem_of_getElem? (i := 51) rfl))) (notFace_of_selects (args := #[]) (mvT hZ (hw _ (List.mem_of_getElem? (i := 53) rfl)))) (mvT hZ (hw _ (List.mem_of_getElem? (i := 53) rfl))) (mvT hZ (hw _ (List.mem_of_getElem? (i := 52) rfl))) (by decide) (backOf (W := 0) (rmH3_1 l Z a0 hw [] b279 b280 k275 b176 b177 b178 (T281.heap) n0 ZN281 u281_1 u281_2 c281_8) hZ (hw _ (List.mem_of_getElem? (i := 54) rfl)) (hw _ (List.mem_of_getElem? (i := 34) rfl)) (by decide) (by decide)) q282a q282c (g := (mkF m 141 #[.val (.int p1), .val (.int p2), .val (.int p3), .val (.int p4), .val (.int p5), .val (.int (3 : Int32)), .val (.int (1 : Int32)), .val (.ref b176), .val (.ref b177), .val (.ref b178), .val (.ref b275), .val (.ref b279), .unset, .unset, .unset, .unset] [(.ref b279)])) rfl (by rw [hml]; rfl) (Steps.refl _) (argsL := []) (rest := []) (lenOf pd_0_3 rfl) rfl (by show 2 * 0 + _ ≤ _; exact Nat.le_of_eq rfl) (hb hby at_141) (fun _ _ => ⟨rfl, rfl, (by decide : 9 + 0 ≤ _), (by decide : 23 + 0 ≤ _)⟩)
    dsimp only [Pt.U, Pt.locs, Pt.cells, Pt.slots] at X282 l282 y282 z282 st282 hQ282
    subst l282 y282 z282
    obtain ⟨rfl, N282q, e282⟩ := hQ282
    have N282 := Fr.app N281 N282q
    refine goT st282 ?_
    show Go _ p e below s _ _ _ (T282.setTop (mkF m 144 #[.val (.int p1), .val (.int p2), .val (.int p3), .val (.int p4), .val (.int p5), .val (.int (3 : Int32)), .val (.int (1 : Int32)), .val (.ref b176), .val (.ref b177), .val (.ref b178), .val (.ref b275), .val (.ref b279), .unset, .unset, .unset, .unset] [(.int (1 : Int32))]))
    refine go (fun _ => XS.istore X282.here hx rfl (hb hby at_144) rfl (l' := #[.val (.int p1), .val (.int p2), .val (.int p3), .val (.int p4), .val (.int p5), .val (.int (3 : Int32)), .val (.int (1 : Int32)), .val (.ref b176), .val (.ref b177), .val (.ref b178), .val (.ref b275), .val (.ref b279), .val (.int (1 : Int32)), .unset, .unset, .unset]) rfl) ?_
    show Go _ p e below s _ _ _ (T282.setTop (mkF m 146 #[.val (.int p1), .val (.int p2), .val (.int p3), .val (.int p4), .val (.int p5), .val (.int (3 : Int32)), .val (.int (1 : Int32)), .val (.ref b176), .val (.ref b177), .val (.ref b178), .val (.ref b275), .val (.ref b279), .val (.int (1 : Int32)), .unset, .unset, .unset] []))
    refine go (fun _ => XS.aload X282.here hx rfl (hb hby at_146) rfl rfl) ?_
    show Go _ p e below s _ _ _ (T282.setTop (mkF m 148 #[.val (.int p1), .val (.int p2), .val (.int p3), .val (.int p4), .val (.int p5), .val (.int (3 : Int32)), .val (.int (1 : Int32)), .val (.ref b176), .val (.ref b177), .val (.ref b178), .val (.ref b275), .val (.ref b279), .val (.int (1 : Int32)), .unset, .unset, .unset] [(.ref b279)]))
    obtain ⟨cq283, kq283, q283a, q283b, q283c⟩ := isOf hZ e282 c281_6
    obtain ⟨_, _, ⟨T283, L283, k283, n283⟩, -, X283, ⟨Lc283, hQ283, l283, y283, z283⟩, st283⟩ := X282.virtualBack hx (y := (⟨"com/example/sunder/sunder/cli/Arguments", "hasNext", "()Z"⟩ : MethodName)) (z := (⟨"com/example/sunder/sunder/cli/Arguments", "hasNext", "()Z"⟩ : MethodName)) hown (mvT hZ (hw _ (List.mem_of_getElem? (i := 50) rfl))) (mvT hZ (hw _ (List.mem_of_getElem? (i := 51) rfl))) (notFace_of_selects (args := #[]) (mvT hZ (hw _ (List.mem_of_getElem? (i := 53) rfl)))) (mvT hZ (hw _ (List.mem_of_getElem? (i := 53) rfl))) (mvT hZ (hw _ (List.mem_of_getElem? (i := 52) rfl))) (by decide) (backOf (W := 0) (rmH3_1 l Z a0 hw [] b279 b280 k275 b176 b177 b178 (T281.heap) n0 ZN281 u281_1 u281_2 c281_8) hZ (hw _ (List.mem_of_getElem? (i := 54) rfl)) (hw _ (List.mem_of_getElem? (i := 34) rfl)) (by decide) (by decide)) q283a q283c (g := (mkF m 148 #[.val (.int p1), .val (.int p2), .val (.int p3), .val (.int p4), .val (.int p5), .val (.int (3 : Int32)), .val (.int (1 : Int32)), .val (.ref b176), .val (.ref b177), .val (.ref b178), .val (.ref b275), .val (.ref b279), .val (.int (1 : Int32)), .unset, .unset, .unset] [(.ref b279)])) rfl (by rw [hml]; rfl) (Steps.refl _) (argsL := []) (rest := []) (lenOf pd_0_3 rfl) rfl (by show 2 * 0 + _ ≤ _; exact Nat.le_of_eq rfl) (hb hby at_148) (fun _ _ => ⟨rfl, e282, (by decide : 9 + 0 ≤ _), (by decide : 23 + 0 ≤ _)⟩)
    dsimp only [Pt.U, Pt.locs, Pt.cells, Pt.slots] at X283 l283 y283 z283 st283 hQ283
    subst l283 y283 z283
    obtain ⟨rfl, N283q, e283⟩ := hQ283
    have N283 := Fr.app N282 N283q
    refine goT st283 ?_
    show Go _ p e below s _ _ _ (T283.setTop (mkF m 151 #[.val (.int p1), .val (.int p2), .val (.int p3), .val (.int p4), .val (.int p5), .val (.int (3 : Int32)), .val (.int (1 : Int32)), .val (.ref b176), .val (.ref b177), .val (.ref b178), .val (.ref b275), .val (.ref b279), .val (.int (1 : Int32)), .unset, .unset, .unset] [(.int (1 : Int32))]))
    refine go (fun _ => XS.istore X283.here hx rfl (hb hby at_151) rfl (l' := #[.val (.int p1), .val (.int p2), .val (.int p3), .val (.int p4), .val (.int p5), .val (.int (3 : Int32)), .val (.int (1 : Int32)), .val (.ref b176), .val (.ref b177), .val (.ref b178), .val (.ref b275), .val (.ref b279), .val (.int (1 : Int32)), .val (.int (1 : Int32)), .unset, .unset]) rfl) ?_
    show Go _ p e below s _ _ _ (T283.setTop (mkF m 153 #[.val (.int p1), .val (.int p2), .val (.int p3), .val (.int p4), .val (.int p5), .val (.int (3 : Int32)), .val (.int (1 : Int32)), .val (.ref b176), .val (.ref b177), .val (.ref b178), .val (.ref b275), .val (.ref b279), .val (.int (1 : Int32)), .val (.int (1 : Int32)), .unset, .unset] []))
    refine go (fun _ => XS.iload X283.here hx rfl (hb hby at_153) rfl) ?_
    show Go _ p e below s _ _ _ (T283.setTop (mkF m 155 #[.val (.int p1), .val (.int p2), .val (.int p3), .val (.int p4), .val (.int p5), .val (.int (3 : Int32)), .val (.int (1 : Int32)), .val (.ref b176), .val (.ref b177), .val (.ref b178), .val (.ref b275), .val (.ref b279), .val (.int (1 : Int32)), .val (.int (1 : Int32)), .unset, .unset] [(.int (1 : Int32))]))
    refine go (fun _ => XS.iload X283.here hx rfl (hb hby at_155) rfl) ?_
    show Go _ p e below s _ _ _ (T283.setTop (mkF m 157 #[.val (.int p1), .val (.int p2), .val (.int p3), .val (.int p4), .val (.int p5), .val (.int (3 : Int32)), .val (.int (1 : Int32)), .val (.ref b176), .val (.ref b177), .val (.ref b178), .val (.ref b275), .val (.ref b279), .val (.int (1 : Int32)), .val (.int (1 : Int32)), .unset, .unset] [(.int (1 : Int32)), (.int (1 : Int32))]))
    refine go (fun _ => XS.iload X283.here hx rfl (hb hby at_157) rfl) ?_
    show Go _ p e below s _ _ _ (T283.setTop (mkF m 159 #[.val (.int p1), .val (.int p2), .val (.int p3), .val (.int p4), .val (.int p5), .val (.int (3 : Int32)), .val (.int (1 : Int32)), .val (.ref b176), .val (.ref b177), .val (.ref b178), .val (.ref b275), .val (.ref b279), .val (.int (1 : Int32)), .val (.int (1 : Int32)), .unset, .unset] [(.int (3 : Int32)), (.int (1 : Int32)), (.int (1 : Int32))]))
    refine go (fun _ => XS.icmpNo X283.here hx rfl (hb hby at_159) rfl (tlt (by decide : ((1 : Int32) < (3 : Int32)))).2.1) ?_
    show Go _ p e below s _ _ _ (T283.setTop (mkF m 162 #[.val (.int p1), .val (.int p2), .val (.int p3), .val (.int p4), .val (.int p5), .val (.int (3 : Int32)), .val (.int (1 : Int32)), .val (.ref b176), .val (.ref b177), .val (.ref b178), .val (.ref b275), .val (.ref b279), .val (.int (1 : Int32)), .val (.int (1 : Int32)), .unset, .unset] [(.int (1 : Int32))]))
    refine go (fun _ => XS.iconst X283.here hx rfl (hb hby at_162)) ?_
    show Go _ p e below s _ _ _ (T283.setTop (mkF m 163 #[.val (.int p1), .val (.int p2), .val (.int p3), .val (.int p4), .val (.int p5), .val (.int (3 : Int32)), .val (.int (1 : Int32)), .val (.ref b176), .val (.ref b177), .val (.ref b178), .val (.ref b275), .val (.ref b279), .val (.int (1 : Int32)), .val (.int (1 : Int32)), .unset, .unset] [(.int (1 : Int32)), (.int (1 : Int32))]))
    refine go (fun _ => XS.goto X283.here hx rfl (pc0 := 163) (pc' := 167) rfl (hb hby at_163) (by decide) (by decide)) ?_
    show Go _ p e below s _ _ _ (T283.setTop (mkF m 167 #[.val (.int p1), .val (.int p2), .val (.int p3), .val (.int p4), .val (.int p5), .val (.int (3 : Int32)), .val (.int (1 : Int32)), .val (.ref b176), .val (.ref b177), .val (.ref b178), .val (.ref b275), .val (.ref b279), .val (.int (1 : Int32)), .val (.int (1 : Int32)), .unset, .unset] [(.int (1 : Int32)), (.int (1 : Int32))]))
    refine go (fun _ => XS.icmpNo X283.here hx rfl (hb hby at_167) rfl (teq (rfl : (1 : Int32) = (1 : Int32))).2) ?_
    show Go _ p e below s _ _ _ (T283.setTop (mkF m 170 #[.val (.int p1), .val (.int p2), .val (.int p3), .val (.int p4), .val (.int p5), .val (.int (3 : Int32)), .val (.int (1 : Int32)), .val (.ref b176), .val (.ref b177), .val (.ref b178), .val (.ref b275), .val (.ref b279), .val (.int (1 : Int32)), .val (.int (1 : Int32)), .unset, .unset] []))
    refine go (fun _ => XS.iload X283.here hx rfl (hb hby at_170) rfl) ?_
    show Go _ p e below s _ _ _ (T283.setTop (mkF m 172 #[.val (.int p1), .val (.int p2), .val (.int p3), .val (.int p4), .val (.int p5), .val (.int (3 : Int32)), .val (.int (1 : Int32)), .val (.ref b176), .val (.ref b177), .val (.ref b178), .val (.ref b275), .val (.ref b279), .val (.int (1 : Int32)), .val (.int (1 : Int32)), .unset, .unset] [(.int (1 : Int32))]))
    refine go (fun _ => XS.iload X283.here hx rfl (hb hby at_172) rfl) ?_
    show Go _ p e below s _ _ _ (T283.setTop (mkF m 174 #[.val (.int p1), .val (.int p2), .val (.int p3), .val (.int p4), .val (.int p5), .val (.int (3 : Int32)), .val (.int (1 : Int32)), .val (.ref b176), .val (.ref b177), .val (.ref b178), .val (.ref b275), .val (.ref b279), .val (.int (1 : Int32)), .val (.int (1 : Int32)), .unset, .unset] [(.int (1 : Int32)), (.int (1 : Int32))]))
    refine go (fun _ => XS.icmpYes X283.here hx rfl (pc0 := 174) (pc' := 179) rfl (hb hby at_174) rfl (teq (rfl : (1 : Int32) = (1 : Int32))).1 (by decide) (by decide)) ?_
    show Go _ p e below s _ _ _ (T283.setTop (mkF m 179 #[.val (.int p1), .val (.int p2), .val (.int p3), .val (.int p4), .val (.int p5), .val (.int (3 : Int32)), .val (.int (1 : Int32)), .val (.ref b176), .val (.ref b177), .val (.ref b178), .val (.ref b275), .val (.ref b279), .val (.int (1 : Int32)), .val (.int (1 : Int32)), .unset, .unset] []))
    refine go (fun _ => XS.iload X283.here hx rfl (hb hby at_179) rfl) ?_
    show Go _ p e below s _ _ _ (T283.setTop (mkF m 181 #[.val (.int p1), .val (.int p2), .val (.int p3), .val (.int p4), .val (.int p5), .val (.int (3 : Int32)), .val (.int (1 : Int32)), .val (.ref b176), .val (.ref b177), .val (.ref b178), .val (.ref b275), .val (.ref b279), .val (.int (1 : Int32)), .val (.int (1 : Int32)), .unset, .unset] [(.int (1 : Int32))]))
    refine go (fun _ => XS.ifYes X283.here hx rfl (pc0 := 181) (pc' := 186) rfl (hb hby at_181) rfl ((if0 _ _).trans (feq (by decide : ¬ ((1 : Int32) = (0 : Int32)))).2) (by decide) (by decide)) ?_
    show Go _ p e below s _ _ _ (T283.setTop (mkF m 186 #[.val (.int p1), .val (.int p2), .val (.int p3), .val (.int p4), .val (.int p5), .val (.int (3 : Int32)), .val (.int (1 : Int32)), .val (.ref b176), .val (.ref b177), .val (.ref b178), .val (.ref b275), .val (.ref b279), .val (.int (1 : Int32)), .val (.int (1 : Int32)), .unset, .unset] []))
    refine go (fun _ => XS.aload X283.here hx rfl (hb hby at_186) rfl rfl) ?_
    show Go _ p e below s _ _ _ (T283.setTop (mkF m 188 #[.val (.int p1), .val (.int p2), .val (.int p3), .val (.int p4), .val (.int p5), .val (.int (3 : Int32)), .val (.int (1 : Int32)), .val (.ref b176), .val (.ref b177), .val (.ref b178), .val (.ref b275), .val (.ref b279), .val (.int (1 : Int32)), .val (.int (1 : Int32)), .unset, .unset] [(.ref b279)]))
    obtain ⟨cq284, kq284, q284a, q284b, q284c⟩ := isOf hZ e283 c281_6
    obtain ⟨_, _, ⟨T284, L284, k284, n284⟩, -, X284, ⟨Lc284, hQ284, l284, y284, z284⟩, st284⟩ := X283.virtualBack hx (y := (⟨"com/example/sunder/sunder/cli/Arguments", "next", "()Ljava/lang/String;"⟩ : MethodName)) (z := (⟨"com/example/sunder/sunder/cli/Arguments", "next", "()Ljava/lang/String;"⟩ : MethodName)) hown (mvT hZ (hw _ (List.mem_of_getElem? (i := 57) rfl))) (mvT hZ (hw _ (List.mem_of_getElem? (i := 58) rfl))) (notFace_of_selects (args := #[]) (mvT hZ (hw _ (List.mem_of_getElem? (i := 60) rfl)))) (mvT hZ (hw _ (List.mem_of_getElem? (i := 60) rfl))) (mvT hZ (hw _ (List.mem_of_getElem? (i := 59) rfl))) (by decide) (backOf (W := 0) (rmN3_1 l Z a0 hw [] b279 b280 k275 b176 b177 b178 (T281.heap) n0 ZN281 c281_6 u281_1 u281_2 G_b279 c281_8 (Nat.ne_of_lt lt280_b279_b280)) hZ (hw _ (List.mem_of_getElem? (i := 61) rfl)) (hw _ (List.mem_of_getElem? (i := 34) rfl)) (by decide) (by decide)) q284a q284c (g := (mkF m 188 #[.val (.int p1), .val (.int p2), .val (.int p3), .val (.int p4), .val (.int p5), .val (.int (3 : Int32)), .val (.int (1 : Int32)), .val (.ref b176), .val (.ref b177), .val (.ref b178), .val (.ref b275), .val (.ref b279), .val (.int (1 : Int32)), .val (.int (1 : Int32)), .unset, .unset] [(.ref b279)])) rfl (by rw [hml]; rfl) (Steps.refl _) (argsL := []) (rest := []) (lenOf pd_0_4 rfl) rfl (by show 2 * 0 + _ ≤ _; exact Nat.le_of_eq rfl) (hb hby at_188) (fun _ _ => ⟨rfl, e283, (by decide : 9 + 0 ≤ _), (by decide : 23 + 0 ≤ _)⟩)
    dsimp only [Pt.U, Pt.locs, Pt.cells, Pt.slots] at X284 l284 y284 z284 st284 hQ284
    subst l284 y284 z284
    obtain ⟨rfl, N284q, K284, u284_1, u284_2⟩ := hQ284
    have N284 := Fr.app N283 N284q
    have c284_1 := c281_1.keep K284
    have c284_2 := c281_2.keep K284
    have c284_3 := c281_3.keep K284
    have c284_4 := c281_4.keep K284
    have c284_5 := c281_5.keep K284 (ninS (Nat.ne_of_lt lt279_b275_b279) nin0)
    have c284_6 := c281_6.keep K284
    have c284_7 := c281_7.keep K284
    have c284_8 := c281_8.keep K284 (ninS (Ne.symm (Nat.ne_of_lt lt280_b279_b280)) nin0)
    have KK284 : Keep h0 T284.heap [] := KK281.trans K284 (allS (P := fun x => x ∈ [] ∨ h0.size ≤ x) (Or.inr SZ_b279) all0)
    have ZN284 : n0 ≤ T284.heap.size := Nat.le_trans ZN281 K284.1
    have OL284 := OL281.keep K284 (allS G_b279 all0)
    refine goT st284 ?_
    show Go _ p e below s _ _ _ (T284.setTop (mkF m 191 #[.val (.int p1), .val (.int p2), .val (.int p3), .val (.int p4), .val (.int p5), .val (.int (3 : Int32)), .val (.int (1 : Int32)), .val (.ref b176), .val (.ref b177), .val (.ref b178), .val (.ref b275), .val (.ref b279), .val (.int (1 : Int32)), .val (.int (1 : Int32)), .unset, .unset] [(.ref b177)]))
    refine go (fun _ => XS.astore X284.here hx rfl (hb hby at_191) rfl rfl (l' := #[.val (.int p1), .val (.int p2), .val (.int p3), .val (.int p4), .val (.int p5), .val (.int (3 : Int32)), .val (.int (1 : Int32)), .val (.ref b176), .val (.ref b177), .val (.ref b178), .val (.ref b275), .val (.ref b279), .val (.int (1 : Int32)), .val (.int (1 : Int32)), .val (.ref b177), .unset]) rfl) ?_
    show Go _ p e below s _ _ _ (T284.setTop (mkF m 193 #[.val (.int p1), .val (.int p2), .val (.int p3), .val (.int p4), .val (.int p5), .val (.int (3 : Int32)), .val (.int (1 : Int32)), .val (.ref b176), .val (.ref b177), .val (.ref b178), .val (.ref b275), .val (.ref b279), .val (.int (1 : Int32)), .val (.int (1 : Int32)), .val (.ref b177), .unset] []))
    refine go (fun _ => XS.iload X284.here hx rfl (hb hby at_193) rfl) ?_
    show Go _ p e below s _ _ _ (T284.setTop (mkF m 195 #[.val (.int p1), .val (.int p2), .val (.int p3), .val (.int p4), .val (.int p5), .val (.int (3 : Int32)), .val (.int (1 : Int32)), .val (.ref b176), .val (.ref b177), .val (.ref b178), .val (.ref b275), .val (.ref b279), .val (.int (1 : Int32)), .val (.int (1 : Int32)), .val (.ref b177), .unset] [(.int (1 : Int32))]))
    refine go (fun _ => XS.ifYes X284.here hx rfl (pc0 := 195) (pc' := 203) rfl (hb hby at_195) rfl ((if0 _ _).trans (feq (by decide : ¬ ((1 : Int32) = (0 : Int32)))).2) (by decide) (by decide)) ?_
    show Go _ p e below s _ _ _ (T284.setTop (mkF m 203 #[.val (.int p1), .val (.int p2), .val (.int p3), .val (.int p4), .val (.int p5), .val (.int (3 : Int32)), .val (.int (1 : Int32)), .val (.ref b176), .val (.ref b177), .val (.ref b178), .val (.ref b275), .val (.ref b279), .val (.int (1 : Int32)), .val (.int (1 : Int32)), .val (.ref b177), .unset] []))
    refine go (fun _ => XS.iload X284.here hx rfl (hb hby at_203) rfl) ?_
    show Go _ p e below s _ _ _ (T284.setTop (mkF m 205 #[.val (.int p1), .val (.int p2), .val (.int p3), .val (.int p4), .val (.int p5), .val (.int (3 : Int32)), .val (.int (1 : Int32)), .val (.ref b176), .val (.ref b177), .val (.ref b178), .val (.ref b275), .val (.ref b279), .val (.int (1 : Int32)), .val (.int (1 : Int32)), .val (.ref b177), .unset] [(.int (1 : Int32))]))
    refine go (fun _ => XS.iconst X284.here hx rfl (hb hby at_205)) ?_
    show Go _ p e below s _ _ _ (T284.setTop (mkF m 206 #[.val (.int p1), .val (.int p2), .val (.int p3), .val (.int p4), .val (.int p5), .val (.int (3 : Int32)), .val (.int (1 : Int32)), .val (.ref b176), .val (.ref b177), .val (.ref b178), .val (.ref b275), .val (.ref b279), .val (.int (1 : Int32)), .val (.int (1 : Int32)), .val (.ref b177), .unset] [(.int (1 : Int32)), (.int (1 : Int32))]))
    refine go (fun _ => XS.icmpNo X284.here hx rfl (hb hby at_206) rfl (teq (rfl : (1 : Int32) = (1 : Int32))).2) ?_
    show Go _ p e below s _ _ _ (T284.setTop (mkF m 209 #[.val (.int p1), .val (.int p2), .val (.int p3), .val (.int p4), .val (.int p5), .val (.int (3 : Int32)), .val (.int (1 : Int32)), .val (.ref b176), .val (.ref b177), .val (.ref b178), .val (.ref b275), .val (.ref b279), .val (.int (1 : Int32)), .val (.int (1 : Int32)), .val (.ref b177), .unset] []))
    refine go (fun _ => XS.aload X284.here hx rfl (hb hby at_209) rfl rfl) ?_
    show Go _ p e below s _ _ _ (T284.setTop (mkF m 211 #[.val (.int p1), .val (.int p2), .val (.int p3), .val (.int p4), .val (.int p5), .val (.int (3 : Int32)), .val (.int (1 : Int32)), .val (.ref b176), .val (.ref b177), .val (.ref b178), .val (.ref b275), .val (.ref b279), .val (.int (1 : Int32)), .val (.int (1 : Int32)), .val (.ref b177), .unset] [(.ref b177)]))
    refine go (fun _ => XS.goto X284.here hx rfl (pc0 := 211) (pc' := 216) rfl (hb hby at_211) (by decide) (by decide)) ?_
    show Go _ p e below s _ _ _ (T284.setTop (mkF m 216 #[.val (.int p1), .val (.int p2), .val (.int p3), .val (.int p4), .val (.int p5), .val (.int (3 : Int32)), .val (.int (1 : Int32)), .val (.ref b176), .val (.ref b177), .val (.ref b178), .val (.ref b275), .val (.ref b279), .val (.int (1 : Int32)), .val (.int (1 : Int32)), .val (.ref b177), .unset] [(.ref b177)]))
    refine go (fun _ => XS.astore X284.here hx rfl (hb hby at_216) rfl rfl (l' := #[.val (.int p1), .val (.int p2), .val (.int p3), .val (.int p4), .val (.int p5), .val (.int (3 : Int32)), .val (.int (1 : Int32)), .val (.ref b176), .val (.ref b177), .val (.ref b178), .val (.ref b275), .val (.ref b279), .val (.int (1 : Int32)), .val (.int (1 : Int32)), .val (.ref b177), .val (.ref b177)]) rfl) ?_
    show Go _ p e below s _ _ _ (T284.setTop (mkF m 218 #[.val (.int p1), .val (.int p2), .val (.int p3), .val (.int p4), .val (.int p5), .val (.int (3 : Int32)), .val (.int (1 : Int32)), .val (.ref b176), .val (.ref b177), .val (.ref b178), .val (.ref b275), .val (.ref b279), .val (.int (1 : Int32)), .val (.int (1 : Int32)), .val (.ref b177), .val (.ref b177)] []))
    refine go (fun _ => XS.aload X284.here hx rfl (hb hby at_218) rfl rfl) ?_
    show Go _ p e below s _ _ _ (T284.setTop (mkF m 220 #[.val (.int p1), .val (.int p2), .val (.int p3), .val (.int p4), .val (.int p5), .val (.int (3 : Int32)), .val (.int (1 : Int32)), .val (.ref b176), .val (.ref b177), .val (.ref b178), .val (.ref b275), .val (.ref b279), .val (.int (1 : Int32)), .val (.int (1 : Int32)), .val (.ref b177), .val (.ref b177)] [(.ref b177)]))
    refine go (fun _ => XS.aload X284.here hx rfl (hb hby at_220) rfl rfl) ?_
    show Go _ p e below s _ _ _ (T284.setTop (mkF m 222 #[.val (.int p1), .val (.int p2), .val (.int p3), .val (.int p4), .val (.int p5), .val (.int (3 : Int32)), .val (.int (1 : Int32)), .val (.ref b176), .val (.ref b177), .val (.ref b178), .val (.ref b275), .val (.ref b279), .val (.int (1 : Int32)), .val (.int (1 : Int32)), .val (.ref b177), .val (.ref b177)] [(.ref b177), (.ref b177)]))
    obtain ⟨cq285, kq285, q285a, q285b, q285c⟩ := isOf hZ rfl c284_2
    obtain ⟨_, _, ⟨T285, L285, k285, n285⟩, -, X285, ⟨Lc285, hQ285, l285, y285, z285⟩, st285⟩ := X284.virtualBack hx (y := (⟨"java/lang/String", "equals", "(Ljava/lang/Object;)Z"⟩ : MethodName)) (z := (⟨"java/lang/String", "equals", "(Ljava/lang/Object;)Z"⟩ : MethodName)) hown (mvT hZ (hw _ (List.mem_of_getElem? (i := 63) rfl))) (mvT hZ (hw _ (List.mem_of_getElem? (i := 64) rfl))) (notFace_of_selects (args := #[]) (mvT hZ (hw _ (List.mem_of_getElem? (i := 66) rfl)))) (mvT hZ (hw _ (List.mem_of_getElem? (i := 66) rfl))) (mvT hZ (hw _ (List.mem_of_getElem? (i := 65) rfl))) (by decide) (backOf (W := 0) (rm10 l Z a0 hw [] b177 b177 (T284.heap) n0 ZN284 rfl) hZ (hw _ (List.mem_of_getElem? (i := 67) rfl)) (hw _ (List.mem_of_getElem? (i := 6) rfl)) (by decide) (by decide)) q285a q285c (g := (mkF m 222 #[.val (.int p1), .val (.int p2), .val (.int p3), .val (.int p4), .val (.int p5), .val (.int (3 : Int32)), .val (.int (1 : Int32)), .val (.ref b176), .val (.ref b177), .val (.ref b178), .val (.ref b275), .val (.ref b279), .val (.int (1 : Int32)), .val (.int (1 : Int32)), .val (.ref b177), .val (.ref b177)] [(.ref b177), (.ref b177)])) rfl (by rw [hml]; rfl) (Steps.refl _) (argsL := [(.ref b177)]) (rest := []) (lenOf pd_0_5 rfl) rfl (by show 2 * 0 + _ ≤ _; exact Nat.le_of_eq rfl) (hb hby at_222) (fun _ _ => ⟨rfl, rfl, (by decide : 9 + 0 ≤ _), (by decide : 23 + 0 ≤ _)⟩)
    dsimp only [Pt.U, Pt.locs, Pt.cells, Pt.slots] at X285 l285 y285 z285 st285 hQ285
    subst l285 y285 z285
    obtain ⟨rfl, N285q, e285⟩ := hQ285
    have N285 := Fr.app N284 N285q
    refine goT st285 ?_
    show Go _ p e below s _ _ _ (T285.setTop (mkF m 225 #[.val (.int p1), .val (.int p2), .val (.int p3), .val (.int p4), .val (.int p5), .val (.int (3 : Int32)), .val (.int (1 : Int32)), .val (.ref b176), .val (.ref b177), .val (.ref b178), .val (.ref b275), .val (.ref b279), .val (.int (1 : Int32)), .val (.int (1 : Int32)), .val (.ref b177), .val (.ref b177)] [(.int (1 : Int32))]))
    refine goRet X285 hx Bd.notSynchronized Bd.returns rfl (Or.inl ⟨rfl, Or.inr (Or.inl rfl), _, rfl⟩) (hb hby at_225) (by decide) (by decide) (by rw [e285]; refine ⟨rfl, N285⟩)
  · rw [show own_min (2 : Int32) (3 : Int32) = (2 : Int32) from by decide]
    show Go _ p e below s _ _ _ (T178.setTop (mkF m 49 #[.val (.int p1), .val (.int p2), .val (.int p3), .val (.int p4), .val (.int p5), .val (.int (3 : Int32)), .val (.int (2 : Int32)), .val (.ref b176), .val (.ref b177), .val (.ref b178), .unset, .unset, .unset, .unset, .unset, .unset] []))
    refine go (fun _ => XS.iload X178.here hx rfl (hb hby at_49) rfl) ?_
    show Go _ p e below s _ _ _ (T178.setTop (mkF m 51 #[.val (.int p1), .val (.int p2), .val (.int p3), .val (.int p4), .val (.int p5), .val (.int (3 : Int32)), .val (.int (2 : Int32)), .val (.ref b176), .val (.ref b177), .val (.ref b178), .unset, .unset, .unset, .unset, .unset, .unset] [(.int (3 : Int32))]))
    obtain ⟨T286, h286, k286, X286, e286, E286, A286, AE286, O286, st286⟩ := newRE X178 hx hZ hown (hw _ (List.mem_of_getElem? (i := 30) rfl)) (hw _ (List.mem_of_getElem? (i := 31) rfl)) rfl (g := (mkF m 51 #[.val (.int p1), .val (.int p2), .val (.int p3), .val (.int p4), .val (.int p5), .val (.int (3 : Int32)), .val (.int (2 : Int32)), .val (.ref b176), .val (.ref b177), .val (.ref b178), .unset, .unset, .unset, .unset, .unset, .unset] [(.int (3 : Int32))])) rfl (hb hby at_51) rfl (by decide) (cap := 3) (by decide) (by decide) (by decide) (by decide) (ad := "[Ljava/lang/String;") (by first | rfl | decide)
    obtain ⟨b286, g286⟩ : ∃ z, z = T178.heap.size := ⟨_, rfl⟩
    rw [← g286] at A286 AE286 st286
    have lt286_b176_b286 : b176 < b286 := Nat.lt_of_lt_of_le c178_1.lt (Nat.le_of_eq g286.symm)
    have lt286_b177_b286 : b177 < b286 := Nat.lt_of_lt_of_le c178_2.lt (Nat.le_of_eq g286.symm)
    have lt286_b178_b286 : b178 < b286 := Nat.lt_of_lt_of_le u178_3.lt (Nat.le_of_eq g286.symm)
    have G_b286 : n0 ≤ b286 := Nat.le_trans ZN178 (Nat.le_of_eq g286.symm)
    have SZ_b286 : h0.size ≤ b286 := Nat.le_trans KK178.1 (Nat.le_of_eq g286.symm)
    have c286_1 := c178_1.ext E286
    have c286_2 := c178_2.ext E286
    have c286_3 := u178_3.ext E286
    have KK286 : Keep h0 h286 [] := KK178.ext E286
    have ZN286 : n0 ≤ h286.size := Nat.le_trans ZN178 E286.1
    have OL286 := OL178.ext E286
    have V286 : Arv Z h286 b286 k286 (.object "java/lang/String") (3 : Int32) [.null, .null, .null] .null := (Arv.new A286 (by decide)).pad (pad_rep [] .null 3)
    refine go st286 ?_
    show Go _ p e below s _ _ _ (T286.setTop (mkF m 54 #[.val (.int p1), .val (.int p2), .val (.int p3), .val (.int p4), .val (.int p5), .val (.int (3 : Int32)), .val (.int (2 : Int32)), .val (.ref b176), .val (.ref b177), .val (.ref b178), .unset, .unset, .unset, .unset, .unset, .unset] [(.ref b286)]))
    refine go (fun _ => XS.astore X286.here hx rfl (hb hby at_54) rfl rfl (l' := #[.val (.int p1), .val (.int p2), .val (.int p3), .val (.int p4), .val (.int p5), .val (.int (3 : Int32)), .val (.int (2 : Int32)), .val (.ref b176), .val (.ref b177), .val (.ref b178), .val (.ref b286), .unset, .unset, .unset, .unset, .unset]) rfl) ?_
    show Go _ p e below s _ _ _ (T286.setTop (mkF m 56 #[.val (.int p1), .val (.int p2), .val (.int p3), .val (.int p4), .val (.int p5), .val (.int (3 : Int32)), .val (.int (2 : Int32)), .val (.ref b176), .val (.ref b177), .val (.ref b178), .val (.ref b286), .unset, .unset, .unset, .unset, .unset] []))
    refine go (fun _ => XS.iload X286.here hx rfl (hb hby at_56) rfl) ?_
    show Go _ p e below s _ _ _ (T286.setTop (mkF m 58 #[.val (.int p1), .val (.int p2), .val (.int p3), .val (.int p4), .val (.int p5), .val (.int (3 : Int32)), .val (.int (2 : Int32)), .val (.ref b176), .val (.ref b177), .val (.ref b178), .val (.ref b286), .unset, .unset, .unset, .unset, .unset] [(.int (3 : Int32))]))
    refine go (fun _ => XS.iconst X286.here hx rfl (hb hby at_58)) ?_
    show Go _ p e below s _ _ _ (T286.setTop (mkF m 59 #[.val (.int p1), .val (.int p2), .val (.int p3), .val (.int p4), .val (.int p5), .val (.int (3 : Int32)), .val (.int (2 : Int32)), .val (.ref b176), .val (.ref b177), .val (.ref b178), .val (.ref b286), .unset, .unset, .unset, .unset, .unset] [(.int (1 : Int32)), (.int (3 : Int32))]))
    refine go (fun _ => XS.icmpNo X286.here hx rfl (hb hby at_59) rfl (flt (by decide : ¬ ((3 : Int32) < (1 : Int32)))).1) ?_
    show Go _ p e below s _ _ _ (T286.setTop (mkF m 62 #[.val (.int p1), .val (.int p2), .val (.int p3), .val (.int p4), .val (.int p5), .val (.int (3 : Int32)), .val (.int (2 : Int32)), .val (.ref b176), .val (.ref b177), .val (.ref b178), .val (.ref b286), .unset, .unset, .unset, .unset, .unset] []))
    refine go (fun _ => XS.aload X286.here hx rfl (hb hby at_62) rfl rfl) ?_
    show Go _ p e below s _ _ _ (T286.setTop (mkF m 64 #[.val (.int p1), .val (.int p2), .val (.int p3), .val (.int p4), .val (.int p5), .val (.int (3 : Int32)), .val (.int (2 : Int32)), .val (.ref b176), .val (.ref b177), .val (.ref b178), .val (.ref b286), .unset, .unset, .unset, .unset, .unset] [(.ref b286)]))
    refine go (fun _ => XS.iconst X286.here hx rfl (hb hby at_64)) ?_
    show Go _ p e below s _ _ _ (T286.setTop (mkF m 65 #[.val (.int p1), .val (.int p2), .val (.int p3), .val (.int p4), .val (.int p5), .val (.int (3 : Int32)), .val (.int (2 : Int32)), .val (.ref b176), .val (.ref b177), .val (.ref b178), .val (.ref b286), .unset, .unset, .unset, .unset, .unset] [(.int (0 : Int32)), (.ref b286)]))
    refine go (fun _ => XS.aload X286.here hx rfl (hb hby at_65) rfl rfl) ?_
    show Go _ p e below s _ _ _ (T286.setTop (mkF m 67 #[.val (.int p1), .val (.int p2), .val (.int p3), .val (.int p4), .val (.int p5), .val (.int (3 : Int32)), .val (.int (2 : Int32)), .val (.ref b176), .val (.ref b177), .val (.ref b178), .val (.ref b286), .unset, .unset, .unset, .unset, .unset] [(.ref b176), (.int (0 : Int32)), (.ref b286)]))
    obtain ⟨cl287, Ar287, q287, Sz287, Nz287, Hs287, Gs287⟩ := id V286
    have hin287 : ¬ ((0 : Int32) < 0 ∨ cl287.slots.size ≤ ((0 : Int32)).toNatClampNeg) := inb_of Sz287 ⟨by decide, by decide⟩
    obtain ⟨T287, h287, X287, e287, W287, st287⟩ := stR X286 hx hZ e286 Ar287 (j := (0 : Int32)) hin287 rfl (Sto.ofV Ar287 q287 O286 (Ins.self c286_1)) (g := (mkF m 67 #[.val (.int p1), .val (.int p2), .val (.int p3), .val (.int p4), .val (.int p5), .val (.int (3 : Int32)), .val (.int (2 : Int32)), .val (.ref b176), .val (.ref b177), .val (.ref b178), .val (.ref b286), .unset, .unset, .unset, .unset, .unset] [(.ref b176), (.int (0 : Int32)), (.ref b286)])) rfl rfl (hb hby at_67)
    have V287 := Arv.set Ar287 q287 Sz287 Nz287 Hs287 Gs287 rfl W287 0 rfl (Nat.le_of_ble_eq_true rfl)
    have VV287 : Arv Z h287 b286 k286 (.object "java/lang/String") (3 : Int32) [(.ref b176), .null, .null] .null := V287
    have c287_1 := c286_1.wr W287
    have c287_2 := c286_2.wr W287
    have c287_3 := c286_3.wr W287
    have c287_4 := AE286.wr W287
    have KK287 : Keep h0 h287 [] := KK286.wr W287 (Or.inr SZ_b286)
    have ZN287 : n0 ≤ h287.size := Nat.le_trans ZN286 (Keep.of_wr W287).1
    have NN287 := Fr.snoc X287 N178 G_b286
    have OL287 := OL286.wr W287 G_b286
    refine go st287 ?_
    show Go _ p e below s _ _ _ (T287.setTop (mkF m 68 #[.val (.int p1), .val (.int p2), .val (.int p3), .val (.int p4), .val (.int p5), .val (.int (3 : Int32)), .val (.int (2 : Int32)), .val (.ref b176), .val (.ref b177), .val (.ref b178), .val (.ref b286), .unset, .unset, .unset, .unset, .unset] []))
    refine go (fun _ => XS.iload X287.here hx rfl (hb hby at_68) rfl) ?_
    show Go _ p e below s _ _ _ (T287.setTop (mkF m 70 #[.val (.int p1), .val (.int p2), .val (.int p3), .val (.int p4), .val (.int p5), .val (.int (3 : Int32)), .val (.int (2 : Int32)), .val (.ref b176), .val (.ref b177), .val (.ref b178), .val (.ref b286), .unset, .unset, .unset, .unset, .unset] [(.int (3 : Int32))]))
    refine go (fun _ => XS.iconst X287.here hx rfl (hb hby at_70)) ?_
    show Go _ p e below s _ _ _ (T287.setTop (mkF m 71 #[.val (.int p1), .val (.int p2), .val (.int p3), .val (.int p4), .val (.int p5), .val (.int (3 : Int32)), .val (.int (2 : Int32)), .val (.ref b176), .val (.ref b177), .val (.ref b178), .val (.ref b286), .unset, .unset, .unset, .unset, .unset] [(.int (2 : Int32)), (.int (3 : Int32))]))
    refine go (fun _ => XS.icmpNo X287.here hx rfl (hb hby at_71) rfl (flt (by decide : ¬ ((3 : Int32) < (2 : Int32)))).1) ?_
    show Go _ p e below s _ _ _ (T287.setTop (mkF m 74 #[.val (.int p1), .val (.int p2), .val (.int p3), .val (.int p4), .val (.int p5), .val (.int (3 : Int32)), .val (.int (2 : Int32)), .val (.ref b176), .val (.ref b177), .val (.ref b178), .val (.ref b286), .unset, .unset, .unset, .unset, .unset] []))
    refine go (fun _ => XS.aload X287.here hx rfl (hb hby at_74) rfl rfl) ?_
    show Go _ p e below s _ _ _ (T287.setTop (mkF m 76 #[.val (.int p1), .val (.int p2), .val (.int p3), .val (.int p4), .val (.int p5), .val (.int (3 : Int32)), .val (.int (2 : Int32)), .val (.ref b176), .val (.ref b177), .val (.ref b178), .val (.ref b286), .unset, .unset, .unset, .unset, .unset] [(.ref b286)]))
    refine go (fun _ => XS.iconst X287.here hx rfl (hb hby at_76)) ?_
    show Go _ p e below s _ _ _ (T287.setTop (mkF m 77 #[.val (.int p1), .val (.int p2), .val (.int p3), .val (.int p4), .val (.int p5), .val (.int (3 : Int32)), .val (.int (2 : Int32)), .val (.ref b176), .val (.ref b177), .val (.ref b178), .val (.ref b286), .unset, .unset, .unset, .unset, .unset] [(.int (1 : Int32)), (.ref b286)]))
    refine go (fun _ => XS.aload X287.here hx rfl (hb hby at_77) rfl rfl) ?_
    show Go _ p e below s _ _ _ (T287.setTop (mkF m 79 #[.val (.int p1), .val (.int p2), .val (.int p3), .val (.int p4), .val (.int p5), .val (.int (3 : Int32)), .val (.int (2 : Int32)), .val (.ref b176), .val (.ref b177), .val (.ref b178), .val (.ref b286), .unset, .unset, .unset, .unset, .unset] [(.ref b177), (.int (1 : Int32)), (.ref b286)]))
    obtain ⟨cl288, Ar288, q288, Sz288, Nz288, Hs288, Gs288⟩ := id VV287
    have hin288 : ¬ ((1 : Int32) < 0 ∨ cl288.slots.size ≤ ((1 : Int32)).toNatClampNeg) := inb_of Sz288 ⟨by decide, by decide⟩
    obtain ⟨T288, h288, X288, e288, W288, st288⟩ := stR X287 hx hZ e287 Ar288 (j := (1 : Int32)) hin288 rfl (Sto.ofV Ar288 q288 O286 (Ins.self c287_2)) (g := (mkF m 79 #[.val (.int p1), .val (.int p2), .val (.int p3), .val (.int p4), .val (.int p5), .val (.int (3 : Int32)), .val (.int (2 : Int32)), .val (.ref b176), .val (.ref b177), .val (.ref b178), .val (.ref b286), .unset, .unset, .unset, .unset, .unset] [(.ref b177), (.int (1 : Int32)), (.ref b286)])) rfl rfl (hb hby at_79)
    have V288 := Arv.set Ar288 q288 Sz288 Nz288 Hs288 Gs288 rfl W288 1 rfl (Nat.le_of_ble_eq_true rfl)
    have VV288 : Arv Z h288 b286 k286 (.object "java/lang/String") (3 : Int32) [(.ref b176), (.ref b177), .null] .null := V288
    have c288_1 := c287_1.wr W288
    have c288_2 := c287_2.wr W288
    have c288_3 := c287_3.wr W288
    have c288_4 := c287_4.wr W288
    have KK288 : Keep h0 h288 [] := KK287.wr W288 (Or.inr SZ_b286)
    have ZN288 : n0 ≤ h288.size := Nat.le_trans ZN287 (Keep.of_wr W288).1
    have NN288 := Fr.snoc X288 NN287 G_b286
    have OL288 := OL287.wr W288 G_b286
    refine go st288 ?_
    show Go _ p e below s _ _ _ (T288.setTop (mkF m 80 #[.val (.int p1), .val (.int p2), .val (.int p3), .val (.int p4), .val (.int p5), .val (.int (3 : Int32)), .val (.int (2 : Int32)), .val (.ref b176), .val (.ref b177), .val (.ref b178), .val (.ref b286), .unset, .unset, .unset, .unset, .unset] []))
    refine go (fun _ => XS.iload X288.here hx rfl (hb hby at_80) rfl) ?_
    show Go _ p e below s _ _ _ (T288.setTop (mkF m 82 #[.val (.int p1), .val (.int p2), .val (.int p3), .val (.int p4), .val (.int p5), .val (.int (3 : Int32)), .val (.int (2 : Int32)), .val (.ref b176), .val (.ref b177), .val (.ref b178), .val (.ref b286), .unset, .unset, .unset, .unset, .unset] [(.int (3 : Int32))]))
    refine go (fun _ => XS.iconst X288.here hx rfl (hb hby at_82)) ?_
    show Go _ p e below s _ _ _ (T288.setTop (mkF m 83 #[.val (.int p1), .val (.int p2), .val (.int p3), .val (.int p4), .val (.int p5), .val (.int (3 : Int32)), .val (.int (2 : Int32)), .val (.ref b176), .val (.ref b177), .val (.ref b178), .val (.ref b286), .unset, .unset, .unset, .unset, .unset] [(.int (3 : Int32)), (.int (3 : Int32))]))
    refine go (fun _ => XS.icmpNo X288.here hx rfl (hb hby at_83) rfl (flt (by decide : ¬ ((3 : Int32) < (3 : Int32)))).1) ?_
    show Go _ p e below s _ _ _ (T288.setTop (mkF m 86 #[.val (.int p1), .val (.int p2), .val (.int p3), .val (.int p4), .val (.int p5), .val (.int (3 : Int32)), .val (.int (2 : Int32)), .val (.ref b176), .val (.ref b177), .val (.ref b178), .val (.ref b286), .unset, .unset, .unset, .unset, .unset] []))
    refine go (fun _ => XS.aload X288.here hx rfl (hb hby at_86) rfl rfl) ?_
    show Go _ p e below s _ _ _ (T288.setTop (mkF m 88 #[.val (.int p1), .val (.int p2), .val (.int p3), .val (.int p4), .val (.int p5), .val (.int (3 : Int32)), .val (.int (2 : Int32)), .val (.ref b176), .val (.ref b177), .val (.ref b178), .val (.ref b286), .unset, .unset, .unset, .unset, .unset] [(.ref b286)]))
    refine go (fun _ => XS.iconst X288.here hx rfl (hb hby at_88)) ?_
    show Go _ p e below s _ _ _ (T288.setTop (mkF m 89 #[.val (.int p1), .val (.int p2), .val (.int p3), .val (.int p4), .val (.int p5), .val (.int (3 : Int32)), .val (.int (2 : Int32)), .val (.ref b176), .val (.ref b177), .val (.ref b178), .val (.ref b286), .unset, .unset, .unset, .unset, .unset] [(.int (2 : Int32)), (.ref b286)]))
    refine go (fun _ => XS.aload X288.here hx rfl (hb hby at_89) rfl rfl) ?_
    show Go _ p e below s _ _ _ (T288.setTop (mkF m 91 #[.val (.int p1), .val (.int p2), .val (.int p3), .val (.int p4), .val (.int p5), .val (.int (3 : Int32)), .val (.int (2 : Int32)), .val (.ref b176), .val (.ref b177), .val (.ref b178), .val (.ref b286), .unset, .unset, .unset, .unset, .unset] [(.ref b178), (.int (2 : Int32)), (.ref b286)]))
    obtain ⟨cl289, Ar289, q289, Sz289, Nz289, Hs289, Gs289⟩ := id VV288
    have hin289 : ¬ ((2 : Int32) < 0 ∨ cl289.slots.size ≤ ((2 : Int32)).toNatClampNeg) := inb_of Sz289 ⟨by decide, by decide⟩
    obtain ⟨T289, h289, X289, e289, W289, st289⟩ := stR X288 hx hZ e288 Ar289 (j := (2 : Int32)) hin289 rfl (Sto.ofV Ar289 q289 O286 (Ins.self c288_3)) (g := (mkF m 91 #[.val (.int p1), .val (.int p2), .val (.int p3), .val (.int p4), .val (.int p5), .val (.int (3 : Int32)), .val (.int (2 : Int32)), .val (.ref b176), .val (.ref b177), .val (.ref b178), .val (.ref b286), .unset, .unset, .unset, .unset, .unset] [(.ref b178), (.int (2 : Int32)), (.ref b286)])) rfl rfl (hb hby at_91)
    have V289 := Arv.set Ar289 q289 Sz289 Nz289 Hs289 Gs289 rfl W289 2 rfl (Nat.le_of_ble_eq_true rfl)
    have VV289 : Arv Z h289 b286 k286 (.object "java/lang/String") (3 : Int32) [(.ref b176), (.ref b177), (.ref b178)] .null := V289
    have c289_1 := c288_1.wr W289
    have c289_2 := c288_2.wr W289
    have c289_3 := c288_3.wr W289
    have c289_4 := c288_4.wr W289
    have KK289 : Keep h0 h289 [] := KK288.wr W289 (Or.inr SZ_b286)
    have ZN289 : n0 ≤ h289.size := Nat.le_trans ZN288 (Keep.of_wr W289).1
    have NN289 := Fr.snoc X289 NN288 G_b286
    have OL289 := OL288.wr W289 G_b286
    refine go st289 ?_
    show Go _ p e below s _ _ _ (T289.setTop (mkF m 92 #[.val (.int p1), .val (.int p2), .val (.int p3), .val (.int p4), .val (.int p5), .val (.int (3 : Int32)), .val (.int (2 : Int32)), .val (.ref b176), .val (.ref b177), .val (.ref b178), .val (.ref b286), .unset, .unset, .unset, .unset, .unset] []))
    obtain ⟨T290, h290, X290, e290, E290, A290, D290, -, st290⟩ := newO X289 hx hZ hown (hw _ (List.mem_of_getElem? (i := 32) rfl)) (hw _ (List.mem_of_getElem? (i := 33) rfl)) (hw _ (List.mem_of_getElem? (i := 34) rfl)) e289 (g := (mkF m 92 #[.val (.int p1), .val (.int p2), .val (.int p3), .val (.int p4), .val (.int p5), .val (.int (3 : Int32)), .val (.int (2 : Int32)), .val (.ref b176), .val (.ref b177), .val (.ref b178), .val (.ref b286), .unset, .unset, .unset, .unset, .unset] [])) rfl (hb hby at_92) (by decide) (by decide)
    obtain ⟨b290, g290⟩ : ∃ z, z = h289.size := ⟨_, rfl⟩
    rw [← g290] at A290 D290 st290
    have lt290_b176_b290 : b176 < b290 := Nat.lt_of_lt_of_le c289_1.lt (Nat.le_of_eq g290.symm)
    have lt290_b177_b290 : b177 < b290 := Nat.lt_of_lt_of_le c289_2.lt (Nat.le_of_eq g290.symm)
    have lt290_b178_b290 : b178 < b290 := Nat.lt_of_lt_of_le c289_3.lt (Nat.le_of_eq g290.symm)
    have lt290_b286_b290 : b286 < b290 := Nat.lt_of_lt_of_le c289_4.lt (Nat.le_of_eq g290.symm)
    have G_b290 : n0 ≤ b290 := Nat.le_trans ZN289 (Nat.le_of_eq g290.symm)
    have SZ_b290 : h0.size ≤ b290 := Nat.le_trans KK289.1 (Nat.le_of_eq g290.symm)
    have c290_1 := c289_1.ext E290
    have c290_2 := c289_2.ext E290
    have c290_3 := c289_3.ext E290
    have c290_4 := c289_4.ext E290
    have c290_5 := VV289.ext E290
    have KK290 : Keep h0 h290 [] := KK289.ext E290
    have ZN290 : n0 ≤ h290.size := Nat.le_trans ZN289 E290.1
    have OL290 := OL289.ext E290
    have F290_49 : Fld Z h290 b290 "com/example/sunder/sunder/cli/Arguments" "args" "[Ljava/lang/String;" .null := D290 (Or.inr (hw _ (List.mem_of_getElem? (i := 49) rfl))) (ty := (.array (.object "java/lang/String"))) (by decide)
    have F290_56 : Fld Z h290 b290 "com/example/sunder/sunder/cli/Arguments" "next" "I" (.int (0 : Int32)) := D290 (Or.inl (hw _ (List.mem_of_getElem? (i := 56) rfl))) (ty := .int) (by decide)
    refine go st290 ?_
    show Go _ p e below s _ _ _ (T290.setTop (mkF m 95 #[.val (.int p1), .val (.int p2), .val (.int p3), .val (.int p4), .val (.int p5), .val (.int (3 : Int32)), .val (.int (2 : Int32)), .val (.ref b176), .val (.ref b177), .val (.ref b178), .val (.ref b286), .unset, .unset, .unset, .unset, .unset] [(.ref b290)]))
    refine go (fun _ => XS.dup X290.here hx rfl (hb hby at_95) rfl rfl) ?_
    show Go _ p e below s _ _ _ (T290.setTop (mkF m 96 #[.val (.int p1), .val (.int p2), .val (.int p3), .val (.int p4), .val (.int p5), .val (.int (3 : Int32)), .val (.int (2 : Int32)), .val (.ref b176), .val (.ref b177), .val (.ref b178), .val (.ref b286), .unset, .unset, .unset, .unset, .unset] [(.ref b290), (.ref b290)]))
    refine go (fun _ => XS.aload X290.here hx rfl (hb hby at_96) rfl rfl) ?_
    show Go _ p e below s _ _ _ (T290.setTop (mkF m 98 #[.val (.int p1), .val (.int p2), .val (.int p3), .val (.int p4), .val (.int p5), .val (.int (3 : Int32)), .val (.int (2 : Int32)), .val (.ref b176), .val (.ref b177), .val (.ref b178), .val (.ref b286), .unset, .unset, .unset, .unset, .unset] [(.ref b286), (.ref b290), (.ref b290)]))
    obtain ⟨_, _, ⟨T291, L291, k291, n291⟩, -, X291, ⟨Lc291, hQ291, l291, y291, z291⟩, st291⟩ := X290.specialBack hx (y := (⟨"com/example/sunder/sunder/cli/Arguments", "<init>", "([Ljava/lang/String;)V"⟩ : MethodName)) rfl hown (mvT hZ (hw _ (List.mem_of_getElem? (i := 35) rfl))) (mvT hZ (hw _ (List.mem_of_getElem? (i := 36) rfl))) (mvT hZ (hw _ (List.mem_of_getElem? (i := 37) rfl))) (by decide) (backOf (W := 1) (rmI3 l Z a0 hw [] b290 b286 k286 b176 b177 b178 .null h290 n0 ZN290 A290 F290_49 F290_56 G_b290 c290_4 c290_5 (Ne.symm (Nat.ne_of_lt lt290_b286_b290))) hZ (hw _ (List.mem_of_getElem? (i := 37) rfl)) (hw _ (List.mem_of_getElem? (i := 34) rfl)) (by decide) (by decide)) (g := (mkF m 98 #[.val (.int p1), .val (.int p2), .val (.int p3), .val (.int p4), .val (.int p5), .val (.int (3 : Int32)), .val (.int (2 : Int32)), .val (.ref b176), .val (.ref b177), .val (.ref b178), .val (.ref b286), .unset, .unset, .unset, .unset, .unset] [(.ref b286), (.ref b290), (.ref b290)])) rfl (by rw [hml]; rfl) (Steps.refl _) (a := b290) (argsL := [(.ref b286)]) (rest := [(.ref b290)]) (lenOf pd_0_2 rfl) rfl (by show 2 * 0 + _ ≤ _; exact Nat.le_of_eq rfl) (hb hby at_98) (fun _ _ => ⟨rfl, e290, (by decide : 8 + 1 ≤ _), (by decide : 20 + 3 ≤ _)⟩)
    dsimp only [Pt.U, Pt.locs, Pt.cells, Pt.slots] at X291 l291 y291 z291 st291 hQ291
    subst l291 y291 z291
    obtain ⟨b291, rfl, N291q, u291_0, u291_1, K291, u291_3, u291_4, u291_5, u291_6⟩ := hQ291
    have N291 := Fr.app NN289 N291q
    have lt291_b176_b291 : b176 < b291 := Nat.lt_of_lt_of_le c290_1.lt u291_0
    have lt291_b177_b291 : b177 < b291 := Nat.lt_of_lt_of_le c290_2.lt u291_0
    have lt291_b178_b291 : b178 < b291 := Nat.lt_of_lt_of_le c290_3.lt u291_0
    have lt291_b286_b291 : b286 < b291 := Nat.lt_of_lt_of_le c290_4.lt u291_0
    have lt291_b290_b291 : b290 < b291 := Nat.lt_of_lt_of_le A290.lt u291_0
    have G_b291 : n0 ≤ b291 := Nat.le_trans ZN290 u291_0
    have SZ_b291 : h0.size ≤ b291 := Nat.le_trans KK290.1 u291_0
    have c291_1 := c290_1.keep K291
    have c291_2 := c290_2.keep K291
    have c291_3 := c290_3.keep K291
    have c291_4 := c290_4.keep K291
    have c291_5 := c290_5.keep K291 (ninS (Nat.ne_of_lt lt290_b286_b290) nin0)
    have c291_6 := A290.keep K291
    have KK291 : Keep h0 T291.heap [] := KK290.trans K291 (allS (P := fun x => x ∈ [] ∨ h0.size ≤ x) (Or.inr SZ_b290) all0)
    have ZN291 : n0 ≤ T291.heap.size := Nat.le_trans ZN290 K291.1
    have OL291 := OL290.keep K291 (allS G_b290 all0)
    refine goT st291 ?_
    show Go _ p e below s _ _ _ (T291.setTop (mkF m 101 #[.val (.int p1), .val (.int p2), .val (.int p3), .val (.int p4), .val (.int p5), .val (.int (3 : Int32)), .val (.int (2 : Int32)), .val (.ref b176), .val (.ref b177), .val (.ref b178), .val (.ref b286), .unset, .unset, .unset, .unset, .unset] [(.ref b290)]))
    refine go (fun _ => XS.astore X291.here hx rfl (hb hby at_101) rfl rfl (l' := #[.val (.int p1), .val (.int p2), .val (.int p3), .val (.int p4), .val (.int p5), .val (.int (3 : Int32)), .val (.int (2 : Int32)), .val (.ref b176), .val (.ref b177), .val (.ref b178), .val (.ref b286), .val (.ref b290), .unset, .unset, .unset, .unset]) rfl) ?_
    show Go _ p e below s _ _ _ (T291.setTop (mkF m 103 #[.val (.int p1), .val (.int p2), .val (.int p3), .val (.int p4), .val (.int p5), .val (.int (3 : Int32)), .val (.int (2 : Int32)), .val (.ref b176), .val (.ref b177), .val (.ref b178), .val (.ref b286), .val (.ref b290), .unset, .unset, .unset, .unset] []))
    refine go (fun _ => XS.iload X291.here hx rfl (hb hby at_103) rfl) ?_
    show Go _ p e below s _ _ _ (T291.setTop (mkF m 105 #[.val (.int p1), .val (.int p2), .val (.int p3), .val (.int p4), .val (.int p5), .val (.int (3 : Int32)), .val (.int (2 : Int32)), .val (.ref b176), .val (.ref b177), .val (.ref b178), .val (.ref b286), .val (.ref b290), .unset, .unset, .unset, .unset] [(.int (2 : Int32))]))
    refine go (fun _ => XS.iconst X291.here hx rfl (hb hby at_105)) ?_
    show Go _ p e below s _ _ _ (T291.setTop (mkF m 106 #[.val (.int p1), .val (.int p2), .val (.int p3), .val (.int p4), .val (.int p5), .val (.int (3 : Int32)), .val (.int (2 : Int32)), .val (.ref b176), .val (.ref b177), .val (.ref b178), .val (.ref b286), .val (.ref b290), .unset, .unset, .unset, .unset] [(.int (1 : Int32)), (.int (2 : Int32))]))
    refine go (fun _ => XS.icmpNo X291.here hx rfl (hb hby at_106) rfl (flt (by decide : ¬ ((2 : Int32) < (1 : Int32)))).1) ?_
    show Go _ p e below s _ _ _ (T291.setTop (mkF m 109 #[.val (.int p1), .val (.int p2), .val (.int p3), .val (.int p4), .val (.int p5), .val (.int (3 : Int32)), .val (.int (2 : Int32)), .val (.ref b176), .val (.ref b177), .val (.ref b178), .val (.ref b286), .val (.ref b290), .unset, .unset, .unset, .unset] []))
    refine go (fun _ => XS.aload X291.here hx rfl (hb hby at_109) rfl rfl) ?_
    show Go _ p e below s _ _ _ (T291.setTop (mkF m 111 #[.val (.int p1), .val (.int p2), .val (.int p3), .val (.int p4), .val (.int p5), .val (.int (3 : Int32)), .val (.int (2 : Int32)), .val (.ref b176), .val (.ref b177), .val (.ref b178), .val (.ref b286), .val (.ref b290), .unset, .unset, .unset, .unset] [(.ref b290)]))
    obtain ⟨cq292, kq292, q292a, q292b, q292c⟩ := isOf hZ rfl c291_6
    obtain ⟨_, _, ⟨T292, L292, k292, n292⟩, -, X292, ⟨Lc292, hQ292, l292, y292, z292⟩, st292⟩ := X291.virtualBack hx (y := (⟨"com/example/sunder/sunder/cli/Arguments", "next", "()Ljava/lang/String;"⟩ : MethodName)) (z := (⟨"com/example/sunder/sunder/cli/Arguments", "next", "()Ljava/lang/String;"⟩ : MethodName)) hown (mvT hZ (hw _ (List.mem_of_getElem? (i := 57) rfl))) (mvT hZ (hw _ (List.mem_of_getElem? (i := 58) rfl))) (notFace_of_selects (args := #[]) (mvT hZ (hw _ (List.mem_of_getElem? (i := 60) rfl)))) (mvT hZ (hw _ (List.mem_of_getElem? (i := 60) rfl))) (mvT hZ (hw _ (List.mem_of_getElem? (i := 59) rfl))) (by decide) (backOf (W := 0) (rmN3_0 l Z a0 hw [] b290 b291 k286 b176 b177 b178 (T291.heap) n0 ZN291 c291_6 u291_3 u291_4 G_b290 u291_6 (Nat.ne_of_lt lt291_b290_b291)) hZ (hw _ (List.mem_of_getElem? (i := 61) rfl)) (hw _ (List.mem_of_getElem? (i := 34) rfl)) (by decide) (by decide)) q292a q292c (g := (mkF m 111 #[.val (.int p1), .val (.int p2), .val (.int p3), .val (.int p4), .val (.int p5), .val (.int (3 : Int32)), .val (.int (2 : Int32)), .val (.ref b176), .val (.ref b177), .val (.ref b178), .val (.ref b286), .val (.ref b290), .unset, .unset, .unset, .unset] [(.ref b290)])) rfl (by rw [hml]; rfl) (Steps.refl _) (argsL := []) (rest := []) (lenOf pd_0_4 rfl) rfl (by show 2 * 0 + _ ≤ _; exact Nat.le_of_eq rfl) (hb hby at_111) (fun _ _ => ⟨rfl, rfl, (by decide : 9 + 0 ≤ _), (by decide : 23 + 0 ≤ _)⟩)
    dsimp only [Pt.U, Pt.locs, Pt.cells, Pt.slots] at X292 l292 y292 z292 st292 hQ292
    subst l292 y292 z292
    obtain ⟨rfl, N292q, K292, u292_1, u292_2⟩ := hQ292
    have N292 := Fr.app N291 N292q
    have c292_1 := c291_1.keep K292
    have c292_2 := c291_2.keep K292
    have c292_3 := c291_3.keep K292
    have c292_4 := c291_4.keep K292
    have c292_5 := c291_5.keep K292 (ninS (Nat.ne_of_lt lt290_b286_b290) nin0)
    have c292_6 := c291_6.keep K292
    have c292_7 := u291_5.keep K292
    have c292_8 := u291_6.keep K292 (ninS (Ne.symm (Nat.ne_of_lt lt291_b290_b291)) nin0)
    have KK292 : Keep h0 T292.heap [] := KK291.trans K292 (allS (P := fun x => x ∈ [] ∨ h0.size ≤ x) (Or.inr SZ_b290) all0)
    have ZN292 : n0 ≤ T292.heap.size := Nat.le_trans ZN291 K292.1
    have OL292 := OL291.keep K292 (allS G_b290 all0)
    refine goT st292 ?_
    show Go _ p e below s _ _ _ (T292.setTop (mkF m 114 #[.val (.int p1), .val (.int p2), .val (.int p3), .val (.int p4), .val (.int p5), .val (.int (3 : Int32)), .val (.int (2 : Int32)), .val (.ref b176), .val (.ref b177), .val (.ref b178), .val (.ref b286), .val (.ref b290), .unset, .unset, .unset, .unset] [(.ref b176)]))
    refine go (fun _ => XS.pop X292.here hx rfl (hb hby at_114) rfl rfl) ?_
    show Go _ p e below s _ _ _ (T292.setTop (mkF m 115 #[.val (.int p1), .val (.int p2), .val (.int p3), .val (.int p4), .val (.int p5), .val (.int (3 : Int32)), .val (.int (2 : Int32)), .val (.ref b176), .val (.ref b177), .val (.ref b178), .val (.ref b286), .val (.ref b290), .unset, .unset, .unset, .unset] []))
    refine go (fun _ => XS.iload X292.here hx rfl (hb hby at_115) rfl) ?_
    show Go _ p e below s _ _ _ (T292.setTop (mkF m 117 #[.val (.int p1), .val (.int p2), .val (.int p3), .val (.int p4), .val (.int p5), .val (.int (3 : Int32)), .val (.int (2 : Int32)), .val (.ref b176), .val (.ref b177), .val (.ref b178), .val (.ref b286), .val (.ref b290), .unset, .unset, .unset, .unset] [(.int (2 : Int32))]))
    refine go (fun _ => XS.iconst X292.here hx rfl (hb hby at_117)) ?_
    show Go _ p e below s _ _ _ (T292.setTop (mkF m 118 #[.val (.int p1), .val (.int p2), .val (.int p3), .val (.int p4), .val (.int p5), .val (.int (3 : Int32)), .val (.int (2 : Int32)), .val (.ref b176), .val (.ref b177), .val (.ref b178), .val (.ref b286), .val (.ref b290), .unset, .unset, .unset, .unset] [(.int (2 : Int32)), (.int (2 : Int32))]))
    refine go (fun _ => XS.icmpNo X292.here hx rfl (hb hby at_118) rfl (flt (by decide : ¬ ((2 : Int32) < (2 : Int32)))).1) ?_
    show Go _ p e below s _ _ _ (T292.setTop (mkF m 121 #[.val (.int p1), .val (.int p2), .val (.int p3), .val (.int p4), .val (.int p5), .val (.int (3 : Int32)), .val (.int (2 : Int32)), .val (.ref b176), .val (.ref b177), .val (.ref b178), .val (.ref b286), .val (.ref b290), .unset, .unset, .unset, .unset] []))
    refine go (fun _ => XS.aload X292.here hx rfl (hb hby at_121) rfl rfl) ?_
    show Go _ p e below s _ _ _ (T292.setTop (mkF m 123 #[.val (.int p1), .val (.int p2), .val (.int p3), .val (.int p4), .val (.int p5), .val (.int (3 : Int32)), .val (.int (2 : Int32)), .val (.ref b176), .val (.ref b177), .val (.ref b178), .val (.ref b286), .val (.ref b290), .unset, .unset, .unset, .unset] [(.ref b290)]))
    obtain ⟨cq293, kq293, q293a, q293b, q293c⟩ := isOf hZ rfl c292_6
    obtain ⟨_, _, ⟨T293, L293, k293, n293⟩, -, X293, ⟨Lc293, hQ293, l293, y293, z293⟩, st293⟩ := X292.virtualBack hx (y := (⟨"com/example/sunder/sunder/cli/Arguments", "next", "()Ljava/lang/String;"⟩ : MethodName)) (z := (⟨"com/example/sunder/sunder/cli/Arguments", "next", "()Ljava/lang/String;"⟩ : MethodName)) hown (mvT hZ (hw _ (List.mem_of_getElem? (i := 57) rfl))) (mvT hZ (hw _ (List.mem_of_getElem? (i := 58) rfl))) (notFace_of_selects (args := #[]) (mvT hZ (hw _ (List.mem_of_getElem? (i := 60) rfl)))) (mvT hZ (hw _ (List.mem_of_getElem? (i := 60) rfl))) (mvT hZ (hw _ (List.mem_of_getElem? (i := 59) rfl))) (by decide) (backOf (W := 0) (rmN3_1 l Z a0 hw [] b290 b291 k286 b176 b177 b178 (T292.heap) n0 ZN292 c292_6 u292_1 u292_2 G_b290 c292_8 (Nat.ne_of_lt lt291_b290_b291)) hZ (hw _ (List.mem_of_getElem? (i := 61) rfl)) (hw _ (List.mem_of_getElem? (i := 34) rfl)) (by decide) (by decide)) q293a q293c (g := (mkF m 123 #[.val (.int p1), .val (.int p2), .val (.int p3), .val (.int p4), .val (.int p5), .val (.int (3 : Int32)), .val (.int (2 : Int32)), .val (.ref b176), .val (.ref b177), .val (.ref b178), .val (.ref b286), .val (.ref b290), .unset, .unset, .unset, .unset] [(.ref b290)])) rfl (by rw [hml]; rfl) (Steps.refl _) (argsL := []) (rest := []) (lenOf pd_0_4 rfl) rfl (by show 2 * 0 + _ ≤ _; exact Nat.le_of_eq rfl) (hb hby at_123) (fun _ _ => ⟨rfl, rfl, (by decide : 9 + 0 ≤ _), (by decide : 23 + 0 ≤ _)⟩)
    dsimp only [Pt.U, Pt.locs, Pt.cells, Pt.slots] at X293 l293 y293 z293 st293 hQ293
    subst l293 y293 z293
    obtain ⟨rfl, N293q, K293, u293_1, u293_2⟩ := hQ293
    have N293 := Fr.app N292 N293q
    have c293_1 := c292_1.keep K293
    have c293_2 := c292_2.keep K293
    have c293_3 := c292_3.keep K293
    have c293_4 := c292_4.keep K293
    have c293_5 := c292_5.keep K293 (ninS (Nat.ne_of_lt lt290_b286_b290) nin0)
    have c293_6 := c292_6.keep K293
    have c293_7 := c292_7.keep K293
    have c293_8 := c292_8.keep K293 (ninS (Ne.symm (Nat.ne_of_lt lt291_b290_b291)) nin0)
    have KK293 : Keep h0 T293.heap [] := KK292.trans K293 (allS (P := fun x => x ∈ [] ∨ h0.size ≤ x) (Or.inr SZ_b290) all0)
    have ZN293 : n0 ≤ T293.heap.size := Nat.le_trans ZN292 K293.1
    have OL293 := OL292.keep K293 (allS G_b290 all0)
    refine goT st293 ?_
    show Go _ p e below s _ _ _ (T293.setTop (mkF m 126 #[.val (.int p1), .val (.int p2), .val (.int p3), .val (.int p4), .val (.int p5), .val (.int (3 : Int32)), .val (.int (2 : Int32)), .val (.ref b176), .val (.ref b177), .val (.ref b178), .val (.ref b286), .val (.ref b290), .unset, .unset, .unset, .unset] [(.ref b177)]))
    refine go (fun _ => XS.pop X293.here hx rfl (hb hby at_126) rfl rfl) ?_
    show Go _ p e below s _ _ _ (T293.setTop (mkF m 127 #[.val (.int p1), .val (.int p2), .val (.int p3), .val (.int p4), .val (.int p5), .val (.int (3 : Int32)), .val (.int (2 : Int32)), .val (.ref b176), .val (.ref b177), .val (.ref b178), .val (.ref b286), .val (.ref b290), .unset, .unset, .unset, .unset] []))
    refine go (fun _ => XS.iload X293.here hx rfl (hb hby at_127) rfl) ?_
    show Go _ p e below s _ _ _ (T293.setTop (mkF m 129 #[.val (.int p1), .val (.int p2), .val (.int p3), .val (.int p4), .val (.int p5), .val (.int (3 : Int32)), .val (.int (2 : Int32)), .val (.ref b176), .val (.ref b177), .val (.ref b178), .val (.ref b286), .val (.ref b290), .unset, .unset, .unset, .unset] [(.int (2 : Int32))]))
    refine go (fun _ => XS.iconst X293.here hx rfl (hb hby at_129)) ?_
    show Go _ p e below s _ _ _ (T293.setTop (mkF m 130 #[.val (.int p1), .val (.int p2), .val (.int p3), .val (.int p4), .val (.int p5), .val (.int (3 : Int32)), .val (.int (2 : Int32)), .val (.ref b176), .val (.ref b177), .val (.ref b178), .val (.ref b286), .val (.ref b290), .unset, .unset, .unset, .unset] [(.int (3 : Int32)), (.int (2 : Int32))]))
    refine go (fun _ => XS.icmpYes X293.here hx rfl (pc0 := 130) (pc' := 139) rfl (hb hby at_130) rfl (tlt (by decide : ((2 : Int32) < (3 : Int32)))).1 (by decide) (by decide)) ?_
    show Go _ p e below s _ _ _ (T293.setTop (mkF m 139 #[.val (.int p1), .val (.int p2), .val (.int p3), .val (.int p4), .val (.int p5), .val (.int (3 : Int32)), .val (.int (2 : Int32)), .val (.ref b176), .val (.ref b177), .val (.ref b178), .val (.ref b286), .val (.ref b290), .unset, .unset, .unset, .unset] []))
    refine go (fun _ => XS.aload X293.here hx rfl (hb hby at_139) rfl rfl) ?_
    show Go _ p e below s _ _ _ (T293.setTop (mkF m 141 #[.val (.int p1), .val (.int p2), .val (.int p3), .val (.int p4), .val (.int p5), .val (.int (3 : Int32)), .val (.int (2 : Int32)), .val (.ref b176), .val (.ref b177), .val (.ref b178), .val (.ref b286), .val (.ref b290), .unset, .unset, .unset, .unset] [(.ref b290)]))
    obtain ⟨cq294, kq294, q294a, q294b, q294c⟩ := isOf hZ rfl c293_6
    obtain ⟨_, _, ⟨T294, L294, k294, n294⟩, -, X294, ⟨Lc294, hQ294, l294, y294, z294⟩, st294⟩ := X293.virtualBack hx (y := (⟨"com/example/sunder/sunder/cli/Arguments", "hasNext", "()Z"⟩ : MethodName)) (z := (⟨"com/example/sunder/sunder/cli/Arguments", "hasNext", "()Z"⟩ : MethodName)) hown (mvT hZ (hw _ (List.mem_of_getElem? (i := 50) rfl))) (mvT hZ (hw _ (List.mem_of_getElem? (i := 51) rfl))) (notFace_of_selects (args := #[]) (mvT hZ (hw _ (List.mem_of_getElem? (i := 53) rfl)))) (mvT hZ (hw _ (List.mem_of_getElem? (i := 53) rfl))) (mvT hZ (hw _ (List.mem_of_getElem? (i := 52) rfl))) (by decide) (backOf (W := 0) (rmH3_2 l Z a0 hw [] b290 b291 k286 b176 b177 b178 (T293.heap) n0 ZN293 u293_1 u293_2 c293_8) hZ (hw _ (List.mem_of_getElem? (i := 54) rfl)) (hw _ (List.mem_of_getElem? (i := 34) rfl)) (by decide) (by decide)) q294a q294c (g := (mkF m 141 #[.val (.int p1), .val (.int p2), .val (.int p3), .val (.int p4), .val (.int p5), .val (.int (3 : Int32)), .val (.int (2 : Int32)), .val (.ref b176), .val (.ref b177), .val (.ref b178), .val (.ref b286), .val (.ref b290), .unset, .unset, .unset, .unset] [(.ref b290)])) rfl (by rw [hml]; rfl) (Steps.refl _) (argsL := []) (rest := []) (lenOf pd_0_3 rfl) rfl (by show 2 * 0 + _ ≤ _; exact Nat.le_of_eq rfl) (hb hby at_141) (fun _ _ => ⟨rfl, rfl, (by decide : 9 + 0 ≤ _), (by decide : 23 + 0 ≤ _)⟩)
    dsimp only [Pt.U, Pt.locs, Pt.cells, Pt.slots] at X294 l294 y294 z294 st294 hQ294
    subst l294 y294 z294
    obtain ⟨rfl, N294q, e294⟩ := hQ294
    have N294 := Fr.app N293 N294q
    refine goT st294 ?_
    show Go _ p e below s _ _ _ (T294.setTop (mkF m 144 #[.val (.int p1), .val (.int p2), .val (.int p3), .val (.int p4), .val (.int p5), .val (.int (3 : Int32)), .val (.int (2 : Int32)), .val (.ref b176), .val (.ref b177), .val (.ref b178), .val (.ref b286), .val (.ref b290), .unset, .unset, .unset, .unset] [(.int (1 : Int32))]))
    refine go (fun _ => XS.istore X294.here hx rfl (hb hby at_144) rfl (l' := #[.val (.int p1), .val (.int p2), .val (.int p3), .val (.int p4), .val (.int p5), .val (.int (3 : Int32)), .val (.int (2 : Int32)), .val (.ref b176), .val (.ref b177), .val (.ref b178), .val (.ref b286), .val (.ref b290), .val (.int (1 : Int32)), .unset, .unset, .unset]) rfl) ?_
    show Go _ p e below s _ _ _ (T294.setTop (mkF m 146 #[.val (.int p1), .val (.int p2), .val (.int p3), .val (.int p4), .val (.int p5), .val (.int (3 : Int32)), .val (.int (2 : Int32)), .val (.ref b176), .val (.ref b177), .val (.ref b178), .val (.ref b286), .val (.ref b290), .val (.int (1 : Int32)), .unset, .unset, .unset] []))
    refine go (fun _ => XS.aload X294.here hx rfl (hb hby at_146) rfl rfl) ?_
    show Go _ p e below s _ _ _ (T294.setTop (mkF m 148 #[.val (.int p1), .val (.int p2), .val (.int p3), .val (.int p4), .val (.int p5), .val (.int (3 : Int32)), .val (.int (2 : Int32)), .val (.ref b176), .val (.ref b177), .val (.ref b178), .val (.ref b286), .val (.ref b290), .val (.int (1 : Int32)), .unset, .unset, .unset] [(.ref b290)]))
    obtain ⟨cq295, kq295, q295a, q295b, q295c⟩ := isOf hZ e294 c293_6
    obtain ⟨_, _, ⟨T295, L295, k295, n295⟩, -, X295, ⟨Lc295, hQ295, l295, y295, z295⟩, st295⟩ := X294.virtualBack hx (y := (⟨"com/example/sunder/sunder/cli/Arguments", "hasNext", "()Z"⟩ : MethodName)) (z := (⟨"com/example/sunder/sunder/cli/Arguments", "hasNext", "()Z"⟩ : MethodName)) hown (mvT hZ (hw _ (List.mem_of_getElem? (i := 50) rfl))) (mvT hZ (hw _ (List.mem_of_getElem? (i := 51) rfl))) (notFace_of_selects (args := #[]) (mvT hZ (hw _ (List.mem_of_getElem? (i := 53) rfl)))) (mvT hZ (hw _ (List.mem_of_getElem? (i := 53) rfl))) (mvT hZ (hw _ (List.mem_of_getElem? (i := 52) rfl))) (by decide) (backOf (W := 0) (rmH3_2 l Z a0 hw [] b290 b291 k286 b176 b177 b178 (T293.heap) n0 ZN293 u293_1 u293_2 c293_8) hZ (hw _ (List.mem_of_getElem? (i := 54) rfl)) (hw _ (List.mem_of_getElem? (i := 34) rfl)) (by decide) (by decide)) q295a q295c (g := (mkF m 148 #[.val (.int p1), .val (.int p2), .val (.int p3), .val (.int p4), .val (.int p5), .val (.int (3 : Int32)), .val (.int (2 : Int32)), .val (.ref b176), .val (.ref b177), .val (.ref b178), .val (.ref b286), .val (.ref b290), .val (.int (1 : Int32)), .unset, .unset, .unset] [(.ref b290)])) rfl (by rw [hml]; rfl) (Steps.refl _) (argsL := []) (rest := []) (lenOf pd_0_3 rfl) rfl (by show 2 * 0 + _ ≤ _; exact Nat.le_of_eq rfl) (hb hby at_148) (fun _ _ => ⟨rfl, e294, (by decide : 9 + 0 ≤ _), (by decide : 23 + 0 ≤ _)⟩)
    dsimp only [Pt.U, Pt.locs, Pt.cells, Pt.slots] at X295 l295 y295 z295 st295 hQ295
    subst l295 y295 z295
    obtain ⟨rfl, N295q, e295⟩ := hQ295
    have N295 := Fr.app N294 N295q
    refine goT st295 ?_
    show Go _ p e below s _ _ _ (T295.setTop (mkF m 151 #[.val (.int p1), .val (.int p2), .val (.int p3), .val (.int p4), .val (.int p5), .val (.int (3 : Int32)), .val (.int (2 : Int32)), .val (.ref b176), .val (.ref b177), .val (.ref b178), .val (.ref b286), .val (.ref b290), .val (.int (1 : Int32)), .unset, .unset, .unset] [(.int (1 : Int32))]))
    refine go (fun _ => XS.istore X295.here hx rfl (hb hby at_151) rfl (l' := #[.val (.int p1), .val (.int p2), .val (.int p3), .val (.int p4), .val (.int p5), .val (.int (3 : Int32)), .val (.int (2 : Int32)), .val (.ref b176), .val (.ref b177), .val (.ref b178), .val (.ref b286), .val (.ref b290), .val (.int (1 : Int32)), .val (.int (1 : Int32)), .unset, .unset]) rfl) ?_
    show Go _ p e below s _ _ _ (T295.setTop (mkF m 153 #[.val (.int p1), .val (.int p2), .val (.int p3), .val (.int p4), .val (.int p5), .val (.int (3 : Int32)), .val (.int (2 : Int32)), .val (.ref b176), .val (.ref b177), .val (.ref b178), .val (.ref b286), .val (.ref b290), .val (.int (1 : Int32)), .val (.int (1 : Int32)), .unset, .unset] []))
    refine go (fun _ => XS.iload X295.here hx rfl (hb hby at_153) rfl) ?_
    show Go _ p e below s _ _ _ (T295.setTop (mkF m 155 #[.val (.int p1), .val (.int p2), .val (.int p3), .val (.int p4), .val (.int p5), .val (.int (3 : Int32)), .val (.int (2 : Int32)), .val (.ref b176), .val (.ref b177), .val (.ref b178), .val (.ref b286), .val (.ref b290), .val (.int (1 : Int32)), .val (.int (1 : Int32)), .unset, .unset] [(.int (1 : Int32))]))
    refine go (fun _ => XS.iload X295.here hx rfl (hb hby at_155) rfl) ?_
    show Go _ p e below s _ _ _ (T295.setTop (mkF m 157 #[.val (.int p1), .val (.int p2), .val (.int p3), .val (.int p4), .val (.int p5), .val (.int (3 : Int32)), .val (.int (2 : Int32)), .val (.ref b176), .val (.ref b177), .val (.ref b178), .val (.ref b286), .val (.ref b290), .val (.int (1 : Int32)), .val (.int (1 : Int32)), .unset, .unset] [(.int (2 : Int32)), (.int (1 : Int32))]))
    refine go (fun _ => XS.iload X295.here hx rfl (hb hby at_157) rfl) ?_
    show Go _ p e below s _ _ _ (T295.setTop (mkF m 159 #[.val (.int p1), .val (.int p2), .val (.int p3), .val (.int p4), .val (.int p5), .val (.int (3 : Int32)), .val (.int (2 : Int32)), .val (.ref b176), .val (.ref b177), .val (.ref b178), .val (.ref b286), .val (.ref b290), .val (.int (1 : Int32)), .val (.int (1 : Int32)), .unset, .unset] [(.int (3 : Int32)), (.int (2 : Int32)), (.int (1 : Int32))]))
    refine go (fun _ => XS.icmpNo X295.here hx rfl (hb hby at_159) rfl (tlt (by decide : ((2 : Int32) < (3 : Int32)))).2.1) ?_
    show Go _ p e below s _ _ _ (T295.setTop (mkF m 162 #[.val (.int p1), .val (.int p2), .val (.int p3), .val (.int p4), .val (.int p5), .val (.int (3 : Int32)), .val (.int (2 : Int32)), .val (.ref b176), .val (.ref b177), .val (.ref b178), .val (.ref b286), .val (.ref b290), .val (.int (1 : Int32)), .val (.int (1 : Int32)), .unset, .unset] [(.int (1 : Int32))]))
    refine go (fun _ => XS.iconst X295.here hx rfl (hb hby at_162)) ?_
    show Go _ p e below s _ _ _ (T295.setTop (mkF m 163 #[.val (.int p1), .val (.int p2), .val (.int p3), .val (.int p4), .val (.int p5), .val (.int (3 : Int32)), .val (.int (2 : Int32)), .val (.ref b176), .val (.ref b177), .val (.ref b178), .val (.ref b286), .val (.ref b290), .val (.int (1 : Int32)), .val (.int (1 : Int32)), .unset, .unset] [(.int (1 : Int32)), (.int (1 : Int32))]))
    refine go (fun _ => XS.goto X295.here hx rfl (pc0 := 163) (pc' := 167) rfl (hb hby at_163) (by decide) (by decide)) ?_
    show Go _ p e below s _ _ _ (T295.setTop (mkF m 167 #[.val (.int p1), .val (.int p2), .val (.int p3), .val (.int p4), .val (.int p5), .val (.int (3 : Int32)), .val (.int (2 : Int32)), .val (.ref b176), .val (.ref b177), .val (.ref b178), .val (.ref b286), .val (.ref b290), .val (.int (1 : Int32)), .val (.int (1 : Int32)), .unset, .unset] [(.int (1 : Int32)), (.int (1 : Int32))]))
    refine go (fun _ => XS.icmpNo X295.here hx rfl (hb hby at_167) rfl (teq (rfl : (1 : Int32) = (1 : Int32))).2) ?_
    show Go _ p e below s _ _ _ (T295.setTop (mkF m 170 #[.val (.int p1), .val (.int p2), .val (.int p3), .val (.int p4), .val (.int p5), .val (.int (3 : Int32)), .val (.int (2 : Int32)), .val (.ref b176), .val (.ref b177), .val (.ref b178), .val (.ref b286), .val (.ref b290), .val (.int (1 : Int32)), .val (.int (1 : Int32)), .unset, .unset] []))
    refine go (fun _ => XS.iload X295.here hx rfl (hb hby at_170) rfl) ?_
    show Go _ p e below s _ _ _ (T295.setTop (mkF m 172 #[.val (.int p1), .val (.int p2), .val (.int p3), .val (.int p4), .val (.int p5), .val (.int (3 : Int32)), .val (.int (2 : Int32)), .val (.ref b176), .val (.ref b177), .val (.ref b178), .val (.ref b286), .val (.ref b290), .val (.int (1 : Int32)), .val (.int (1 : Int32)), .unset, .unset] [(.int (1 : Int32))]))
    refine go (fun _ => XS.iload X295.here hx rfl (hb hby at_172) rfl) ?_
    show Go _ p e below s _ _ _ (T295.setTop (mkF m 174 #[.val (.int p1), .val (.int p2), .val (.int p3), .val (.int p4), .val (.int p5), .val (.int (3 : Int32)), .val (.int (2 : Int32)), .val (.ref b176), .val (.ref b177), .val (.ref b178), .val (.ref b286), .val (.ref b290), .val (.int (1 : Int32)), .val (.int (1 : Int32)), .unset, .unset] [(.int (1 : Int32)), (.int (1 : Int32))]))
    refine go (fun _ => XS.icmpYes X295.here hx rfl (pc0 := 174) (pc' := 179) rfl (hb hby at_174) rfl (teq (rfl : (1 : Int32) = (1 : Int32))).1 (by decide) (by decide)) ?_
    show Go _ p e below s _ _ _ (T295.setTop (mkF m 179 #[.val (.int p1), .val (.int p2), .val (.int p3), .val (.int p4), .val (.int p5), .val (.int (3 : Int32)), .val (.int (2 : Int32)), .val (.ref b176), .val (.ref b177), .val (.ref b178), .val (.ref b286), .val (.ref b290), .val (.int (1 : Int32)), .val (.int (1 : Int32)), .unset, .unset] []))
    refine go (fun _ => XS.iload X295.here hx rfl (hb hby at_179) rfl) ?_
    show Go _ p e below s _ _ _ (T295.setTop (mkF m 181 #[.val (.int p1), .val (.int p2), .val (.int p3), .val (.int p4), .val (.int p5), .val (.int (3 : Int32)), .val (.int (2 : Int32)), .val (.ref b176), .val (.ref b177), .val (.ref b178), .val (.ref b286), .val (.ref b290), .val (.int (1 : Int32)), .val (.int (1 : Int32)), .unset, .unset] [(.int (1 : Int32))]))
    refine go (fun _ => XS.ifYes X295.here hx rfl (pc0 := 181) (pc' := 186) rfl (hb hby at_181) rfl ((if0 _ _).trans (feq (by decide : ¬ ((1 : Int32) = (0 : Int32)))).2) (by decide) (by decide)) ?_
    show Go _ p e below s _ _ _ (T295.setTop (mkF m 186 #[.val (.int p1), .val (.int p2), .val (.int p3), .val (.int p4), .val (.int p5), .val (.int (3 : Int32)), .val (.int (2 : Int32)), .val (.ref b176), .val (.ref b177), .val (.ref b178), .val (.ref b286), .val (.ref b290), .val (.int (1 : Int32)), .val (.int (1 : Int32)), .unset, .unset] []))
    refine go (fun _ => XS.aload X295.here hx rfl (hb hby at_186) rfl rfl) ?_
    show Go _ p e below s _ _ _ (T295.setTop (mkF m 188 #[.val (.int p1), .val (.int p2), .val (.int p3), .val (.int p4), .val (.int p5), .val (.int (3 : Int32)), .val (.int (2 : Int32)), .val (.ref b176), .val (.ref b177), .val (.ref b178), .val (.ref b286), .val (.ref b290), .val (.int (1 : Int32)), .val (.int (1 : Int32)), .unset, .unset] [(.ref b290)]))
    obtain ⟨cq296, kq296, q296a, q296b, q296c⟩ := isOf hZ e295 c293_6
    obtain ⟨_, _, ⟨T296, L296, k296, n296⟩, -, X296, ⟨Lc296, hQ296, l296, y296, z296⟩, st296⟩ := X295.virtualBack hx (y := (⟨"com/example/sunder/sunder/cli/Arguments", "next", "()Ljava/lang/String;"⟩ : MethodName)) (z := (⟨"com/example/sunder/sunder/cli/Arguments", "next", "()Ljava/lang/String;"⟩ : MethodName)) hown (mvT hZ (hw _ (List.mem_of_getElem? (i := 57) rfl))) (mvT hZ (hw _ (List.mem_of_getElem? (i := 58) rfl))) (notFace_of_selects (args := #[]) (mvT hZ (hw _ (List.mem_of_getElem? (i := 60) rfl)))) (mvT hZ (hw _ (List.mem_of_getElem? (i := 60) rfl))) (mvT hZ (hw _ (List.mem_of_getElem? (i := 59) rfl))) (by decide) (backOf (W := 0) (rmN3_2 l Z a0 hw [] b290 b291 k286 b176 b177 b178 (T293.heap) n0 ZN293 c293_6 u293_1 u293_2 G_b290 c293_8 (Nat.ne_of_lt lt291_b290_b291)) hZ (hw _ (List.mem_of_getElem? (i := 61) rfl)) (hw _ (List.mem_of_getElem? (i := 34) rfl)) (by decide) (by decide)) q296a q296c (g := (mkF m 188 #[.val (.int p1), .val (.int p2), .val (.int p3), .val (.int p4), .val (.int p5), .val (.int (3 : Int32)), .val (.int (2 : Int32)), .val (.ref b176), .val (.ref b177), .val (.ref b178), .val (.ref b286), .val (.ref b290), .val (.int (1 : Int32)), .val (.int (1 : Int32)), .unset, .unset] [(.ref b290)])) rfl (by rw [hml]; rfl) (Steps.refl _) (argsL := []) (rest := []) (lenOf pd_0_4 rfl) rfl (by show 2 * 0 + _ ≤ _; exact Nat.le_of_eq rfl) (hb hby at_188) (fun _ _ => ⟨rfl, e295, (by decide : 9 + 0 ≤ _), (by decide : 23 + 0 ≤ _)⟩)
    dsimp only [Pt.U, Pt.locs, Pt.cells, Pt.slots] at X296 l296 y296 z296 st296 hQ296
    subst l296 y296 z296
    obtain ⟨rfl, N296q, K296, u296_1, u296_2⟩ := hQ296
    have N296 := Fr.app N295 N296q
    have c296_1 := c293_1.keep K296
    have c296_2 := c293_2.keep K296
    have c296_3 := c293_3.keep K296
    have c296_4 := c293_4.keep K296
    have c296_5 := c293_5.keep K296 (ninS (Nat.ne_of_lt lt290_b286_b290) nin0)
    have c296_6 := c293_6.keep K296
    have c296_7 := c293_7.keep K296
    have c296_8 := c293_8.keep K296 (ninS (Ne.symm (Nat.ne_of_lt lt291_b290_b291)) nin0)
    have KK296 : Keep h0 T296.heap [] := KK293.trans K296 (allS (P := fun x => x ∈ [] ∨ h0.size ≤ x) (Or.inr SZ_b290) all0)
    have ZN296 : n0 ≤ T296.heap.size := Nat.le_trans ZN293 K296.1
    have OL296 := OL293.keep K296 (allS G_b290 all0)
    refine goT st296 ?_
    show Go _ p e below s _ _ _ (T296.setTop (mkF m 191 #[.val (.int p1), .val (.int p2), .val (.int p3), .val (.int p4), .val (.int p5), .val (.int (3 : Int32)), .val (.int (2 : Int32)), .val (.ref b176), .val (.ref b177), .val (.ref b178), .val (.ref b286), .val (.ref b290), .val (.int (1 : Int32)), .val (.int (1 : Int32)), .unset, .unset] [(.ref b178)]))
    refine go (fun _ => XS.astore X296.here hx rfl (hb hby at_191) rfl rfl (l' := #[.val (.int p1), .val (.int p2), .val (.int p3), .val (.int p4), .val (.int p5), .val (.int (3 : Int32)), .val (.int (2 : Int32)), .val (.ref b176), .val (.ref b177), .val (.ref b178), .val (.ref b286), .val (.ref b290), .val (.int (1 : Int32)), .val (.int (1 : Int32)), .val (.ref b178), .unset]) rfl) ?_
    show Go _ p e below s _ _ _ (T296.setTop (mkF m 193 #[.val (.int p1), .val (.int p2), .val (.int p3), .val (.int p4), .val (.int p5), .val (.int (3 : Int32)), .val (.int (2 : Int32)), .val (.ref b176), .val (.ref b177), .val (.ref b178), .val (.ref b286), .val (.ref b290), .val (.int (1 : Int32)), .val (.int (1 : Int32)), .val (.ref b178), .unset] []))
    refine go (fun _ => XS.iload X296.here hx rfl (hb hby at_193) rfl) ?_
    show Go _ p e below s _ _ _ (T296.setTop (mkF m 195 #[.val (.int p1), .val (.int p2), .val (.int p3), .val (.int p4), .val (.int p5), .val (.int (3 : Int32)), .val (.int (2 : Int32)), .val (.ref b176), .val (.ref b177), .val (.ref b178), .val (.ref b286), .val (.ref b290), .val (.int (1 : Int32)), .val (.int (1 : Int32)), .val (.ref b178), .unset] [(.int (2 : Int32))]))
    refine go (fun _ => XS.ifYes X296.here hx rfl (pc0 := 195) (pc' := 203) rfl (hb hby at_195) rfl ((if0 _ _).trans (feq (by decide : ¬ ((2 : Int32) = (0 : Int32)))).2) (by decide) (by decide)) ?_
    show Go _ p e below s _ _ _ (T296.setTop (mkF m 203 #[.val (.int p1), .val (.int p2), .val (.int p3), .val (.int p4), .val (.int p5), .val (.int (3 : Int32)), .val (.int (2 : Int32)), .val (.ref b176), .val (.ref b177), .val (.ref b178), .val (.ref b286), .val (.ref b290), .val (.int (1 : Int32)), .val (.int (1 : Int32)), .val (.ref b178), .unset] []))
    refine go (fun _ => XS.iload X296.here hx rfl (hb hby at_203) rfl) ?_
    show Go _ p e below s _ _ _ (T296.setTop (mkF m 205 #[.val (.int p1), .val (.int p2), .val (.int p3), .val (.int p4), .val (.int p5), .val (.int (3 : Int32)), .val (.int (2 : Int32)), .val (.ref b176), .val (.ref b177), .val (.ref b178), .val (.ref b286), .val (.ref b290), .val (.int (1 : Int32)), .val (.int (1 : Int32)), .val (.ref b178), .unset] [(.int (2 : Int32))]))
    refine go (fun _ => XS.iconst X296.here hx rfl (hb hby at_205)) ?_
    show Go _ p e below s _ _ _ (T296.setTop (mkF m 206 #[.val (.int p1), .val (.int p2), .val (.int p3), .val (.int p4), .val (.int p5), .val (.int (3 : Int32)), .val (.int (2 : Int32)), .val (.ref b176), .val (.ref b177), .val (.ref b178), .val (.ref b286), .val (.ref b290), .val (.int (1 : Int32)), .val (.int (1 : Int32)), .val (.ref b178), .unset] [(.int (1 : Int32)), (.int (2 : Int32))]))
    refine go (fun _ => XS.icmpYes X296.here hx rfl (pc0 := 206) (pc' := 214) rfl (hb hby at_206) rfl (feq (by decide : ¬ ((2 : Int32) = (1 : Int32)))).2 (by decide) (by decide)) ?_
    show Go _ p e below s _ _ _ (T296.setTop (mkF m 214 #[.val (.int p1), .val (.int p2), .val (.int p3), .val (.int p4), .val (.int p5), .val (.int (3 : Int32)), .val (.int (2 : Int32)), .val (.ref b176), .val (.ref b177), .val (.ref b178), .val (.ref b286), .val (.ref b290), .val (.int (1 : Int32)), .val (.int (1 : Int32)), .val (.ref b178), .unset] []))
    refine go (fun _ => XS.aload X296.here hx rfl (hb hby at_214) rfl rfl) ?_
    show Go _ p e below s _ _ _ (T296.setTop (mkF m 216 #[.val (.int p1), .val (.int p2), .val (.int p3), .val (.int p4), .val (.int p5), .val (.int (3 : Int32)), .val (.int (2 : Int32)), .val (.ref b176), .val (.ref b177), .val (.ref b178), .val (.ref b286), .val (.ref b290), .val (.int (1 : Int32)), .val (.int (1 : Int32)), .val (.ref b178), .unset] [(.ref b178)]))
    refine go (fun _ => XS.astore X296.here hx rfl (hb hby at_216) rfl rfl (l' := #[.val (.int p1), .val (.int p2), .val (.int p3), .val (.int p4), .val (.int p5), .val (.int (3 : Int32)), .val (.int (2 : Int32)), .val (.ref b176), .val (.ref b177), .val (.ref b178), .val (.ref b286), .val (.ref b290), .val (.int (1 : Int32)), .val (.int (1 : Int32)), .val (.ref b178), .val (.ref b178)]) rfl) ?_
    show Go _ p e below s _ _ _ (T296.setTop (mkF m 218 #[.val (.int p1), .val (.int p2), .val (.int p3), .val (.int p4), .val (.int p5), .val (.int (3 : Int32)), .val (.int (2 : Int32)), .val (.ref b176), .val (.ref b177), .val (.ref b178), .val (.ref b286), .val (.ref b290), .val (.int (1 : Int32)), .val (.int (1 : Int32)), .val (.ref b178), .val (.ref b178)] []))
    refine go (fun _ => XS.aload X296.here hx rfl (hb hby at_218) rfl rfl) ?_
    show Go _ p e below s _ _ _ (T296.setTop (mkF m 220 #[.val (.int p1), .val (.int p2), .val (.int p3), .val (.int p4), .val (.int p5), .val (.int (3 : Int32)), .val (.int (2 : Int32)), .val (.ref b176), .val (.ref b177), .val (.ref b178), .val (.ref b286), .val (.ref b290), .val (.int (1 : Int32)), .val (.int (1 : Int32)), .val (.ref b178), .val (.ref b178)] [(.ref b178)]))
    refine go (fun _ => XS.aload X296.here hx rfl (hb hby at_220) rfl rfl) ?_
    show Go _ p e below s _ _ _ (T296.setTop (mkF m 222 #[.val (.int p1), .val (.int p2), .val (.int p3), .val (.int p4), .val (.int p5), .val (.int (3 : Int32)), .val (.int (2 : Int32)), .val (.ref b176), .val (.ref b177), .val (.ref b178), .val (.ref b286), .val (.ref b290), .val (.int (1 : Int32)), .val (.int (1 : Int32)), .val (.ref b178), .val (.ref b178)] [(.ref b178), (.ref b178)]))
    obtain ⟨cq297, kq297, q297a, q297b, q297c⟩ := isOf hZ rfl c296_3
    obtain ⟨_, _, ⟨T297, L297, k297, n297⟩, -, X297, ⟨Lc297, hQ297, l297, y297, z297⟩, st297⟩ := X296.virtualBack hx (y := (⟨"java/lang/String", "equals", "(Ljava/lang/Object;)Z"⟩ : MethodName)) (z := (⟨"java/lang/String", "equals", "(Ljava/lang/Object;)Z"⟩ : MethodName)) hown (mvT hZ (hw _ (List.mem_of_getElem? (i := 63) rfl))) (mvT hZ (hw _ (List.mem_of_getElem? (i := 64) rfl))) (notFace_of_selects (args := #[]) (mvT hZ (hw _ (List.mem_of_getElem? (i := 66) rfl)))) (mvT hZ (hw _ (List.mem_of_getElem? (i := 66) rfl))) (mvT hZ (hw _ (List.mem_of_getElem? (i := 65) rfl))) (by decide) (backOf (W := 0) (rm10 l Z a0 hw [] b178 b178 (T296.heap) n0 ZN296 rfl) hZ (hw _ (List.mem_of_getElem? (i := 67) rfl)) (hw _ (List.mem_of_getElem? (i := 6) rfl)) (by decide) (by decide)) q297a q297c (g := (mkF m 222 #[.val (.int p1), .val (.int p2), .val (.int p3), .val (.int p4), .val (.int p5), .val (.int (3 : Int32)), .val (.int (2 : Int32)), .val (.ref b176), .val (.ref b177), .val (.ref b178), .val (.ref b286), .val (.ref b290), .val (.int (1 : Int32)), .val (.int (1 : Int32)), .val (.ref b178), .val (.ref b178)] [(.ref b178), (.ref b178)])) rfl (by rw [hml]; rfl) (Steps.refl _) (argsL := [(.ref b178)]) (rest := []) (lenOf pd_0_5 rfl) rfl (by show 2 * 0 + _ ≤ _; exact Nat.le_of_eq rfl) (hb hby at_222) (fun _ _ => ⟨rfl, rfl, (by decide : 9 + 0 ≤ _), (by decide : 23 + 0 ≤ _)⟩)
    dsimp only [Pt.U, Pt.locs, Pt.cells, Pt.slots] at X297 l297 y297 z297 st297 hQ297
    subst l297 y297 z297
    obtain ⟨rfl, N297q, e297⟩ := hQ297
    have N297 := Fr.app N296 N297q
    refine goT st297 ?_
    show Go _ p e below s _ _ _ (T297.setTop (mkF m 225 #[.val (.int p1), .val (.int p2), .val (.int p3), .val (.int p4), .val (.int p5), .val (.int (3 : Int32)), .val (.int (2 : Int32)), .val (.ref b176), .val (.ref b177), .val (.ref b178), .val (.ref b286), .val (.ref b290), .val (.int (1 : Int32)), .val (.int (1 : Int32)), .val (.ref b178), .val (.ref b178)] [(.int (1 : Int32))]))
    refine goRet X297 hx Bd.notSynchronized Bd.returns rfl (Or.inl ⟨rfl, Or.inr (Or.inl rfl), _, rfl⟩) (hb hby at_225) (by decide) (by decide) (by rw [e297]; refine ⟨rfl, N297⟩)
  · rw [show own_min (3 : Int32) (3 : Int32) = (3 : Int32) from by decide]
    show Go _ p e below s _ _ _ (T178.setTop (mkF m 49 #[.val (.int p1), .val (.int p2), .val (.int p3), .val (.int p4), .val (.int p5), .val (.int (3 : Int32)), .val (.int (3 : Int32)), .val (.ref b176), .val (.ref b177), .val (.ref b178), .unset, .unset, .unset, .unset, .unset, .unset] []))
    refine go (fun _ => XS.iload X178.here hx rfl (hb hby at_49) rfl) ?_
    show Go _ p e below s _ _ _ (T178.setTop (mkF m 51 #[.val (.int p1), .val (.int p2), .val (.int p3), .val (.int p4), .val (.int p5), .val (.int (3 : Int32)), .val (.int (3 : Int32)), .val (.ref b176), .val (.ref b177), .val (.ref b178), .unset, .unset, .unset, .unset, .unset, .unset] [(.int (3 : Int32))]))
    obtain ⟨T298, h298, k298, X298, e298, E298, A298, AE298, O298, st298⟩ := newRE X178 hx hZ hown (hw _ (List.mem_of_getElem? (i := 30) rfl)) (hw _ (List.mem_of_getElem? (i := 31) rfl)) rfl (g := (mkF m 51 #[.val (.int p1), .val (.int p2), .val (.int p3), .val (.int p4), .val (.int p5), .val (.int (3 : Int32)), .val (.int (3 : Int32)), .val (.ref b176), .val (.ref b177), .val (.ref b178), .unset, .unset, .unset, .unset, .unset, .unset] [(.int (3 : Int32))])) rfl (hb hby at_51) rfl (by decide) (cap := 3) (by decide) (by decide) (by decide) (by decide) (ad := "[Ljava/lang/String;") (by first | rfl | decide)
    obtain ⟨b298, g298⟩ : ∃ z, z = T178.heap.size := ⟨_, rfl⟩
    rw [← g298] at A298 AE298 st298
    have lt298_b176_b298 : b176 < b298 := Nat.lt_of_lt_of_le c178_1.lt (Nat.le_of_eq g298.symm)
    have lt298_b177_b298 : b177 < b298 := Nat.lt_of_lt_of_le c178_2.lt (Nat.le_of_eq g298.symm)
    have lt298_b178_b298 : b178 < b298 := Nat.lt_of_lt_of_le u178_3.lt (Nat.le_of_eq g298.symm)
    have G_b298 : n0 ≤ b298 := Nat.le_trans ZN178 (Nat.le_of_eq g298.symm)
    have SZ_b298 : h0.size ≤ b298 := Nat.le_trans KK178.1 (Nat.le_of_eq g298.symm)
    have c298_1 := c178_1.ext E298
    have c298_2 := c178_2.ext E298
    have c298_3 := u178_3.ext E298
    have KK298 : Keep h0 h298 [] := KK178.ext E298
    have ZN298 : n0 ≤ h298.size := Nat.le_trans ZN178 E298.1
    have OL298 := OL178.ext E298
    have V298 : Arv Z h298 b298 k298 (.object "java/lang/String") (3 : Int32) [.null, .null, .null] .null := (Arv.new A298 (by decide)).pad (pad_rep [] .null 3)
    refine go st298 ?_
    show Go _ p e below s _ _ _ (T298.setTop (mkF m 54 #[.val (.int p1), .val (.int p2), .val (.int p3), .val (.int p4), .val (.int p5), .val (.int (3 : Int32)), .val (.int (3 : Int32)), .val (.ref b176), .val (.ref b177), .val (.ref b178), .unset, .unset, .unset, .unset, .unset, .unset] [(.ref b298)]))
    refine go (fun _ => XS.astore X298.here hx rfl (hb hby at_54) rfl rfl (l' := #[.val (.int p1), .val (.int p2), .val (.int p3), .val (.int p4), .val (.int p5), .val (.int (3 : Int32)), .val (.int (3 : Int32)), .val (.ref b176), .val (.ref b177), .val (.ref b178), .val (.ref b298), .unset, .unset, .unset, .unset, .unset]) rfl) ?_
    show Go _ p e below s _ _ _ (T298.setTop (mkF m 56 #[.val (.int p1), .val (.int p2), .val (.int p3), .val (.int p4), .val (.int p5), .val (.int (3 : Int32)), .val (.int (3 : Int32)), .val (.ref b176), .val (.ref b177), .val (.ref b178), .val (.ref b298), .unset, .unset, .unset, .unset, .unset] []))
    refine go (fun _ => XS.iload X298.here hx rfl (hb hby at_56) rfl) ?_
    show Go _ p e below s _ _ _ (T298.setTop (mkF m 58 #[.val (.int p1), .val (.int p2), .val (.int p3), .val (.int p4), .val (.int p5), .val (.int (3 : Int32)), .val (.int (3 : Int32)), .val (.ref b176), .val (.ref b177), .val (.ref b178), .val (.ref b298), .unset, .unset, .unset, .unset, .unset] [(.int (3 : Int32))]))
    refine go (fun _ => XS.iconst X298.here hx rfl (hb hby at_58)) ?_
    show Go _ p e below s _ _ _ (T298.setTop (mkF m 59 #[.val (.int p1), .val (.int p2), .val (.int p3), .val (.int p4), .val (.int p5), .val (.int (3 : Int32)), .val (.int (3 : Int32)), .val (.ref b176), .val (.ref b177), .val (.ref b178), .val (.ref b298), .unset, .unset, .unset, .unset, .unset] [(.int (1 : Int32)), (.int (3 : Int32))]))
    refine go (fun _ => XS.icmpNo X298.here hx rfl (hb hby at_59) rfl (flt (by decide : ¬ ((3 : Int32) < (1 : Int32)))).1) ?_
    show Go _ p e below s _ _ _ (T298.setTop (mkF m 62 #[.val (.int p1), .val (.int p2), .val (.int p3), .val (.int p4), .val (.int p5), .val (.int (3 : Int32)), .val (.int (3 : Int32)), .val (.ref b176), .val (.ref b177), .val (.ref b178), .val (.ref b298), .unset, .unset, .unset, .unset, .unset] []))
    refine go (fun _ => XS.aload X298.here hx rfl (hb hby at_62) rfl rfl) ?_
    show Go _ p e below s _ _ _ (T298.setTop (mkF m 64 #[.val (.int p1), .val (.int p2), .val (.int p3), .val (.int p4), .val (.int p5), .val (.int (3 : Int32)), .val (.int (3 : Int32)), .val (.ref b176), .val (.ref b177), .val (.ref b178), .val (.ref b298), .unset, .unset, .unset, .unset, .unset] [(.ref b298)]))
    refine go (fun _ => XS.iconst X298.here hx rfl (hb hby at_64)) ?_
    show Go _ p e below s _ _ _ (T298.setTop (mkF m 65 #[.val (.int p1), .val (.int p2), .val (.int p3), .val (.int p4), .val (.int p5), .val (.int (3 : Int32)), .val (.int (3 : Int32)), .val (.ref b176), .val (.ref b177), .val (.ref b178), .val (.ref b298), .unset, .unset, .unset, .unset, .unset] [(.int (0 : Int32)), (.ref b298)]))
    refine go (fun _ => XS.aload X298.here hx rfl (hb hby at_65) rfl rfl) ?_
    show Go _ p e below s _ _ _ (T298.setTop (mkF m 67 #[.val (.int p1), .val (.int p2), .val (.int p3), .val (.int p4), .val (.int p5), .val (.int (3 : Int32)), .val (.int (3 : Int32)), .val (.ref b176), .val (.ref b177), .val (.ref b178), .val (.ref b298), .unset, .unset, .unset, .unset, .unset] [(.ref b176), (.int (0 : Int32)), (.ref b298)]))
    obtain ⟨cl299, Ar299, q299, Sz299, Nz299, Hs299, Gs299⟩ := id V298
    have hin299 : ¬ ((0 : Int32) < 0 ∨ cl299.slots.size ≤ ((0 : Int32)).toNatClampNeg) := inb_of Sz299 ⟨by decide, by decide⟩
    obtain ⟨T299, h299, X299, e299, W299, st299⟩ := stR X298 hx hZ e298 Ar299 (j := (0 : Int32)) hin299 rfl (Sto.ofV Ar299 q299 O298 (Ins.self c298_1)) (g := (mkF m 67 #[.val (.int p1), .val (.int p2), .val (.int p3), .val (.int p4), .val (.int p5), .val (.int (3 : Int32)), .val (.int (3 : Int32)), .val (.ref b176), .val (.ref b177), .val (.ref b178), .val (.ref b298), .unset, .unset, .unset, .unset, .unset] [(.ref b176), (.int (0 : Int32)), (.ref b298)])) rfl rfl (hb hby at_67)
    have V299 := Arv.set Ar299 q299 Sz299 Nz299 Hs299 Gs299 rfl W299 0 rfl (Nat.le_of_ble_eq_true rfl)
    have VV299 : Arv Z h299 b298 k298 (.object "java/lang/String") (3 : Int32) [(.ref b176), .null, .null] .null := V299
    have c299_1 := c298_1.wr W299
    have c299_2 := c298_2.wr W299
    have c299_3 := c298_3.wr W299
    have c299_4 := AE298.wr W299
    have KK299 : Keep h0 h299 [] := KK298.wr W299 (Or.inr SZ_b298)
    have ZN299 : n0 ≤ h299.size := Nat.le_trans ZN298 (Keep.of_wr W299).1
    have NN299 := Fr.snoc X299 N178 G_b298
    have OL299 := OL298.wr W299 G_b298
    refine go st299 ?_
    show Go _ p e below s _ _ _ (T299.setTop (mkF m 68 #[.val (.int p1), .val (.int p2), .val (.int p3), .val (.int p4), .val (.int p5), .val (.int (3 : Int32)), .val (.int (3 : Int32)), .val (.ref b176), .val (.ref b177), .val (.ref b178), .val (.ref b298), .unset, .unset, .unset, .unset, .unset] []))
    refine go (fun _ => XS.iload X299.here hx rfl (hb hby at_68) rfl) ?_
    show Go _ p e below s _ _ _ (T299.setTop (mkF m 70 #[.val (.int p1), .val (.int p2), .val (.int p3), .val (.int p4), .val (.int p5), .val (.int (3 : Int32)), .val (.int (3 : Int32)), .val (.ref b176), .val (.ref b177), .val (.ref b178), .val (.ref b298), .unset, .unset, .unset, .unset, .unset] [(.int (3 : Int32))]))
    refine go (fun _ => XS.iconst X299.here hx rfl (hb hby at_70)) ?_
    show Go _ p e below s _ _ _ (T299.setTop (mkF m 71 #[.val (.int p1), .val (.int p2), .val (.int p3), .val (.int p4), .val (.int p5), .val (.int (3 : Int32)), .val (.int (3 : Int32)), .val (.ref b176), .val (.ref b177), .val (.ref b178), .val (.ref b298), .unset, .unset, .unset, .unset, .unset] [(.int (2 : Int32)), (.int (3 : Int32))]))
    refine go (fun _ => XS.icmpNo X299.here hx rfl (hb hby at_71) rfl (flt (by decide : ¬ ((3 : Int32) < (2 : Int32)))).1) ?_
    show Go _ p e below s _ _ _ (T299.setTop (mkF m 74 #[.val (.int p1), .val (.int p2), .val (.int p3), .val (.int p4), .val (.int p5), .val (.int (3 : Int32)), .val (.int (3 : Int32)), .val (.ref b176), .val (.ref b177), .val (.ref b178), .val (.ref b298), .unset, .unset, .unset, .unset, .unset] []))
    refine go (fun _ => XS.aload X299.here hx rfl (hb hby at_74) rfl rfl) ?_
    show Go _ p e below s _ _ _ (T299.setTop (mkF m 76 #[.val (.int p1), .val (.int p2), .val (.int p3), .val (.int p4), .val (.int p5), .val (.int (3 : Int32)), .val (.int (3 : Int32)), .val (.ref b176), .val (.ref b177), .val (.ref b178), .val (.ref b298), .unset, .unset, .unset, .unset, .unset] [(.ref b298)]))
    refine go (fun _ => XS.iconst X299.here hx rfl (hb hby at_76)) ?_
    show Go _ p e below s _ _ _ (T299.setTop (mkF m 77 #[.val (.int p1), .val (.int p2), .val (.int p3), .val (.int p4), .val (.int p5), .val (.int (3 : Int32)), .val (.int (3 : Int32)), .val (.ref b176), .val (.ref b177), .val (.ref b178), .val (.ref b298), .unset, .unset, .unset, .unset, .unset] [(.int (1 : Int32)), (.ref b298)]))
    refine go (fun _ => XS.aload X299.here hx rfl (hb hby at_77) rfl rfl) ?_
    show Go _ p e below s _ _ _ (T299.setTop (mkF m 79 #[.val (.int p1), .val (.int p2), .val (.int p3), .val (.int p4), .val (.int p5), .val (.int (3 : Int32)), .val (.int (3 : Int32)), .val (.ref b176), .val (.ref b177), .val (.ref b178), .val (.ref b298), .unset, .unset, .unset, .unset, .unset] [(.ref b177), (.int (1 : Int32)), (.ref b298)]))
    obtain ⟨cl300, Ar300, q300, Sz300, Nz300, Hs300, Gs300⟩ := id VV299
    have hin300 : ¬ ((1 : Int32) < 0 ∨ cl300.slots.size ≤ ((1 : Int32)).toNatClampNeg) := inb_of Sz300 ⟨by decide, by decide⟩
    obtain ⟨T300, h300, X300, e300, W300, st300⟩ := stR X299 hx hZ e299 Ar300 (j := (1 : Int32)) hin300 rfl (Sto.ofV Ar300 q300 O298 (Ins.self c299_2)) (g := (mkF m 79 #[.val (.int p1), .val (.int p2), .val (.int p3), .val (.int p4), .val (.int p5), .val (.int (3 : Int32)), .val (.int (3 : Int32)), .val (.ref b176), .val (.ref b177), .val (.ref b178), .val (.ref b298), .unset, .unset, .unset, .unset, .unset] [(.ref b177), (.int (1 : Int32)), (.ref b298)])) rfl rfl (hb hby at_79)
    have V300 := Arv.set Ar300 q300 Sz300 Nz300 Hs300 Gs300 rfl W300 1 rfl (Nat.le_of_ble_eq_true rfl)
    have VV300 : Arv Z h300 b298 k298 (.object "java/lang/String") (3 : Int32) [(.ref b176), (.ref b177), .null] .null := V300
    have c300_1 := c299_1.wr W300
    have c300_2 := c299_2.wr W300
    have c300_3 := c299_3.wr W300
    have c300_4 := c299_4.wr W300
    have KK300 : Keep h0 h300 [] := KK299.wr W300 (Or.inr SZ_b298)
    have ZN300 : n0 ≤ h300.size := Nat.le_trans ZN299 (Keep.of_wr W300).1
    have NN300 := Fr.snoc X300 NN299 G_b298
    have OL300 := OL299.wr W300 G_b298
    refine go st300 ?_
    show Go _ p e below s _ _ _ (T300.setTop (mkF m 80 #[.val (.int p1), .val (.int p2), .val (.int p3), .val (.int p4), .val (.int p5), .val (.int (3 : Int32)), .val (.int (3 : Int32)), .val (.ref b176), .val (.ref b177), .val (.ref b178), .val (.ref b298), .unset, .unset, .unset, .unset, .unset] []))
    refine go (fun _ => XS.iload X300.here hx rfl (hb hby at_80) rfl) ?_
    show Go _ p e below s _ _ _ (T300.setTop (mkF m 82 #[.val (.int p1), .val (.int p2), .val (.int p3), .val (.int p4), .val (.int p5), .val (.int (3 : Int32)), .val (.int (3 : Int32)), .val (.ref b176), .val (.ref b177), .val (.ref b178), .val (.ref b298), .unset, .unset, .unset, .unset, .unset] [(.int (3 : Int32))]))
    refine go (fun _ => XS.iconst X300.here hx rfl (hb hby at_82)) ?_
    show Go _ p e below s _ _ _ (T300.setTop (mkF m 83 #[.val (.int p1), .val (.int p2), .val (.int p3), .val (.int p4), .val (.int p5), .val (.int (3 : Int32)), .val (.int (3 : Int32)), .val (.ref b176), .val (.ref b177), .val (.ref b178), .val (.ref b298), .unset, .unset, .unset, .unset, .unset] [(.int (3 : Int32)), (.int (3 : Int32))]))
    refine go (fun _ => XS.icmpNo X300.here hx rfl (hb hby at_83) rfl (flt (by decide : ¬ ((3 : Int32) < (3 : Int32)))).1) ?_
    show Go _ p e below s _ _ _ (T300.setTop (mkF m 86 #[.val (.int p1), .val (.int p2), .val (.int p3), .val (.int p4), .val (.int p5), .val (.int (3 : Int32)), .val (.int (3 : Int32)), .val (.ref b176), .val (.ref b177), .val (.ref b178), .val (.ref b298), .unset, .unset, .unset, .unset, .unset] []))
    refine go (fun _ => XS.aload X300.here hx rfl (hb hby at_86) rfl rfl) ?_
    show Go _ p e below s _ _ _ (T300.setTop (mkF m 88 #[.val (.int p1), .val (.int p2), .val (.int p3), .val (.int p4), .val (.int p5), .val (.int (3 : Int32)), .val (.int (3 : Int32)), .val (.ref b176), .val (.ref b177), .val (.ref b178), .val (.ref b298), .unset, .unset, .unset, .unset, .unset] [(.ref b298)]))
    refine go (fun _ => XS.iconst X300.here hx rfl (hb hby at_88)) ?_
    show Go _ p e below s _ _ _ (T300.setTop (mkF m 89 #[.val (.int p1), .val (.int p2), .val (.int p3), .val (.int p4), .val (.int p5), .val (.int (3 : Int32)), .val (.int (3 : Int32)), .val (.ref b176), .val (.ref b177), .val (.ref b178), .val (.ref b298), .unset, .unset, .unset, .unset, .unset] [(.int (2 : Int32)), (.ref b298)]))
    refine go (fun _ => XS.aload X300.here hx rfl (hb hby at_89) rfl rfl) ?_
    show Go _ p e below s _ _ _ (T300.setTop (mkF m 91 #[.val (.int p1), .val (.int p2), .val (.int p3), .val (.int p4), .val (.int p5), .val (.int (3 : Int32)), .val (.int (3 : Int32)), .val (.ref b176), .val (.ref b177), .val (.ref b178), .val (.ref b298), .unset, .unset, .unset, .unset, .unset] [(.ref b178), (.int (2 : Int32)), (.ref b298)]))
    obtain ⟨cl301, Ar301, q301, Sz301, Nz301, Hs301, Gs301⟩ := id VV300
    have hin301 : ¬ ((2 : Int32) < 0 ∨ cl301.slots.size ≤ ((2 : Int32)).toNatClampNeg) := inb_of Sz301 ⟨by decide, by decide⟩
    obtain ⟨T301, h301, X301, e301, W301, st301⟩ := stR X300 hx hZ e300 Ar301 (j := (2 : Int32)) hin301 rfl (Sto.ofV Ar301 q301 O298 (Ins.self c300_3)) (g := (mkF m 91 #[.val (.int p1), .val (.int p2), .val (.int p3), .val (.int p4), .val (.int p5), .val (.int (3 : Int32)), .val (.int (3 : Int32)), .val (.ref b176), .val (.ref b177), .val (.ref b178), .val (.ref b298), .unset, .unset, .unset, .unset, .unset] [(.ref b178), (.int (2 : Int32)), (.ref b298)])) rfl rfl (hb hby at_91)
    have V301 := Arv.set Ar301 q301 Sz301 Nz301 Hs301 Gs301 rfl W301 2 rfl (Nat.le_of_ble_eq_true rfl)
    have VV301 : Arv Z h301 b298 k298 (.object "java/lang/String") (3 : Int32) [(.ref b176), (.ref b177), (.ref b178)] .null := V301
    have c301_1 := c300_1.wr W301
    have c301_2 := c300_2.wr W301
    have c301_3 := c300_3.wr W301
    have c301_4 := c300_4.wr W301
    have KK301 : Keep h0 h301 [] := KK300.wr W301 (Or.inr SZ_b298)
    have ZN301 : n0 ≤ h301.size := Nat.le_trans ZN300 (Keep.of_wr W301).1
    have NN301 := Fr.snoc X301 NN300 G_b298
    have OL301 := OL300.wr W301 G_b298
    refine go st301 ?_
    show Go _ p e below s _ _ _ (T301.setTop (mkF m 92 #[.val (.int p1), .val (.int p2), .val (.int p3), .val (.int p4), .val (.int p5), .val (.int (3 : Int32)), .val (.int (3 : Int32)), .val (.ref b176), .val (.ref b177), .val (.ref b178), .val (.ref b298), .unset, .unset, .unset, .unset, .unset] []))
    obtain ⟨T302, h302, X302, e302, E302, A302, D302, -, st302⟩ := newO X301 hx hZ hown (hw _ (List.mem_of_getElem? (i := 32) rfl)) (hw _ (List.mem_of_getElem? (i := 33) rfl)) (hw _ (List.mem_of_getElem? (i := 34) rfl)) e301 (g := (mkF m 92 #[.val (.int p1), .val (.int p2), .val (.int p3), .val (.int p4), .val (.int p5), .val (.int (3 : Int32)), .val (.int (3 : Int32)), .val (.ref b176), .val (.ref b177), .val (.ref b178), .val (.ref b298), .unset, .unset, .unset, .unset, .unset] [])) rfl (hb hby at_92) (by decide) (by decide)
    obtain ⟨b302, g302⟩ : ∃ z, z = h301.size := ⟨_, rfl⟩
    rw [← g302] at A302 D302 st302
    have lt302_b176_b302 : b176 < b302 := Nat.lt_of_lt_of_le c301_1.lt (Nat.le_of_eq g302.symm)
    have lt302_b177_b302 : b177 < b302 := Nat.lt_of_lt_of_le c301_2.lt (Nat.le_of_eq g302.symm)
    have lt302_b178_b302 : b178 < b302 := Nat.lt_of_lt_of_le c301_3.lt (Nat.le_of_eq g302.symm)
    have lt302_b298_b302 : b298 < b302 := Nat.lt_of_lt_of_le c301_4.lt (Nat.le_of_eq g302.symm)
    have G_b302 : n0 ≤ b302 := Nat.le_trans ZN301 (Nat.le_of_eq g302.symm)
    have SZ_b302 : h0.size ≤ b302 := Nat.le_trans KK301.1 (Nat.le_of_eq g302.symm)
    have c302_1 := c301_1.ext E302
    have c302_2 := c301_2.ext E302
    have c302_3 := c301_3.ext E302
    have c302_4 := c301_4.ext E302
    have c302_5 := VV301.ext E302
    have KK302 : Keep h0 h302 [] := KK301.ext E302
    have ZN302 : n0 ≤ h302.size := Nat.le_trans ZN301 E302.1
    have OL302 := OL301.ext E302
    have F302_49 : Fld Z h302 b302 "com/example/sunder/sunder/cli/Arguments" "args" "[Ljava/lang/String;" .null := D302 (Or.inr (hw _ (List.mem_of_getElem? (i := 49) rfl))) (ty := (.array (.object "java/lang/String"))) (by decide)
    have F302_56 : Fld Z h302 b302 "com/example/sunder/sunder/cli/Arguments" "next" "I" (.int (0 : Int32)) := D302 (Or.inl (hw _ (List.mem_of_getElem? (i := 56) rfl))) (ty := .int) (by decide)
    refine go st302 ?_
    show Go _ p e below s _ _ _ (T302.setTop (mkF m 95 #[.val (.int p1), .val (.int p2), .val (.int p3), .val (.int p4), .val (.int p5), .val (.int (3 : Int32)), .val (.int (3 : Int32)), .val (.ref b176), .val (.ref b177), .val (.ref b178), .val (.ref b298), .unset, .unset, .unset, .unset, .unset] [(.ref b302)]))
    refine go (fun _ => XS.dup X302.here hx rfl (hb hby at_95) rfl rfl) ?_
    show Go _ p e below s _ _ _ (T302.setTop (mkF m 96 #[.val (.int p1), .val (.int p2), .val (.int p3), .val (.int p4), .val (.int p5), .val (.int (3 : Int32)), .val (.int (3 : Int32)), .val (.ref b176), .val (.ref b177), .val (.ref b178), .val (.ref b298), .unset, .unset, .unset, .unset, .unset] [(.ref b302), (.ref b302)]))
    refine go (fun _ => XS.aload X302.here hx rfl (hb hby at_96) rfl rfl) ?_
    show Go _ p e below s _ _ _ (T302.setTop (mkF m 98 #[.val (.int p1), .val (.int p2), .val (.int p3), .val (.int p4), .val (.int p5), .val (.int (3 : Int32)), .val (.int (3 : Int32)), .val (.ref b176), .val (.ref b177), .val (.ref b178), .val (.ref b298), .unset, .unset, .unset, .unset, .unset] [(.ref b298), (.ref b302), (.ref b302)]))
    obtain ⟨_, _, ⟨T303, L303, k303, n303⟩, -, X303, ⟨Lc303, hQ303, l303, y303, z303⟩, st303⟩ := X302.specialBack hx (y := (⟨"com/example/sunder/sunder/cli/Arguments", "<init>", "([Ljava/lang/String;)V"⟩ : MethodName)) rfl hown (mvT hZ (hw _ (List.mem_of_getElem? (i := 35) rfl))) (mvT hZ (hw _ (List.mem_of_getElem? (i := 36) rfl))) (mvT hZ (hw _ (List.mem_of_getElem? (i := 37) rfl))) (by decide) (backOf (W := 1) (rmI3 l Z a0 hw [] b302 b298 k298 b176 b177 b178 .null h302 n0 ZN302 A302 F302_49 F302_56 G_b302 c302_4 c302_5 (Ne.symm (Nat.ne_of_lt lt302_b298_b302))) hZ (hw _ (List.mem_of_getElem? (i := 37) rfl)) (hw _ (List.mem_of_getElem? (i := 34) rfl)) (by decide) (by decide)) (g := (mkF m 98 #[.val (.int p1), .val (.int p2), .val (.int p3), .val (.int p4), .val (.int p5), .val (.int (3 : Int32)), .val (.int (3 : Int32)), .val (.ref b176), .val (.ref b177), .val (.ref b178), .val (.ref b298), .unset, .unset, .unset, .unset, .unset] [(.ref b298), (.ref b302), (.ref b302)])) rfl (by rw [hml]; rfl) (Steps.refl _) (a := b302) (argsL := [(.ref b298)]) (rest := [(.ref b302)]) (lenOf pd_0_2 rfl) rfl (by show 2 * 0 + _ ≤ _; exact Nat.le_of_eq rfl) (hb hby at_98) (fun _ _ => ⟨rfl, e302, (by decide : 8 + 1 ≤ _), (by decide : 20 + 3 ≤ _)⟩)
    dsimp only [Pt.U, Pt.locs, Pt.cells, Pt.slots] at X303 l303 y303 z303 st303 hQ303
    subst l303 y303 z303
    obtain ⟨b303, rfl, N303q, u303_0, u303_1, K303, u303_3, u303_4, u303_5, u303_6⟩ := hQ303
    have N303 := Fr.app NN301 N303q
    have lt303_b176_b303 : b176 < b303 := Nat.lt_of_lt_of_le c302_1.lt u303_0
    have lt303_b177_b303 : b177 < b303 := Nat.lt_of_lt_of_le c302_2.lt u303_0
    have lt303_b178_b303 : b178 < b303 := Nat.lt_of_lt_of_le c302_3.lt u303_0
    have lt303_b298_b303 : b298 < b303 := Nat.lt_of_lt_of_le c302_4.lt u303_0
    have lt303_b302_b303 : b302 < b303 := Nat.lt_of_lt_of_le A302.lt u303_0
    have G_b303 : n0 ≤ b303 := Nat.le_trans ZN302 u303_0
    have SZ_b303 : h0.size ≤ b303 := Nat.le_trans KK302.1 u303_0
    have c303_1 := c302_1.keep K303
    have c303_2 := c302_2.keep K303
    have c303_3 := c302_3.keep K303
    have c303_4 := c302_4.keep K303
    have c303_5 := c302_5.keep K303 (ninS (Nat.ne_of_lt lt302_b298_b302) nin0)
    have c303_6 := A302.keep K303
    have KK303 : Keep h0 T303.heap [] := KK302.trans K303 (allS (P := fun x => x ∈ [] ∨ h0.size ≤ x) (Or.inr SZ_b302) all0)
    have ZN303 : n0 ≤ T303.heap.size := Nat.le_trans ZN302 K303.1
    have OL303 := OL302.keep K303 (allS G_b302 all0)
    refine goT st303 ?_
    show Go _ p e below s _ _ _ (T303.setTop (mkF m 101 #[.val (.int p1), .val (.int p2), .val (.int p3), .val (.int p4), .val (.int p5), .val (.int (3 : Int32)), .val (.int (3 : Int32)), .val (.ref b176), .val (.ref b177), .val (.ref b178), .val (.ref b298), .unset, .unset, .unset, .unset, .unset] [(.ref b302)]))
    refine go (fun _ => XS.astore X303.here hx rfl (hb hby at_101) rfl rfl (l' := #[.val (.int p1), .val (.int p2), .val (.int p3), .val (.int p4), .val (.int p5), .val (.int (3 : Int32)), .val (.int (3 : Int32)), .val (.ref b176), .val (.ref b177), .val (.ref b178), .val (.ref b298), .val (.ref b302), .unset, .unset, .unset, .unset]) rfl) ?_
    show Go _ p e below s _ _ _ (T303.setTop (mkF m 103 #[.val (.int p1), .val (.int p2), .val (.int p3), .val (.int p4), .val (.int p5), .val (.int (3 : Int32)), .val (.int (3 : Int32)), .val (.ref b176), .val (.ref b177), .val (.ref b178), .val (.ref b298), .val (.ref b302), .unset, .unset, .unset, .unset] []))
    refine go (fun _ => XS.iload X303.here hx rfl (hb hby at_103) rfl) ?_
    show Go _ p e below s _ _ _ (T303.setTop (mkF m 105 #[.val (.int p1), .val (.int p2), .val (.int p3), .val (.int p4), .val (.int p5), .val (.int (3 : Int32)), .val (.int (3 : Int32)), .val (.ref b176), .val (.ref b177), .val (.ref b178), .val (.ref b298), .val (.ref b302), .unset, .unset, .unset, .unset] [(.int (3 : Int32))]))
    refine go (fun _ => XS.iconst X303.here hx rfl (hb hby at_105)) ?_
    show Go _ p e below s _ _ _ (T303.setTop (mkF m 106 #[.val (.int p1), .val (.int p2), .val (.int p3), .val (.int p4), .val (.int p5), .val (.int (3 : Int32)), .val (.int (3 : Int32)), .val (.ref b176), .val (.ref b177), .val (.ref b178), .val (.ref b298), .val (.ref b302), .unset, .unset, .unset, .unset] [(.int (1 : Int32)), (.int (3 : Int32))]))
    refine go (fun _ => XS.icmpNo X303.here hx rfl (hb hby at_106) rfl (flt (by decide : ¬ ((3 : Int32) < (1 : Int32)))).1) ?_
    show Go _ p e below s _ _ _ (T303.setTop (mkF m 109 #[.val (.int p1), .val (.int p2), .val (.int p3), .val (.int p4), .val (.int p5), .val (.int (3 : Int32)), .val (.int (3 : Int32)), .val (.ref b176), .val (.ref b177), .val (.ref b178), .val (.ref b298), .val (.ref b302), .unset, .unset, .unset, .unset] []))
    refine go (fun _ => XS.aload X303.here hx rfl (hb hby at_109) rfl rfl) ?_
    show Go _ p e below s _ _ _ (T303.setTop (mkF m 111 #[.val (.int p1), .val (.int p2), .val (.int p3), .val (.int p4), .val (.int p5), .val (.int (3 : Int32)), .val (.int (3 : Int32)), .val (.ref b176), .val (.ref b177), .val (.ref b178), .val (.ref b298), .val (.ref b302), .unset, .unset, .unset, .unset] [(.ref b302)]))
    obtain ⟨cq304, kq304, q304a, q304b, q304c⟩ := isOf hZ rfl c303_6
    obtain ⟨_, _, ⟨T304, L304, k304, n304⟩, -, X304, ⟨Lc304, hQ304, l304, y304, z304⟩, st304⟩ := X303.virtualBack hx (y := (⟨"com/example/sunder/sunder/cli/Arguments", "next", "()Ljava/lang/String;"⟩ : MethodName)) (z := (⟨"com/example/sunder/sunder/cli/Arguments", "next", "()Ljava/lang/String;"⟩ : MethodName)) hown (mvT hZ (hw _ (List.mem_of_getElem? (i := 57) rfl))) (mvT hZ (hw _ (List.mem_of_getElem? (i := 58) rfl))) (notFace_of_selects (args := #[]) (mvT hZ (hw _ (List.mem_of_getElem? (i := 60) rfl)))) (mvT hZ (hw _ (List.mem_of_getElem? (i := 60) rfl))) (mvT hZ (hw _ (List.mem_of_getElem? (i := 59) rfl))) (by decide) (backOf (W := 0) (rmN3_0 l Z a0 hw [] b302 b303 k298 b176 b177 b178 (T303.heap) n0 ZN303 c303_6 u303_3 u303_4 G_b302 u303_6 (Nat.ne_of_lt lt303_b302_b303)) hZ (hw _ (List.mem_of_getElem? (i := 61) rfl)) (hw _ (List.mem_of_getElem? (i := 34) rfl)) (by decide) (by decide)) q304a q304c (g := (mkF m 111 #[.val (.int p1), .val (.int p2), .val (.int p3), .val (.int p4), .val (.int p5), .val (.int (3 : Int32)), .val (.int (3 : Int32)), .val (.ref b176), .val (.ref b177), .val (.ref b178), .val (.ref b298), .val (.ref b302), .unset, .unset, .unset, .unset] [(.ref b302)])) rfl (by rw [hml]; rfl) (Steps.refl _) (argsL := []) (rest := []) (lenOf pd_0_4 rfl) rfl (by show 2 * 0 + _ ≤ _; exact Nat.le_of_eq rfl) (hb hby at_111) (fun _ _ => ⟨rfl, rfl, (by decide : 9 + 0 ≤ _), (by decide : 23 + 0 ≤ _)⟩)
    dsimp only [Pt.U, Pt.locs, Pt.cells, Pt.slots] at X304 l304 y304 z304 st304 hQ304
    subst l304 y304 z304
    obtain ⟨rfl, N304q, K304, u304_1, u304_2⟩ := hQ304
    have N304 := Fr.app N303 N304q
    have c304_1 := c303_1.keep K304
    have c304_2 := c303_2.keep K304
    have c304_3 := c303_3.keep K304
    have c304_4 := c303_4.keep K304
    have c304_5 := c303_5.keep K304 (ninS (Nat.ne_of_lt lt302_b298_b302) nin0)
    have c304_6 := c303_6.keep K304
    have c304_7 := u303_5.keep K304
    have c304_8 := u303_6.keep K304 (ninS (Ne.symm (Nat.ne_of_lt lt303_b302_b303)) nin0)
    have KK304 : Keep h0 T304.heap [] := KK303.trans K304 (allS (P := fun x => x ∈ [] ∨ h0.size ≤ x) (Or.inr SZ_b302) all0)
    have ZN304 : n0 ≤ T304.heap.size := Nat.le_trans ZN303 K304.1
    have OL304 := OL303.keep K304 (allS G_b302 all0)
    refine goT st304 ?_
    show Go _ p e below s _ _ _ (T304.setTop (mkF m 114 #[.val (.int p1), .val (.int p2), .val (.int p3), .val (.int p4), .val (.int p5), .val (.int (3 : Int32)), .val (.int (3 : Int32)), .val (.ref b176), .val (.ref b177), .val (.ref b178), .val (.ref b298), .val (.ref b302), .unset, .unset, .unset, .unset] [(.ref b176)]))
    refine go (fun _ => XS.pop X304.here hx rfl (hb hby at_114) rfl rfl) ?_
    show Go _ p e below s _ _ _ (T304.setTop (mkF m 115 #[.val (.int p1), .val (.int p2), .val (.int p3), .val (.int p4), .val (.int p5), .val (.int (3 : Int32)), .val (.int (3 : Int32)), .val (.ref b176), .val (.ref b177), .val (.ref b178), .val (.ref b298), .val (.ref b302), .unset, .unset, .unset, .unset] []))
    refine go (fun _ => XS.iload X304.here hx rfl (hb hby at_115) rfl) ?_
    show Go _ p e below s _ _ _ (T304.setTop (mkF m 117 #[.val (.int p1), .val (.int p2), .val (.int p3), .val (.int p4), .val (.int p5), .val (.int (3 : Int32)), .val (.int (3 : Int32)), .val (.ref b176), .val (.ref b177), .val (.ref b178), .val (.ref b298), .val (.ref b302), .unset, .unset, .unset, .unset] [(.int (3 : Int32))]))
    refine go (fun _ => XS.iconst X304.here hx rfl (hb hby at_117)) ?_
    show Go _ p e below s _ _ _ (T304.setTop (mkF m 118 #[.val (.int p1), .val (.int p2), .val (.int p3), .val (.int p4), .val (.int p5), .val (.int (3 : Int32)), .val (.int (3 : Int32)), .val (.ref b176), .val (.ref b177), .val (.ref b178), .val (.ref b298), .val (.ref b302), .unset, .unset, .unset, .unset] [(.int (2 : Int32)), (.int (3 : Int32))]))
    refine go (fun _ => XS.icmpNo X304.here hx rfl (hb hby at_118) rfl (flt (by decide : ¬ ((3 : Int32) < (2 : Int32)))).1) ?_
    show Go _ p e below s _ _ _ (T304.setTop (mkF m 121 #[.val (.int p1), .val (.int p2), .val (.int p3), .val (.int p4), .val (.int p5), .val (.int (3 : Int32)), .val (.int (3 : Int32)), .val (.ref b176), .val (.ref b177), .val (.ref b178), .val (.ref b298), .val (.ref b302), .unset, .unset, .unset, .unset] []))
    refine go (fun _ => XS.aload X304.here hx rfl (hb hby at_121) rfl rfl) ?_
    show Go _ p e below s _ _ _ (T304.setTop (mkF m 123 #[.val (.int p1), .val (.int p2), .val (.int p3), .val (.int p4), .val (.int p5), .val (.int (3 : Int32)), .val (.int (3 : Int32)), .val (.ref b176), .val (.ref b177), .val (.ref b178), .val (.ref b298), .val (.ref b302), .unset, .unset, .unset, .unset] [(.ref b302)]))
    obtain ⟨cq305, kq305, q305a, q305b, q305c⟩ := isOf hZ rfl c304_6
    obtain ⟨_, _, ⟨T305, L305, k305, n305⟩, -, X305, ⟨Lc305, hQ305, l305, y305, z305⟩, st305⟩ := X304.virtualBack hx (y := (⟨"com/example/sunder/sunder/cli/Arguments", "next", "()Ljava/lang/String;"⟩ : MethodName)) (z := (⟨"com/example/sunder/sunder/cli/Arguments", "next", "()Ljava/lang/String;"⟩ : MethodName)) hown (mvT hZ (hw _ (List.mem_of_getElem? (i := 57) rfl))) (mvT hZ (hw _ (List.mem_of_getElem? (i := 58) rfl))) (notFace_of_selects (args := #[]) (mvT hZ (hw _ (List.mem_of_getElem? (i := 60) rfl)))) (mvT hZ (hw _ (List.mem_of_getElem? (i := 60) rfl))) (mvT hZ (hw _ (List.mem_of_getElem? (i := 59) rfl))) (by decide) (backOf (W := 0) (rmN3_1 l Z a0 hw [] b302 b303 k298 b176 b177 b178 (T304.heap) n0 ZN304 c304_6 u304_1 u304_2 G_b302 c304_8 (Nat.ne_of_lt lt303_b302_b303)) hZ (hw _ (List.mem_of_getElem? (i := 61) rfl)) (hw _ (List.mem_of_getElem? (i := 34) rfl)) (by decide) (by decide)) q305a q305c (g := (mkF m 123 #[.val (.int p1), .val (.int p2), .val (.int p3), .val (.int p4), .val (.int p5), .val (.int (3 : Int32)), .val (.int (3 : Int32)), .val (.ref b176), .val (.ref b177), .val (.ref b178), .val (.ref b298), .val (.ref b302), .unset, .unset, .unset, .unset] [(.ref b302)])) rfl (by rw [hml]; rfl) (Steps.refl _) (argsL := []) (rest := []) (lenOf pd_0_4 rfl) rfl (by show 2 * 0 + _ ≤ _; exact Nat.le_of_eq rfl) (hb hby at_123) (fun _ _ => ⟨rfl, rfl, (by decide : 9 + 0 ≤ _), (by decide : 23 + 0 ≤ _)⟩)
    dsimp only [Pt.U, Pt.locs, Pt.cells, Pt.slots] at X305 l305 y305 z305 st305 hQ305
    subst l305 y305 z305
    obtain ⟨rfl, N305q, K305, u305_1, u305_2⟩ := hQ305
    have N305 := Fr.app N304 N305q
    have c305_1 := c304_1.keep K305
    have c305_2 := c304_2.keep K305
    have c305_3 := c304_3.keep K305
    have c305_4 := c304_4.keep K305
    have c305_5 := c304_5.keep K305 (ninS (Nat.ne_of_lt lt302_b298_b302) nin0)
    have c305_6 := c304_6.keep K305
    have c305_7 := c304_7.keep K305
    have c305_8 := c304_8.keep K305 (ninS (Ne.symm (Nat.ne_of_lt lt303_b302_b303)) nin0)
    have KK305 : Keep h0 T305.heap [] := KK304.trans K305 (allS (P := fun x => x ∈ [] ∨ h0.size ≤ x) (Or.inr SZ_b302) all0)
    have ZN305 : n0 ≤ T305.heap.size := Nat.le_trans ZN304 K305.1
    have OL305 := OL304.keep K305 (allS G_b302 all0)
    refine goT st305 ?_
    show Go _ p e below s _ _ _ (T305.setTop (mkF m 126 #[.val (.int p1), .val (.int p2), .val (.int p3), .val (.int p4), .val (.int p5), .val (.int (3 : Int32)), .val (.int (3 : Int32)), .val (.ref b176), .val (.ref b177), .val (.ref b178), .val (.ref b298), .val (.ref b302), .unset, .unset, .unset, .unset] [(.ref b177)]))
    refine go (fun _ => XS.pop X305.here hx rfl (hb hby at_126) rfl rfl) ?_
    show Go _ p e below s _ _ _ (T305.setTop (mkF m 127 #[.val (.int p1), .val (.int p2), .val (.int p3), .val (.int p4), .val (.int p5), .val (.int (3 : Int32)), .val (.int (3 : Int32)), .val (.ref b176), .val (.ref b177), .val (.ref b178), .val (.ref b298), .val (.ref b302), .unset, .unset, .unset, .unset] []))
    refine go (fun _ => XS.iload X305.here hx rfl (hb hby at_127) rfl) ?_
    show Go _ p e below s _ _ _ (T305.setTop (mkF m 129 #[.val (.int p1), .val (.int p2), .val (.int p3), .val (.int p4), .val (.int p5), .val (.int (3 : Int32)), .val (.int (3 : Int32)), .val (.ref b176), .val (.ref b177), .val (.ref b178), .val (.ref b298), .val (.ref b302), .unset, .unset, .unset, .unset] [(.int (3 : Int32))]))
    refine go (fun _ => XS.iconst X305.here hx rfl (hb hby at_129)) ?_
    show Go _ p e below s _ _ _ (T305.setTop (mkF m 130 #[.val (.int p1), .val (.int p2), .val (.int p3), .val (.int p4), .val (.int p5), .val (.int (3 : Int32)), .val (.int (3 : Int32)), .val (.ref b176), .val (.ref b177), .val (.ref b178), .val (.ref b298), .val (.ref b302), .unset, .unset, .unset, .unset] [(.int (3 : Int32)), (.int (3 : Int32))]))
    refine go (fun _ => XS.icmpNo X305.here hx rfl (hb hby at_130) rfl (flt (by decide : ¬ ((3 : Int32) < (3 : Int32)))).1) ?_
    show Go _ p e below s _ _ _ (T305.setTop (mkF m 133 #[.val (.int p1), .val (.int p2), .val (.int p3), .val (.int p4), .val (.int p5), .val (.int (3 : Int32)), .val (.int (3 : Int32)), .val (.ref b176), .val (.ref b177), .val (.ref b178), .val (.ref b298), .val (.ref b302), .unset, .unset, .unset, .unset] []))
    refine go (fun _ => XS.aload X305.here hx rfl (hb hby at_133) rfl rfl) ?_
    show Go _ p e below s _ _ _ (T305.setTop (mkF m 135 #[.val (.int p1), .val (.int p2), .val (.int p3), .val (.int p4), .val (.int p5), .val (.int (3 : Int32)), .val (.int (3 : Int32)), .val (.ref b176), .val (.ref b177), .val (.ref b178), .val (.ref b298), .val (.ref b302), .unset, .unset, .unset, .unset] [(.ref b302)]))
    obtain ⟨cq306, kq306, q306a, q306b, q306c⟩ := isOf hZ rfl c305_6
    obtain ⟨_, _, ⟨T306, L306, k306, n306⟩, -, X306, ⟨Lc306, hQ306, l306, y306, z306⟩, st306⟩ := X305.virtualBack hx (y := (⟨"com/example/sunder/sunder/cli/Arguments", "next", "()Ljava/lang/String;"⟩ : MethodName)) (z := (⟨"com/example/sunder/sunder/cli/Arguments", "next", "()Ljava/lang/String;"⟩ : MethodName)) hown (mvT hZ (hw _ (List.mem_of_getElem? (i := 57) rfl))) (mvT hZ (hw _ (List.mem_of_getElem? (i := 58) rfl))) (notFace_of_selects (args := #[]) (mvT hZ (hw _ (List.mem_of_getElem? (i := 60) rfl)))) (mvT hZ (hw _ (List.mem_of_getElem? (i := 60) rfl))) (mvT hZ (hw _ (List.mem_of_getElem? (i := 59) rfl))) (by decide) (backOf (W := 0) (rmN3_2 l Z a0 hw [] b302 b303 k298 b176 b177 b178 (T305.heap) n0 ZN305 c305_6 u305_1 u305_2 G_b302 c305_8 (Nat.ne_of_lt lt303_b302_b303)) hZ (hw _ (List.mem_of_getElem? (i := 61) rfl)) (hw _ (List.mem_of_getElem? (i := 34) rfl)) (by decide) (by decide)) q306a q306c (g := (mkF m 135 #[.val (.int p1), .val (.int p2), .val (.int p3), .val (.int p4), .val (.int p5), .val (.int (3 : Int32)), .val (.int (3 : Int32)), .val (.ref b176), .val (.ref b177), .val (.ref b178), .val (.ref b298), .val (.ref b302), .unset, .unset, .unset, .unset] [(.ref b302)])) rfl (by rw [hml]; rfl) (Steps.refl _) (argsL := []) (rest := []) (lenOf pd_0_4 rfl) rfl (by show 2 * 0 + _ ≤ _; exact Nat.le_of_eq rfl) (hb hby at_135) (fun _ _ => ⟨rfl, rfl, (by decide : 9 + 0 ≤ _), (by decide : 23 + 0 ≤ _)⟩)
    dsimp only [Pt.U, Pt.locs, Pt.cells, Pt.slots] at X306 l306 y306 z306 st306 hQ306
    subst l306 y306 z306
    obtain ⟨rfl, N306q, K306, u306_1, u306_2⟩ := hQ306
    have N306 := Fr.app N305 N306q
    have c306_1 := c305_1.keep K306
    have c306_2 := c305_2.keep K306
    have c306_3 := c305_3.keep K306
    have c306_4 := c305_4.keep K306
    have c306_5 := c305_5.keep K306 (ninS (Nat.ne_of_lt lt302_b298_b302) nin0)
    have c306_6 := c305_6.keep K306
    have c306_7 := c305_7.keep K306
    have c306_8 := c305_8.keep K306 (ninS (Ne.symm (Nat.ne_of_lt lt303_b302_b303)) nin0)
    have KK306 : Keep h0 T306.heap [] := KK305.trans K306 (allS (P := fun x => x ∈ [] ∨ h0.size ≤ x) (Or.inr SZ_b302) all0)
    have ZN306 : n0 ≤ T306.heap.size := Nat.le_trans ZN305 K306.1
    have OL306 := OL305.keep K306 (allS G_b302 all0)
    refine goT st306 ?_
    show Go _ p e below s _ _ _ (T306.setTop (mkF m 138 #[.val (.int p1), .val (.int p2), .val (.int p3), .val (.int p4), .val (.int p5), .val (.int (3 : Int32)), .val (.int (3 : Int32)), .val (.ref b176), .val (.ref b177), .val (.ref b178), .val (.ref b298), .val (.ref b302), .unset, .unset, .unset, .unset] [(.ref b178)]))
    refine go (fun _ => XS.pop X306.here hx rfl (hb hby at_138) rfl rfl) ?_
    show Go _ p e below s _ _ _ (T306.setTop (mkF m 139 #[.val (.int p1), .val (.int p2), .val (.int p3), .val (.int p4), .val (.int p5), .val (.int (3 : Int32)), .val (.int (3 : Int32)), .val (.ref b176), .val (.ref b177), .val (.ref b178), .val (.ref b298), .val (.ref b302), .unset, .unset, .unset, .unset] []))
    refine go (fun _ => XS.aload X306.here hx rfl (hb hby at_139) rfl rfl) ?_
    show Go _ p e below s _ _ _ (T306.setTop (mkF m 141 #[.val (.int p1), .val (.int p2), .val (.int p3), .val (.int p4), .val (.int p5), .val (.int (3 : Int32)), .val (.int (3 : Int32)), .val (.ref b176), .val (.ref b177), .val (.ref b178), .val (.ref b298), .val (.ref b302), .unset, .unset, .unset, .unset] [(.ref b302)]))
    obtain ⟨cq307, kq307, q307a, q307b, q307c⟩ := isOf hZ rfl c306_6
    obtain ⟨_, _, ⟨T307, L307, k307, n307⟩, -, X307, ⟨Lc307, hQ307, l307, y307, z307⟩, st307⟩ := X306.virtualBack hx (y := (⟨"com/example/sunder/sunder/cli/Arguments", "hasNext", "()Z"⟩ : MethodName)) (z := (⟨"com/example/sunder/sunder/cli/Arguments", "hasNext", "()Z"⟩ : MethodName)) hown (mvT hZ (hw _ (List.mem_of_getElem? (i := 50) rfl))) (mvT hZ (hw _ (List.mem_of_getElem? (i := 51) rfl))) (notFace_of_selects (args := #[]) (mvT hZ (hw _ (List.mem_of_getElem? (i := 53) rfl)))) (mvT hZ (hw _ (List.mem_of_getElem? (i := 53) rfl))) (mvT hZ (hw _ (List.mem_of_getElem? (i := 52) rfl))) (by decide) (backOf (W := 0) (rmH3_3 l Z a0 hw [] b302 b303 k298 b176 b177 b178 (T306.heap) n0 ZN306 u306_1 u306_2 c306_8) hZ (hw _ (List.mem_of_getElem? (i := 54) rfl)) (hw _ (List.mem_of_getElem? (i := 34) rfl)) (by decide) (by decide)) q307a q307c (g := (mkF m 141 #[.val (.int p1), .val (.int p2), .val (.int p3), .val (.int p4), .val (.int p5), .val (.int (3 : Int32)), .val (.int (3 : Int32)), .val (.ref b176), .val (.ref b177), .val (.ref b178), .val (.ref b298), .val (.ref b302), .unset, .unset, .unset, .unset] [(.ref b302)])) rfl (by rw [hml]; rfl) (Steps.refl _) (argsL := []) (rest := []) (lenOf pd_0_3 rfl) rfl (by show 2 * 0 + _ ≤ _; exact Nat.le_of_eq rfl) (hb hby at_141) (fun _ _ => ⟨rfl, rfl, (by decide : 9 + 0 ≤ _), (by decide : 23 + 0 ≤ _)⟩)
    dsimp only [Pt.U, Pt.locs, Pt.cells, Pt.slots] at X307 l307 y307 z307 st307 hQ307
    subst l307 y307 z307
    obtain ⟨rfl, N307q, e307⟩ := hQ307
    have N307 := Fr.app N306 N307q
    refine goT st307 ?_
    show Go _ p e below s _ _ _ (T307.setTop (mkF m 144 #[.val (.int p1), .val (.int p2), .val (.int p3), .val (.int p4), .val (.int p5), .val (.int (3 : Int32)), .val (.int (3 : Int32)), .val (.ref b176), .val (.ref b177), .val (.ref b178), .val (.ref b298), .val (.ref b302), .unset, .unset, .unset, .unset] [(.int (0 : Int32))]))
    refine go (fun _ => XS.istore X307.here hx rfl (hb hby at_144) rfl (l' := #[.val (.int p1), .val (.int p2), .val (.int p3), .val (.int p4), .val (.int p5), .val (.int (3 : Int32)), .val (.int (3 : Int32)), .val (.ref b176), .val (.ref b177), .val (.ref b178), .val (.ref b298), .val (.ref b302), .val (.int (0 : Int32)), .unset, .unset, .unset]) rfl) ?_
    show Go _ p e below s _ _ _ (T307.setTop (mkF m 146 #[.val (.int p1), .val (.int p2), .val (.int p3), .val (.int p4), .val (.int p5), .val (.int (3 : Int32)), .val (.int (3 : Int32)), .val (.ref b176), .val (.ref b177), .val (.ref b178), .val (.ref b298), .val (.ref b302), .val (.int (0 : Int32)), .unset, .unset, .unset] []))
    refine go (fun _ => XS.aload X307.here hx rfl (hb hby at_146) rfl rfl) ?_
    show Go _ p e below s _ _ _ (T307.setTop (mkF m 148 #[.val (.int p1), .val (.int p2), .val (.int p3), .val (.int p4), .val (.int p5), .val (.int (3 : Int32)), .val (.int (3 : Int32)), .val (.ref b176), .val (.ref b177), .val (.ref b178), .val (.ref b298), .val (.ref b302), .val (.int (0 : Int32)), .unset, .unset, .unset] [(.ref b302)]))
    obtain ⟨cq308, kq308, q308a, q308b, q308c⟩ := isOf hZ e307 c306_6
    obtain ⟨_, _, ⟨T308, L308, k308, n308⟩, -, X308, ⟨Lc308, hQ308, l308, y308, z308⟩, st308⟩ := X307.virtualBack hx (y := (⟨"com/example/sunder/sunder/cli/Arguments", "hasNext", "()Z"⟩ : MethodName)) (z := (⟨"com/example/sunder/sunder/cli/Arguments", "hasNext", "()Z"⟩ : MethodName)) hown (mvT hZ (hw _ (List.mem_of_getElem? (i := 50) rfl))) (mvT hZ (hw _ (List.mem_of_getElem? (i := 51) rfl))) (notFace_of_selects (args := #[]) (mvT hZ (hw _ (List.mem_of_getElem? (i := 53) rfl)))) (mvT hZ (hw _ (List.mem_of_getElem? (i := 53) rfl))) (mvT hZ (hw _ (List.mem_of_getElem? (i := 52) rfl))) (by decide) (backOf (W := 0) (rmH3_3 l Z a0 hw [] b302 b303 k298 b176 b177 b178 (T306.heap) n0 ZN306 u306_1 u306_2 c306_8) hZ (hw _ (List.mem_of_getElem? (i := 54) rfl)) (hw _ (List.mem_of_getElem? (i := 34) rfl)) (by decide) (by decide)) q308a q308c (g := (mkF m 148 #[.val (.int p1), .val (.int p2), .val (.int p3), .val (.int p4), .val (.int p5), .val (.int (3 : Int32)), .val (.int (3 : Int32)), .val (.ref b176), .val (.ref b177), .val (.ref b178), .val (.ref b298), .val (.ref b302), .val (.int (0 : Int32)), .unset, .unset, .unset] [(.ref b302)])) rfl (by rw [hml]; rfl) (Steps.refl _) (argsL := []) (rest := []) (lenOf pd_0_3 rfl) rfl (by show 2 * 0 + _ ≤ _; exact Nat.le_of_eq rfl) (hb hby at_148) (fun _ _ => ⟨rfl, e307, (by decide : 9 + 0 ≤ _), (by decide : 23 + 0 ≤ _)⟩)
    dsimp only [Pt.U, Pt.locs, Pt.cells, Pt.slots] at X308 l308 y308 z308 st308 hQ308
    subst l308 y308 z308
    obtain ⟨rfl, N308q, e308⟩ := hQ308
    have N308 := Fr.app N307 N308q
    refine goT st308 ?_
    show Go _ p e below s _ _ _ (T308.setTop (mkF m 151 #[.val (.int p1), .val (.int p2), .val (.int p3), .val (.int p4), .val (.int p5), .val (.int (3 : Int32)), .val (.int (3 : Int32)), .val (.ref b176), .val (.ref b177), .val (.ref b178), .val (.ref b298), .val (.ref b302), .val (.int (0 : Int32)), .unset, .unset, .unset] [(.int (0 : Int32))]))
    refine go (fun _ => XS.istore X308.here hx rfl (hb hby at_151) rfl (l' := #[.val (.int p1), .val (.int p2), .val (.int p3), .val (.int p4), .val (.int p5), .val (.int (3 : Int32)), .val (.int (3 : Int32)), .val (.ref b176), .val (.ref b177), .val (.ref b178), .val (.ref b298), .val (.ref b302), .val (.int (0 : Int32)), .val (.int (0 : Int32)), .unset, .unset]) rfl) ?_
    show Go _ p e below s _ _ _ (T308.setTop (mkF m 153 #[.val (.int p1), .val (.int p2), .val (.int p3), .val (.int p4), .val (.int p5), .val (.int (3 : Int32)), .val (.int (3 : Int32)), .val (.ref b176), .val (.ref b177), .val (.ref b178), .val (.ref b298), .val (.ref b302), .val (.int (0 : Int32)), .val (.int (0 : Int32)), .unset, .unset] []))
    refine go (fun _ => XS.iload X308.here hx rfl (hb hby at_153) rfl) ?_
    show Go _ p e below s _ _ _ (T308.setTop (mkF m 155 #[.val (.int p1), .val (.int p2), .val (.int p3), .val (.int p4), .val (.int p5), .val (.int (3 : Int32)), .val (.int (3 : Int32)), .val (.ref b176), .val (.ref b177), .val (.ref b178), .val (.ref b298), .val (.ref b302), .val (.int (0 : Int32)), .val (.int (0 : Int32)), .unset, .unset] [(.int (0 : Int32))]))
    refine go (fun _ => XS.iload X308.here hx rfl (hb hby at_155) rfl) ?_
    show Go _ p e below s _ _ _ (T308.setTop (mkF m 157 #[.val (.int p1), .val (.int p2), .val (.int p3), .val (.int p4), .val (.int p5), .val (.int (3 : Int32)), .val (.int (3 : Int32)), .val (.ref b176), .val (.ref b177), .val (.ref b178), .val (.ref b298), .val (.ref b302), .val (.int (0 : Int32)), .val (.int (0 : Int32)), .unset, .unset] [(.int (3 : Int32)), (.int (0 : Int32))]))
    refine go (fun _ => XS.iload X308.here hx rfl (hb hby at_157) rfl) ?_
    show Go _ p e below s _ _ _ (T308.setTop (mkF m 159 #[.val (.int p1), .val (.int p2), .val (.int p3), .val (.int p4), .val (.int p5), .val (.int (3 : Int32)), .val (.int (3 : Int32)), .val (.ref b176), .val (.ref b177), .val (.ref b178), .val (.ref b298), .val (.ref b302), .val (.int (0 : Int32)), .val (.int (0 : Int32)), .unset, .unset] [(.int (3 : Int32)), (.int (3 : Int32)), (.int (0 : Int32))]))
    refine go (fun _ => XS.icmpYes X308.here hx rfl (pc0 := 159) (pc' := 166) rfl (hb hby at_159) rfl (flt (by decide : ¬ ((3 : Int32) < (3 : Int32)))).2.1 (by decide) (by decide)) ?_
    show Go _ p e below s _ _ _ (T308.setTop (mkF m 166 #[.val (.int p1), .val (.int p2), .val (.int p3), .val (.int p4), .val (.int p5), .val (.int (3 : Int32)), .val (.int (3 : Int32)), .val (.ref b176), .val (.ref b177), .val (.ref b178), .val (.ref b298), .val (.ref b302), .val (.int (0 : Int32)), .val (.int (0 : Int32)), .unset, .unset] [(.int (0 : Int32))]))
    refine go (fun _ => XS.iconst X308.here hx rfl (hb hby at_166)) ?_
    show Go _ p e below s _ _ _ (T308.setTop (mkF m 167 #[.val (.int p1), .val (.int p2), .val (.int p3), .val (.int p4), .val (.int p5), .val (.int (3 : Int32)), .val (.int (3 : Int32)), .val (.ref b176), .val (.ref b177), .val (.ref b178), .val (.ref b298), .val (.ref b302), .val (.int (0 : Int32)), .val (.int (0 : Int32)), .unset, .unset] [(.int (0 : Int32)), (.int (0 : Int32))]))
    refine go (fun _ => XS.icmpNo X308.here hx rfl (hb hby at_167) rfl (teq (rfl : (0 : Int32) = (0 : Int32))).2) ?_
    show Go _ p e below s _ _ _ (T308.setTop (mkF m 170 #[.val (.int p1), .val (.int p2), .val (.int p3), .val (.int p4), .val (.int p5), .val (.int (3 : Int32)), .val (.int (3 : Int32)), .val (.ref b176), .val (.ref b177), .val (.ref b178), .val (.ref b298), .val (.ref b302), .val (.int (0 : Int32)), .val (.int (0 : Int32)), .unset, .unset] []))
    refine go (fun _ => XS.iload X308.here hx rfl (hb hby at_170) rfl) ?_
    show Go _ p e below s _ _ _ (T308.setTop (mkF m 172 #[.val (.int p1), .val (.int p2), .val (.int p3), .val (.int p4), .val (.int p5), .val (.int (3 : Int32)), .val (.int (3 : Int32)), .val (.ref b176), .val (.ref b177), .val (.ref b178), .val (.ref b298), .val (.ref b302), .val (.int (0 : Int32)), .val (.int (0 : Int32)), .unset, .unset] [(.int (0 : Int32))]))
    refine go (fun _ => XS.iload X308.here hx rfl (hb hby at_172) rfl) ?_
    show Go _ p e below s _ _ _ (T308.setTop (mkF m 174 #[.val (.int p1), .val (.int p2), .val (.int p3), .val (.int p4), .val (.int p5), .val (.int (3 : Int32)), .val (.int (3 : Int32)), .val (.ref b176), .val (.ref b177), .val (.ref b178), .val (.ref b298), .val (.ref b302), .val (.int (0 : Int32)), .val (.int (0 : Int32)), .unset, .unset] [(.int (0 : Int32)), (.int (0 : Int32))]))
    refine go (fun _ => XS.icmpYes X308.here hx rfl (pc0 := 174) (pc' := 179) rfl (hb hby at_174) rfl (teq (rfl : (0 : Int32) = (0 : Int32))).1 (by decide) (by decide)) ?_
    show Go _ p e below s _ _ _ (T308.setTop (mkF m 179 #[.val (.int p1), .val (.int p2), .val (.int p3), .val (.int p4), .val (.int p5), .val (.int (3 : Int32)), .val (.int (3 : Int32)), .val (.ref b176), .val (.ref b177), .val (.ref b178), .val (.ref b298), .val (.ref b302), .val (.int (0 : Int32)), .val (.int (0 : Int32)), .unset, .unset] []))
    refine go (fun _ => XS.iload X308.here hx rfl (hb hby at_179) rfl) ?_
    show Go _ p e below s _ _ _ (T308.setTop (mkF m 181 #[.val (.int p1), .val (.int p2), .val (.int p3), .val (.int p4), .val (.int p5), .val (.int (3 : Int32)), .val (.int (3 : Int32)), .val (.ref b176), .val (.ref b177), .val (.ref b178), .val (.ref b298), .val (.ref b302), .val (.int (0 : Int32)), .val (.int (0 : Int32)), .unset, .unset] [(.int (0 : Int32))]))
    refine go (fun _ => XS.ifNo X308.here hx rfl (hb hby at_181) rfl ((if0 _ _).trans (teq (rfl : (0 : Int32) = (0 : Int32))).2)) ?_
    show Go _ p e below s _ _ _ (T308.setTop (mkF m 184 #[.val (.int p1), .val (.int p2), .val (.int p3), .val (.int p4), .val (.int p5), .val (.int (3 : Int32)), .val (.int (3 : Int32)), .val (.ref b176), .val (.ref b177), .val (.ref b178), .val (.ref b298), .val (.ref b302), .val (.int (0 : Int32)), .val (.int (0 : Int32)), .unset, .unset] []))
    refine go (fun _ => XS.iconst X308.here hx rfl (hb hby at_184)) ?_
    show Go _ p e below s _ _ _ (T308.setTop (mkF m 185 #[.val (.int p1), .val (.int p2), .val (.int p3), .val (.int p4), .val (.int p5), .val (.int (3 : Int32)), .val (.int (3 : Int32)), .val (.ref b176), .val (.ref b177), .val (.ref b178), .val (.ref b298), .val (.ref b302), .val (.int (0 : Int32)), .val (.int (0 : Int32)), .unset, .unset] [(.int (1 : Int32))]))
    refine goRet X308 hx Bd.notSynchronized Bd.returns rfl (Or.inl ⟨rfl, Or.inr (Or.inl rfl), _, rfl⟩) (hb hby at_185) (by decide) (by decide) (by rw [e308]; refine ⟨rfl, N308⟩)
set_option maxRecDepth 65536 in
set_option maxHeartbeats 40000000 in
theorem comes_1 {Post : Tables → Env → Array Value → State → Outcome → State → Prop} (hpost : ∀ tb e args s v u, (limb_1_1.after args s (.returned v) u = true ∧ limb_1_2.after args s (.returned v) u = true ∧ True) → FrameEnd s (.returned v) u (Jvm.fieldLocs frame_1_writes args s ++ Jvm.arrayLocs frame_1_arrays args s ++ Jvm.staticLocs frame_1_statics s) 32 128 → Post tb e args s (.returned v) u) :
    ArmFor flags0 classFile x code maxLocals ret World_1 tables_1 room_1 Calls_1 rest_1 Pre_1 Post := by
  intro l hfl _ _ p e ha hc hk s m args below hf hA hF happ hP
  obtain ⟨hcalls, hrest, hpre⟩ := hP
  obtain ⟨-, -, -, hnamed, -, -, -, hat⟩ := (Spec.applies_iff hf).mp happ
  obtain ⟨hg, hn⟩ := and_e (Cond.before_iff.mp (show (Jvm.Cond.and given_1 narrow_1).before args s = true from hpre))
  obtain ⟨q0, r0⟩ := and_e hg
  obtain ⟨q1, r1⟩ := and_e r0
  obtain ⟨q2, r2⟩ := and_e r1
  obtain ⟨q3, r3⟩ := and_e r2
  obtain ⟨q4, r4⟩ := and_e r3
  obtain ⟨w0, w1, w2, w3, w4, rfl⟩ : ∃ w0 w1 w2 w3 w4 : Value, args = #[w0, w1, w2, w3, w4] := by
    have hs : args.size = 5 := by simpa [Cond.value, given_1] using q0
    obtain ⟨L⟩ := args
    match L, hs with
    | [w0, w1, w2, w3, w4], _ => exact ⟨w0, w1, w2, w3, w4, rfl⟩
  have hw := fun d (hd : d ∈ tables_1) => atoms_spec (ws := Jvm.Cond.code x code maxLocals ret :: tables_1) hat d (List.mem_cons_of_mem _ hd)
  have hfit : Fit s := fun {y c} hc i hi => by
    obtain ⟨ha, rfl⟩ := Array.getElem?_eq_some_iff.mp hc
    have q := List.all_eq_true.mp ((Array.all_eq_true_iff_forall_mem.mp hF) _ (Array.getElem_mem ha)) i (List.mem_range.mpr hi)
    simpa [Array.getElem?_eq_getElem hi] using q
  obtain ⟨hsets, hown0⟩ := atoms_of _ (rest_1_c_eq ▸ (show rest_1_c.before _ s = true from hrest))
  obtain ⟨i0, ei0⟩ := is_v q1
  obtain rfl : w0 = (.int i0) := Option.some.inj ei0
  obtain ⟨i1, ei1⟩ := is_v q2
  obtain rfl : w1 = (.int i1) := Option.some.inj ei1
  obtain ⟨i2, ei2⟩ := is_v q3
  obtain rfl : w2 = (.int i2) := Option.some.inj ei2
  obtain ⟨i3, ei3⟩ := is_v q4
  obtain rfl : w3 = (.int i3) := Option.some.inj ei3
  obtain ⟨i4, ei4⟩ := is_v r4
  obtain rfl : w4 = (.int i4) := Option.some.inj ei4
  obtain ⟨w0, ew0⟩ := is_v (Cond.before_iff.mp (hsets _ (List.mem_of_getElem? (i := 1) rfl)))
  have hw0 : ¬ w0 = 0 := own_neI (Cond.before_iff.mp (hsets _ (List.mem_of_getElem? (i := 2) rfl))) ew0
  have S0 : Sta s s.heap "java/lang/String" "COMPACT_STRINGS" "Z" (.int w0) := Sta.start ew0 (Or.inl (hsets _ (List.mem_of_getElem? (i := 0) rfl)))
  obtain ⟨n, o, h1, h2, h3, _, L, rfl, ⟨rfl, N⟩, hq⟩ := rm0 l s _ hw tables_1 i0 i1 i2 i3 i4 w0 s.heap s.heap.size (Nat.le_refl _) S0 (Old.start s) hw0 p e ha hc hk s m _ below hf ((Spec.applies_iff_loose hf).mp happ).1 ⟨rfl, State.Warmed39.refl s, rfl⟩ trivial
  refine ⟨n, _, h1, h2, h3, hpost _ _ _ _ _ _ ⟨Cond.after_iff.mpr rfl, Cond.after_iff.mpr (eq_i res_at (Term.int_eval (1)) rfl), trivial⟩ ⟨hq.1, hq.2.1, (hq.2.2.sift fun y hy => Or.inr (N y hy)).mono (by decide) (by decide)⟩⟩
theorem main_1_1 : Claimed_1_1 := comes_1 fun _ _ _ _ _ _ h hF => ⟨h.1, hF⟩
theorem main_1_2 : Claimed_1_2 := comes_1 fun _ _ _ _ _ _ h hF => ⟨h.2.1, hF⟩
end Jvm.Pilot.@@N@@
namespace Jvm.Pilot.@@N@@
open Jvm Jvm.ClassFile Sem Op Lib Jvm.Free Jvm.Stand Jvm.Pilot.@@N@@.Jvm.D
/-! MADE BY PROGRAM (witnessworld.py) out of the Statement's table words and the real class files: 19 classes; the members and pool entries that the words name. The judged class is class 1, her method 1. -/
namespace start1
open Jvm.ClassFile
def u (s : String) : CpInfo := .utf8 (stringToUtf16 s)
/-- a pool by its gaps: so many unusable entries, then the entry; so many at the end -/
def gap : Nat → List CpInfo → List CpInfo
  | 0, r => r
  | n + 1, r => .unusable :: gap n r
def poolList (es : List (Nat × CpInfo)) (last : Nat) : List CpInfo := es.foldr (fun e r => gap e.1 (e.2 :: r)) (gap last [])
def pool (es : List (Nat × CpInfo)) (last : Nat) : Array CpInfo := ⟨poolList es last⟩
def fileOf (pool : Array CpInfo) (this : Nat) (attrs : Array Attribute := #[]) (ms : Array MethodInfo := #[]) (fl : Nat := 33) (sup : Nat := 0) (ifs : Array Nat := #[]) (fds : Array FieldInfo := #[]) : ClassFile where
  minorVersion := 0
  majorVersion := 65
  constantPool := pool
  accessFlags := fl
  thisClass := this
  superClass := sup
  interfaces := ifs
  fields := fds
  methods := ms
  attributes := attrs
def plain (name : String) (sup : Option ClassId) : Class where
  name := name
  kind := .ordinary
  loader := none
  accessFlags := 33
  super := sup
  interfaces := #[]
  cf := none
  fields := #[]
  methods := #[]
  instanceTypes := #[]
  staticTypes := #[]
  resolved := #[]
  callSites := []
  init := .initialized
  statics := none
  mirror := none

def pool0 : Array CpInfo := pool [(5, u "<init>"), (0, u "()V"), (1, .class_ 10), (1, u "java/lang/Object"), (85, u "clone"), (0, u "()Ljava/lang/Object;")] 26

def k0c0 : Code := { maxStack := 0, maxLocals := 1, code := object_method_1_code, exceptionTable := #[], attributes := #[] }
def k0m0 : Method := { name := "<init>", desc := "()V", sig := { parameters := [], returnType := none }, accessFlags := 1, code := some k0c0 }
def k0m1 : Method := { name := "clone", desc := "()Ljava/lang/Object;", sig := { parameters := [], returnType := some (.object "java/lang/Object") }, accessFlags := 260, code := none }
/-- java/lang/Object -/
def k0 : Class := { plain "java/lang/Object" none with
  accessFlags := 33
  interfaces := #[]
  cf := some (fileOf pool0 8 #[] #[{ accessFlags := 1, nameIndex := 5, descriptorIndex := 6, attributes := #[] }, { accessFlags := 260, nameIndex := 96, descriptorIndex := 97, attributes := #[] }] 33 0 #[] #[])
  fields := #[]
  methods := #[k0m0, k0m1]
  instanceTypes := #[]
  staticTypes := #[]
  resolved := Array.replicate 124 none
  statics := none }

def pool1 : Array CpInfo := pool [(2, .class_ 4), (1, u "java/lang/Object"), (0, u "<init>"), (0, u "()V"), (0, .methodref 8 9), (0, .class_ 10), (0, .nameAndType 11 12), (0, u "java/lang/Math"), (0, u "min"), (0, u "(II)I"), (0, .methodref 14 15), (0, .class_ 16), (0, .nameAndType 17 18), (0, u "java/lang/String"), (0, u "valueOf"), (0, u "(C)Ljava/lang/String;"), (0, .class_ 20), (0, u "com/example/sunder/sunder/cli/Arguments"), (0, .methodref 19 22), (0, .nameAndType 5 23), (0, u "([Ljava/lang/String;)V"), (0, .methodref 19 25), (0, .nameAndType 26 27), (0, u "next"), (0, u "()Ljava/lang/String;"), (0, .methodref 19 29), (0, .nameAndType 30 31), (0, u "hasNext"), (0, u "()Z"), (0, .methodref 14 33), (0, .nameAndType 34 35), (0, u "equals"), (0, u "(Ljava/lang/Object;)Z"), (0, .class_ 37), (0, u "com/example/sunder/sunder/cli/ArgumentsHasNextPinLaw"), (2, u "law"), (0, u "(IIIII)Z")] 5

def k1m0 : Method := { name := "<init>", desc := "()V", sig := { parameters := [], returnType := none }, accessFlags := 1, code := none }
def k1c1 : Code := { maxStack := 3, maxLocals := 16, code := code, exceptionTable := #[], attributes := #[] }
def k1m1 : Method := { name := "law", desc := "(IIIII)Z", sig := { parameters := [.int, .int, .int, .int, .int], returnType := some .boolean }, accessFlags := 9, code := some k1c1 }
/-- com/example/sunder/sunder/cli/ArgumentsHasNextPinLaw -/
def k1 : Class := { plain "com/example/sunder/sunder/cli/ArgumentsHasNextPinLaw" (some 0) with
  accessFlags := 49
  interfaces := #[]
  cf := some (fileOf pool1 36 #[] #[{ accessFlags := 1, nameIndex := 5, descriptorIndex := 6, attributes := #[] }, { accessFlags := 9, nameIndex := 40, descriptorIndex := 41, attributes := #[] }] 49 2 #[] #[])
  fields := #[]
  methods := #[k1m0, k1m1]
  instanceTypes := #[]
  staticTypes := #[]
  resolved := Array.replicate 47 none
  statics := none }

def pool2 : Array CpInfo := pool [(1, .class_ 2), (0, u "java/lang/Math"), (1, .class_ 6), (1, u "java/lang/Object"), (0, u "<init>"), (0, u "()V"), (89, .class_ 100), (1, u "java/lang/Math$RandomNumberGeneratorHolder"), (71, u "negativeZeroFloatBits"), (0, u "J"), (2, u "negativeZeroDoubleBits"), (24, u "min"), (43, u "$assertionsDisabled"), (0, u "Z"), (88, u "(II)I"), (2, u "twoToTheDoubleScaleDown"), (0, u "D"), (4, u "twoToTheDoubleScaleUp"), (9, u "E"), (3, u "PI"), (2, u "TAU"), (2, u "DEGREES_TO_RADIANS"), (0, u "RADIANS_TO_DEGREES")] 94

def k2m0 : Method := { name := "<init>", desc := "()V", sig := { parameters := [], returnType := none }, accessFlags := 2, code := none }
def k2c1 : Code := { maxStack := 2, maxLocals := 2, code := jdk_29_method_69_code, exceptionTable := #[], attributes := #[] }
def k2m1 : Method := { name := "min", desc := "(II)I", sig := { parameters := [.int, .int], returnType := some .int }, accessFlags := 9, code := some k2c1 }
/-- java/lang/Math -/
def k2 : Class := { plain "java/lang/Math" (some 0) with
  accessFlags := 49
  interfaces := #[]
  cf := some (fileOf pool2 1 #[.nestMembers #[98]] #[{ accessFlags := 2, nameIndex := 7, descriptorIndex := 8, attributes := #[] }, { accessFlags := 9, nameIndex := 201, descriptorIndex := 335, attributes := #[] }] 49 4 #[] #[{ accessFlags := 25, nameIndex := 354, descriptorIndex := 339, attributes := #[] }, { accessFlags := 25, nameIndex := 358, descriptorIndex := 339, attributes := #[] }, { accessFlags := 25, nameIndex := 361, descriptorIndex := 339, attributes := #[] }, { accessFlags := 26, nameIndex := 364, descriptorIndex := 339, attributes := #[] }, { accessFlags := 26, nameIndex := 365, descriptorIndex := 339, attributes := #[] }, { accessFlags := 26, nameIndex := 172, descriptorIndex := 173, attributes := #[] }, { accessFlags := 26, nameIndex := 176, descriptorIndex := 173, attributes := #[] }, { accessFlags := 8, nameIndex := 344, descriptorIndex := 339, attributes := #[] }, { accessFlags := 8, nameIndex := 338, descriptorIndex := 339, attributes := #[] }, { accessFlags := 4120, nameIndex := 245, descriptorIndex := 246, attributes := #[] }])
  fields := #[{ name := "E", type := .double, accessFlags := 25, slot := 0, constantValue := 0 }, { name := "PI", type := .double, accessFlags := 25, slot := 1, constantValue := 0 }, { name := "TAU", type := .double, accessFlags := 25, slot := 2, constantValue := 0 }, { name := "DEGREES_TO_RADIANS", type := .double, accessFlags := 26, slot := 3, constantValue := 0 }, { name := "RADIANS_TO_DEGREES", type := .double, accessFlags := 26, slot := 4, constantValue := 0 }, { name := "negativeZeroFloatBits", type := .long, accessFlags := 26, slot := 5, constantValue := 0 }, { name := "negativeZeroDoubleBits", type := .long, accessFlags := 26, slot := 6, constantValue := 0 }, { name := "twoToTheDoubleScaleUp", type := .double, accessFlags := 8, slot := 7, constantValue := 0 }, { name := "twoToTheDoubleScaleDown", type := .double, accessFlags := 8, slot := 8, constantValue := 0 }, { name := "$assertionsDisabled", type := .boolean, accessFlags := 4120, slot := 9, constantValue := 0 }]
  methods := #[k2m0, k2m1]
  instanceTypes := #[]
  staticTypes := #[.double, .double, .double, .double, .double, .long, .long, .double, .double, .boolean]
  resolved := Array.replicate 460 none
  statics := none }

def pool3 : Array CpInfo := pool [(1, .class_ 2), (0, u "java/io/Serializable"), (0, .class_ 4), (0, u "java/lang/Object")] 2

/-- java/io/Serializable -/
def k3 : Class := { plain "java/io/Serializable" (some 0) with
  accessFlags := 1537
  interfaces := #[]
  cf := some (fileOf pool3 1 #[] #[] 1537 3 #[] #[])
  fields := #[]
  methods := #[]
  instanceTypes := #[]
  staticTypes := #[]
  resolved := Array.replicate 7 none
  statics := none }

def pool4 : Array CpInfo := pool [(1, .class_ 2), (0, u "java/lang/Comparable"), (0, .class_ 4), (0, u "java/lang/Object")] 7

/-- java/lang/Comparable -/
def k4 : Class := { plain "java/lang/Comparable" (some 0) with
  accessFlags := 1537
  interfaces := #[]
  cf := some (fileOf pool4 1 #[] #[] 1537 3 #[] #[])
  fields := #[]
  methods := #[]
  instanceTypes := #[]
  staticTypes := #[]
  resolved := Array.replicate 12 none
  statics := none }

def pool5 : Array CpInfo := pool [(2, .class_ 4), (1, u "java/lang/CharSequence"), (42, .class_ 48), (0, u "java/lang/CharSequence$1CodePointIterator"), (10, .class_ 60), (0, u "java/lang/CharSequence$1CharIterator"), (5, .class_ 67), (0, u "java/lang/Object")] 63

/-- java/lang/CharSequence -/
def k5 : Class := { plain "java/lang/CharSequence" (some 0) with
  accessFlags := 1537
  interfaces := #[]
  cf := some (fileOf pool5 2 #[.nestMembers #[47, 59]] #[] 1537 66 #[] #[])
  fields := #[]
  methods := #[]
  instanceTypes := #[]
  staticTypes := #[]
  resolved := Array.replicate 131 none
  statics := none }

def pool6 : Array CpInfo := pool [(1, .class_ 2), (0, u "java/lang/constant/Constable"), (0, .class_ 4), (0, u "java/lang/Object")] 6

/-- java/lang/constant/Constable -/
def k6 : Class := { plain "java/lang/constant/Constable" (some 0) with
  accessFlags := 1537
  interfaces := #[]
  cf := some (fileOf pool6 1 #[] #[] 1537 3 #[] #[])
  fields := #[]
  methods := #[]
  instanceTypes := #[]
  staticTypes := #[]
  resolved := Array.replicate 11 none
  statics := none }

def pool7 : Array CpInfo := pool [(1, .class_ 2), (0, u "java/lang/constant/ConstantDesc"), (0, .class_ 4), (0, u "java/lang/Object")] 32

/-- java/lang/constant/ConstantDesc -/
def k7 : Class := { plain "java/lang/constant/ConstantDesc" (some 0) with
  accessFlags := 1537
  interfaces := #[]
  cf := some (fileOf pool7 1 #[] #[] 1537 3 #[] #[])
  fields := #[]
  methods := #[]
  instanceTypes := #[]
  staticTypes := #[]
  resolved := Array.replicate 37 none
  statics := none }

def pool8 : Array CpInfo := pool [(1, .methodref 2 3), (0, .class_ 4), (0, .nameAndType 5 6), (0, u "java/lang/Object"), (0, u "<init>"), (0, u "()V"), (2, .fieldref 10 11), (0, .class_ 12), (0, .nameAndType 13 14), (0, u "java/lang/String"), (0, u "value"), (0, u "[B"), (0, .fieldref 10 16), (0, .nameAndType 17 18), (0, u "coder"), (0, u "B"), (2, u "hash"), (0, u "I"), (2, u "hashIsZero"), (0, u "Z"), (11, .fieldref 10 39), (0, .nameAndType 40 26), (0, u "COMPACT_STRINGS"), (12, u "toBytes"), (53, .class_ 109), (1, u "java/lang/StringLatin1"), (99, .methodref 10 210), (0, .nameAndType 5 211), (0, u "([BB)V"), (157, u "(C)Z"), (173, u "equals"), (29, u "(Ljava/lang/Object;)Z"), (1, .class_ 576), (0, u "java/lang/CharSequence"), (22, u "CASE_INSENSITIVE_ORDER"), (0, u "Ljava/util/Comparator;"), (181, u "valueOf"), (0, u "(C)Ljava/lang/String;"), (231, .methodref 107 1016), (0, .nameAndType 1017 369), (0, u "canEncode"), (0, .methodref 107 1019), (0, .nameAndType 53 1020), (0, u "(C)[B"), (80, u "serialPersistentFields"), (0, u "[Ljava/io/ObjectStreamField;"), (0, .class_ 1104), (0, u "java/lang/String$CaseInsensitiveComparator"), (1, .class_ 1107), (0, u "java/io/Serializable"), (0, .class_ 1109), (0, u "java/lang/Comparable"), (0, .class_ 1111), (0, u "java/lang/constant/Constable"), (0, .class_ 1113), (0, u "java/lang/constant/ConstantDesc"), (2, u "serialVersionUID"), (0, u "J"), (3, u "REPL"), (0, u "C"), (2, u "LATIN1"), (1, u "UTF16")] 323

def k8m0 : Method := { name := "<init>", desc := "()V", sig := { parameters := [], returnType := none }, accessFlags := 1, code := none }
def k8c1 : Code := { maxStack := 2, maxLocals := 3, code := jdk_42_method_66_code, exceptionTable := #[], attributes := #[] }
def k8m1 : Method := { name := "equals", desc := "(Ljava/lang/Object;)Z", sig := { parameters := [(.object "java/lang/Object")], returnType := some .boolean }, accessFlags := 1, code := some k8c1 }
def k8c2 : Code := { maxStack := 4, maxLocals := 1, code := jdk_42_method_139_code, exceptionTable := #[], attributes := #[] }
def k8m2 : Method := { name := "valueOf", desc := "(C)Ljava/lang/String;", sig := { parameters := [.char], returnType := some (.object "java/lang/String") }, accessFlags := 9, code := some k8c2 }
def k8c3 : Code := { maxStack := 2, maxLocals := 3, code := jdk_42_method_151_code, exceptionTable := #[], attributes := #[] }
def k8m3 : Method := { name := "<init>", desc := "([BB)V", sig := { parameters := [(.array .byte), .byte], returnType := none }, accessFlags := 0, code := some k8c3 }
/-- java/lang/String -/
def k8 : Class := { plain "java/lang/String" (some 0) with
  accessFlags := 49
  interfaces := #[3, 4, 5, 6, 7]
  cf := some (fileOf pool8 10 #[.nestMembers #[1103]] #[{ accessFlags := 1, nameIndex := 5, descriptorIndex := 6, attributes := #[] }, { accessFlags := 1, nameIndex := 543, descriptorIndex := 573, attributes := #[] }, { accessFlags := 9, nameIndex := 782, descriptorIndex := 783, attributes := #[] }, { accessFlags := 0, nameIndex := 5, descriptorIndex := 211, attributes := #[] }] 49 2 #[1106, 1108, 575, 1110, 1112] #[{ accessFlags := 18, nameIndex := 13, descriptorIndex := 14, attributes := #[] }, { accessFlags := 18, nameIndex := 17, descriptorIndex := 18, attributes := #[] }, { accessFlags := 2, nameIndex := 21, descriptorIndex := 22, attributes := #[] }, { accessFlags := 2, nameIndex := 25, descriptorIndex := 26, attributes := #[] }, { accessFlags := 26, nameIndex := 1116, descriptorIndex := 1117, attributes := #[] }, { accessFlags := 24, nameIndex := 40, descriptorIndex := 26, attributes := #[] }, { accessFlags := 26, nameIndex := 1101, descriptorIndex := 1102, attributes := #[] }, { accessFlags := 26, nameIndex := 1121, descriptorIndex := 1122, attributes := #[] }, { accessFlags := 25, nameIndex := 599, descriptorIndex := 600, attributes := #[] }, { accessFlags := 24, nameIndex := 1125, descriptorIndex := 18, attributes := #[] }, { accessFlags := 24, nameIndex := 1127, descriptorIndex := 18, attributes := #[] }])
  fields := #[{ name := "value", type := (.array .byte), accessFlags := 18, slot := 0, constantValue := 0 }, { name := "coder", type := .byte, accessFlags := 18, slot := 1, constantValue := 0 }, { name := "hash", type := .int, accessFlags := 2, slot := 2, constantValue := 0 }, { name := "hashIsZero", type := .boolean, accessFlags := 2, slot := 3, constantValue := 0 }, { name := "serialVersionUID", type := .long, accessFlags := 26, slot := 0, constantValue := 0 }, { name := "COMPACT_STRINGS", type := .boolean, accessFlags := 24, slot := 1, constantValue := 0 }, { name := "serialPersistentFields", type := (.array (.object "java/io/ObjectStreamField")), accessFlags := 26, slot := 2, constantValue := 0 }, { name := "REPL", type := .char, accessFlags := 26, slot := 3, constantValue := 0 }, { name := "CASE_INSENSITIVE_ORDER", type := (.object "java/util/Comparator"), accessFlags := 25, slot := 4, constantValue := 0 }, { name := "LATIN1", type := .byte, accessFlags := 24, slot := 5, constantValue := 0 }, { name := "UTF16", type := .byte, accessFlags := 24, slot := 6, constantValue := 0 }]
  methods := #[k8m0, k8m1, k8m2, k8m3]
  instanceTypes := #[(.array .byte), .byte, .int, .boolean]
  staticTypes := #[.long, .boolean, (.array (.object "java/io/ObjectStreamField")), .char, (.object "java/util/Comparator"), .byte, .byte]
  resolved := Array.replicate 1451 none
  statics := some 0 }

def pool9 : Array CpInfo := pool [(4, .class_ 6), (1, u "java/lang/Object"), (0, u "<init>"), (0, u "()V"), (5, .class_ 16), (1, u "java/lang/StringLatin1"), (73, u "canEncode"), (14, u "(C)Z"), (15, u "$assertionsDisabled"), (0, u "Z"), (98, .class_ 223), (1, u "java/lang/StringLatin1$LinesSpliterator"), (156, u "toBytes"), (1, u "(C)[B"), (7, .class_ 391), (0, u "java/lang/StringLatin1$CharsSpliterator")] 3

def k9m0 : Method := { name := "<init>", desc := "()V", sig := { parameters := [], returnType := none }, accessFlags := 0, code := none }
def k9c1 : Code := { maxStack := 2, maxLocals := 1, code := jdk_43_method_3_code, exceptionTable := #[], attributes := #[] }
def k9m1 : Method := { name := "canEncode", desc := "(C)Z", sig := { parameters := [.char], returnType := some .boolean }, accessFlags := 9, code := some k9c1 }
def k9c2 : Code := { maxStack := 4, maxLocals := 1, code := jdk_43_method_46_code, exceptionTable := #[], attributes := #[] }
def k9m2 : Method := { name := "toBytes", desc := "(C)[B", sig := { parameters := [.char], returnType := some (.array .byte) }, accessFlags := 9, code := some k9c2 }
/-- java/lang/StringLatin1 -/
def k9 : Class := { plain "java/lang/StringLatin1" (some 0) with
  accessFlags := 48
  interfaces := #[]
  cf := some (fileOf pool9 14 #[.nestMembers #[390, 221]] #[{ accessFlags := 0, nameIndex := 7, descriptorIndex := 8, attributes := #[] }, { accessFlags := 9, nameIndex := 90, descriptorIndex := 105, attributes := #[] }, { accessFlags := 9, nameIndex := 380, descriptorIndex := 382, attributes := #[] }] 48 4 #[] #[{ accessFlags := 4120, nameIndex := 121, descriptorIndex := 122, attributes := #[] }])
  fields := #[{ name := "$assertionsDisabled", type := .boolean, accessFlags := 4120, slot := 0, constantValue := 0 }]
  methods := #[k9m0, k9m1, k9m2]
  instanceTypes := #[]
  staticTypes := #[.boolean]
  resolved := Array.replicate 395 none
  statics := none }

def pool10 : Array CpInfo := pool [(1, .methodref 2 3), (0, .class_ 4), (0, .nameAndType 5 6), (0, u "java/lang/Object"), (0, u "<init>"), (0, u "()V"), (0, .methodref 8 9), (0, .class_ 10), (0, .nameAndType 11 12), (0, u "[Ljava/lang/String;"), (0, u "clone"), (0, u "()Ljava/lang/Object;"), (0, .fieldref 14 15), (0, .class_ 16), (0, .nameAndType 17 10), (0, u "com/example/sunder/sunder/cli/Arguments"), (0, u "args"), (0, .fieldref 14 19), (0, .nameAndType 20 21), (0, u "next"), (0, u "I"), (0, .methodref 14 23), (0, .nameAndType 24 25), (0, u "hasNext"), (0, u "()Z"), (14, u "()Ljava/lang/String;"), (170, u "([Ljava/lang/String;)V")] 81

def k10c0 : Code := { maxStack := 2, maxLocals := 2, code := prog_16_method_1_code, exceptionTable := #[], attributes := #[] }
def k10m0 : Method := { name := "<init>", desc := "([Ljava/lang/String;)V", sig := { parameters := [(.array (.object "java/lang/String"))], returnType := none }, accessFlags := 0, code := some k10c0 }
def k10c1 : Code := { maxStack := 2, maxLocals := 1, code := prog_16_method_2_code, exceptionTable := #[], attributes := #[] }
def k10m1 : Method := { name := "hasNext", desc := "()Z", sig := { parameters := [], returnType := some .boolean }, accessFlags := 0, code := some k10c1 }
def k10c2 : Code := { maxStack := 5, maxLocals := 1, code := prog_16_method_3_code, exceptionTable := #[], attributes := #[] }
def k10m2 : Method := { name := "next", desc := "()Ljava/lang/String;", sig := { parameters := [], returnType := some (.object "java/lang/String") }, accessFlags := 0, code := some k10c2 }
/-- com/example/sunder/sunder/cli/Arguments -/
def k10 : Class := { plain "com/example/sunder/sunder/cli/Arguments" (some 0) with
  accessFlags := 48
  interfaces := #[]
  cf := some (fileOf pool10 14 #[] #[{ accessFlags := 0, nameIndex := 5, descriptorIndex := 211, attributes := #[] }, { accessFlags := 0, nameIndex := 24, descriptorIndex := 25, attributes := #[] }, { accessFlags := 0, nameIndex := 20, descriptorIndex := 40, attributes := #[] }] 48 2 #[] #[{ accessFlags := 18, nameIndex := 17, descriptorIndex := 10, attributes := #[] }, { accessFlags := 2, nameIndex := 20, descriptorIndex := 21, attributes := #[] }])
  fields := #[{ name := "args", type := (.array (.object "java/lang/String")), accessFlags := 18, slot := 0, constantValue := 0 }, { name := "next", type := .int, accessFlags := 2, slot := 1, constantValue := 0 }]
  methods := #[k10m0, k10m1, k10m2]
  instanceTypes := #[(.array (.object "java/lang/String")), .int]
  staticTypes := #[]
  resolved := Array.replicate 293 none
  statics := none }

def pool11 : Array CpInfo := pool [(1, .class_ 2), (0, u "java/lang/Cloneable"), (0, .class_ 4), (0, u "java/lang/Object")] 2

/-- java/lang/Cloneable -/
def k11 : Class := { plain "java/lang/Cloneable" (some 0) with
  accessFlags := 1537
  interfaces := #[]
  cf := some (fileOf pool11 1 #[] #[] 1537 3 #[] #[])
  fields := #[]
  methods := #[]
  instanceTypes := #[]
  staticTypes := #[]
  resolved := Array.replicate 7 none
  statics := none }

def pool12 : Array CpInfo := pool [(2, .class_ 4), (1, u "java/lang/Object"), (0, u "<init>"), (0, u "()V"), (17, .class_ 26), (1, u "jdk/internal/util/Preconditions"), (28, .class_ 56), (0, u "jdk/internal/util/Preconditions$4"), (57, .class_ 115), (0, u "jdk/internal/util/Preconditions$1"), (7, u "SIOOBE_FORMATTER"), (0, u "Ljava/util/function/BiFunction;"), (0, .class_ 126), (0, u "jdk/internal/util/Preconditions$2"), (3, u "AIOOBE_FORMATTER"), (0, .class_ 132), (0, u "jdk/internal/util/Preconditions$3"), (3, u "IOOBE_FORMATTER")] 57

def k12m0 : Method := { name := "<init>", desc := "()V", sig := { parameters := [], returnType := none }, accessFlags := 1, code := none }
/-- jdk/internal/util/Preconditions -/
def k12 : Class := { plain "jdk/internal/util/Preconditions" (some 0) with
  accessFlags := 33
  interfaces := #[]
  cf := some (fileOf pool12 24 #[.nestMembers #[55, 131, 125, 114]] #[{ accessFlags := 1, nameIndex := 5, descriptorIndex := 6, attributes := #[] }] 33 2 #[] #[{ accessFlags := 25, nameIndex := 123, descriptorIndex := 124, attributes := #[] }, { accessFlags := 25, nameIndex := 130, descriptorIndex := 124, attributes := #[] }, { accessFlags := 25, nameIndex := 136, descriptorIndex := 124, attributes := #[] }])
  fields := #[{ name := "SIOOBE_FORMATTER", type := (.object "java/util/function/BiFunction"), accessFlags := 25, slot := 0, constantValue := 0 }, { name := "AIOOBE_FORMATTER", type := (.object "java/util/function/BiFunction"), accessFlags := 25, slot := 1, constantValue := 0 }, { name := "IOOBE_FORMATTER", type := (.object "java/util/function/BiFunction"), accessFlags := 25, slot := 2, constantValue := 0 }]
  methods := #[k12m0]
  instanceTypes := #[]
  staticTypes := #[(.object "java/util/function/BiFunction"), (.object "java/util/function/BiFunction"), (.object "java/util/function/BiFunction")]
  resolved := Array.replicate 194 none
  statics := some 1 }

def pool13 : Array CpInfo := pool [(9, u "<init>"), (6, .class_ 18), (1, u "java/lang/Object"), (0, u "()V"), (1, .class_ 23), (1, u "jdk/internal/util/ArraysSupport"), (0, u "LOG2_ARRAY_LONG_INDEX_SCALE"), (0, u "I"), (2, u "U"), (0, u "Ljdk/internal/misc/Unsafe;"), (8, u "BIG_ENDIAN"), (0, u "Z"), (8, u "LOG2_BYTE_BIT_SIZE"), (4, u "LOG2_ARRAY_INT_INDEX_SCALE"), (54, u "JLA"), (0, u "Ljdk/internal/access/JavaLangAccess;"), (11, u "LOG2_ARRAY_BOOLEAN_INDEX_SCALE"), (9, u "LOG2_ARRAY_BYTE_INDEX_SCALE"), (5, u "LOG2_ARRAY_CHAR_INDEX_SCALE"), (5, u "LOG2_ARRAY_SHORT_INDEX_SCALE"), (18, u "LOG2_ARRAY_FLOAT_INDEX_SCALE"), (24, u "LOG2_ARRAY_DOUBLE_INDEX_SCALE"), (89, u "T_BOOLEAN"), (2, u "T_CHAR"), (1, u "T_FLOAT"), (1, u "T_DOUBLE"), (1, u "T_BYTE"), (1, u "T_SHORT"), (1, u "T_INT"), (1, u "T_LONG"), (1, u "SOFT_MAX_ARRAY_LENGTH")] 83

def k13m0 : Method := { name := "<init>", desc := "()V", sig := { parameters := [], returnType := none }, accessFlags := 2, code := none }
/-- jdk/internal/util/ArraysSupport -/
def k13 : Class := { plain "jdk/internal/util/ArraysSupport" (some 0) with
  accessFlags := 33
  interfaces := #[]
  cf := some (fileOf pool13 21 #[] #[{ accessFlags := 2, nameIndex := 9, descriptorIndex := 19, attributes := #[] }] 33 16 #[] #[{ accessFlags := 24, nameIndex := 28, descriptorIndex := 29, attributes := #[] }, { accessFlags := 26, nameIndex := 38, descriptorIndex := 39, attributes := #[] }, { accessFlags := 25, nameIndex := 121, descriptorIndex := 25, attributes := #[] }, { accessFlags := 25, nameIndex := 131, descriptorIndex := 25, attributes := #[] }, { accessFlags := 25, nameIndex := 137, descriptorIndex := 25, attributes := #[] }, { accessFlags := 25, nameIndex := 143, descriptorIndex := 25, attributes := #[] }, { accessFlags := 25, nameIndex := 53, descriptorIndex := 25, attributes := #[] }, { accessFlags := 25, nameIndex := 24, descriptorIndex := 25, attributes := #[] }, { accessFlags := 25, nameIndex := 162, descriptorIndex := 25, attributes := #[] }, { accessFlags := 25, nameIndex := 187, descriptorIndex := 25, attributes := #[] }, { accessFlags := 26, nameIndex := 48, descriptorIndex := 25, attributes := #[] }, { accessFlags := 25, nameIndex := 277, descriptorIndex := 25, attributes := #[] }, { accessFlags := 25, nameIndex := 280, descriptorIndex := 25, attributes := #[] }, { accessFlags := 25, nameIndex := 282, descriptorIndex := 25, attributes := #[] }, { accessFlags := 25, nameIndex := 284, descriptorIndex := 25, attributes := #[] }, { accessFlags := 25, nameIndex := 286, descriptorIndex := 25, attributes := #[] }, { accessFlags := 25, nameIndex := 288, descriptorIndex := 25, attributes := #[] }, { accessFlags := 25, nameIndex := 290, descriptorIndex := 25, attributes := #[] }, { accessFlags := 25, nameIndex := 292, descriptorIndex := 25, attributes := #[] }, { accessFlags := 26, nameIndex := 108, descriptorIndex := 109, attributes := #[] }, { accessFlags := 25, nameIndex := 294, descriptorIndex := 25, attributes := #[] }])
  fields := #[{ name := "U", type := (.object "jdk/internal/misc/Unsafe"), accessFlags := 24, slot := 0, constantValue := 0 }, { name := "BIG_ENDIAN", type := .boolean, accessFlags := 26, slot := 1, constantValue := 0 }, { name := "LOG2_ARRAY_BOOLEAN_INDEX_SCALE", type := .int, accessFlags := 25, slot := 2, constantValue := 0 }, { name := "LOG2_ARRAY_BYTE_INDEX_SCALE", type := .int, accessFlags := 25, slot := 3, constantValue := 0 }, { name := "LOG2_ARRAY_CHAR_INDEX_SCALE", type := .int, accessFlags := 25, slot := 4, constantValue := 0 }, { name := "LOG2_ARRAY_SHORT_INDEX_SCALE", type := .int, accessFlags := 25, slot := 5, constantValue := 0 }, { name := "LOG2_ARRAY_INT_INDEX_SCALE", type := .int, accessFlags := 25, slot := 6, constantValue := 0 }, { name := "LOG2_ARRAY_LONG_INDEX_SCALE", type := .int, accessFlags := 25, slot := 7, constantValue := 0 }, { name := "LOG2_ARRAY_FLOAT_INDEX_SCALE", type := .int, accessFlags := 25, slot := 8, constantValue := 0 }, { name := "LOG2_ARRAY_DOUBLE_INDEX_SCALE", type := .int, accessFlags := 25, slot := 9, constantValue := 0 }, { name := "LOG2_BYTE_BIT_SIZE", type := .int, accessFlags := 26, slot := 10, constantValue := 0 }, { name := "T_BOOLEAN", type := .int, accessFlags := 25, slot := 11, constantValue := 0 }, { name := "T_CHAR", type := .int, accessFlags := 25, slot := 12, constantValue := 0 }, { name := "T_FLOAT", type := .int, accessFlags := 25, slot := 13, constantValue := 0 }, { name := "T_DOUBLE", type := .int, accessFlags := 25, slot := 14, constantValue := 0 }, { name := "T_BYTE", type := .int, accessFlags := 25, slot := 15, constantValue := 0 }, { name := "T_SHORT", type := .int, accessFlags := 25, slot := 16, constantValue := 0 }, { name := "T_INT", type := .int, accessFlags := 25, slot := 17, constantValue := 0 }, { name := "T_LONG", type := .int, accessFlags := 25, slot := 18, constantValue := 0 }, { name := "JLA", type := (.object "jdk/internal/access/JavaLangAccess"), accessFlags := 26, slot := 19, constantValue := 0 }, { name := "SOFT_MAX_ARRAY_LENGTH", type := .int, accessFlags := 25, slot := 20, constantValue := 0 }]
  methods := #[k13m0]
  instanceTypes := #[]
  staticTypes := #[(.object "jdk/internal/misc/Unsafe"), .boolean, .int, .int, .int, .int, .int, .int, .int, .int, .int, .int, .int, .int, .int, .int, .int, .int, .int, (.object "jdk/internal/access/JavaLangAccess"), .int]
  resolved := Array.replicate 378 none
  statics := none }

/-- the primitive byte -/
def k14 : Class := { plain "byte" none with kind := .primitive 'B', accessFlags := 0x411 }
/-- [B -/
def k15 : Class := { plain "[B" (some 0) with kind := .array 14 .byte, interfaces := #[11, 3], accessFlags := 1041 }

/-- the primitive int -/
def k16 : Class := { plain "int" none with kind := .primitive 'I', accessFlags := 0x411 }
/-- [I -/
def k17 : Class := { plain "[I" (some 0) with kind := .array 16 .int, interfaces := #[11, 3], accessFlags := 1041 }

/-- [Ljava/lang/String; -/
def k18 : Class := { plain "[Ljava/lang/String;" (some 0) with kind := .array 8 (.object "java/lang/String"), interfaces := #[11, 3], accessFlags := 1041 }

def heap : Heap := #[{ cls := 8, slots := #[.long 0, .int 1, .null, .int 0, .null, .int 0, .int 0], vm := .statics 8 },
  { cls := 12, slots := #[.null, .null, .null], vm := .statics 12 }]
def classes : Array Class := #[k0, k1, k2, k3, k4, k5, k6, k7, k8, k9, k10, k11, k12, k13, k14, k15, k16, k17, k18]
def interned : List (Array UInt16 × Addr) := []
def slotsUsed : Nat := 10
def theMethod : MethodId := ⟨1, 1⟩
def args0 : Array Value := #[.int 5, .int 7, .int (-3), .int 4, .int 9]
def aboutOver (below : List Frame) : State where
  vm := { classes := classes, interned := interned.toArray }
  heap := heap
  slotsUsed := slotsUsed
  threads := #[{ frames := .invoking theMethod args0 :: below }]
def below0 : List Frame := [.native { method := ⟨0, 0⟩, args := #[] }]
def about1 : State := aboutOver below0
def p0 : Program := .bare "" "" ""
def e0 : Env := launch0.env 0 0 0
theorem w_frames : about1.frames = Frame.invoking theMethod args0 :: below0 := rfl
set_option maxRecDepth 65536 in
theorem w_args : argsFit about1.vm theMethod args0 = true := by decide +kernel
set_option maxRecDepth 65536 in
theorem w_heap : heapFits about1 = true := by decide +kernel
set_option maxRecDepth 65536 in
theorem w_runnable : about1.curStatus? = some .runnable := by decide +kernel
set_option maxRecDepth 65536 in
theorem w_alone : about1.alone = true := by decide +kernel
set_option maxRecDepth 65536 in
theorem w_named : about1.methodNamed? x = some theMethod := by decide +kernel
set_option maxRecDepth 65536 in
theorem w_hears : about1.hears theMethod below0 = true := by decide +kernel
set_option maxRecDepth 65536 in
theorem w_ripe : about1.ripe theMethod args0 below0 = true := by decide +kernel
theorem w_running : about1.status = .running := rfl
set_option maxRecDepth 65536 in
theorem w_room : about1.hasRoom e0.platform room_1 = true :=
  launch0.hasRoom_least _ room_1 (by decide +kernel) (by decide +kernel) (by decide +kernel) (by decide +kernel) (by decide +kernel) (by decide +kernel)
theorem allAtoms_all (ts : List Jvm.Cond) (a : Array Jvm.Value) (st : Jvm.State) : (allAtoms ts).before a st = ts.all (fun c => c.before a st) := by
  induction ts with
  | nil => rfl
  | cons c t ih =>
    show (Jvm.Cond.and c (allAtoms t)).before a st = _
    rw [Jvm.Cond.before_and, ih, List.all_cons]
def words1 : List Jvm.Cond := Jvm.Cond.code x code maxLocals ret :: tables_1
/-- a 'code' word, met by the world's own term for the bytes: nothing is compared byte by byte -/
theorem code_word {y : MethodName} {bytes : ByteArray} {mx : Nat} {rt : Option FieldType} {a : Array Value} {s : State} {m : MethodId} {meth : Method} {c : Code} (h1 : s.methodNamed? y = some m) (h2 : s.vm.method? m = some meth) (h3 : meth.code = some c) (h4 : c.code = bytes)
    (h5 : (c.maxLocals == mx && c.exceptionTable.isEmpty && decide (c.maxStack ≤ mostOperands) && decide (meth.sig.returnType = rt) && !meth.locks && decide (parseMethodDescriptor y.desc = some meth.sig)) = true) : (Jvm.Cond.code y bytes mx rt).before a s = true := by
  simp only [Bool.and_eq_true, beq_iff_eq, Bool.not_eq_true', decide_eq_true_eq] at h5
  obtain ⟨⟨⟨⟨⟨g1, g2⟩, g3⟩, g4⟩, g5⟩, g6⟩ := h5
  simp [Cond.before, Cond.holds, Cond.value, h1, h2, h3, h4, g1, g2, g3, g4, g5, g6]
def isCode : Jvm.Cond → Bool
  | .code _ _ _ _ => true
  | _ => false
theorem all_split {L : List Jvm.Cond} {P : Jvm.Cond → Bool} (h1 : L.all (fun c => isCode c || P c) = true) (h2 : ∀ c ∈ L.filter isCode, P c = true) : L.all P = true := by
  refine List.all_eq_true.mpr fun c hc => ?_
  have h := List.all_eq_true.mp h1 c hc
  rcases Bool.eq_false_or_eq_true (isCode c) with hi | hi
  · exact h2 c (List.mem_filter.mpr ⟨hc, hi⟩)
  · simpa [hi] using h
set_option maxRecDepth 65536 in
theorem w_c0 : (Jvm.Cond.code x code maxLocals ret).before args0 about1 = true := code_word (m := ⟨1, 1⟩) (meth := k1m1) (c := k1c1) (by decide +kernel) rfl rfl rfl (by decide +kernel)
set_option maxRecDepth 65536 in
theorem w_c1 : (Jvm.Cond.code ({ cls := "java/lang/Math", name := "min", desc := "(II)I" } : Jvm.MethodName) jdk_29_method_69_code (2 : Nat) (Option.some Jvm.ClassFile.FieldType.int)).before args0 about1 = true := code_word (m := ⟨2, 1⟩) (meth := k2m1) (c := k2c1) (by decide +kernel) rfl rfl rfl (by decide +kernel)
set_option maxRecDepth 65536 in
theorem w_c2 : (Jvm.Cond.code ({ cls := "java/lang/String", name := "valueOf", desc := "(C)Ljava/lang/String;" } : Jvm.MethodName) jdk_42_method_139_code (1 : Nat) (Option.some (Jvm.ClassFile.FieldType.object "java/lang/String"))).before args0 about1 = true := code_word (m := ⟨8, 2⟩) (meth := k8m2) (c := k8c2) (by decide +kernel) rfl rfl rfl (by decide +kernel)
set_option maxRecDepth 65536 in
theorem w_c3 : (Jvm.Cond.code ({ cls := "java/lang/StringLatin1", name := "canEncode", desc := "(C)Z" } : Jvm.MethodName) jdk_43_method_3_code (1 : Nat) (Option.some Jvm.ClassFile.FieldType.boolean)).before args0 about1 = true := code_word (m := ⟨9, 1⟩) (meth := k9m1) (c := k9c1) (by decide +kernel) rfl rfl rfl (by decide +kernel)
set_option maxRecDepth 65536 in
theorem w_c4 : (Jvm.Cond.code ({ cls := "java/lang/StringLatin1", name := "toBytes", desc := "(C)[B" } : Jvm.MethodName) jdk_43_method_46_code (1 : Nat) (Option.some (Jvm.ClassFile.FieldType.array Jvm.ClassFile.FieldType.byte))).before args0 about1 = true := code_word (m := ⟨9, 2⟩) (meth := k9m2) (c := k9c2) (by decide +kernel) rfl rfl rfl (by decide +kernel)
set_option maxRecDepth 65536 in
theorem w_c5 : (Jvm.Cond.code ({ cls := "java/lang/String", name := "<init>", desc := "([BB)V" } : Jvm.MethodName) jdk_42_method_151_code (3 : Nat) (Option.none : Option Jvm.ClassFile.FieldType)).before args0 about1 = true := code_word (m := ⟨8, 3⟩) (meth := k8m3) (c := k8c3) (by decide +kernel) rfl rfl rfl (by decide +kernel)
set_option maxRecDepth 65536 in
theorem w_c6 : (Jvm.Cond.code ({ cls := "java/lang/Object", name := "<init>", desc := "()V" } : Jvm.MethodName) object_method_1_code (1 : Nat) (Option.none : Option Jvm.ClassFile.FieldType)).before args0 about1 = true := code_word (m := ⟨0, 0⟩) (meth := k0m0) (c := k0c0) (by decide +kernel) rfl rfl rfl (by decide +kernel)
set_option maxRecDepth 65536 in
theorem w_c7 : (Jvm.Cond.code ({ cls := "com/example/sunder/sunder/cli/Arguments", name := "<init>", desc := "([Ljava/lang/String;)V" } : Jvm.MethodName) prog_16_method_1_code (2 : Nat) (Option.none : Option Jvm.ClassFile.FieldType)).before args0 about1 = true := code_word (m := ⟨10, 0⟩) (meth := k10m0) (c := k10c0) (by decide +kernel) rfl rfl rfl (by decide +kernel)
set_option maxRecDepth 65536 in
theorem w_c8 : (Jvm.Cond.code ({ cls := "com/example/sunder/sunder/cli/Arguments", name := "hasNext", desc := "()Z" } : Jvm.MethodName) prog_16_method_2_code (1 : Nat) (Option.some Jvm.ClassFile.FieldType.boolean)).before args0 about1 = true := code_word (m := ⟨10, 1⟩) (meth := k10m1) (c := k10c1) (by decide +kernel) rfl rfl rfl (by decide +kernel)
set_option maxRecDepth 65536 in
theorem w_c9 : (Jvm.Cond.code ({ cls := "com/example/sunder/sunder/cli/Arguments", name := "next", desc := "()Ljava/lang/String;" } : Jvm.MethodName) prog_16_method_3_code (1 : Nat) (Option.some (Jvm.ClassFile.FieldType.object "java/lang/String"))).before args0 about1 = true := code_word (m := ⟨10, 2⟩) (meth := k10m2) (c := k10c2) (by decide +kernel) rfl rfl rfl (by decide +kernel)
set_option maxRecDepth 65536 in
theorem w_c10 : (Jvm.Cond.code ({ cls := "java/lang/String", name := "equals", desc := "(Ljava/lang/Object;)Z" } : Jvm.MethodName) jdk_42_method_66_code (3 : Nat) (Option.some Jvm.ClassFile.FieldType.boolean)).before args0 about1 = true := code_word (m := ⟨8, 1⟩) (meth := k8m1) (c := k8c1) (by decide +kernel) rfl rfl rfl (by decide +kernel)
def codes1 : List Jvm.Cond := [Jvm.Cond.code x code maxLocals ret, Jvm.Cond.code ({ cls := "java/lang/Math", name := "min", desc := "(II)I" } : Jvm.MethodName) jdk_29_method_69_code (2 : Nat) (Option.some Jvm.ClassFile.FieldType.int), Jvm.Cond.code ({ cls := "java/lang/String", name := "valueOf", desc := "(C)Ljava/lang/String;" } : Jvm.MethodName) jdk_42_method_139_code (1 : Nat) (Option.some (Jvm.ClassFile.FieldType.object "java/lang/String")), Jvm.Cond.code ({ cls := "java/lang/StringLatin1", name := "canEncode", desc := "(C)Z" } : Jvm.MethodName) jdk_43_method_3_code (1 : Nat) (Option.some Jvm.ClassFile.FieldType.boolean), Jvm.Cond.code ({ cls := "java/lang/StringLatin1", name := "toBytes", desc := "(C)[B" } : Jvm.MethodName) jdk_43_method_46_code (1 : Nat) (Option.some (Jvm.ClassFile.FieldType.array Jvm.ClassFile.FieldType.byte)), Jvm.Cond.code ({ cls := "java/lang/String", name := "<init>", desc := "([BB)V" } : Jvm.MethodName) jdk_42_method_151_code (3 : Nat) (Option.none : Option Jvm.ClassFile.FieldType), Jvm.Cond.code ({ cls := "java/lang/Object", name := "<init>", desc := "()V" } : Jvm.MethodName) object_method_1_code (1 : Nat) (Option.none : Option Jvm.ClassFile.FieldType), Jvm.Cond.code ({ cls := "com/example/sunder/sunder/cli/Arguments", name := "<init>", desc := "([Ljava/lang/String;)V" } : Jvm.MethodName) prog_16_method_1_code (2 : Nat) (Option.none : Option Jvm.ClassFile.FieldType), Jvm.Cond.code ({ cls := "com/example/sunder/sunder/cli/Arguments", name := "hasNext", desc := "()Z" } : Jvm.MethodName) prog_16_method_2_code (1 : Nat) (Option.some Jvm.ClassFile.FieldType.boolean), Jvm.Cond.code ({ cls := "com/example/sunder/sunder/cli/Arguments", name := "next", desc := "()Ljava/lang/String;" } : Jvm.MethodName) prog_16_method_3_code (1 : Nat) (Option.some (Jvm.ClassFile.FieldType.object "java/lang/String")), Jvm.Cond.code ({ cls := "java/lang/String", name := "equals", desc := "(Ljava/lang/Object;)Z" } : Jvm.MethodName) jdk_42_method_66_code (3 : Nat) (Option.some Jvm.ClassFile.FieldType.boolean)]
set_option maxRecDepth 65536 in
theorem codes_eq : words1.filter isCode = codes1 := rfl
theorem w_codes : ∀ c ∈ words1.filter isCode, c.before args0 about1 = true := by
  rw [codes_eq]
  intro c hc
  simp only [codes1, List.mem_cons, List.not_mem_nil, or_false] at hc
  rcases hc with rfl | rfl | rfl | rfl | rfl | rfl | rfl | rfl | rfl | rfl | rfl
  · exact w_c0
  · exact w_c1
  · exact w_c2
  · exact w_c3
  · exact w_c4
  · exact w_c5
  · exact w_c6
  · exact w_c7
  · exact w_c8
  · exact w_c9
  · exact w_c10
set_option maxRecDepth 65536 in
theorem w_t1 : (words1.take 24).all (fun c => isCode c || c.before args0 about1) = true := by decide +kernel
set_option maxRecDepth 65536 in
theorem w_t2 : ((words1.drop 24).take 24).all (fun c => isCode c || c.before args0 about1) = true := by decide +kernel
set_option maxRecDepth 65536 in
theorem w_t3 : ((words1.drop 24).drop 24).all (fun c => isCode c || c.before args0 about1) = true := by decide +kernel
theorem w_tables : (allAtoms (Jvm.Cond.code x code maxLocals ret :: tables_1)).before args0 about1 = true := by
  rw [allAtoms_all]
  show words1.all (fun c => c.before args0 about1) = true
  refine all_split ?_ w_codes
  rw [← List.take_append_drop 24 words1, List.all_append, w_t1, ← List.take_append_drop 24 (words1.drop 24), List.all_append, w_t2, w_t3]
  rfl
set_option maxRecDepth 65536 in
theorem w_rest : rest_1_c.before args0 about1 = true := by decide +kernel
set_option maxRecDepth 65536 in
theorem w_case : (Jvm.Cond.and given_1 narrow_1).before args0 about1 = true := by decide +kernel
theorem w_applies : (headSpec (Jvm.Cond.code x code maxLocals ret :: tables_1) room_1).applies x e0.platform about1 = true :=
  (Spec.applies_iff w_frames).mpr ⟨w_running, w_runnable, w_alone, w_named, w_hears, w_ripe, w_room, w_tables⟩
theorem atStart : AtStart classFile x code maxLocals ret World_1 tables_1 room_1 Calls_1 rest_1 Pre_1 launch0 p0 e0 about1 theMethod args0 below0 :=
  ⟨lists_1, trivial, launch0.admits_env _ _ _, launch0.least_env, fairChoices_fair.cas, fairChoices_fair.clock, w_frames, w_args, w_heap, w_applies, trivial, w_rest, w_case⟩
end start1
theorem witness_1 : WitnessClaimed_1 := ⟨start1.p0, start1.e0, start1.about1, start1.theMethod, start1.args0, start1.below0, start1.atStart⟩
end Jvm.Pilot.@@N@@
