import JvmDerived
import JvmDerived.Pilot.@@N@@Statement
import JvmDerived.Pilot.@@N@@Code
set_option linter.unusedVariables false
set_option linter.unusedSimpArgs false
@@BLOCK:NumsL.lean.txt@@
namespace Jvm.Pilot.@@N@@
open Jvm Jvm.ClassFile Sem Op Lib Jvm.Free Jvm.Stand Jvm.LawKit Jvm.RoadKit Bundle Jvm.Pilot.@@N@@.Jvm.D
section Own
variable {p : Program} {l : Launch} {e : Env} {R : Room} {s : State} {m : MethodId} {args : Array Value} {below : List Frame} {meth : Method} {c : Code} {T : State} {locs : List Loc} {cells slots : Nat}
/-- the walk from the state t ends as the contract Q says; End: the narrow frame or the wide one -/
def Go (End : State → Outcome → State → List Loc → Nat → Nat → Prop) (p : Program) (e : Env) (below : List Frame) (s : State) (rc rs : Nat) (Q : Option Value → Heap → List Loc → Prop) (t : State) : Prop :=
  ∃ s₂ o, Steps p.tables e below t s₂ ∧ s₂.status = .running ∧ Ended s₂ below o ∧ ∃ v L, o = .returned v ∧ Q v s₂.heap L ∧ End s o s₂ L rc rs
variable {End : State → Outcome → State → List Loc → Nat → Nat → Prop}
theorem go {rc rs : Nat} {Q : Option Value → Heap → List Loc → Prop} {t t' : State} (k : ∀ target, Steps p.tables e below t' target → Steps p.tables e below t target) (h : Go End p e below s rc rs Q t') : Go End p e below s rc rs Q t := by
  obtain ⟨s₂, o, h1, h2⟩ := h
  exact ⟨s₂, o, k _ h1, h2⟩
theorem goT {rc rs : Nat} {Q : Option Value → Heap → List Loc → Prop} {t t' : State} (k : Steps p.tables e below t t') (h : Go End p e below s rc rs Q t') : Go End p e below s rc rs Q t := by
  obtain ⟨s₂, o, h1, h2⟩ := h
  exact ⟨s₂, o, k.trans h1, h2⟩
theorem goRet {rc rs : Nat} {Q : Option Value → Heap → List Loc → Prop} (X : Stand p l e R s m args below meth c T locs cells slots) (hx : p.tables.exec = Jvm.exec) (hlk : meth.locks = false) {pc : Nat} {Ls : Array Slot} {w : Value} {t : FieldType} {i : Instr} {rest : List Value} (hret : meth.sig.returnType = some t) (hn : narrow t w = w)
    (hi : (i = .ireturn ∧ (t = .int ∨ t = .boolean ∨ t = .byte ∨ t = .char ∨ t = .short) ∧ ∃ z, w = .int z) ∨ (i = .lreturn ∧ t = .long ∧ ∃ z, w = .long z) ∨ (i = .dreturn ∧ t = .double ∧ ∃ z, w = .double z) ∨ (i = .freturn ∧ t = .float ∧ ∃ z, w = .float z) ∨ (i = .areturn ∧ t.isReference = true ∧ w.isRef = true))
    (hd : decode c.code pc = .ok (i, 1)) (hc : cells ≤ rc) (hs : slots ≤ rs) (hq : Q (some w) T.heap locs) : Go FrameEnd p e below s rc rs Q (T.setTop (mkF m pc Ls (w :: rest))) := by
  obtain ⟨fs, hr, hrun, hended, hW, hsame⟩ := X.leave (v := some w) (fun h => by rw [hret] at h; cases h) hlk
  refine ⟨_, _, retOut X hx hret hn hi hd hr, hrun, hended, _, _, rfl, ?_, ⟨_, rfl⟩, hW, hsame.mono hc hs⟩
  show Q _ T.heap _
  exact hq
theorem goRetN {rc rs : Nat} {Q : Option Value → Heap → List Loc → Prop} (X : Stand p l e R s m args below meth c T locs cells slots) (hx : p.tables.exec = Jvm.exec) (hlk : meth.locks = false) {pc : Nat} {Ls : Array Slot} {z : Int32} {t : FieldType} {rest : List Value} (hret : meth.sig.returnType = some t) (ht : t = .boolean ∨ t = .byte ∨ t = .char ∨ t = .short)
    (hd : decode c.code pc = .ok (.ireturn, 1)) (hc : cells ≤ rc) (hs : slots ≤ rs) (hq : Q (some (.int (nar t z))) T.heap locs) : Go FrameEnd p e below s rc rs Q (T.setTop (mkF m pc Ls (.int z :: rest))) := by
  obtain ⟨fs, hr, hrun, hended, hW, hsame⟩ := X.leave (v := some (.int (nar t z))) (fun h => by rw [hret] at h; cases h) hlk
  refine ⟨_, _, retN X hx hret ht hd hr, hrun, hended, _, _, rfl, ?_, ⟨_, rfl⟩, hW, hsame.mono hc hs⟩
  show Q _ T.heap _
  exact hq
theorem goRet0 {rc rs : Nat} {Q : Option Value → Heap → List Loc → Prop} (X : Stand p l e R s m args below meth c T locs cells slots) (hx : p.tables.exec = Jvm.exec) (hlk : meth.locks = false) {pc : Nat} {Ls : Array Slot} (hret : meth.sig.returnType = none)
    (hd : decode c.code pc = .ok (.return_, 1)) (hc : cells ≤ rc) (hs : slots ≤ rs) (hq : Q none T.heap locs) : Go FrameEnd p e below s rc rs Q (T.setTop (mkF m pc Ls [])) := by
  obtain ⟨fs, hr, hrun, hended, hW, hsame⟩ := X.leave (v := none) (fun _ => rfl) hlk
  refine ⟨_, _, X.returnOut hx hret hd hr, hrun, hended, _, _, rfl, ?_, ⟨_, rfl⟩, hW, hsame.mono hc hs⟩
  show Q _ T.heap _
  exact hq
end Own
section OwnStart
variable {args : Array Value} {s : State} {a : Addr} {t : Term} {C n d : String} {k : Int32}
theorem own_eqI (h : (Cond.eq t (.int k)).value args s none s [] = some true) : t.eval args s none [] s = some (.int k) := by
  cases ht : t.eval args s none [] s with
  | none => simp [Cond.value, ht] at h
  | some x => cases x <;> simp [Cond.value, ht, Term.int_eval] at h ⊢; exact h
theorem own_neI (h : (Cond.not (Cond.eq t (.int k))).value args s none s [] = some true) {x : Int32} (e : t.eval args s none [] s = some (.int x)) : ¬ x = k := fun q => by
  subst q; simp [Cond.value, e, Term.int_eval] at h
theorem own_fI (ev : t.eval args s none [] s = some (.ref a)) (h : (Cond.eq (.field t C n d) (.int k)).value args s none s [] = some true) : Fld s s.heap a C n d (.int k) :=
  Fld.start ((fld_at ev).symm.trans (own_eqI h))
theorem own_fR {b : Addr} (ev : t.eval args s none [] s = some (.ref a)) (h : (Term.field t C n d).eval args s none [] s = some (.ref b)) : Fld s s.heap a C n d (.ref b) :=
  Fld.start ((fld_at ev).symm.trans h)
theorem own_len {c : Cell} {ty : FieldType} (ev : t.eval args s none [] s = some (.ref a)) (A : Arr s s.heap a c ty) (h : (Cond.eq (.length t) (.int k)).value args s none s [] = some true) : c.slots.size < 2 ^ 31 ∧ c.slots.size.toInt32 = k := by
  have e := own_eqI h
  have ha : s.arrayAt? a = some c := IntBox.arrayAt_of A.1 A.2.1 A.2.2
  by_cases hl : c.slots.size < 2 ^ 31
  · rw [len_f ev ha hl] at e; exact ⟨hl, by injection e with e; injection e⟩
  · simp [Term.eval, ev, ha, hl] at e
theorem own_el {c : Cell} {ty : FieldType} {j : Int32} {v : Int32} (ev : t.eval args s none [] s = some (.ref a)) (A : Arr s s.heap a c ty) (h : (Cond.eq (.elem t (.int j)) (.int v)).value args s none s [] = some true) : c.slots[j.toNatClampNeg]? = some (.int v) :=
  (elem_in (own_eqI h) ev (Term.int_eval j) A.1).2
end OwnStart
theorem own_sh0 (z : Int32) : z >>> ((0 : Int32) &&& 31) = z := by
  apply Int32.toBitVec_inj.mp; simp
theorem d5_0 : decode jdk_42_method_152_code 0 = .ok (.getstatic 38, 3) := by decide +kernel
theorem d5_3 : decode jdk_42_method_152_code 3 = .ok (.ifCond .eq 10, 3) := by decide +kernel
theorem d5_6 : decode jdk_42_method_152_code 6 = .ok (.aload_n 0, 1) := by decide +kernel
theorem d5_7 : decode jdk_42_method_152_code 7 = .ok (.getfield 15, 3) := by decide +kernel
theorem d5_10 : decode jdk_42_method_152_code 10 = .ok (.goto 4, 3) := by decide +kernel
theorem d5_14 : decode jdk_42_method_152_code 14 = .ok (.ireturn, 1) := by decide +kernel
theorem pn_5 : plainName "java/lang/String" = true := by first | (simp [plainName, overriddenIn]; done) | decide +kernel
theorem ef_5 (m : MethodId) (a1 : Addr) : entryFrame m #[(.ref a1)] 1 = mkF m 0 #[.val (.ref a1)] [] := by first | (simp [entryFrame, mkF, argsToLocals, Value.category]; done) | rfl
def Q5 (Z : State) (a1 : Addr) (w0 : Int32) (h0 : Heap) (n0 : Nat) (v : Option Value) (h : Heap) (L : List Loc) : Prop := v = some (.int (0 : Int32)) ∧ Fr n0 L ∧ (h = h0)
set_option maxRecDepth 65536 in
set_option maxHeartbeats 40000000 in
theorem rm5 (l : Launch) (Z : State) (a0 : Array Value) (hw : ∀ d ∈ tables_1, d.before a0 Z = true) (ws : List Jvm.Cond) (a1 : Addr) (w0 : Int32) (h0 : Heap) (n0 : Nat) (Z0 : n0 ≤ h0.size) (P0 : Sta Z h0 "java/lang/String" "COMPACT_STRINGS" "Z" (.int w0)) (P1 : Fld Z h0 a1 "java/lang/String" "coder" "B" (.int (0 : Int32))) (hw0 : ¬ w0 = 0) :
    MetFree l (⟨"java/lang/String", "coder", "()B"⟩ : MethodName) (head1 (Jvm.Cond.code (⟨"java/lang/String", "coder", "()B"⟩ : MethodName) jdk_42_method_152_code 1 (some .byte) :: ws) ({ frames := 0, cells := 0, slots := 0, locals := 0 } : Room)) (fun a U => a = #[(.ref a1)] ∧ Z.Warmed39 U.vm ∧ U.heap = h0) (fun _ _ _ _ _ => True) (fun _ U o U' => ∃ v L, o = .returned v ∧ Q5 Z a1 w0 h0 n0 v U'.heap L ∧ FrameEnd U o U' L ({ frames := 0, cells := 0, slots := 0, locals := 0 } : Room).cells ({ frames := 0, cells := 0, slots := 0, locals := 0 } : Room).slots) := by
  refine MetFree.of_bodySF (plainFor_of_name pn_5) hisR ?_
  intro p e s m args below meth c s₁ Bd hml0 hP hK
  obtain ⟨rfl, hZ, hh⟩ := hP
  have hx := Bd.exec
  have hby := Bd.bytes
  have hml : c.maxLocals = 1 := hml0
  have hown : s.vm.findClass "java/lang/String" = some m.cls := findClass_of_methodNamed Bd.named
  have hnm := (name_of_methodNamed Bd.named Bd.method).1
  have X0 : Stand p l e ({ frames := 0, cells := 0, slots := 0, locals := 0 } : Room) s m #[(.ref a1)] below meth c s₁ [] 0 0 := Stand.of_body Bd
  have e0 : s₁.heap = h0 := by rw [← hh, Bd.state]; rfl
  have N0 := Fr.nil n0
  have hS0 : s.Since s.vm 0 := (State.WarmedH.refl s).since 0
  show Go FrameEnd p e below s ({ frames := 0, cells := 0, slots := 0, locals := 0 } : Room).cells ({ frames := 0, cells := 0, slots := 0, locals := 0 } : Room).slots (Q5 Z a1 w0 h0 n0) (s₁.setTop (entryFrame m #[(.ref a1)] 1))
  refine go (fun _ k => castTop (ef_5 m a1) k) ?_
  show Go _ p e below s _ _ _ (s₁.setTop (mkF m 0 #[.val (.ref a1)] []))
  obtain ⟨T3, X3, e3, st3⟩ := getS2 X0 hx hZ hown (host := "") (Or.inl (hw _ (List.mem_of_getElem? (i := 31) rfl))) Via.refl e0 P0 (g := (mkF m 0 #[.val (.ref a1)] [])) rfl (hb hby d5_0)
  refine go st3 ?_
  show Go _ p e below s _ _ _ (T3.setTop (mkF m 3 #[.val (.ref a1)] [(.int w0)]))
  refine go (fun _ => XS.ifNo X3.here hx rfl (hb hby d5_3) rfl ((if0 _ _).trans (feq hw0).1)) ?_
  show Go _ p e below s _ _ _ (T3.setTop (mkF m 6 #[.val (.ref a1)] []))
  refine go (fun _ => XS.aloadN X3.here hx rfl (hb hby d5_6) rfl rfl) ?_
  show Go _ p e below s _ _ _ (T3.setTop (mkF m 7 #[.val (.ref a1)] [(.ref a1)]))
  obtain ⟨T4, X4, e4, st4⟩ := getF X3 hx hZ hown (host := "") (Or.inl (hw _ (List.mem_of_getElem? (i := 32) rfl))) Via.refl e3 P1 (g := (mkF m 7 #[.val (.ref a1)] [(.ref a1)])) rfl rfl (hb hby d5_7)
  refine go st4 ?_
  show Go _ p e below s _ _ _ (T4.setTop (mkF m 10 #[.val (.ref a1)] [(.int (0 : Int32))]))
  refine go (fun _ => XS.goto X4.here hx rfl (pc0 := 10) (pc' := 14) rfl (hb hby d5_10) (by decide) (by decide)) ?_
  show Go _ p e below s _ _ _ (T4.setTop (mkF m 14 #[.val (.ref a1)] [(.int (0 : Int32))]))
  refine goRet X4 hx Bd.notSynchronized Bd.returns rfl (Or.inl ⟨rfl, Or.inr (Or.inr (Or.inl rfl)), _, rfl⟩) (hb hby d5_14) (by decide) (by decide) (by rw [e4]; refine ⟨rfl, N0, rfl⟩)
theorem d7_0 : decode jdk_42_method_154_code 0 = .ok (.getstatic 38, 3) := by decide +kernel
theorem d7_3 : decode jdk_42_method_154_code 3 = .ok (.ifCond .eq 14, 3) := by decide +kernel
theorem d7_6 : decode jdk_42_method_154_code 6 = .ok (.aload_n 0, 1) := by decide +kernel
theorem d7_7 : decode jdk_42_method_154_code 7 = .ok (.getfield 15, 3) := by decide +kernel
theorem d7_10 : decode jdk_42_method_154_code 10 = .ok (.ifCond .ne 7, 3) := by decide +kernel
theorem d7_13 : decode jdk_42_method_154_code 13 = .ok (.iconst 1, 1) := by decide +kernel
theorem d7_14 : decode jdk_42_method_154_code 14 = .ok (.goto 4, 3) := by decide +kernel
theorem d7_18 : decode jdk_42_method_154_code 18 = .ok (.ireturn, 1) := by decide +kernel
theorem pn_7 : plainName "java/lang/String" = true := by first | (simp [plainName, overriddenIn]; done) | decide +kernel
theorem ef_7 (m : MethodId) (a1 : Addr) : entryFrame m #[(.ref a1)] 1 = mkF m 0 #[.val (.ref a1)] [] := by first | (simp [entryFrame, mkF, argsToLocals, Value.category]; done) | rfl
def Q7 (Z : State) (a1 : Addr) (w0 : Int32) (h0 : Heap) (n0 : Nat) (v : Option Value) (h : Heap) (L : List Loc) : Prop := v = some (.int (1 : Int32)) ∧ Fr n0 L ∧ (h = h0)
set_option maxRecDepth 65536 in
set_option maxHeartbeats 40000000 in
theorem rm7 (l : Launch) (Z : State) (a0 : Array Value) (hw : ∀ d ∈ tables_1, d.before a0 Z = true) (ws : List Jvm.Cond) (a1 : Addr) (w0 : Int32) (h0 : Heap) (n0 : Nat) (Z0 : n0 ≤ h0.size) (P0 : Sta Z h0 "java/lang/String" "COMPACT_STRINGS" "Z" (.int w0)) (P1 : Fld Z h0 a1 "java/lang/String" "coder" "B" (.int (0 : Int32))) (hw0 : ¬ w0 = 0) :
    MetFree l (⟨"java/lang/String", "isLatin1", "()Z"⟩ : MethodName) (head1 (Jvm.Cond.code (⟨"java/lang/String", "isLatin1", "()Z"⟩ : MethodName) jdk_42_method_154_code 1 (some .boolean) :: ws) ({ frames := 0, cells := 0, slots := 0, locals := 0 } : Room)) (fun a U => a = #[(.ref a1)] ∧ Z.Warmed39 U.vm ∧ U.heap = h0) (fun _ _ _ _ _ => True) (fun _ U o U' => ∃ v L, o = .returned v ∧ Q7 Z a1 w0 h0 n0 v U'.heap L ∧ FrameEnd U o U' L ({ frames := 0, cells := 0, slots := 0, locals := 0 } : Room).cells ({ frames := 0, cells := 0, slots := 0, locals := 0 } : Room).slots) := by
  refine MetFree.of_bodySF (plainFor_of_name pn_7) hisR ?_
  intro p e s m args below meth c s₁ Bd hml0 hP hK
  obtain ⟨rfl, hZ, hh⟩ := hP
  have hx := Bd.exec
  have hby := Bd.bytes
  have hml : c.maxLocals = 1 := hml0
  have hown : s.vm.findClass "java/lang/String" = some m.cls := findClass_of_methodNamed Bd.named
  have hnm := (name_of_methodNamed Bd.named Bd.method).1
  have X0 : Stand p l e ({ frames := 0, cells := 0, slots := 0, locals := 0 } : Room) s m #[(.ref a1)] below meth c s₁ [] 0 0 := Stand.of_body Bd
  have e0 : s₁.heap = h0 := by rw [← hh, Bd.state]; rfl
  have N0 := Fr.nil n0
  have hS0 : s.Since s.vm 0 := (State.WarmedH.refl s).since 0
  show Go FrameEnd p e below s ({ frames := 0, cells := 0, slots := 0, locals := 0 } : Room).cells ({ frames := 0, cells := 0, slots := 0, locals := 0 } : Room).slots (Q7 Z a1 w0 h0 n0) (s₁.setTop (entryFrame m #[(.ref a1)] 1))
  refine go (fun _ k => castTop (ef_7 m a1) k) ?_
  show Go _ p e below s _ _ _ (s₁.setTop (mkF m 0 #[.val (.ref a1)] []))
  obtain ⟨T7, X7, e7, st7⟩ := getS2 X0 hx hZ hown (host := "") (Or.inl (hw _ (List.mem_of_getElem? (i := 31) rfl))) Via.refl e0 P0 (g := (mkF m 0 #[.val (.ref a1)] [])) rfl (hb hby d7_0)
  refine go st7 ?_
  show Go _ p e below s _ _ _ (T7.setTop (mkF m 3 #[.val (.ref a1)] [(.int w0)]))
  refine go (fun _ => XS.ifNo X7.here hx rfl (hb hby d7_3) rfl ((if0 _ _).trans (feq hw0).1)) ?_
  show Go _ p e below s _ _ _ (T7.setTop (mkF m 6 #[.val (.ref a1)] []))
  refine go (fun _ => XS.aloadN X7.here hx rfl (hb hby d7_6) rfl rfl) ?_
  show Go _ p e below s _ _ _ (T7.setTop (mkF m 7 #[.val (.ref a1)] [(.ref a1)]))
  obtain ⟨T8, X8, e8, st8⟩ := getF X7 hx hZ hown (host := "") (Or.inl (hw _ (List.mem_of_getElem? (i := 32) rfl))) Via.refl e7 P1 (g := (mkF m 7 #[.val (.ref a1)] [(.ref a1)])) rfl rfl (hb hby d7_7)
  refine go st8 ?_
  show Go _ p e below s _ _ _ (T8.setTop (mkF m 10 #[.val (.ref a1)] [(.int (0 : Int32))]))
  refine go (fun _ => XS.ifNo X8.here hx rfl (hb hby d7_10) rfl ((if0 _ _).trans (teq (rfl : (0 : Int32) = (0 : Int32))).2)) ?_
  show Go _ p e below s _ _ _ (T8.setTop (mkF m 13 #[.val (.ref a1)] []))
  refine go (fun _ => XS.iconst X8.here hx rfl (hb hby d7_13)) ?_
  show Go _ p e below s _ _ _ (T8.setTop (mkF m 14 #[.val (.ref a1)] [(.int (1 : Int32))]))
  refine go (fun _ => XS.goto X8.here hx rfl (pc0 := 14) (pc' := 18) rfl (hb hby d7_14) (by decide) (by decide)) ?_
  show Go _ p e below s _ _ _ (T8.setTop (mkF m 18 #[.val (.ref a1)] [(.int (1 : Int32))]))
  refine goRet X8 hx Bd.notSynchronized Bd.returns rfl (Or.inl ⟨rfl, Or.inr (Or.inl rfl), _, rfl⟩) (hb hby d7_18) (by decide) (by decide) (by rw [e8]; refine ⟨rfl, N0, rfl⟩)
theorem d4_0 : decode jdk_42_method_54_code 0 = .ok (.aload_n 0, 1) := by decide +kernel
theorem d4_1 : decode jdk_42_method_54_code 1 = .ok (.getfield 9, 3) := by decide +kernel
theorem d4_4 : decode jdk_42_method_54_code 4 = .ok (.arraylength, 1) := by decide +kernel
theorem d4_5 : decode jdk_42_method_54_code 5 = .ok (.aload_n 0, 1) := by decide +kernel
theorem d4_6 : decode jdk_42_method_54_code 6 = .ok (.invokevirtual 335, 3) := by decide +kernel
theorem d4_9 : decode jdk_42_method_54_code 9 = .ok (.ishr, 1) := by decide +kernel
theorem d4_10 : decode jdk_42_method_54_code 10 = .ok (.ireturn, 1) := by decide +kernel
theorem pn_4 : plainName "java/lang/String" = true := by first | (simp [plainName, overriddenIn]; done) | decide +kernel
theorem pd_4_0 : parseMethodDescriptor "()B" = some ⟨[], some .byte⟩ := by decide +kernel
theorem ef_4 (m : MethodId) (a1 : Addr) : entryFrame m #[(.ref a1)] 1 = mkF m 0 #[.val (.ref a1)] [] := by first | (simp [entryFrame, mkF, argsToLocals, Value.category]; done) | rfl
def Q4 (Z : State) (a1 : Addr) (w0 : Int32) (v1 : Addr) (k1 : ClassId) (z1 : Int32) (vs1 : List Value) (d1 : Value) (h0 : Heap) (n0 : Nat) (v : Option Value) (h : Heap) (L : List Loc) : Prop := v = some (.int z1) ∧ Fr n0 L ∧ (h = h0)
set_option maxRecDepth 65536 in
set_option maxHeartbeats 40000000 in
theorem rm4 (l : Launch) (Z : State) (a0 : Array Value) (hw : ∀ d ∈ tables_1, d.before a0 Z = true) (ws : List Jvm.Cond) (a1 : Addr) (w0 : Int32) (v1 : Addr) (k1 : ClassId) (z1 : Int32) (vs1 : List Value) (d1 : Value) (h0 : Heap) (n0 : Nat) (Z0 : n0 ≤ h0.size) (P0 : Sta Z h0 "java/lang/String" "COMPACT_STRINGS" "Z" (.int w0)) (P1 : Exa Z h0 a1 "java/lang/String") (P2 : Fld Z h0 a1 "java/lang/String" "coder" "B" (.int (0 : Int32))) (P3 : Fld Z h0 a1 "java/lang/String" "value" "[B" (.ref v1)) (P4 : Arv Z h0 v1 k1 .byte z1 vs1 d1) (hw0 : ¬ w0 = 0) :
    MetFree l (⟨"java/lang/String", "length", "()I"⟩ : MethodName) (head1 (Jvm.Cond.code (⟨"java/lang/String", "length", "()I"⟩ : MethodName) jdk_42_method_54_code 1 (some .int) :: ws) ({ frames := 1, cells := 0, slots := 0, locals := 13 } : Room)) (fun a U => a = #[(.ref a1)] ∧ Z.Warmed39 U.vm ∧ U.heap = h0) (fun _ _ _ _ _ => True) (fun _ U o U' => ∃ v L, o = .returned v ∧ Q4 Z a1 w0 v1 k1 z1 vs1 d1 h0 n0 v U'.heap L ∧ FrameEnd U o U' L ({ frames := 1, cells := 0, slots := 0, locals := 13 } : Room).cells ({ frames := 1, cells := 0, slots := 0, locals := 13 } : Room).slots) := by
  refine MetFree.of_bodySF (plainFor_of_name pn_4) hisR ?_
  intro p e s m args below meth c s₁ Bd hml0 hP hK
  obtain ⟨rfl, hZ, hh⟩ := hP
  have hx := Bd.exec
  have hby := Bd.bytes
  have hml : c.maxLocals = 1 := hml0
  have hown : s.vm.findClass "java/lang/String" = some m.cls := findClass_of_methodNamed Bd.named
  have hnm := (name_of_methodNamed Bd.named Bd.method).1
  have X0 : Stand p l e ({ frames := 1, cells := 0, slots := 0, locals := 13 } : Room) s m #[(.ref a1)] below meth c s₁ [] 0 0 := Stand.of_body Bd
  have e0 : s₁.heap = h0 := by rw [← hh, Bd.state]; rfl
  have N0 := Fr.nil n0
  have hS0 : s.Since s.vm 0 := (State.WarmedH.refl s).since 0
  show Go FrameEnd p e below s ({ frames := 1, cells := 0, slots := 0, locals := 13 } : Room).cells ({ frames := 1, cells := 0, slots := 0, locals := 13 } : Room).slots (Q4 Z a1 w0 v1 k1 z1 vs1 d1 h0 n0) (s₁.setTop (entryFrame m #[(.ref a1)] 1))
  refine go (fun _ k => castTop (ef_4 m a1) k) ?_
  show Go _ p e below s _ _ _ (s₁.setTop (mkF m 0 #[.val (.ref a1)] []))
  refine go (fun _ => XS.aloadN X0.here hx rfl (hb hby d4_0) rfl rfl) ?_
  show Go _ p e below s _ _ _ (s₁.setTop (mkF m 1 #[.val (.ref a1)] [(.ref a1)]))
  obtain ⟨T12, X12, e12, st12⟩ := getF X0 hx hZ hown (host := "") (Or.inl (hw _ (List.mem_of_getElem? (i := 24) rfl))) Via.refl e0 P3 (g := (mkF m 1 #[.val (.ref a1)] [(.ref a1)])) rfl rfl (hb hby d4_1)
  refine go st12 ?_
  show Go _ p e below s _ _ _ (T12.setTop (mkF m 4 #[.val (.ref a1)] [(.ref v1)]))
  obtain ⟨cl13, Ar13, -, Sz13, Nz13, -, -⟩ := id P4
  refine go (X12.arraylength hx (by rw [e12]; exact Ar13.1) (State.isArrayOf_alike hZ.alike Ar13.2.1) (g := (mkF m 4 #[.val (.ref a1)] [(.ref v1)])) rfl rfl (hb hby d4_4)) ?_
  rw [len_of Sz13 Nz13]
  show Go _ p e below s _ _ _ (T12.setTop (mkF m 5 #[.val (.ref a1)] [(.int z1)]))
  refine go (fun _ => XS.aloadN X12.here hx rfl (hb hby d4_5) rfl rfl) ?_
  show Go _ p e below s _ _ _ (T12.setTop (mkF m 6 #[.val (.ref a1)] [(.ref a1), (.int z1)]))
  obtain ⟨cq14, kq14, q14a, q14b, q14c⟩ := isOf hZ e12 P1
  obtain ⟨_, _, ⟨T14, L14, k14, n14⟩, -, X14, ⟨Lc14, hQ14, l14, y14, z14⟩, st14⟩ := X12.virtualBack hx (y := (⟨"java/lang/String", "coder", "()B"⟩ : MethodName)) (z := (⟨"java/lang/String", "coder", "()B"⟩ : MethodName)) hown (mvT hZ (hw _ (List.mem_of_getElem? (i := 26) rfl))) (mvT hZ (hw _ (List.mem_of_getElem? (i := 27) rfl))) (notFace_of_selects (args := #[]) (mvT hZ (hw _ (List.mem_of_getElem? (i := 29) rfl)))) (mvT hZ (hw _ (List.mem_of_getElem? (i := 29) rfl))) (mvT hZ (hw _ (List.mem_of_getElem? (i := 28) rfl))) (by decide) (backOf (W := 1) (rm5 l Z a0 hw [] a1 w0 h0 n0 Z0 P0 P2 hw0) hZ (hw _ (List.mem_of_getElem? (i := 30) rfl)) (hw _ (List.mem_of_getElem? (i := 22) rfl)) (by decide) (by decide)) q14a q14c (g := (mkF m 6 #[.val (.ref a1)] [(.ref a1), (.int z1)])) rfl (by rw [hml]; rfl) (Steps.refl _) (argsL := []) (rest := [(.int z1)]) (lenOf pd_4_0 rfl) rfl (by show 2 * 0 + _ ≤ _; exact Nat.le_of_eq rfl) (hb hby d4_6) (fun _ _ => ⟨rfl, e12, (by decide : 0 + 0 ≤ _), (by decide : 0 + 0 ≤ _)⟩)
  dsimp only [Pt.U, Pt.locs, Pt.cells, Pt.slots] at X14 l14 y14 z14 st14 hQ14
  subst l14 y14 z14
  obtain ⟨rfl, N14q, e14⟩ := hQ14
  have N14 := Fr.app N0 N14q
  refine goT st14 ?_
  show Go _ p e below s _ _ _ (T14.setTop (mkF m 9 #[.val (.ref a1)] [(.int (0 : Int32)), (.int z1)]))
  refine go (fun _ => XS.ishr X14.here hx rfl (hb hby d4_9) rfl) ?_
  show Go _ p e below s _ _ _ (T14.setTop (mkF m 10 #[.val (.ref a1)] [(.int (z1 >>> ((0 : Int32) &&& 31)))]))
  rw [own_sh0]
  show Go _ p e below s _ _ _ (T14.setTop (mkF m 10 #[.val (.ref a1)] [(.int z1)]))
  refine goRet X14 hx Bd.notSynchronized Bd.returns rfl (Or.inl ⟨rfl, Or.inl rfl, _, rfl⟩) (hb hby d4_10) (by decide) (by decide) (by rw [e14]; refine ⟨rfl, N14, rfl⟩)
theorem d10_0 : decode jdk_41_method_11_code 0 = .ok (.iload_n 0, 1) := by decide +kernel
theorem d10_1 : decode jdk_41_method_11_code 1 = .ok (.ifCond .lt 8, 3) := by decide +kernel
theorem d10_4 : decode jdk_41_method_11_code 4 = .ok (.iload_n 0, 1) := by decide +kernel
theorem d10_5 : decode jdk_41_method_11_code 5 = .ok (.iload_n 1, 1) := by decide +kernel
theorem d10_6 : decode jdk_41_method_11_code 6 = .ok (.if_icmp .lt 10, 3) := by decide +kernel
theorem d10_16 : decode jdk_41_method_11_code 16 = .ok (.iload_n 0, 1) := by decide +kernel
theorem d10_17 : decode jdk_41_method_11_code 17 = .ok (.ireturn, 1) := by decide +kernel
theorem pn_10 : plainName "jdk/internal/util/Preconditions" = true := by first | (simp [plainName, overriddenIn]; done) | decide +kernel
theorem ef_10 (m : MethodId) (p1 : Int32) (p2 : Int32) (f0 : Value) (hf_f0 : f0.isRef = true) : entryFrame m #[(.int p1), (.int p2), f0] 3 = mkF m 0 #[.val (.int p1), .val (.int p2), .val f0] [] := by rcases ref_cases hf_f0 with rfl | ⟨z, rfl⟩ <;> first | (simp [entryFrame, mkF, argsToLocals, Value.category]; done) | rfl
def Q10 (Z : State) (p1 : Int32) (p2 : Int32) (f0 : Value) (h0 : Heap) (n0 : Nat) (v : Option Value) (h : Heap) (L : List Loc) : Prop := v = some (.int p1) ∧ Fr n0 L ∧ (h = h0)
set_option maxRecDepth 65536 in
set_option maxHeartbeats 40000000 in
theorem rm10 (l : Launch) (Z : State) (a0 : Array Value) (hw : ∀ d ∈ tables_1, d.before a0 Z = true) (ws : List Jvm.Cond) (p1 : Int32) (p2 : Int32) (f0 : Value) (h0 : Heap) (n0 : Nat) (Z0 : n0 ≤ h0.size) (h1 : ¬ p1 < 0) (h2 : p1 < p2) (hf_f0 : f0.isRef = true) :
    MetFree l (⟨"jdk/internal/util/Preconditions", "checkIndex", "(IILjava/util/function/BiFunction;)I"⟩ : MethodName) (head1 (Jvm.Cond.code (⟨"jdk/internal/util/Preconditions", "checkIndex", "(IILjava/util/function/BiFunction;)I"⟩ : MethodName) jdk_41_method_11_code 3 (some .int) :: ws) ({ frames := 0, cells := 0, slots := 0, locals := 0 } : Room)) (fun a U => a = #[(.int p1), (.int p2), f0] ∧ Z.Warmed39 U.vm ∧ U.heap = h0) (fun _ _ _ _ _ => True) (fun _ U o U' => ∃ v L, o = .returned v ∧ Q10 Z p1 p2 f0 h0 n0 v U'.heap L ∧ FrameEnd U o U' L ({ frames := 0, cells := 0, slots := 0, locals := 0 } : Room).cells ({ frames := 0, cells := 0, slots := 0, locals := 0 } : Room).slots) := by
  refine MetFree.of_bodySF (plainFor_of_name pn_10) hisR ?_
  intro p e s m args below meth c s₁ Bd hml0 hP hK
  obtain ⟨rfl, hZ, hh⟩ := hP
  have hx := Bd.exec
  have hby := Bd.bytes
  have hml : c.maxLocals = 3 := hml0
  have hown : s.vm.findClass "jdk/internal/util/Preconditions" = some m.cls := findClass_of_methodNamed Bd.named
  have hnm := (name_of_methodNamed Bd.named Bd.method).1
  have X0 : Stand p l e ({ frames := 0, cells := 0, slots := 0, locals := 0 } : Room) s m #[(.int p1), (.int p2), f0] below meth c s₁ [] 0 0 := Stand.of_body Bd
  have e0 : s₁.heap = h0 := by rw [← hh, Bd.state]; rfl
  have N0 := Fr.nil n0
  have hS0 : s.Since s.vm 0 := (State.WarmedH.refl s).since 0
  show Go FrameEnd p e below s ({ frames := 0, cells := 0, slots := 0, locals := 0 } : Room).cells ({ frames := 0, cells := 0, slots := 0, locals := 0 } : Room).slots (Q10 Z p1 p2 f0 h0 n0) (s₁.setTop (entryFrame m #[(.int p1), (.int p2), f0] 3))
  refine go (fun _ k => castTop (ef_10 m p1 p2 f0 hf_f0) k) ?_
  show Go _ p e below s _ _ _ (s₁.setTop (mkF m 0 #[.val (.int p1), .val (.int p2), .val f0] []))
  refine go (fun _ => XS.iloadN X0.here hx rfl (hb hby d10_0) rfl) ?_
  show Go _ p e below s _ _ _ (s₁.setTop (mkF m 1 #[.val (.int p1), .val (.int p2), .val f0] [(.int p1)]))
  refine go (fun _ => XS.ifNo X0.here hx rfl (hb hby d10_1) rfl ((if0 _ _).trans (flt h1).1)) ?_
  show Go _ p e below s _ _ _ (s₁.setTop (mkF m 4 #[.val (.int p1), .val (.int p2), .val f0] []))
  refine go (fun _ => XS.iloadN X0.here hx rfl (hb hby d10_4) rfl) ?_
  show Go _ p e below s _ _ _ (s₁.setTop (mkF m 5 #[.val (.int p1), .val (.int p2), .val f0] [(.int p1)]))
  refine go (fun _ => XS.iloadN X0.here hx rfl (hb hby d10_5) rfl) ?_
  show Go _ p e below s _ _ _ (s₁.setTop (mkF m 6 #[.val (.int p1), .val (.int p2), .val f0] [(.int p2), (.int p1)]))
  refine go (fun _ => XS.icmpYes X0.here hx rfl (pc0 := 6) (pc' := 16) rfl (hb hby d10_6) rfl (tlt h2).1 (by decide) (by decide)) ?_
  show Go _ p e below s _ _ _ (s₁.setTop (mkF m 16 #[.val (.int p1), .val (.int p2), .val f0] []))
  refine go (fun _ => XS.iloadN X0.here hx rfl (hb hby d10_16) rfl) ?_
  show Go _ p e below s _ _ _ (s₁.setTop (mkF m 17 #[.val (.int p1), .val (.int p2), .val f0] [(.int p1)]))
  refine goRet X0 hx Bd.notSynchronized Bd.returns rfl (Or.inl ⟨rfl, Or.inl rfl, _, rfl⟩) (hb hby d10_17) (by decide) (by decide) (by rw [e0]; refine ⟨rfl, N0, rfl⟩)
theorem d9_0 : decode jdk_42_method_155_code 0 = .ok (.iload_n 0, 1) := by decide +kernel
theorem d9_1 : decode jdk_42_method_155_code 1 = .ok (.iload_n 1, 1) := by decide +kernel
theorem d9_2 : decode jdk_42_method_155_code 2 = .ok (.getstatic 1053, 3) := by decide +kernel
theorem d9_5 : decode jdk_42_method_155_code 5 = .ok (.invokestatic 1059, 3) := by decide +kernel
theorem d9_8 : decode jdk_42_method_155_code 8 = .ok (.pop, 1) := by decide +kernel
theorem d9_9 : decode jdk_42_method_155_code 9 = .ok (.return_, 1) := by decide +kernel
theorem pn_9 : plainName "java/lang/String" = true := by first | (simp [plainName, overriddenIn]; done) | decide +kernel
theorem pd_9_0 : parseMethodDescriptor "(IILjava/util/function/BiFunction;)I" = some ⟨[.int, .int, (.object "java/util/function/BiFunction")], some .int⟩ := by decide +kernel
theorem ef_9 (m : MethodId) (p1 : Int32) (p2 : Int32) : entryFrame m #[(.int p1), (.int p2)] 2 = mkF m 0 #[.val (.int p1), .val (.int p2)] [] := by first | (simp [entryFrame, mkF, argsToLocals, Value.category]; done) | rfl
def Q9 (Z : State) (p1 : Int32) (p2 : Int32) (f0 : Value) (h0 : Heap) (n0 : Nat) (v : Option Value) (h : Heap) (L : List Loc) : Prop := v = none ∧ Fr n0 L ∧ (h = h0)
set_option maxRecDepth 65536 in
set_option maxHeartbeats 40000000 in
theorem rm9 (l : Launch) (Z : State) (a0 : Array Value) (hw : ∀ d ∈ tables_1, d.before a0 Z = true) (ws : List Jvm.Cond) (p1 : Int32) (p2 : Int32) (f0 : Value) (h0 : Heap) (n0 : Nat) (Z0 : n0 ≤ h0.size) (P0 : Sta Z h0 "jdk/internal/util/Preconditions" "SIOOBE_FORMATTER" "Ljava/util/function/BiFunction;" f0) (h1 : ¬ p1 < 0) (h2 : p1 < p2) (hf : f0.isRef = true) :
    MetFree l (⟨"java/lang/String", "checkIndex", "(II)V"⟩ : MethodName) (head1 (Jvm.Cond.code (⟨"java/lang/String", "checkIndex", "(II)V"⟩ : MethodName) jdk_42_method_155_code 2 none :: ws) ({ frames := 1, cells := 0, slots := 0, locals := 14 } : Room)) (fun a U => a = #[(.int p1), (.int p2)] ∧ Z.Warmed39 U.vm ∧ U.heap = h0) (fun _ _ _ _ _ => True) (fun _ U o U' => ∃ v L, o = .returned v ∧ Q9 Z p1 p2 f0 h0 n0 v U'.heap L ∧ FrameEnd U o U' L ({ frames := 1, cells := 0, slots := 0, locals := 14 } : Room).cells ({ frames := 1, cells := 0, slots := 0, locals := 14 } : Room).slots) := by
  refine MetFree.of_bodySF (plainFor_of_name pn_9) hisR ?_
  intro p e s m args below meth c s₁ Bd hml0 hP hK
  obtain ⟨rfl, hZ, hh⟩ := hP
  have hx := Bd.exec
  have hby := Bd.bytes
  have hml : c.maxLocals = 2 := hml0
  have hown : s.vm.findClass "java/lang/String" = some m.cls := findClass_of_methodNamed Bd.named
  have hnm := (name_of_methodNamed Bd.named Bd.method).1
  have X0 : Stand p l e ({ frames := 1, cells := 0, slots := 0, locals := 14 } : Room) s m #[(.int p1), (.int p2)] below meth c s₁ [] 0 0 := Stand.of_body Bd
  have e0 : s₁.heap = h0 := by rw [← hh, Bd.state]; rfl
  have N0 := Fr.nil n0
  have hS0 : s.Since s.vm 0 := (State.WarmedH.refl s).since 0
  show Go FrameEnd p e below s ({ frames := 1, cells := 0, slots := 0, locals := 14 } : Room).cells ({ frames := 1, cells := 0, slots := 0, locals := 14 } : Room).slots (Q9 Z p1 p2 f0 h0 n0) (s₁.setTop (entryFrame m #[(.int p1), (.int p2)] 2))
  refine go (fun _ k => castTop (ef_9 m p1 p2) k) ?_
  show Go _ p e below s _ _ _ (s₁.setTop (mkF m 0 #[.val (.int p1), .val (.int p2)] []))
  refine go (fun _ => XS.iloadN X0.here hx rfl (hb hby d9_0) rfl) ?_
  show Go _ p e below s _ _ _ (s₁.setTop (mkF m 1 #[.val (.int p1), .val (.int p2)] [(.int p1)]))
  refine go (fun _ => XS.iloadN X0.here hx rfl (hb hby d9_1) rfl) ?_
  show Go _ p e below s _ _ _ (s₁.setTop (mkF m 2 #[.val (.int p1), .val (.int p2)] [(.int p2), (.int p1)]))
  obtain ⟨T17, X17, e17, st17⟩ := getS2 X0 hx hZ hown (host := "") (Or.inl (hw _ (List.mem_of_getElem? (i := 51) rfl))) Via.refl e0 P0 (g := (mkF m 2 #[.val (.int p1), .val (.int p2)] [(.int p2), (.int p1)])) rfl (hb hby d9_2)
  refine go st17 ?_
  show Go _ p e below s _ _ _ (T17.setTop (mkF m 5 #[.val (.int p1), .val (.int p2)] [f0, (.int p2), (.int p1)]))
  obtain ⟨_, _, ⟨T18, L18, k18, n18⟩, -, X18, ⟨Lc18, hQ18, l18, y18, z18⟩, st18⟩ := Jvm.LawKit.callS X17 hx (y := (⟨"jdk/internal/util/Preconditions", "checkIndex", "(IILjava/util/function/BiFunction;)I"⟩ : MethodName)) hown (mvT hZ (hw _ (List.mem_of_getElem? (i := 53) rfl))) (mvT hZ (hw _ (List.mem_of_getElem? (i := 54) rfl))) (mvT hZ (hw _ (List.mem_of_getElem? (i := 52) rfl))) (mvT hZ (hw _ (List.mem_of_getElem? (i := 55) rfl))) (by decide) (backOf (W := 0) (rm10 l Z a0 hw [] p1 p2 f0 h0 n0 Z0 h1 h2 hf) hZ (hw _ (List.mem_of_getElem? (i := 55) rfl)) (hw _ (List.mem_of_getElem? (i := 52) rfl)) (by decide) (by decide)) (g := (mkF m 5 #[.val (.int p1), .val (.int p2)] [f0, (.int p2), (.int p1)])) rfl (by rw [hml]; rfl) (argsL := [(.int p1), (.int p2), f0]) (rest := []) (lenOf pd_9_0 rfl) rfl (by show 2 * 0 + _ ≤ _; exact Nat.le_of_eq rfl) (hb hby d9_5) (fun _ _ => ⟨rfl, e17, (by decide : 0 + 0 ≤ _), (by decide : 0 + 0 ≤ _)⟩)
  dsimp only [Pt.U, Pt.locs, Pt.cells, Pt.slots] at X18 l18 y18 z18 st18 hQ18
  subst l18 y18 z18
  obtain ⟨rfl, N18q, e18⟩ := hQ18
  have N18 := Fr.app N0 N18q
  refine go st18 ?_
  show Go _ p e below s _ _ _ (T18.setTop (mkF m 8 #[.val (.int p1), .val (.int p2)] [(.int p1)]))
  refine go (fun _ => XS.pop X18.here hx rfl (hb hby d9_8) rfl rfl) ?_
  show Go _ p e below s _ _ _ (T18.setTop (mkF m 9 #[.val (.int p1), .val (.int p2)] []))
  refine goRet0 X18 hx Bd.notSynchronized Bd.returns (hb hby d9_9) (by decide) (by decide) (by rw [e18]; refine ⟨rfl, N18, rfl⟩)
theorem d8_0 : decode jdk_43_method_2_code 0 = .ok (.iload_n 1, 1) := by decide +kernel
theorem d8_1 : decode jdk_43_method_2_code 1 = .ok (.aload_n 0, 1) := by decide +kernel
theorem d8_2 : decode jdk_43_method_2_code 2 = .ok (.arraylength, 1) := by decide +kernel
theorem d8_3 : decode jdk_43_method_2_code 3 = .ok (.invokestatic 9, 3) := by decide +kernel
theorem d8_6 : decode jdk_43_method_2_code 6 = .ok (.aload_n 0, 1) := by decide +kernel
theorem d8_7 : decode jdk_43_method_2_code 7 = .ok (.iload_n 1, 1) := by decide +kernel
theorem d8_8 : decode jdk_43_method_2_code 8 = .ok (.baload, 1) := by decide +kernel
theorem d8_9 : decode jdk_43_method_2_code 9 = .ok (.sipush 255, 3) := by decide +kernel
theorem d8_12 : decode jdk_43_method_2_code 12 = .ok (.iand, 1) := by decide +kernel
theorem d8_13 : decode jdk_43_method_2_code 13 = .ok (.i2c, 1) := by decide +kernel
theorem d8_14 : decode jdk_43_method_2_code 14 = .ok (.ireturn, 1) := by decide +kernel
theorem pn_8EQUAL0 : plainName "java/lang/StringLatin1" = true := by first | (simp [plainName, overriddenIn]; done) | decide +kernel
theorem pd_8_0 : parseMethodDescriptor "(II)V" = some ⟨[.int, .int], none⟩ := by decide +kernel
theorem ef_8EQUAL0 (m : MethodId) (v1 : Addr) : entryFrame m #[(.ref v1), (.int (0 : Int32))] 2 = mkF m 0 #[.val (.ref v1), .val (.int (0 : Int32))] [] := by first | (simp [entryFrame, mkF, argsToLocals, Value.category]; done) | rfl
def Q8EQUAL0 (Z : State) (v1 : Addr) (f0 : Value) (k1 : ClassId) (d1 : Value) (h0 : Heap) (n0 : Nat) (v : Option Value) (h : Heap) (L : List Loc) : Prop := v = some (.int (61 : Int32)) ∧ Fr n0 L ∧ (h = h0)
set_option maxRecDepth 65536 in
set_option maxHeartbeats 40000000 in
theorem rm8EQUAL0 (l : Launch) (Z : State) (a0 : Array Value) (hw : ∀ d ∈ tables_1, d.before a0 Z = true) (ws : List Jvm.Cond) (v1 : Addr) (f0 : Value) (k1 : ClassId) (d1 : Value) (h0 : Heap) (n0 : Nat) (Z0 : n0 ≤ h0.size) (P0 : Sta Z h0 "jdk/internal/util/Preconditions" "SIOOBE_FORMATTER" "Ljava/util/function/BiFunction;" f0) (P1 : Arv Z h0 v1 k1 .byte (1 : Int32) [(.int (61 : Int32))] d1) (hf : f0.isRef = true) :
    MetFree l (⟨"java/lang/StringLatin1", "charAt", "([BI)C"⟩ : MethodName) (head1 (Jvm.Cond.code (⟨"java/lang/StringLatin1", "charAt", "([BI)C"⟩ : MethodName) jdk_43_method_2_code 2 (some .char) :: ws) ({ frames := 2, cells := 0, slots := 0, locals := 27 } : Room)) (fun a U => a = #[(.ref v1), (.int (0 : Int32))] ∧ Z.Warmed39 U.vm ∧ U.heap = h0) (fun _ _ _ _ _ => True) (fun _ U o U' => ∃ v L, o = .returned v ∧ Q8EQUAL0 Z v1 f0 k1 d1 h0 n0 v U'.heap L ∧ FrameEnd U o U' L ({ frames := 2, cells := 0, slots := 0, locals := 27 } : Room).cells ({ frames := 2, cells := 0, slots := 0, locals := 27 } : Room).slots) := by
  refine MetFree.of_bodySF (plainFor_of_name pn_8EQUAL0) hisR ?_
  intro p e s m args below meth c s₁ Bd hml0 hP hK
  obtain ⟨rfl, hZ, hh⟩ := hP
  have hx := Bd.exec
  have hby := Bd.bytes
  have hml : c.maxLocals = 2 := hml0
  have hown : s.vm.findClass "java/lang/StringLatin1" = some m.cls := findClass_of_methodNamed Bd.named
  have hnm := (name_of_methodNamed Bd.named Bd.method).1
  have X0 : Stand p l e ({ frames := 2, cells := 0, slots := 0, locals := 27 } : Room) s m #[(.ref v1), (.int (0 : Int32))] below meth c s₁ [] 0 0 := Stand.of_body Bd
  have e0 : s₁.heap = h0 := by rw [← hh, Bd.state]; rfl
  have N0 := Fr.nil n0
  have hS0 : s.Since s.vm 0 := (State.WarmedH.refl s).since 0
  show Go FrameEnd p e below s ({ frames := 2, cells := 0, slots := 0, locals := 27 } : Room).cells ({ frames := 2, cells := 0, slots := 0, locals := 27 } : Room).slots (Q8EQUAL0 Z v1 f0 k1 d1 h0 n0) (s₁.setTop (entryFrame m #[(.ref v1), (.int (0 : Int32))] 2))
  refine go (fun _ k => castTop (ef_8EQUAL0 m v1) k) ?_
  show Go _ p e below s _ _ _ (s₁.setTop (mkF m 0 #[.val (.ref v1), .val (.int (0 : Int32))] []))
  refine go (fun _ => XS.iloadN X0.here hx rfl (hb hby d8_0) rfl) ?_
  show Go _ p e below s _ _ _ (s₁.setTop (mkF m 1 #[.val (.ref v1), .val (.int (0 : Int32))] [(.int (0 : Int32))]))
  refine go (fun _ => XS.aloadN X0.here hx rfl (hb hby d8_1) rfl rfl) ?_
  show Go _ p e below s _ _ _ (s₁.setTop (mkF m 2 #[.val (.ref v1), .val (.int (0 : Int32))] [(.ref v1), (.int (0 : Int32))]))
  obtain ⟨cl22, Ar22, -, Sz22, Nz22, -, -⟩ := id P1
  refine go (X0.arraylength hx (by rw [e0]; exact Ar22.1) (State.isArrayOf_alike hZ.alike Ar22.2.1) (g := (mkF m 2 #[.val (.ref v1), .val (.int (0 : Int32))] [(.ref v1), (.int (0 : Int32))])) rfl rfl (hb hby d8_2)) ?_
  rw [len_of Sz22 Nz22]
  show Go _ p e below s _ _ _ (s₁.setTop (mkF m 3 #[.val (.ref v1), .val (.int (0 : Int32))] [(.int (1 : Int32)), (.int (0 : Int32))]))
  obtain ⟨_, _, ⟨T23, L23, k23, n23⟩, -, X23, ⟨Lc23, hQ23, l23, y23, z23⟩, st23⟩ := Jvm.LawKit.callS X0 hx (y := (⟨"java/lang/String", "checkIndex", "(II)V"⟩ : MethodName)) hown (mvT hZ (hw _ (List.mem_of_getElem? (i := 48) rfl))) (mvT hZ (hw _ (List.mem_of_getElem? (i := 49) rfl))) (mvT hZ (hw _ (List.mem_of_getElem? (i := 22) rfl))) (mvT hZ (hw _ (List.mem_of_getElem? (i := 50) rfl))) (by decide) (backOf (W := 0) (rm9 l Z a0 hw [] (0 : Int32) (1 : Int32) f0 h0 n0 Z0 P0 (by decide) (by decide) hf) hZ (hw _ (List.mem_of_getElem? (i := 50) rfl)) (hw _ (List.mem_of_getElem? (i := 22) rfl)) (by decide) (by decide)) (g := (mkF m 3 #[.val (.ref v1), .val (.int (0 : Int32))] [(.int (1 : Int32)), (.int (0 : Int32))])) rfl (by rw [hml]; rfl) (argsL := [(.int (0 : Int32)), (.int (1 : Int32))]) (rest := []) (lenOf pd_8_0 rfl) rfl (by show 2 * 0 + _ ≤ _; exact Nat.le_of_eq rfl) (hb hby d8_3) (fun _ _ => ⟨rfl, e0, (by decide : 0 + 0 ≤ _), (by decide : 0 + 0 ≤ _)⟩)
  dsimp only [Pt.U, Pt.locs, Pt.cells, Pt.slots] at X23 l23 y23 z23 st23 hQ23
  subst l23 y23 z23
  obtain ⟨rfl, N23q, e23⟩ := hQ23
  have N23 := Fr.app N0 N23q
  refine go st23 ?_
  show Go _ p e below s _ _ _ (T23.setTop (mkF m 6 #[.val (.ref v1), .val (.int (0 : Int32))] []))
  refine go (fun _ => XS.aloadN X23.here hx rfl (hb hby d8_6) rfl rfl) ?_
  show Go _ p e below s _ _ _ (T23.setTop (mkF m 7 #[.val (.ref v1), .val (.int (0 : Int32))] [(.ref v1)]))
  refine go (fun _ => XS.iloadN X23.here hx rfl (hb hby d8_7) rfl) ?_
  show Go _ p e below s _ _ _ (T23.setTop (mkF m 8 #[.val (.ref v1), .val (.int (0 : Int32))] [(.int (0 : Int32)), (.ref v1)]))
  obtain ⟨cl24, Ar24, q24, Sz24, Nz24, Hs24, Gs24⟩ := id P1
  have hin24 : ¬ ((0 : Int32) < 0 ∨ cl24.slots.size ≤ ((0 : Int32)).toNatClampNeg) := inb_of Sz24 ⟨by decide, by decide⟩
  refine go (X23.baloadBytes hx (j := (0 : Int32)) (v := (.int (61 : Int32))) (by rw [e23]; exact Ar24.1) (State.isArrayOf_alike hZ.alike Ar24.2.1) Ar24.2.2 hin24 (Hs24.at hin24 rfl) (g := (mkF m 8 #[.val (.ref v1), .val (.int (0 : Int32))] [(.int (0 : Int32)), (.ref v1)])) rfl rfl (hb hby d8_8)) ?_
  show Go _ p e below s _ _ _ (T23.setTop (mkF m 9 #[.val (.ref v1), .val (.int (0 : Int32))] [(.int (61 : Int32))]))
  refine go (fun _ => XS.sipush X23.here hx rfl (hb hby d8_9)) ?_
  show Go _ p e below s _ _ _ (T23.setTop (mkF m 12 #[.val (.ref v1), .val (.int (0 : Int32))] [(.int (255 : Int32)), (.int (61 : Int32))]))
  refine go (fun _ => XS.iand X23.here hx rfl (hb hby d8_12) rfl) ?_
  show Go _ p e below s _ _ _ (T23.setTop (mkF m 13 #[.val (.ref v1), .val (.int (0 : Int32))] [(.int (61 : Int32))]))
  refine go (fun _ => XS.i2c X23.here hx rfl (hb hby d8_13) rfl) ?_
  show Go _ p e below s _ _ _ (T23.setTop (mkF m 14 #[.val (.ref v1), .val (.int (0 : Int32))] [(.int ((61 : Int32).toUInt32.toUInt16.toUInt32.toInt32))]))
  rw [show ((61 : Int32).toUInt32.toUInt16.toUInt32.toInt32) = (61 : Int32) from by decide]
  show Go _ p e below s _ _ _ (T23.setTop (mkF m 14 #[.val (.ref v1), .val (.int (0 : Int32))] [(.int (61 : Int32))]))
  refine goRet X23 hx Bd.notSynchronized Bd.returns rfl (Or.inl ⟨rfl, Or.inr (Or.inr (Or.inr (Or.inl rfl))), _, rfl⟩) (hb hby d8_14) (by decide) (by decide) (by rw [e23]; refine ⟨rfl, N23, rfl⟩)
theorem d6_0 : decode jdk_42_method_56_code 0 = .ok (.aload_n 0, 1) := by decide +kernel
theorem d6_1 : decode jdk_42_method_56_code 1 = .ok (.invokevirtual 492, 3) := by decide +kernel
theorem d6_4 : decode jdk_42_method_56_code 4 = .ok (.ifCond .eq 12, 3) := by decide +kernel
theorem d6_7 : decode jdk_42_method_56_code 7 = .ok (.aload_n 0, 1) := by decide +kernel
theorem d6_8 : decode jdk_42_method_56_code 8 = .ok (.getfield 9, 3) := by decide +kernel
theorem d6_11 : decode jdk_42_method_56_code 11 = .ok (.iload_n 1, 1) := by decide +kernel
theorem d6_12 : decode jdk_42_method_56_code 12 = .ok (.invokestatic 495, 3) := by decide +kernel
theorem d6_15 : decode jdk_42_method_56_code 15 = .ok (.ireturn, 1) := by decide +kernel
theorem pn_6EQUAL0 : plainName "java/lang/String" = true := by first | (simp [plainName, overriddenIn]; done) | decide +kernel
theorem pd_6_0 : parseMethodDescriptor "()Z" = some ⟨[], some .boolean⟩ := by decide +kernel
theorem pd_6_1 : parseMethodDescriptor "([BI)C" = some ⟨[(.array .byte), .int], some .char⟩ := by decide +kernel
theorem ef_6EQUAL0 (m : MethodId) (a1 : Addr) : entryFrame m #[(.ref a1), (.int (0 : Int32))] 2 = mkF m 0 #[.val (.ref a1), .val (.int (0 : Int32))] [] := by first | (simp [entryFrame, mkF, argsToLocals, Value.category]; done) | rfl
def Q6EQUAL0 (Z : State) (a1 : Addr) (w0 : Int32) (f0 : Value) (v1 : Addr) (k1 : ClassId) (d1 : Value) (h0 : Heap) (n0 : Nat) (v : Option Value) (h : Heap) (L : List Loc) : Prop := v = some (.int (61 : Int32)) ∧ Fr n0 L ∧ (h = h0)
set_option maxRecDepth 65536 in
set_option maxHeartbeats 40000000 in
theorem rm6EQUAL0 (l : Launch) (Z : State) (a0 : Array Value) (hw : ∀ d ∈ tables_1, d.before a0 Z = true) (ws : List Jvm.Cond) (a1 : Addr) (w0 : Int32) (f0 : Value) (v1 : Addr) (k1 : ClassId) (d1 : Value) (h0 : Heap) (n0 : Nat) (Z0 : n0 ≤ h0.size) (P0 : Sta Z h0 "java/lang/String" "COMPACT_STRINGS" "Z" (.int w0)) (P1 : Sta Z h0 "jdk/internal/util/Preconditions" "SIOOBE_FORMATTER" "Ljava/util/function/BiFunction;" f0) (P2 : Exa Z h0 a1 "java/lang/String") (P3 : Fld Z h0 a1 "java/lang/String" "coder" "B" (.int (0 : Int32))) (P4 : Fld Z h0 a1 "java/lang/String" "value" "[B" (.ref v1)) (P5 : Arv Z h0 v1 k1 .byte (1 : Int32) [(.int (61 : Int32))] d1) (hw0 : ¬ w0 = 0) (hf : f0.isRef = true) :
    MetFree l (⟨"java/lang/String", "charAt", "(I)C"⟩ : MethodName) (head1 (Jvm.Cond.code (⟨"java/lang/String", "charAt", "(I)C"⟩ : MethodName) jdk_42_method_56_code 2 (some .char) :: ws) ({ frames := 3, cells := 0, slots := 0, locals := 40 } : Room)) (fun a U => a = #[(.ref a1), (.int (0 : Int32))] ∧ Z.Warmed39 U.vm ∧ U.heap = h0) (fun _ _ _ _ _ => True) (fun _ U o U' => ∃ v L, o = .returned v ∧ Q6EQUAL0 Z a1 w0 f0 v1 k1 d1 h0 n0 v U'.heap L ∧ FrameEnd U o U' L ({ frames := 3, cells := 0, slots := 0, locals := 40 } : Room).cells ({ frames := 3, cells := 0, slots := 0, locals := 40 } : Room).slots) := by
  refine MetFree.of_bodySF (plainFor_of_name pn_6EQUAL0) hisR ?_
  intro p e s m args below meth c s₁ Bd hml0 hP hK
  obtain ⟨rfl, hZ, hh⟩ := hP
  have hx := Bd.exec
  have hby := Bd.bytes
  have hml : c.maxLocals = 2 := hml0
  have hown : s.vm.findClass "java/lang/String" = some m.cls := findClass_of_methodNamed Bd.named
  have hnm := (name_of_methodNamed Bd.named Bd.method).1
  have X0 : Stand p l e ({ frames := 3, cells := 0, slots := 0, locals := 40 } : Room) s m #[(.ref a1), (.int (0 : Int32))] below meth c s₁ [] 0 0 := Stand.of_body Bd
  have e0 : s₁.heap = h0 := by rw [← hh, Bd.state]; rfl
  have N0 := Fr.nil n0
  have hS0 : s.Since s.vm 0 := (State.WarmedH.refl s).since 0
  show Go FrameEnd p e below s ({ frames := 3, cells := 0, slots := 0, locals := 40 } : Room).cells ({ frames := 3, cells := 0, slots := 0, locals := 40 } : Room).slots (Q6EQUAL0 Z a1 w0 f0 v1 k1 d1 h0 n0) (s₁.setTop (entryFrame m #[(.ref a1), (.int (0 : Int32))] 2))
  refine go (fun _ k => castTop (ef_6EQUAL0 m a1) k) ?_
  show Go _ p e below s _ _ _ (s₁.setTop (mkF m 0 #[.val (.ref a1), .val (.int (0 : Int32))] []))
  refine go (fun _ => XS.aloadN X0.here hx rfl (hb hby d6_0) rfl rfl) ?_
  show Go _ p e below s _ _ _ (s₁.setTop (mkF m 1 #[.val (.ref a1), .val (.int (0 : Int32))] [(.ref a1)]))
  obtain ⟨cq28, kq28, q28a, q28b, q28c⟩ := isOf hZ e0 P2
  obtain ⟨_, _, ⟨T28, L28, k28, n28⟩, -, X28, ⟨Lc28, hQ28, l28, y28, z28⟩, st28⟩ := X0.virtualBack hx (y := (⟨"java/lang/String", "isLatin1", "()Z"⟩ : MethodName)) (z := (⟨"java/lang/String", "isLatin1", "()Z"⟩ : MethodName)) hown (mvT hZ (hw _ (List.mem_of_getElem? (i := 39) rfl))) (mvT hZ (hw _ (List.mem_of_getElem? (i := 40) rfl))) (notFace_of_selects (args := #[]) (mvT hZ (hw _ (List.mem_of_getElem? (i := 42) rfl)))) (mvT hZ (hw _ (List.mem_of_getElem? (i := 42) rfl))) (mvT hZ (hw _ (List.mem_of_getElem? (i := 41) rfl))) (by decide) (backOf (W := 0) (rm7 l Z a0 hw [] a1 w0 h0 n0 Z0 P0 P3 hw0) hZ (hw _ (List.mem_of_getElem? (i := 43) rfl)) (hw _ (List.mem_of_getElem? (i := 22) rfl)) (by decide) (by decide)) q28a q28c (g := (mkF m 1 #[.val (.ref a1), .val (.int (0 : Int32))] [(.ref a1)])) rfl (by rw [hml]; rfl) (Steps.refl _) (argsL := []) (rest := []) (lenOf pd_6_0 rfl) rfl (by show 2 * 0 + _ ≤ _; exact Nat.le_of_eq rfl) (hb hby d6_1) (fun _ _ => ⟨rfl, e0, (by decide : 0 + 0 ≤ _), (by decide : 0 + 0 ≤ _)⟩)
  dsimp only [Pt.U, Pt.locs, Pt.cells, Pt.slots] at X28 l28 y28 z28 st28 hQ28
  subst l28 y28 z28
  obtain ⟨rfl, N28q, e28⟩ := hQ28
  have N28 := Fr.app N0 N28q
  refine goT st28 ?_
  show Go _ p e below s _ _ _ (T28.setTop (mkF m 4 #[.val (.ref a1), .val (.int (0 : Int32))] [(.int (1 : Int32))]))
  refine go (fun _ => XS.ifNo X28.here hx rfl (hb hby d6_4) rfl ((if0 _ _).trans (feq (by decide : ¬ ((1 : Int32) = (0 : Int32)))).1)) ?_
  show Go _ p e below s _ _ _ (T28.setTop (mkF m 7 #[.val (.ref a1), .val (.int (0 : Int32))] []))
  refine go (fun _ => XS.aloadN X28.here hx rfl (hb hby d6_7) rfl rfl) ?_
  show Go _ p e below s _ _ _ (T28.setTop (mkF m 8 #[.val (.ref a1), .val (.int (0 : Int32))] [(.ref a1)]))
  obtain ⟨T29, X29, e29, st29⟩ := getF X28 hx hZ hown (host := "") (Or.inl (hw _ (List.mem_of_getElem? (i := 24) rfl))) Via.refl e28 P4 (g := (mkF m 8 #[.val (.ref a1), .val (.int (0 : Int32))] [(.ref a1)])) rfl rfl (hb hby d6_8)
  refine go st29 ?_
  show Go _ p e below s _ _ _ (T29.setTop (mkF m 11 #[.val (.ref a1), .val (.int (0 : Int32))] [(.ref v1)]))
  refine go (fun _ => XS.iloadN X29.here hx rfl (hb hby d6_11) rfl) ?_
  show Go _ p e below s _ _ _ (T29.setTop (mkF m 12 #[.val (.ref a1), .val (.int (0 : Int32))] [(.int (0 : Int32)), (.ref v1)]))
  obtain ⟨_, _, ⟨T30, L30, k30, n30⟩, -, X30, ⟨Lc30, hQ30, l30, y30, z30⟩, st30⟩ := Jvm.LawKit.callS X29 hx (y := (⟨"java/lang/StringLatin1", "charAt", "([BI)C"⟩ : MethodName)) hown (mvT hZ (hw _ (List.mem_of_getElem? (i := 44) rfl))) (mvT hZ (hw _ (List.mem_of_getElem? (i := 45) rfl))) (mvT hZ (hw _ (List.mem_of_getElem? (i := 46) rfl))) (mvT hZ (hw _ (List.mem_of_getElem? (i := 47) rfl))) (by decide) (backOf (W := 0) (rm8EQUAL0 l Z a0 hw [] v1 f0 k1 d1 h0 n0 Z0 P1 P5 hf) hZ (hw _ (List.mem_of_getElem? (i := 47) rfl)) (hw _ (List.mem_of_getElem? (i := 46) rfl)) (by decide) (by decide)) (g := (mkF m 12 #[.val (.ref a1), .val (.int (0 : Int32))] [(.int (0 : Int32)), (.ref v1)])) rfl (by rw [hml]; rfl) (argsL := [(.ref v1), (.int (0 : Int32))]) (rest := []) (lenOf pd_6_1 rfl) rfl (by show 2 * 0 + _ ≤ _; exact Nat.le_of_eq rfl) (hb hby d6_12) (fun _ _ => ⟨rfl, e29, (by decide : 0 + 0 ≤ _), (by decide : 0 + 0 ≤ _)⟩)
  dsimp only [Pt.U, Pt.locs, Pt.cells, Pt.slots] at X30 l30 y30 z30 st30 hQ30
  subst l30 y30 z30
  obtain ⟨rfl, N30q, e30⟩ := hQ30
  have N30 := Fr.app N28 N30q
  refine go st30 ?_
  show Go _ p e below s _ _ _ (T30.setTop (mkF m 15 #[.val (.ref a1), .val (.int (0 : Int32))] [(.int (61 : Int32))]))
  refine goRet X30 hx Bd.notSynchronized Bd.returns rfl (Or.inl ⟨rfl, Or.inr (Or.inr (Or.inr (Or.inl rfl))), _, rfl⟩) (hb hby d6_15) (by decide) (by decide) (by rw [e30]; refine ⟨rfl, N30, rfl⟩)
theorem pn_8DIFFERENT0 : plainName "java/lang/StringLatin1" = true := by first | (simp [plainName, overriddenIn]; done) | decide +kernel
theorem ef_8DIFFERENT0 (m : MethodId) (v1 : Addr) : entryFrame m #[(.ref v1), (.int (0 : Int32))] 2 = mkF m 0 #[.val (.ref v1), .val (.int (0 : Int32))] [] := by first | (simp [entryFrame, mkF, argsToLocals, Value.category]; done) | rfl
def Q8DIFFERENT0 (Z : State) (v1 : Addr) (f0 : Value) (k1 : ClassId) (d1 : Value) (h0 : Heap) (n0 : Nat) (v : Option Value) (h : Heap) (L : List Loc) : Prop := v = some (.int (60 : Int32)) ∧ Fr n0 L ∧ (h = h0)
set_option maxRecDepth 65536 in
set_option maxHeartbeats 40000000 in
theorem rm8DIFFERENT0 (l : Launch) (Z : State) (a0 : Array Value) (hw : ∀ d ∈ tables_1, d.before a0 Z = true) (ws : List Jvm.Cond) (v1 : Addr) (f0 : Value) (k1 : ClassId) (d1 : Value) (h0 : Heap) (n0 : Nat) (Z0 : n0 ≤ h0.size) (P0 : Sta Z h0 "jdk/internal/util/Preconditions" "SIOOBE_FORMATTER" "Ljava/util/function/BiFunction;" f0) (P1 : Arv Z h0 v1 k1 .byte (2 : Int32) [(.int (60 : Int32)), (.int (62 : Int32))] d1) (hf : f0.isRef = true) :
    MetFree l (⟨"java/lang/StringLatin1", "charAt", "([BI)C"⟩ : MethodName) (head1 (Jvm.Cond.code (⟨"java/lang/StringLatin1", "charAt", "([BI)C"⟩ : MethodName) jdk_43_method_2_code 2 (some .char) :: ws) ({ frames := 2, cells := 0, slots := 0, locals := 27 } : Room)) (fun a U => a = #[(.ref v1), (.int (0 : Int32))] ∧ Z.Warmed39 U.vm ∧ U.heap = h0) (fun _ _ _ _ _ => True) (fun _ U o U' => ∃ v L, o = .returned v ∧ Q8DIFFERENT0 Z v1 f0 k1 d1 h0 n0 v U'.heap L ∧ FrameEnd U o U' L ({ frames := 2, cells := 0, slots := 0, locals := 27 } : Room).cells ({ frames := 2, cells := 0, slots := 0, locals := 27 } : Room).slots) := by
  refine MetFree.of_bodySF (plainFor_of_name pn_8DIFFERENT0) hisR ?_
  intro p e s m args below meth c s₁ Bd hml0 hP hK
  obtain ⟨rfl, hZ, hh⟩ := hP
  have hx := Bd.exec
  have hby := Bd.bytes
  have hml : c.maxLocals = 2 := hml0
  have hown : s.vm.findClass "java/lang/StringLatin1" = some m.cls := findClass_of_methodNamed Bd.named
  have hnm := (name_of_methodNamed Bd.named Bd.method).1
  have X0 : Stand p l e ({ frames := 2, cells := 0, slots := 0, locals := 27 } : Room) s m #[(.ref v1), (.int (0 : Int32))] below meth c s₁ [] 0 0 := Stand.of_body Bd
  have e0 : s₁.heap = h0 := by rw [← hh, Bd.state]; rfl
  have N0 := Fr.nil n0
  have hS0 : s.Since s.vm 0 := (State.WarmedH.refl s).since 0
  show Go FrameEnd p e below s ({ frames := 2, cells := 0, slots := 0, locals := 27 } : Room).cells ({ frames := 2, cells := 0, slots := 0, locals := 27 } : Room).slots (Q8DIFFERENT0 Z v1 f0 k1 d1 h0 n0) (s₁.setTop (entryFrame m #[(.ref v1), (.int (0 : Int32))] 2))
  refine go (fun _ k => castTop (ef_8DIFFERENT0 m v1) k) ?_
  show Go _ p e below s _ _ _ (s₁.setTop (mkF m 0 #[.val (.ref v1), .val (.int (0 : Int32))] []))
  refine go (fun _ => XS.iloadN X0.here hx rfl (hb hby d8_0) rfl) ?_
  show Go _ p e below s _ _ _ (s₁.setTop (mkF m 1 #[.val (.ref v1), .val (.int (0 : Int32))] [(.int (0 : Int32))]))
  refine go (fun _ => XS.aloadN X0.here hx rfl (hb hby d8_1) rfl rfl) ?_
  show Go _ p e below s _ _ _ (s₁.setTop (mkF m 2 #[.val (.ref v1), .val (.int (0 : Int32))] [(.ref v1), (.int (0 : Int32))]))
  obtain ⟨cl34, Ar34, -, Sz34, Nz34, -, -⟩ := id P1
  refine go (X0.arraylength hx (by rw [e0]; exact Ar34.1) (State.isArrayOf_alike hZ.alike Ar34.2.1) (g := (mkF m 2 #[.val (.ref v1), .val (.int (0 : Int32))] [(.ref v1), (.int (0 : Int32))])) rfl rfl (hb hby d8_2)) ?_
  rw [len_of Sz34 Nz34]
  show Go _ p e below s _ _ _ (s₁.setTop (mkF m 3 #[.val (.ref v1), .val (.int (0 : Int32))] [(.int (2 : Int32)), (.int (0 : Int32))]))
  obtain ⟨_, _, ⟨T35, L35, k35, n35⟩, -, X35, ⟨Lc35, hQ35, l35, y35, z35⟩, st35⟩ := Jvm.LawKit.callS X0 hx (y := (⟨"java/lang/String", "checkIndex", "(II)V"⟩ : MethodName)) hown (mvT hZ (hw _ (List.mem_of_getElem? (i := 48) rfl))) (mvT hZ (hw _ (List.mem_of_getElem? (i := 49) rfl))) (mvT hZ (hw _ (List.mem_of_getElem? (i := 22) rfl))) (mvT hZ (hw _ (List.mem_of_getElem? (i := 50) rfl))) (by decide) (backOf (W := 0) (rm9 l Z a0 hw [] (0 : Int32) (2 : Int32) f0 h0 n0 Z0 P0 (by decide) (by decide) hf) hZ (hw _ (List.mem_of_getElem? (i := 50) rfl)) (hw _ (List.mem_of_getElem? (i := 22) rfl)) (by decide) (by decide)) (g := (mkF m 3 #[.val (.ref v1), .val (.int (0 : Int32))] [(.int (2 : Int32)), (.int (0 : Int32))])) rfl (by rw [hml]; rfl) (argsL := [(.int (0 : Int32)), (.int (2 : Int32))]) (rest := []) (lenOf pd_8_0 rfl) rfl (by show 2 * 0 + _ ≤ _; exact Nat.le_of_eq rfl) (hb hby d8_3) (fun _ _ => ⟨rfl, e0, (by decide : 0 + 0 ≤ _), (by decide : 0 + 0 ≤ _)⟩)
  dsimp only [Pt.U, Pt.locs, Pt.cells, Pt.slots] at X35 l35 y35 z35 st35 hQ35
  subst l35 y35 z35
  obtain ⟨rfl, N35q, e35⟩ := hQ35
  have N35 := Fr.app N0 N35q
  refine go st35 ?_
  show Go _ p e below s _ _ _ (T35.setTop (mkF m 6 #[.val (.ref v1), .val (.int (0 : Int32))] []))
  refine go (fun _ => XS.aloadN X35.here hx rfl (hb hby d8_6) rfl rfl) ?_
  show Go _ p e below s _ _ _ (T35.setTop (mkF m 7 #[.val (.ref v1), .val (.int (0 : Int32))] [(.ref v1)]))
  refine go (fun _ => XS.iloadN X35.here hx rfl (hb hby d8_7) rfl) ?_
  show Go _ p e below s _ _ _ (T35.setTop (mkF m 8 #[.val (.ref v1), .val (.int (0 : Int32))] [(.int (0 : Int32)), (.ref v1)]))
  obtain ⟨cl36, Ar36, q36, Sz36, Nz36, Hs36, Gs36⟩ := id P1
  have hin36 : ¬ ((0 : Int32) < 0 ∨ cl36.slots.size ≤ ((0 : Int32)).toNatClampNeg) := inb_of Sz36 ⟨by decide, by decide⟩
  refine go (X35.baloadBytes hx (j := (0 : Int32)) (v := (.int (60 : Int32))) (by rw [e35]; exact Ar36.1) (State.isArrayOf_alike hZ.alike Ar36.2.1) Ar36.2.2 hin36 (Hs36.at hin36 rfl) (g := (mkF m 8 #[.val (.ref v1), .val (.int (0 : Int32))] [(.int (0 : Int32)), (.ref v1)])) rfl rfl (hb hby d8_8)) ?_
  show Go _ p e below s _ _ _ (T35.setTop (mkF m 9 #[.val (.ref v1), .val (.int (0 : Int32))] [(.int (60 : Int32))]))
  refine go (fun _ => XS.sipush X35.here hx rfl (hb hby d8_9)) ?_
  show Go _ p e below s _ _ _ (T35.setTop (mkF m 12 #[.val (.ref v1), .val (.int (0 : Int32))] [(.int (255 : Int32)), (.int (60 : Int32))]))
  refine go (fun _ => XS.iand X35.here hx rfl (hb hby d8_12) rfl) ?_
  show Go _ p e below s _ _ _ (T35.setTop (mkF m 13 #[.val (.ref v1), .val (.int (0 : Int32))] [(.int (60 : Int32))]))
  refine go (fun _ => XS.i2c X35.here hx rfl (hb hby d8_13) rfl) ?_
  show Go _ p e below s _ _ _ (T35.setTop (mkF m 14 #[.val (.ref v1), .val (.int (0 : Int32))] [(.int ((60 : Int32).toUInt32.toUInt16.toUInt32.toInt32))]))
  rw [show ((60 : Int32).toUInt32.toUInt16.toUInt32.toInt32) = (60 : Int32) from by decide]
  show Go _ p e below s _ _ _ (T35.setTop (mkF m 14 #[.val (.ref v1), .val (.int (0 : Int32))] [(.int (60 : Int32))]))
  refine goRet X35 hx Bd.notSynchronized Bd.returns rfl (Or.inl ⟨rfl, Or.inr (Or.inr (Or.inr (Or.inl rfl))), _, rfl⟩) (hb hby d8_14) (by decide) (by decide) (by rw [e35]; refine ⟨rfl, N35, rfl⟩)
theorem pn_6DIFFERENT0 : plainName "java/lang/String" = true := by first | (simp [plainName, overriddenIn]; done) | decide +kernel
theorem ef_6DIFFERENT0 (m : MethodId) (a1 : Addr) : entryFrame m #[(.ref a1), (.int (0 : Int32))] 2 = mkF m 0 #[.val (.ref a1), .val (.int (0 : Int32))] [] := by first | (simp [entryFrame, mkF, argsToLocals, Value.category]; done) | rfl
def Q6DIFFERENT0 (Z : State) (a1 : Addr) (w0 : Int32) (f0 : Value) (v1 : Addr) (k1 : ClassId) (d1 : Value) (h0 : Heap) (n0 : Nat) (v : Option Value) (h : Heap) (L : List Loc) : Prop := v = some (.int (60 : Int32)) ∧ Fr n0 L ∧ (h = h0)
set_option maxRecDepth 65536 in
set_option maxHeartbeats 40000000 in
theorem rm6DIFFERENT0 (l : Launch) (Z : State) (a0 : Array Value) (hw : ∀ d ∈ tables_1, d.before a0 Z = true) (ws : List Jvm.Cond) (a1 : Addr) (w0 : Int32) (f0 : Value) (v1 : Addr) (k1 : ClassId) (d1 : Value) (h0 : Heap) (n0 : Nat) (Z0 : n0 ≤ h0.size) (P0 : Sta Z h0 "java/lang/String" "COMPACT_STRINGS" "Z" (.int w0)) (P1 : Sta Z h0 "jdk/internal/util/Preconditions" "SIOOBE_FORMATTER" "Ljava/util/function/BiFunction;" f0) (P2 : Exa Z h0 a1 "java/lang/String") (P3 : Fld Z h0 a1 "java/lang/String" "coder" "B" (.int (0 : Int32))) (P4 : Fld Z h0 a1 "java/lang/String" "value" "[B" (.ref v1)) (P5 : Arv Z h0 v1 k1 .byte (2 : Int32) [(.int (60 : Int32)), (.int (62 : Int32))] d1) (hw0 : ¬ w0 = 0) (hf : f0.isRef = true) :
    MetFree l (⟨"java/lang/String", "charAt", "(I)C"⟩ : MethodName) (head1 (Jvm.Cond.code (⟨"java/lang/String", "charAt", "(I)C"⟩ : MethodName) jdk_42_method_56_code 2 (some .char) :: ws) ({ frames := 3, cells := 0, slots := 0, locals := 40 } : Room)) (fun a U => a = #[(.ref a1), (.int (0 : Int32))] ∧ Z.Warmed39 U.vm ∧ U.heap = h0) (fun _ _ _ _ _ => True) (fun _ U o U' => ∃ v L, o = .returned v ∧ Q6DIFFERENT0 Z a1 w0 f0 v1 k1 d1 h0 n0 v U'.heap L ∧ FrameEnd U o U' L ({ frames := 3, cells := 0, slots := 0, locals := 40 } : Room).cells ({ frames := 3, cells := 0, slots := 0, locals := 40 } : Room).slots) := by
  refine MetFree.of_bodySF (plainFor_of_name pn_6DIFFERENT0) hisR ?_
  intro p e s m args below meth c s₁ Bd hml0 hP hK
  obtain ⟨rfl, hZ, hh⟩ := hP
  have hx := Bd.exec
  have hby := Bd.bytes
  have hml : c.maxLocals = 2 := hml0
  have hown : s.vm.findClass "java/lang/String" = some m.cls := findClass_of_methodNamed Bd.named
  have hnm := (name_of_methodNamed Bd.named Bd.method).1
  have X0 : Stand p l e ({ frames := 3, cells := 0, slots := 0, locals := 40 } : Room) s m #[(.ref a1), (.int (0 : Int32))] below meth c s₁ [] 0 0 := Stand.of_body Bd
  have e0 : s₁.heap = h0 := by rw [← hh, Bd.state]; rfl
  have N0 := Fr.nil n0
  have hS0 : s.Since s.vm 0 := (State.WarmedH.refl s).since 0
  show Go FrameEnd p e below s ({ frames := 3, cells := 0, slots := 0, locals := 40 } : Room).cells ({ frames := 3, cells := 0, slots := 0, locals := 40 } : Room).slots (Q6DIFFERENT0 Z a1 w0 f0 v1 k1 d1 h0 n0) (s₁.setTop (entryFrame m #[(.ref a1), (.int (0 : Int32))] 2))
  refine go (fun _ k => castTop (ef_6DIFFERENT0 m a1) k) ?_
  show Go _ p e below s _ _ _ (s₁.setTop (mkF m 0 #[.val (.ref a1), .val (.int (0 : Int32))] []))
  refine go (fun _ => XS.aloadN X0.here hx rfl (hb hby d6_0) rfl rfl) ?_
  show Go _ p e below s _ _ _ (s₁.setTop (mkF m 1 #[.val (.ref a1), .val (.int (0 : Int32))] [(.ref a1)]))
  obtain ⟨cq40, kq40, q40a, q40b, q40c⟩ := isOf hZ e0 P2
  obtain ⟨_, _, ⟨T40, L40, k40, n40⟩, -, X40, ⟨Lc40, hQ40, l40, y40, z40⟩, st40⟩ := X0.virtualBack hx (y := (⟨"java/lang/String", "isLatin1", "()Z"⟩ : MethodName)) (z := (⟨"java/lang/String", "isLatin1", "()Z"⟩ : MethodName)) hown (mvT hZ (hw _ (List.mem_of_getElem? (i := 39) rfl))) (mvT hZ (hw _ (List.mem_of_getElem? (i := 40) rfl))) (notFace_of_selects (args := #[]) (mvT hZ (hw _ (List.mem_of_getElem? (i := 42) rfl)))) (mvT hZ (hw _ (List.mem_of_getElem? (i := 42) rfl))) (mvT hZ (hw _ (List.mem_of_getElem? (i := 41) rfl))) (by decide) (backOf (W := 0) (rm7 l Z a0 hw [] a1 w0 h0 n0 Z0 P0 P3 hw0) hZ (hw _ (List.mem_of_getElem? (i := 43) rfl)) (hw _ (List.mem_of_getElem? (i := 22) rfl)) (by decide) (by decide)) q40a q40c (g := (mkF m 1 #[.val (.ref a1), .val (.int (0 : Int32))] [(.ref a1)])) rfl (by rw [hml]; rfl) (Steps.refl _) (argsL := []) (rest := []) (lenOf pd_6_0 rfl) rfl (by show 2 * 0 + _ ≤ _; exact Nat.le_of_eq rfl) (hb hby d6_1) (fun _ _ => ⟨rfl, e0, (by decide : 0 + 0 ≤ _), (by decide : 0 + 0 ≤ _)⟩)
  dsimp only [Pt.U, Pt.locs, Pt.cells, Pt.slots] at X40 l40 y40 z40 st40 hQ40
  subst l40 y40 z40
  obtain ⟨rfl, N40q, e40⟩ := hQ40
  have N40 := Fr.app N0 N40q
  refine goT st40 ?_
  show Go _ p e below s _ _ _ (T40.setTop (mkF m 4 #[.val (.ref a1), .val (.int (0 : Int32))] [(.int (1 : Int32))]))
  refine go (fun _ => XS.ifNo X40.here hx rfl (hb hby d6_4) rfl ((if0 _ _).trans (feq (by decide : ¬ ((1 : Int32) = (0 : Int32)))).1)) ?_
  show Go _ p e below s _ _ _ (T40.setTop (mkF m 7 #[.val (.ref a1), .val (.int (0 : Int32))] []))
  refine go (fun _ => XS.aloadN X40.here hx rfl (hb hby d6_7) rfl rfl) ?_
  show Go _ p e below s _ _ _ (T40.setTop (mkF m 8 #[.val (.ref a1), .val (.int (0 : Int32))] [(.ref a1)]))
  obtain ⟨T41, X41, e41, st41⟩ := getF X40 hx hZ hown (host := "") (Or.inl (hw _ (List.mem_of_getElem? (i := 24) rfl))) Via.refl e40 P4 (g := (mkF m 8 #[.val (.ref a1), .val (.int (0 : Int32))] [(.ref a1)])) rfl rfl (hb hby d6_8)
  refine go st41 ?_
  show Go _ p e below s _ _ _ (T41.setTop (mkF m 11 #[.val (.ref a1), .val (.int (0 : Int32))] [(.ref v1)]))
  refine go (fun _ => XS.iloadN X41.here hx rfl (hb hby d6_11) rfl) ?_
  show Go _ p e below s _ _ _ (T41.setTop (mkF m 12 #[.val (.ref a1), .val (.int (0 : Int32))] [(.int (0 : Int32)), (.ref v1)]))
  obtain ⟨_, _, ⟨T42, L42, k42, n42⟩, -, X42, ⟨Lc42, hQ42, l42, y42, z42⟩, st42⟩ := Jvm.LawKit.callS X41 hx (y := (⟨"java/lang/StringLatin1", "charAt", "([BI)C"⟩ : MethodName)) hown (mvT hZ (hw _ (List.mem_of_getElem? (i := 44) rfl))) (mvT hZ (hw _ (List.mem_of_getElem? (i := 45) rfl))) (mvT hZ (hw _ (List.mem_of_getElem? (i := 46) rfl))) (mvT hZ (hw _ (List.mem_of_getElem? (i := 47) rfl))) (by decide) (backOf (W := 0) (rm8DIFFERENT0 l Z a0 hw [] v1 f0 k1 d1 h0 n0 Z0 P1 P5 hf) hZ (hw _ (List.mem_of_getElem? (i := 47) rfl)) (hw _ (List.mem_of_getElem? (i := 46) rfl)) (by decide) (by decide)) (g := (mkF m 12 #[.val (.ref a1), .val (.int (0 : Int32))] [(.int (0 : Int32)), (.ref v1)])) rfl (by rw [hml]; rfl) (argsL := [(.ref v1), (.int (0 : Int32))]) (rest := []) (lenOf pd_6_1 rfl) rfl (by show 2 * 0 + _ ≤ _; exact Nat.le_of_eq rfl) (hb hby d6_12) (fun _ _ => ⟨rfl, e41, (by decide : 0 + 0 ≤ _), (by decide : 0 + 0 ≤ _)⟩)
  dsimp only [Pt.U, Pt.locs, Pt.cells, Pt.slots] at X42 l42 y42 z42 st42 hQ42
  subst l42 y42 z42
  obtain ⟨rfl, N42q, e42⟩ := hQ42
  have N42 := Fr.app N40 N42q
  refine go st42 ?_
  show Go _ p e below s _ _ _ (T42.setTop (mkF m 15 #[.val (.ref a1), .val (.int (0 : Int32))] [(.int (60 : Int32))]))
  refine goRet X42 hx Bd.notSynchronized Bd.returns rfl (Or.inl ⟨rfl, Or.inr (Or.inr (Or.inr (Or.inl rfl))), _, rfl⟩) (hb hby d6_15) (by decide) (by decide) (by rw [e42]; refine ⟨rfl, N42, rfl⟩)
theorem pn_8DIFFERENT1 : plainName "java/lang/StringLatin1" = true := by first | (simp [plainName, overriddenIn]; done) | decide +kernel
theorem ef_8DIFFERENT1 (m : MethodId) (v1 : Addr) : entryFrame m #[(.ref v1), (.int (1 : Int32))] 2 = mkF m 0 #[.val (.ref v1), .val (.int (1 : Int32))] [] := by first | (simp [entryFrame, mkF, argsToLocals, Value.category]; done) | rfl
def Q8DIFFERENT1 (Z : State) (v1 : Addr) (f0 : Value) (k1 : ClassId) (d1 : Value) (h0 : Heap) (n0 : Nat) (v : Option Value) (h : Heap) (L : List Loc) : Prop := v = some (.int (62 : Int32)) ∧ Fr n0 L ∧ (h = h0)
set_option maxRecDepth 65536 in
set_option maxHeartbeats 40000000 in
theorem rm8DIFFERENT1 (l : Launch) (Z : State) (a0 : Array Value) (hw : ∀ d ∈ tables_1, d.before a0 Z = true) (ws : List Jvm.Cond) (v1 : Addr) (f0 : Value) (k1 : ClassId) (d1 : Value) (h0 : Heap) (n0 : Nat) (Z0 : n0 ≤ h0.size) (P0 : Sta Z h0 "jdk/internal/util/Preconditions" "SIOOBE_FORMATTER" "Ljava/util/function/BiFunction;" f0) (P1 : Arv Z h0 v1 k1 .byte (2 : Int32) [(.int (60 : Int32)), (.int (62 : Int32))] d1) (hf : f0.isRef = true) :
    MetFree l (⟨"java/lang/StringLatin1", "charAt", "([BI)C"⟩ : MethodName) (head1 (Jvm.Cond.code (⟨"java/lang/StringLatin1", "charAt", "([BI)C"⟩ : MethodName) jdk_43_method_2_code 2 (some .char) :: ws) ({ frames := 2, cells := 0, slots := 0, locals := 27 } : Room)) (fun a U => a = #[(.ref v1), (.int (1 : Int32))] ∧ Z.Warmed39 U.vm ∧ U.heap = h0) (fun _ _ _ _ _ => True) (fun _ U o U' => ∃ v L, o = .returned v ∧ Q8DIFFERENT1 Z v1 f0 k1 d1 h0 n0 v U'.heap L ∧ FrameEnd U o U' L ({ frames := 2, cells := 0, slots := 0, locals := 27 } : Room).cells ({ frames := 2, cells := 0, slots := 0, locals := 27 } : Room).slots) := by
  refine MetFree.of_bodySF (plainFor_of_name pn_8DIFFERENT1) hisR ?_
  intro p e s m args below meth c s₁ Bd hml0 hP hK
  obtain ⟨rfl, hZ, hh⟩ := hP
  have hx := Bd.exec
  have hby := Bd.bytes
  have hml : c.maxLocals = 2 := hml0
  have hown : s.vm.findClass "java/lang/StringLatin1" = some m.cls := findClass_of_methodNamed Bd.named
  have hnm := (name_of_methodNamed Bd.named Bd.method).1
  have X0 : Stand p l e ({ frames := 2, cells := 0, slots := 0, locals := 27 } : Room) s m #[(.ref v1), (.int (1 : Int32))] below meth c s₁ [] 0 0 := Stand.of_body Bd
  have e0 : s₁.heap = h0 := by rw [← hh, Bd.state]; rfl
  have N0 := Fr.nil n0
  have hS0 : s.Since s.vm 0 := (State.WarmedH.refl s).since 0
  show Go FrameEnd p e below s ({ frames := 2, cells := 0, slots := 0, locals := 27 } : Room).cells ({ frames := 2, cells := 0, slots := 0, locals := 27 } : Room).slots (Q8DIFFERENT1 Z v1 f0 k1 d1 h0 n0) (s₁.setTop (entryFrame m #[(.ref v1), (.int (1 : Int32))] 2))
  refine go (fun _ k => castTop (ef_8DIFFERENT1 m v1) k) ?_
  show Go _ p e below s _ _ _ (s₁.setTop (mkF m 0 #[.val (.ref v1), .val (.int (1 : Int32))] []))
  refine go (fun _ => XS.iloadN X0.here hx rfl (hb hby d8_0) rfl) ?_
  show Go _ p e below s _ _ _ (s₁.setTop (mkF m 1 #[.val (.ref v1), .val (.int (1 : Int32))] [(.int (1 : Int32))]))
  refine go (fun _ => XS.aloadN X0.here hx rfl (hb hby d8_1) rfl rfl) ?_
  show Go _ p e below s _ _ _ (s₁.setTop (mkF m 2 #[.val (.ref v1), .val (.int (1 : Int32))] [(.ref v1), (.int (1 : Int32))]))
  obtain ⟨cl46, Ar46, -, Sz46, Nz46, -, -⟩ := id P1
  refine go (X0.arraylength hx (by rw [e0]; exact Ar46.1) (State.isArrayOf_alike hZ.alike Ar46.2.1) (g := (mkF m 2 #[.val (.ref v1), .val (.int (1 : Int32))] [(.ref v1), (.int (1 : Int32))])) rfl rfl (hb hby d8_2)) ?_
  rw [len_of Sz46 Nz46]
  show Go _ p e below s _ _ _ (s₁.setTop (mkF m 3 #[.val (.ref v1), .val (.int (1 : Int32))] [(.int (2 : Int32)), (.int (1 : Int32))]))
  obtain ⟨_, _, ⟨T47, L47, k47, n47⟩, -, X47, ⟨Lc47, hQ47, l47, y47, z47⟩, st47⟩ := Jvm.LawKit.callS X0 hx (y := (⟨"java/lang/String", "checkIndex", "(II)V"⟩ : MethodName)) hown (mvT hZ (hw _ (List.mem_of_getElem? (i := 48) rfl))) (mvT hZ (hw _ (List.mem_of_getElem? (i := 49) rfl))) (mvT hZ (hw _ (List.mem_of_getElem? (i := 22) rfl))) (mvT hZ (hw _ (List.mem_of_getElem? (i := 50) rfl))) (by decide) (backOf (W := 0) (rm9 l Z a0 hw [] (1 : Int32) (2 : Int32) f0 h0 n0 Z0 P0 (by decide) (by decide) hf) hZ (hw _ (List.mem_of_getElem? (i := 50) rfl)) (hw _ (List.mem_of_getElem? (i := 22) rfl)) (by decide) (by decide)) (g := (mkF m 3 #[.val (.ref v1), .val (.int (1 : Int32))] [(.int (2 : Int32)), (.int (1 : Int32))])) rfl (by rw [hml]; rfl) (argsL := [(.int (1 : Int32)), (.int (2 : Int32))]) (rest := []) (lenOf pd_8_0 rfl) rfl (by show 2 * 0 + _ ≤ _; exact Nat.le_of_eq rfl) (hb hby d8_3) (fun _ _ => ⟨rfl, e0, (by decide : 0 + 0 ≤ _), (by decide : 0 + 0 ≤ _)⟩)
  dsimp only [Pt.U, Pt.locs, Pt.cells, Pt.slots] at X47 l47 y47 z47 st47 hQ47
  subst l47 y47 z47
  obtain ⟨rfl, N47q, e47⟩ := hQ47
  have N47 := Fr.app N0 N47q
  refine go st47 ?_
  show Go _ p e below s _ _ _ (T47.setTop (mkF m 6 #[.val (.ref v1), .val (.int (1 : Int32))] []))
  refine go (fun _ => XS.aloadN X47.here hx rfl (hb hby d8_6) rfl rfl) ?_
  show Go _ p e below s _ _ _ (T47.setTop (mkF m 7 #[.val (.ref v1), .val (.int (1 : Int32))] [(.ref v1)]))
  refine go (fun _ => XS.iloadN X47.here hx rfl (hb hby d8_7) rfl) ?_
  show Go _ p e below s _ _ _ (T47.setTop (mkF m 8 #[.val (.ref v1), .val (.int (1 : Int32))] [(.int (1 : Int32)), (.ref v1)]))
  obtain ⟨cl48, Ar48, q48, Sz48, Nz48, Hs48, Gs48⟩ := id P1
  have hin48 : ¬ ((1 : Int32) < 0 ∨ cl48.slots.size ≤ ((1 : Int32)).toNatClampNeg) := inb_of Sz48 ⟨by decide, by decide⟩
  refine go (X47.baloadBytes hx (j := (1 : Int32)) (v := (.int (62 : Int32))) (by rw [e47]; exact Ar48.1) (State.isArrayOf_alike hZ.alike Ar48.2.1) Ar48.2.2 hin48 (Hs48.at hin48 rfl) (g := (mkF m 8 #[.val (.ref v1), .val (.int (1 : Int32))] [(.int (1 : Int32)), (.ref v1)])) rfl rfl (hb hby d8_8)) ?_
  show Go _ p e below s _ _ _ (T47.setTop (mkF m 9 #[.val (.ref v1), .val (.int (1 : Int32))] [(.int (62 : Int32))]))
  refine go (fun _ => XS.sipush X47.here hx rfl (hb hby d8_9)) ?_
  show Go _ p e below s _ _ _ (T47.setTop (mkF m 12 #[.val (.ref v1), .val (.int (1 : Int32))] [(.int (255 : Int32)), (.int (62 : Int32))]))
  refine go (fun _ => XS.iand X47.here hx rfl (hb hby d8_12) rfl) ?_
  show Go _ p e below s _ _ _ (T47.setTop (mkF m 13 #[.val (.ref v1), .val (.int (1 : Int32))] [(.int (62 : Int32))]))
  refine go (fun _ => XS.i2c X47.here hx rfl (hb hby d8_13) rfl) ?_
  show Go _ p e below s _ _ _ (T47.setTop (mkF m 14 #[.val (.ref v1), .val (.int (1 : Int32))] [(.int ((62 : Int32).toUInt32.toUInt16.toUInt32.toInt32))]))
  rw [show ((62 : Int32).toUInt32.toUInt16.toUInt32.toInt32) = (62 : Int32) from by decide]
  show Go _ p e below s _ _ _ (T47.setTop (mkF m 14 #[.val (.ref v1), .val (.int (1 : Int32))] [(.int (62 : Int32))]))
  refine goRet X47 hx Bd.notSynchronized Bd.returns rfl (Or.inl ⟨rfl, Or.inr (Or.inr (Or.inr (Or.inl rfl))), _, rfl⟩) (hb hby d8_14) (by decide) (by decide) (by rw [e47]; refine ⟨rfl, N47, rfl⟩)
theorem pn_6DIFFERENT1 : plainName "java/lang/String" = true := by first | (simp [plainName, overriddenIn]; done) | decide +kernel
theorem ef_6DIFFERENT1 (m : MethodId) (a1 : Addr) : entryFrame m #[(.ref a1), (.int (1 : Int32))] 2 = mkF m 0 #[.val (.ref a1), .val (.int (1 : Int32))] [] := by first | (simp [entryFrame, mkF, argsToLocals, Value.category]; done) | rfl
def Q6DIFFERENT1 (Z : State) (a1 : Addr) (w0 : Int32) (f0 : Value) (v1 : Addr) (k1 : ClassId) (d1 : Value) (h0 : Heap) (n0 : Nat) (v : Option Value) (h : Heap) (L : List Loc) : Prop := v = some (.int (62 : Int32)) ∧ Fr n0 L ∧ (h = h0)
set_option maxRecDepth 65536 in
set_option maxHeartbeats 40000000 in
theorem rm6DIFFERENT1 (l : Launch) (Z : State) (a0 : Array Value) (hw : ∀ d ∈ tables_1, d.before a0 Z = true) (ws : List Jvm.Cond) (a1 : Addr) (w0 : Int32) (f0 : Value) (v1 : Addr) (k1 : ClassId) (d1 : Value) (h0 : Heap) (n0 : Nat) (Z0 : n0 ≤ h0.size) (P0 : Sta Z h0 "java/lang/String" "COMPACT_STRINGS" "Z" (.int w0)) (P1 : Sta Z h0 "jdk/internal/util/Preconditions" "SIOOBE_FORMATTER" "Ljava/util/function/BiFunction;" f0) (P2 : Exa Z h0 a1 "java/lang/String") (P3 : Fld Z h0 a1 "java/lang/String" "coder" "B" (.int (0 : Int32))) (P4 : Fld Z h0 a1 "java/lang/String" "value" "[B" (.ref v1)) (P5 : Arv Z h0 v1 k1 .byte (2 : Int32) [(.int (60 : Int32)), (.int (62 : Int32))] d1) (hw0 : ¬ w0 = 0) (hf : f0.isRef = true) :
    MetFree l (⟨"java/lang/String", "charAt", "(I)C"⟩ : MethodName) (head1 (Jvm.Cond.code (⟨"java/lang/String", "charAt", "(I)C"⟩ : MethodName) jdk_42_method_56_code 2 (some .char) :: ws) ({ frames := 3, cells := 0, slots := 0, locals := 40 } : Room)) (fun a U => a = #[(.ref a1), (.int (1 : Int32))] ∧ Z.Warmed39 U.vm ∧ U.heap = h0) (fun _ _ _ _ _ => True) (fun _ U o U' => ∃ v L, o = .returned v ∧ Q6DIFFERENT1 Z a1 w0 f0 v1 k1 d1 h0 n0 v U'.heap L ∧ FrameEnd U o U' L ({ frames := 3, cells := 0, slots := 0, locals := 40 } : Room).cells ({ frames := 3, cells := 0, slots := 0, locals := 40 } : Room).slots) := by
  refine MetFree.of_bodySF (plainFor_of_name pn_6DIFFERENT1) hisR ?_
  intro p e s m args below meth c s₁ Bd hml0 hP hK
  obtain ⟨rfl, hZ, hh⟩ := hP
  have hx := Bd.exec
  have hby := Bd.bytes
  have hml : c.maxLocals = 2 := hml0
  have hown : s.vm.findClass "java/lang/String" = some m.cls := findClass_of_methodNamed Bd.named
  have hnm := (name_of_methodNamed Bd.named Bd.method).1
  have X0 : Stand p l e ({ frames := 3, cells := 0, slots := 0, locals := 40 } : Room) s m #[(.ref a1), (.int (1 : Int32))] below meth c s₁ [] 0 0 := Stand.of_body Bd
  have e0 : s₁.heap = h0 := by rw [← hh, Bd.state]; rfl
  have N0 := Fr.nil n0
  have hS0 : s.Since s.vm 0 := (State.WarmedH.refl s).since 0
  show Go FrameEnd p e below s ({ frames := 3, cells := 0, slots := 0, locals := 40 } : Room).cells ({ frames := 3, cells := 0, slots := 0, locals := 40 } : Room).slots (Q6DIFFERENT1 Z a1 w0 f0 v1 k1 d1 h0 n0) (s₁.setTop (entryFrame m #[(.ref a1), (.int (1 : Int32))] 2))
  refine go (fun _ k => castTop (ef_6DIFFERENT1 m a1) k) ?_
  show Go _ p e below s _ _ _ (s₁.setTop (mkF m 0 #[.val (.ref a1), .val (.int (1 : Int32))] []))
  refine go (fun _ => XS.aloadN X0.here hx rfl (hb hby d6_0) rfl rfl) ?_
  show Go _ p e below s _ _ _ (s₁.setTop (mkF m 1 #[.val (.ref a1), .val (.int (1 : Int32))] [(.ref a1)]))
  obtain ⟨cq52, kq52, q52a, q52b, q52c⟩ := isOf hZ e0 P2
  obtain ⟨_, _, ⟨T52, L52, k52, n52⟩, -, X52, ⟨Lc52, hQ52, l52, y52, z52⟩, st52⟩ := X0.virtualBack hx (y := (⟨"java/lang/String", "isLatin1", "()Z"⟩ : MethodName)) (z := (⟨"java/lang/String", "isLatin1", "()Z"⟩ : MethodName)) hown (mvT hZ (hw _ (List.mem_of_getElem? (i := 39) rfl))) (mvT hZ (hw _ (List.mem_of_getElem? (i := 40) rfl))) (notFace_of_selects (args := #[]) (mvT hZ (hw _ (List.mem_of_getElem? (i := 42) rfl)))) (mvT hZ (hw _ (List.mem_of_getElem? (i := 42) rfl))) (mvT hZ (hw _ (List.mem_of_getElem? (i := 41) rfl))) (by decide) (backOf (W := 0) (rm7 l Z a0 hw [] a1 w0 h0 n0 Z0 P0 P3 hw0) hZ (hw _ (List.mem_of_getElem? (i := 43) rfl)) (hw _ (List.mem_of_getElem? (i := 22) rfl)) (by decide) (by decide)) q52a q52c (g := (mkF m 1 #[.val (.ref a1), .val (.int (1 : Int32))] [(.ref a1)])) rfl (by rw [hml]; rfl) (Steps.refl _) (argsL := []) (rest := []) (lenOf pd_6_0 rfl) rfl (by show 2 * 0 + _ ≤ _; exact Nat.le_of_eq rfl) (hb hby d6_1) (fun _ _ => ⟨rfl, e0, (by decide : 0 + 0 ≤ _), (by decide : 0 + 0 ≤ _)⟩)
  dsimp only [Pt.U, Pt.locs, Pt.cells, Pt.slots] at X52 l52 y52 z52 st52 hQ52
  subst l52 y52 z52
  obtain ⟨rfl, N52q, e52⟩ := hQ52
  have N52 := Fr.app N0 N52q
  refine goT st52 ?_
  show Go _ p e below s _ _ _ (T52.setTop (mkF m 4 #[.val (.ref a1), .val (.int (1 : Int32))] [(.int (1 : Int32))]))
  refine go (fun _ => XS.ifNo X52.here hx rfl (hb hby d6_4) rfl ((if0 _ _).trans (feq (by decide : ¬ ((1 : Int32) = (0 : Int32)))).1)) ?_
  show Go _ p e below s _ _ _ (T52.setTop (mkF m 7 #[.val (.ref a1), .val (.int (1 : Int32))] []))
  refine go (fun _ => XS.aloadN X52.here hx rfl (hb hby d6_7) rfl rfl) ?_
  show Go _ p e below s _ _ _ (T52.setTop (mkF m 8 #[.val (.ref a1), .val (.int (1 : Int32))] [(.ref a1)]))
  obtain ⟨T53, X53, e53, st53⟩ := getF X52 hx hZ hown (host := "") (Or.inl (hw _ (List.mem_of_getElem? (i := 24) rfl))) Via.refl e52 P4 (g := (mkF m 8 #[.val (.ref a1), .val (.int (1 : Int32))] [(.ref a1)])) rfl rfl (hb hby d6_8)
  refine go st53 ?_
  show Go _ p e below s _ _ _ (T53.setTop (mkF m 11 #[.val (.ref a1), .val (.int (1 : Int32))] [(.ref v1)]))
  refine go (fun _ => XS.iloadN X53.here hx rfl (hb hby d6_11) rfl) ?_
  show Go _ p e below s _ _ _ (T53.setTop (mkF m 12 #[.val (.ref a1), .val (.int (1 : Int32))] [(.int (1 : Int32)), (.ref v1)]))
  obtain ⟨_, _, ⟨T54, L54, k54, n54⟩, -, X54, ⟨Lc54, hQ54, l54, y54, z54⟩, st54⟩ := Jvm.LawKit.callS X53 hx (y := (⟨"java/lang/StringLatin1", "charAt", "([BI)C"⟩ : MethodName)) hown (mvT hZ (hw _ (List.mem_of_getElem? (i := 44) rfl))) (mvT hZ (hw _ (List.mem_of_getElem? (i := 45) rfl))) (mvT hZ (hw _ (List.mem_of_getElem? (i := 46) rfl))) (mvT hZ (hw _ (List.mem_of_getElem? (i := 47) rfl))) (by decide) (backOf (W := 0) (rm8DIFFERENT1 l Z a0 hw [] v1 f0 k1 d1 h0 n0 Z0 P1 P5 hf) hZ (hw _ (List.mem_of_getElem? (i := 47) rfl)) (hw _ (List.mem_of_getElem? (i := 46) rfl)) (by decide) (by decide)) (g := (mkF m 12 #[.val (.ref a1), .val (.int (1 : Int32))] [(.int (1 : Int32)), (.ref v1)])) rfl (by rw [hml]; rfl) (argsL := [(.ref v1), (.int (1 : Int32))]) (rest := []) (lenOf pd_6_1 rfl) rfl (by show 2 * 0 + _ ≤ _; exact Nat.le_of_eq rfl) (hb hby d6_12) (fun _ _ => ⟨rfl, e53, (by decide : 0 + 0 ≤ _), (by decide : 0 + 0 ≤ _)⟩)
  dsimp only [Pt.U, Pt.locs, Pt.cells, Pt.slots] at X54 l54 y54 z54 st54 hQ54
  subst l54 y54 z54
  obtain ⟨rfl, N54q, e54⟩ := hQ54
  have N54 := Fr.app N52 N54q
  refine go st54 ?_
  show Go _ p e below s _ _ _ (T54.setTop (mkF m 15 #[.val (.ref a1), .val (.int (1 : Int32))] [(.int (62 : Int32))]))
  refine goRet X54 hx Bd.notSynchronized Bd.returns rfl (Or.inl ⟨rfl, Or.inr (Or.inr (Or.inr (Or.inl rfl))), _, rfl⟩) (hb hby d6_15) (by decide) (by decide) (by rw [e54]; refine ⟨rfl, N54, rfl⟩)
theorem pn_8LESS0 : plainName "java/lang/StringLatin1" = true := by first | (simp [plainName, overriddenIn]; done) | decide +kernel
theorem ef_8LESS0 (m : MethodId) (v1 : Addr) : entryFrame m #[(.ref v1), (.int (0 : Int32))] 2 = mkF m 0 #[.val (.ref v1), .val (.int (0 : Int32))] [] := by first | (simp [entryFrame, mkF, argsToLocals, Value.category]; done) | rfl
def Q8LESS0 (Z : State) (v1 : Addr) (f0 : Value) (k1 : ClassId) (d1 : Value) (h0 : Heap) (n0 : Nat) (v : Option Value) (h : Heap) (L : List Loc) : Prop := v = some (.int (60 : Int32)) ∧ Fr n0 L ∧ (h = h0)
set_option maxRecDepth 65536 in
set_option maxHeartbeats 40000000 in
theorem rm8LESS0 (l : Launch) (Z : State) (a0 : Array Value) (hw : ∀ d ∈ tables_1, d.before a0 Z = true) (ws : List Jvm.Cond) (v1 : Addr) (f0 : Value) (k1 : ClassId) (d1 : Value) (h0 : Heap) (n0 : Nat) (Z0 : n0 ≤ h0.size) (P0 : Sta Z h0 "jdk/internal/util/Preconditions" "SIOOBE_FORMATTER" "Ljava/util/function/BiFunction;" f0) (P1 : Arv Z h0 v1 k1 .byte (1 : Int32) [(.int (60 : Int32))] d1) (hf : f0.isRef = true) :
    MetFree l (⟨"java/lang/StringLatin1", "charAt", "([BI)C"⟩ : MethodName) (head1 (Jvm.Cond.code (⟨"java/lang/StringLatin1", "charAt", "([BI)C"⟩ : MethodName) jdk_43_method_2_code 2 (some .char) :: ws) ({ frames := 2, cells := 0, slots := 0, locals := 27 } : Room)) (fun a U => a = #[(.ref v1), (.int (0 : Int32))] ∧ Z.Warmed39 U.vm ∧ U.heap = h0) (fun _ _ _ _ _ => True) (fun _ U o U' => ∃ v L, o = .returned v ∧ Q8LESS0 Z v1 f0 k1 d1 h0 n0 v U'.heap L ∧ FrameEnd U o U' L ({ frames := 2, cells := 0, slots := 0, locals := 27 } : Room).cells ({ frames := 2, cells := 0, slots := 0, locals := 27 } : Room).slots) := by
  refine MetFree.of_bodySF (plainFor_of_name pn_8LESS0) hisR ?_
  intro p e s m args below meth c s₁ Bd hml0 hP hK
  obtain ⟨rfl, hZ, hh⟩ := hP
  have hx := Bd.exec
  have hby := Bd.bytes
  have hml : c.maxLocals = 2 := hml0
  have hown : s.vm.findClass "java/lang/StringLatin1" = some m.cls := findClass_of_methodNamed Bd.named
  have hnm := (name_of_methodNamed Bd.named Bd.method).1
  have X0 : Stand p l e ({ frames := 2, cells := 0, slots := 0, locals := 27 } : Room) s m #[(.ref v1), (.int (0 : Int32))] below meth c s₁ [] 0 0 := Stand.of_body Bd
  have e0 : s₁.heap = h0 := by rw [← hh, Bd.state]; rfl
  have N0 := Fr.nil n0
  have hS0 : s.Since s.vm 0 := (State.WarmedH.refl s).since 0
  show Go FrameEnd p e below s ({ frames := 2, cells := 0, slots := 0, locals := 27 } : Room).cells ({ frames := 2, cells := 0, slots := 0, locals := 27 } : Room).slots (Q8LESS0 Z v1 f0 k1 d1 h0 n0) (s₁.setTop (entryFrame m #[(.ref v1), (.int (0 : Int32))] 2))
  refine go (fun _ k => castTop (ef_8LESS0 m v1) k) ?_
  show Go _ p e below s _ _ _ (s₁.setTop (mkF m 0 #[.val (.ref v1), .val (.int (0 : Int32))] []))
  refine go (fun _ => XS.iloadN X0.here hx rfl (hb hby d8_0) rfl) ?_
  show Go _ p e below s _ _ _ (s₁.setTop (mkF m 1 #[.val (.ref v1), .val (.int (0 : Int32))] [(.int (0 : Int32))]))
  refine go (fun _ => XS.aloadN X0.here hx rfl (hb hby d8_1) rfl rfl) ?_
  show Go _ p e below s _ _ _ (s₁.setTop (mkF m 2 #[.val (.ref v1), .val (.int (0 : Int32))] [(.ref v1), (.int (0 : Int32))]))
  obtain ⟨cl58, Ar58, -, Sz58, Nz58, -, -⟩ := id P1
  refine go (X0.arraylength hx (by rw [e0]; exact Ar58.1) (State.isArrayOf_alike hZ.alike Ar58.2.1) (g := (mkF m 2 #[.val (.ref v1), .val (.int (0 : Int32))] [(.ref v1), (.int (0 : Int32))])) rfl rfl (hb hby d8_2)) ?_
  rw [len_of Sz58 Nz58]
  show Go _ p e below s _ _ _ (s₁.setTop (mkF m 3 #[.val (.ref v1), .val (.int (0 : Int32))] [(.int (1 : Int32)), (.int (0 : Int32))]))
  obtain ⟨_, _, ⟨T59, L59, k59, n59⟩, -, X59, ⟨Lc59, hQ59, l59, y59, z59⟩, st59⟩ := Jvm.LawKit.callS X0 hx (y := (⟨"java/lang/String", "checkIndex", "(II)V"⟩ : MethodName)) hown (mvT hZ (hw _ (List.mem_of_getElem? (i := 48) rfl))) (mvT hZ (hw _ (List.mem_of_getElem? (i := 49) rfl))) (mvT hZ (hw _ (List.mem_of_getElem? (i := 22) rfl))) (mvT hZ (hw _ (List.mem_of_getElem? (i := 50) rfl))) (by decide) (backOf (W := 0) (rm9 l Z a0 hw [] (0 : Int32) (1 : Int32) f0 h0 n0 Z0 P0 (by decide) (by decide) hf) hZ (hw _ (List.mem_of_getElem? (i := 50) rfl)) (hw _ (List.mem_of_getElem? (i := 22) rfl)) (by decide) (by decide)) (g := (mkF m 3 #[.val (.ref v1), .val (.int (0 : Int32))] [(.int (1 : Int32)), (.int (0 : Int32))])) rfl (by rw [hml]; rfl) (argsL := [(.int (0 : Int32)), (.int (1 : Int32))]) (rest := []) (lenOf pd_8_0 rfl) rfl (by show 2 * 0 + _ ≤ _; exact Nat.le_of_eq rfl) (hb hby d8_3) (fun _ _ => ⟨rfl, e0, (by decide : 0 + 0 ≤ _), (by decide : 0 + 0 ≤ _)⟩)
  dsimp only [Pt.U, Pt.locs, Pt.cells, Pt.slots] at X59 l59 y59 z59 st59 hQ59
  subst l59 y59 z59
  obtain ⟨rfl, N59q, e59⟩ := hQ59
  have N59 := Fr.app N0 N59q
  refine go st59 ?_
  show Go _ p e below s _ _ _ (T59.setTop (mkF m 6 #[.val (.ref v1), .val (.int (0 : Int32))] []))
  refine go (fun _ => XS.aloadN X59.here hx rfl (hb hby d8_6) rfl rfl) ?_
  show Go _ p e below s _ _ _ (T59.setTop (mkF m 7 #[.val (.ref v1), .val (.int (0 : Int32))] [(.ref v1)]))
  refine go (fun _ => XS.iloadN X59.here hx rfl (hb hby d8_7) rfl) ?_
  show Go _ p e below s _ _ _ (T59.setTop (mkF m 8 #[.val (.ref v1), .val (.int (0 : Int32))] [(.int (0 : Int32)), (.ref v1)]))
  obtain ⟨cl60, Ar60, q60, Sz60, Nz60, Hs60, Gs60⟩ := id P1
  have hin60 : ¬ ((0 : Int32) < 0 ∨ cl60.slots.size ≤ ((0 : Int32)).toNatClampNeg) := inb_of Sz60 ⟨by decide, by decide⟩
  refine go (X59.baloadBytes hx (j := (0 : Int32)) (v := (.int (60 : Int32))) (by rw [e59]; exact Ar60.1) (State.isArrayOf_alike hZ.alike Ar60.2.1) Ar60.2.2 hin60 (Hs60.at hin60 rfl) (g := (mkF m 8 #[.val (.ref v1), .val (.int (0 : Int32))] [(.int (0 : Int32)), (.ref v1)])) rfl rfl (hb hby d8_8)) ?_
  show Go _ p e below s _ _ _ (T59.setTop (mkF m 9 #[.val (.ref v1), .val (.int (0 : Int32))] [(.int (60 : Int32))]))
  refine go (fun _ => XS.sipush X59.here hx rfl (hb hby d8_9)) ?_
  show Go _ p e below s _ _ _ (T59.setTop (mkF m 12 #[.val (.ref v1), .val (.int (0 : Int32))] [(.int (255 : Int32)), (.int (60 : Int32))]))
  refine go (fun _ => XS.iand X59.here hx rfl (hb hby d8_12) rfl) ?_
  show Go _ p e below s _ _ _ (T59.setTop (mkF m 13 #[.val (.ref v1), .val (.int (0 : Int32))] [(.int (60 : Int32))]))
  refine go (fun _ => XS.i2c X59.here hx rfl (hb hby d8_13) rfl) ?_
  show Go _ p e below s _ _ _ (T59.setTop (mkF m 14 #[.val (.ref v1), .val (.int (0 : Int32))] [(.int ((60 : Int32).toUInt32.toUInt16.toUInt32.toInt32))]))
  rw [show ((60 : Int32).toUInt32.toUInt16.toUInt32.toInt32) = (60 : Int32) from by decide]
  show Go _ p e below s _ _ _ (T59.setTop (mkF m 14 #[.val (.ref v1), .val (.int (0 : Int32))] [(.int (60 : Int32))]))
  refine goRet X59 hx Bd.notSynchronized Bd.returns rfl (Or.inl ⟨rfl, Or.inr (Or.inr (Or.inr (Or.inl rfl))), _, rfl⟩) (hb hby d8_14) (by decide) (by decide) (by rw [e59]; refine ⟨rfl, N59, rfl⟩)
theorem pn_6LESS0 : plainName "java/lang/String" = true := by first | (simp [plainName, overriddenIn]; done) | decide +kernel
theorem ef_6LESS0 (m : MethodId) (a1 : Addr) : entryFrame m #[(.ref a1), (.int (0 : Int32))] 2 = mkF m 0 #[.val (.ref a1), .val (.int (0 : Int32))] [] := by first | (simp [entryFrame, mkF, argsToLocals, Value.category]; done) | rfl
def Q6LESS0 (Z : State) (a1 : Addr) (w0 : Int32) (f0 : Value) (v1 : Addr) (k1 : ClassId) (d1 : Value) (h0 : Heap) (n0 : Nat) (v : Option Value) (h : Heap) (L : List Loc) : Prop := v = some (.int (60 : Int32)) ∧ Fr n0 L ∧ (h = h0)
set_option maxRecDepth 65536 in
set_option maxHeartbeats 40000000 in
theorem rm6LESS0 (l : Launch) (Z : State) (a0 : Array Value) (hw : ∀ d ∈ tables_1, d.before a0 Z = true) (ws : List Jvm.Cond) (a1 : Addr) (w0 : Int32) (f0 : Value) (v1 : Addr) (k1 : ClassId) (d1 : Value) (h0 : Heap) (n0 : Nat) (Z0 : n0 ≤ h0.size) (P0 : Sta Z h0 "java/lang/String" "COMPACT_STRINGS" "Z" (.int w0)) (P1 : Sta Z h0 "jdk/internal/util/Preconditions" "SIOOBE_FORMATTER" "Ljava/util/function/BiFunction;" f0) (P2 : Exa Z h0 a1 "java/lang/String") (P3 : Fld Z h0 a1 "java/lang/String" "coder" "B" (.int (0 : Int32))) (P4 : Fld Z h0 a1 "java/lang/String" "value" "[B" (.ref v1)) (P5 : Arv Z h0 v1 k1 .byte (1 : Int32) [(.int (60 : Int32))] d1) (hw0 : ¬ w0 = 0) (hf : f0.isRef = true) :
    MetFree l (⟨"java/lang/String", "charAt", "(I)C"⟩ : MethodName) (head1 (Jvm.Cond.code (⟨"java/lang/String", "charAt", "(I)C"⟩ : MethodName) jdk_42_method_56_code 2 (some .char) :: ws) ({ frames := 3, cells := 0, slots := 0, locals := 40 } : Room)) (fun a U => a = #[(.ref a1), (.int (0 : Int32))] ∧ Z.Warmed39 U.vm ∧ U.heap = h0) (fun _ _ _ _ _ => True) (fun _ U o U' => ∃ v L, o = .returned v ∧ Q6LESS0 Z a1 w0 f0 v1 k1 d1 h0 n0 v U'.heap L ∧ FrameEnd U o U' L ({ frames := 3, cells := 0, slots := 0, locals := 40 } : Room).cells ({ frames := 3, cells := 0, slots := 0, locals := 40 } : Room).slots) := by
  refine MetFree.of_bodySF (plainFor_of_name pn_6LESS0) hisR ?_
  intro p e s m args below meth c s₁ Bd hml0 hP hK
  obtain ⟨rfl, hZ, hh⟩ := hP
  have hx := Bd.exec
  have hby := Bd.bytes
  have hml : c.maxLocals = 2 := hml0
  have hown : s.vm.findClass "java/lang/String" = some m.cls := findClass_of_methodNamed Bd.named
  have hnm := (name_of_methodNamed Bd.named Bd.method).1
  have X0 : Stand p l e ({ frames := 3, cells := 0, slots := 0, locals := 40 } : Room) s m #[(.ref a1), (.int (0 : Int32))] below meth c s₁ [] 0 0 := Stand.of_body Bd
  have e0 : s₁.heap = h0 := by rw [← hh, Bd.state]; rfl
  have N0 := Fr.nil n0
  have hS0 : s.Since s.vm 0 := (State.WarmedH.refl s).since 0
  show Go FrameEnd p e below s ({ frames := 3, cells := 0, slots := 0, locals := 40 } : Room).cells ({ frames := 3, cells := 0, slots := 0, locals := 40 } : Room).slots (Q6LESS0 Z a1 w0 f0 v1 k1 d1 h0 n0) (s₁.setTop (entryFrame m #[(.ref a1), (.int (0 : Int32))] 2))
  refine go (fun _ k => castTop (ef_6LESS0 m a1) k) ?_
  show Go _ p e below s _ _ _ (s₁.setTop (mkF m 0 #[.val (.ref a1), .val (.int (0 : Int32))] []))
  refine go (fun _ => XS.aloadN X0.here hx rfl (hb hby d6_0) rfl rfl) ?_
  show Go _ p e below s _ _ _ (s₁.setTop (mkF m 1 #[.val (.ref a1), .val (.int (0 : Int32))] [(.ref a1)]))
  obtain ⟨cq64, kq64, q64a, q64b, q64c⟩ := isOf hZ e0 P2
  obtain ⟨_, _, ⟨T64, L64, k64, n64⟩, -, X64, ⟨Lc64, hQ64, l64, y64, z64⟩, st64⟩ := X0.virtualBack hx (y := (⟨"java/lang/String", "isLatin1", "()Z"⟩ : MethodName)) (z := (⟨"java/lang/String", "isLatin1", "()Z"⟩ : MethodName)) hown (mvT hZ (hw _ (List.mem_of_getElem? (i := 39) rfl))) (mvT hZ (hw _ (List.mem_of_getElem? (i := 40) rfl))) (notFace_of_selects (args := #[]) (mvT hZ (hw _ (List.mem_of_getElem? (i := 42) rfl)))) (mvT hZ (hw _ (List.mem_of_getElem? (i := 42) rfl))) (mvT hZ (hw _ (List.mem_of_getElem? (i := 41) rfl))) (by decide) (backOf (W := 0) (rm7 l Z a0 hw [] a1 w0 h0 n0 Z0 P0 P3 hw0) hZ (hw _ (List.mem_of_getElem? (i := 43) rfl)) (hw _ (List.mem_of_getElem? (i := 22) rfl)) (by decide) (by decide)) q64a q64c (g := (mkF m 1 #[.val (.ref a1), .val (.int (0 : Int32))] [(.ref a1)])) rfl (by rw [hml]; rfl) (Steps.refl _) (argsL := []) (rest := []) (lenOf pd_6_0 rfl) rfl (by show 2 * 0 + _ ≤ _; exact Nat.le_of_eq rfl) (hb hby d6_1) (fun _ _ => ⟨rfl, e0, (by decide : 0 + 0 ≤ _), (by decide : 0 + 0 ≤ _)⟩)
  dsimp only [Pt.U, Pt.locs, Pt.cells, Pt.slots] at X64 l64 y64 z64 st64 hQ64
  subst l64 y64 z64
  obtain ⟨rfl, N64q, e64⟩ := hQ64
  have N64 := Fr.app N0 N64q
  refine goT st64 ?_
  show Go _ p e below s _ _ _ (T64.setTop (mkF m 4 #[.val (.ref a1), .val (.int (0 : Int32))] [(.int (1 : Int32))]))
  refine go (fun _ => XS.ifNo X64.here hx rfl (hb hby d6_4) rfl ((if0 _ _).trans (feq (by decide : ¬ ((1 : Int32) = (0 : Int32)))).1)) ?_
  show Go _ p e below s _ _ _ (T64.setTop (mkF m 7 #[.val (.ref a1), .val (.int (0 : Int32))] []))
  refine go (fun _ => XS.aloadN X64.here hx rfl (hb hby d6_7) rfl rfl) ?_
  show Go _ p e below s _ _ _ (T64.setTop (mkF m 8 #[.val (.ref a1), .val (.int (0 : Int32))] [(.ref a1)]))
  obtain ⟨T65, X65, e65, st65⟩ := getF X64 hx hZ hown (host := "") (Or.inl (hw _ (List.mem_of_getElem? (i := 24) rfl))) Via.refl e64 P4 (g := (mkF m 8 #[.val (.ref a1), .val (.int (0 : Int32))] [(.ref a1)])) rfl rfl (hb hby d6_8)
  refine go st65 ?_
  show Go _ p e below s _ _ _ (T65.setTop (mkF m 11 #[.val (.ref a1), .val (.int (0 : Int32))] [(.ref v1)]))
  refine go (fun _ => XS.iloadN X65.here hx rfl (hb hby d6_11) rfl) ?_
  show Go _ p e below s _ _ _ (T65.setTop (mkF m 12 #[.val (.ref a1), .val (.int (0 : Int32))] [(.int (0 : Int32)), (.ref v1)]))
  obtain ⟨_, _, ⟨T66, L66, k66, n66⟩, -, X66, ⟨Lc66, hQ66, l66, y66, z66⟩, st66⟩ := Jvm.LawKit.callS X65 hx (y := (⟨"java/lang/StringLatin1", "charAt", "([BI)C"⟩ : MethodName)) hown (mvT hZ (hw _ (List.mem_of_getElem? (i := 44) rfl))) (mvT hZ (hw _ (List.mem_of_getElem? (i := 45) rfl))) (mvT hZ (hw _ (List.mem_of_getElem? (i := 46) rfl))) (mvT hZ (hw _ (List.mem_of_getElem? (i := 47) rfl))) (by decide) (backOf (W := 0) (rm8LESS0 l Z a0 hw [] v1 f0 k1 d1 h0 n0 Z0 P1 P5 hf) hZ (hw _ (List.mem_of_getElem? (i := 47) rfl)) (hw _ (List.mem_of_getElem? (i := 46) rfl)) (by decide) (by decide)) (g := (mkF m 12 #[.val (.ref a1), .val (.int (0 : Int32))] [(.int (0 : Int32)), (.ref v1)])) rfl (by rw [hml]; rfl) (argsL := [(.ref v1), (.int (0 : Int32))]) (rest := []) (lenOf pd_6_1 rfl) rfl (by show 2 * 0 + _ ≤ _; exact Nat.le_of_eq rfl) (hb hby d6_12) (fun _ _ => ⟨rfl, e65, (by decide : 0 + 0 ≤ _), (by decide : 0 + 0 ≤ _)⟩)
  dsimp only [Pt.U, Pt.locs, Pt.cells, Pt.slots] at X66 l66 y66 z66 st66 hQ66
  subst l66 y66 z66
  obtain ⟨rfl, N66q, e66⟩ := hQ66
  have N66 := Fr.app N64 N66q
  refine go st66 ?_
  show Go _ p e below s _ _ _ (T66.setTop (mkF m 15 #[.val (.ref a1), .val (.int (0 : Int32))] [(.int (60 : Int32))]))
  refine goRet X66 hx Bd.notSynchronized Bd.returns rfl (Or.inl ⟨rfl, Or.inr (Or.inr (Or.inr (Or.inl rfl))), _, rfl⟩) (hb hby d6_15) (by decide) (by decide) (by rw [e66]; refine ⟨rfl, N66, rfl⟩)
theorem pn_8AT_MOST0 : plainName "java/lang/StringLatin1" = true := by first | (simp [plainName, overriddenIn]; done) | decide +kernel
theorem ef_8AT_MOST0 (m : MethodId) (v1 : Addr) : entryFrame m #[(.ref v1), (.int (0 : Int32))] 2 = mkF m 0 #[.val (.ref v1), .val (.int (0 : Int32))] [] := by first | (simp [entryFrame, mkF, argsToLocals, Value.category]; done) | rfl
def Q8AT_MOST0 (Z : State) (v1 : Addr) (f0 : Value) (k1 : ClassId) (d1 : Value) (h0 : Heap) (n0 : Nat) (v : Option Value) (h : Heap) (L : List Loc) : Prop := v = some (.int (60 : Int32)) ∧ Fr n0 L ∧ (h = h0)
set_option maxRecDepth 65536 in
set_option maxHeartbeats 40000000 in
theorem rm8AT_MOST0 (l : Launch) (Z : State) (a0 : Array Value) (hw : ∀ d ∈ tables_1, d.before a0 Z = true) (ws : List Jvm.Cond) (v1 : Addr) (f0 : Value) (k1 : ClassId) (d1 : Value) (h0 : Heap) (n0 : Nat) (Z0 : n0 ≤ h0.size) (P0 : Sta Z h0 "jdk/internal/util/Preconditions" "SIOOBE_FORMATTER" "Ljava/util/function/BiFunction;" f0) (P1 : Arv Z h0 v1 k1 .byte (2 : Int32) [(.int (60 : Int32)), (.int (61 : Int32))] d1) (hf : f0.isRef = true) :
    MetFree l (⟨"java/lang/StringLatin1", "charAt", "([BI)C"⟩ : MethodName) (head1 (Jvm.Cond.code (⟨"java/lang/StringLatin1", "charAt", "([BI)C"⟩ : MethodName) jdk_43_method_2_code 2 (some .char) :: ws) ({ frames := 2, cells := 0, slots := 0, locals := 27 } : Room)) (fun a U => a = #[(.ref v1), (.int (0 : Int32))] ∧ Z.Warmed39 U.vm ∧ U.heap = h0) (fun _ _ _ _ _ => True) (fun _ U o U' => ∃ v L, o = .returned v ∧ Q8AT_MOST0 Z v1 f0 k1 d1 h0 n0 v U'.heap L ∧ FrameEnd U o U' L ({ frames := 2, cells := 0, slots := 0, locals := 27 } : Room).cells ({ frames := 2, cells := 0, slots := 0, locals := 27 } : Room).slots) := by
  refine MetFree.of_bodySF (plainFor_of_name pn_8AT_MOST0) hisR ?_
  intro p e s m args below meth c s₁ Bd hml0 hP hK
  obtain ⟨rfl, hZ, hh⟩ := hP
  have hx := Bd.exec
  have hby := Bd.bytes
  have hml : c.maxLocals = 2 := hml0
  have hown : s.vm.findClass "java/lang/StringLatin1" = some m.cls := findClass_of_methodNamed Bd.named
  have hnm := (name_of_methodNamed Bd.named Bd.method).1
  have X0 : Stand p l e ({ frames := 2, cells := 0, slots := 0, locals := 27 } : Room) s m #[(.ref v1), (.int (0 : Int32))] below meth c s₁ [] 0 0 := Stand.of_body Bd
  have e0 : s₁.heap = h0 := by rw [← hh, Bd.state]; rfl
  have N0 := Fr.nil n0
  have hS0 : s.Since s.vm 0 := (State.WarmedH.refl s).since 0
  show Go FrameEnd p e below s ({ frames := 2, cells := 0, slots := 0, locals := 27 } : Room).cells ({ frames := 2, cells := 0, slots := 0, locals := 27 } : Room).slots (Q8AT_MOST0 Z v1 f0 k1 d1 h0 n0) (s₁.setTop (entryFrame m #[(.ref v1), (.int (0 : Int32))] 2))
  refine go (fun _ k => castTop (ef_8AT_MOST0 m v1) k) ?_
  show Go _ p e below s _ _ _ (s₁.setTop (mkF m 0 #[.val (.ref v1), .val (.int (0 : Int32))] []))
  refine go (fun _ => XS.iloadN X0.here hx rfl (hb hby d8_0) rfl) ?_
  show Go _ p e below s _ _ _ (s₁.setTop (mkF m 1 #[.val (.ref v1), .val (.int (0 : Int32))] [(.int (0 : Int32))]))
  refine go (fun _ => XS.aloadN X0.here hx rfl (hb hby d8_1) rfl rfl) ?_
  show Go _ p e below s _ _ _ (s₁.setTop (mkF m 2 #[.val (.ref v1), .val (.int (0 : Int32))] [(.ref v1), (.int (0 : Int32))]))
  obtain ⟨cl70, Ar70, -, Sz70, Nz70, -, -⟩ := id P1
  refine go (X0.arraylength hx (by rw [e0]; exact Ar70.1) (State.isArrayOf_alike hZ.alike Ar70.2.1) (g := (mkF m 2 #[.val (.ref v1), .val (.int (0 : Int32))] [(.ref v1), (.int (0 : Int32))])) rfl rfl (hb hby d8_2)) ?_
  rw [len_of Sz70 Nz70]
  show Go _ p e below s _ _ _ (s₁.setTop (mkF m 3 #[.val (.ref v1), .val (.int (0 : Int32))] [(.int (2 : Int32)), (.int (0 : Int32))]))
  obtain ⟨_, _, ⟨T71, L71, k71, n71⟩, -, X71, ⟨Lc71, hQ71, l71, y71, z71⟩, st71⟩ := Jvm.LawKit.callS X0 hx (y := (⟨"java/lang/String", "checkIndex", "(II)V"⟩ : MethodName)) hown (mvT hZ (hw _ (List.mem_of_getElem? (i := 48) rfl))) (mvT hZ (hw _ (List.mem_of_getElem? (i := 49) rfl))) (mvT hZ (hw _ (List.mem_of_getElem? (i := 22) rfl))) (mvT hZ (hw _ (List.mem_of_getElem? (i := 50) rfl))) (by decide) (backOf (W := 0) (rm9 l Z a0 hw [] (0 : Int32) (2 : Int32) f0 h0 n0 Z0 P0 (by decide) (by decide) hf) hZ (hw _ (List.mem_of_getElem? (i := 50) rfl)) (hw _ (List.mem_of_getElem? (i := 22) rfl)) (by decide) (by decide)) (g := (mkF m 3 #[.val (.ref v1), .val (.int (0 : Int32))] [(.int (2 : Int32)), (.int (0 : Int32))])) rfl (by rw [hml]; rfl) (argsL := [(.int (0 : Int32)), (.int (2 : Int32))]) (rest := []) (lenOf pd_8_0 rfl) rfl (by show 2 * 0 + _ ≤ _; exact Nat.le_of_eq rfl) (hb hby d8_3) (fun _ _ => ⟨rfl, e0, (by decide : 0 + 0 ≤ _), (by decide : 0 + 0 ≤ _)⟩)
  dsimp only [Pt.U, Pt.locs, Pt.cells, Pt.slots] at X71 l71 y71 z71 st71 hQ71
  subst l71 y71 z71
  obtain ⟨rfl, N71q, e71⟩ := hQ71
  have N71 := Fr.app N0 N71q
  refine go st71 ?_
  show Go _ p e below s _ _ _ (T71.setTop (mkF m 6 #[.val (.ref v1), .val (.int (0 : Int32))] []))
  refine go (fun _ => XS.aloadN X71.here hx rfl (hb hby d8_6) rfl rfl) ?_
  show Go _ p e below s _ _ _ (T71.setTop (mkF m 7 #[.val (.ref v1), .val (.int (0 : Int32))] [(.ref v1)]))
  refine go (fun _ => XS.iloadN X71.here hx rfl (hb hby d8_7) rfl) ?_
  show Go _ p e below s _ _ _ (T71.setTop (mkF m 8 #[.val (.ref v1), .val (.int (0 : Int32))] [(.int (0 : Int32)), (.ref v1)]))
  obtain ⟨cl72, Ar72, q72, Sz72, Nz72, Hs72, Gs72⟩ := id P1
  have hin72 : ¬ ((0 : Int32) < 0 ∨ cl72.slots.size ≤ ((0 : Int32)).toNatClampNeg) := inb_of Sz72 ⟨by decide, by decide⟩
  refine go (X71.baloadBytes hx (j := (0 : Int32)) (v := (.int (60 : Int32))) (by rw [e71]; exact Ar72.1) (State.isArrayOf_alike hZ.alike Ar72.2.1) Ar72.2.2 hin72 (Hs72.at hin72 rfl) (g := (mkF m 8 #[.val (.ref v1), .val (.int (0 : Int32))] [(.int (0 : Int32)), (.ref v1)])) rfl rfl (hb hby d8_8)) ?_
  show Go _ p e below s _ _ _ (T71.setTop (mkF m 9 #[.val (.ref v1), .val (.int (0 : Int32))] [(.int (60 : Int32))]))
  refine go (fun _ => XS.sipush X71.here hx rfl (hb hby d8_9)) ?_
  show Go _ p e below s _ _ _ (T71.setTop (mkF m 12 #[.val (.ref v1), .val (.int (0 : Int32))] [(.int (255 : Int32)), (.int (60 : Int32))]))
  refine go (fun _ => XS.iand X71.here hx rfl (hb hby d8_12) rfl) ?_
  show Go _ p e below s _ _ _ (T71.setTop (mkF m 13 #[.val (.ref v1), .val (.int (0 : Int32))] [(.int (60 : Int32))]))
  refine go (fun _ => XS.i2c X71.here hx rfl (hb hby d8_13) rfl) ?_
  show Go _ p e below s _ _ _ (T71.setTop (mkF m 14 #[.val (.ref v1), .val (.int (0 : Int32))] [(.int ((60 : Int32).toUInt32.toUInt16.toUInt32.toInt32))]))
  rw [show ((60 : Int32).toUInt32.toUInt16.toUInt32.toInt32) = (60 : Int32) from by decide]
  show Go _ p e below s _ _ _ (T71.setTop (mkF m 14 #[.val (.ref v1), .val (.int (0 : Int32))] [(.int (60 : Int32))]))
  refine goRet X71 hx Bd.notSynchronized Bd.returns rfl (Or.inl ⟨rfl, Or.inr (Or.inr (Or.inr (Or.inl rfl))), _, rfl⟩) (hb hby d8_14) (by decide) (by decide) (by rw [e71]; refine ⟨rfl, N71, rfl⟩)
theorem pn_6AT_MOST0 : plainName "java/lang/String" = true := by first | (simp [plainName, overriddenIn]; done) | decide +kernel
theorem ef_6AT_MOST0 (m : MethodId) (a1 : Addr) : entryFrame m #[(.ref a1), (.int (0 : Int32))] 2 = mkF m 0 #[.val (.ref a1), .val (.int (0 : Int32))] [] := by first | (simp [entryFrame, mkF, argsToLocals, Value.category]; done) | rfl
def Q6AT_MOST0 (Z : State) (a1 : Addr) (w0 : Int32) (f0 : Value) (v1 : Addr) (k1 : ClassId) (d1 : Value) (h0 : Heap) (n0 : Nat) (v : Option Value) (h : Heap) (L : List Loc) : Prop := v = some (.int (60 : Int32)) ∧ Fr n0 L ∧ (h = h0)
set_option maxRecDepth 65536 in
set_option maxHeartbeats 40000000 in
theorem rm6AT_MOST0 (l : Launch) (Z : State) (a0 : Array Value) (hw : ∀ d ∈ tables_1, d.before a0 Z = true) (ws : List Jvm.Cond) (a1 : Addr) (w0 : Int32) (f0 : Value) (v1 : Addr) (k1 : ClassId) (d1 : Value) (h0 : Heap) (n0 : Nat) (Z0 : n0 ≤ h0.size) (P0 : Sta Z h0 "java/lang/String" "COMPACT_STRINGS" "Z" (.int w0)) (P1 : Sta Z h0 "jdk/internal/util/Preconditions" "SIOOBE_FORMATTER" "Ljava/util/function/BiFunction;" f0) (P2 : Exa Z h0 a1 "java/lang/String") (P3 : Fld Z h0 a1 "java/lang/String" "coder" "B" (.int (0 : Int32))) (P4 : Fld Z h0 a1 "java/lang/String" "value" "[B" (.ref v1)) (P5 : Arv Z h0 v1 k1 .byte (2 : Int32) [(.int (60 : Int32)), (.int (61 : Int32))] d1) (hw0 : ¬ w0 = 0) (hf : f0.isRef = true) :
    MetFree l (⟨"java/lang/String", "charAt", "(I)C"⟩ : MethodName) (head1 (Jvm.Cond.code (⟨"java/lang/String", "charAt", "(I)C"⟩ : MethodName) jdk_42_method_56_code 2 (some .char) :: ws) ({ frames := 3, cells := 0, slots := 0, locals := 40 } : Room)) (fun a U => a = #[(.ref a1), (.int (0 : Int32))] ∧ Z.Warmed39 U.vm ∧ U.heap = h0) (fun _ _ _ _ _ => True) (fun _ U o U' => ∃ v L, o = .returned v ∧ Q6AT_MOST0 Z a1 w0 f0 v1 k1 d1 h0 n0 v U'.heap L ∧ FrameEnd U o U' L ({ frames := 3, cells := 0, slots := 0, locals := 40 } : Room).cells ({ frames := 3, cells := 0, slots := 0, locals := 40 } : Room).slots) := by
  refine MetFree.of_bodySF (plainFor_of_name pn_6AT_MOST0) hisR ?_
  intro p e s m args below meth c s₁ Bd hml0 hP hK
  obtain ⟨rfl, hZ, hh⟩ := hP
  have hx := Bd.exec
  have hby := Bd.bytes
  have hml : c.maxLocals = 2 := hml0
  have hown : s.vm.findClass "java/lang/String" = some m.cls := findClass_of_methodNamed Bd.named
  have hnm := (name_of_methodNamed Bd.named Bd.method).1
  have X0 : Stand p l e ({ frames := 3, cells := 0, slots := 0, locals := 40 } : Room) s m #[(.ref a1), (.int (0 : Int32))] below meth c s₁ [] 0 0 := Stand.of_body Bd
  have e0 : s₁.heap = h0 := by rw [← hh, Bd.state]; rfl
  have N0 := Fr.nil n0
  have hS0 : s.Since s.vm 0 := (State.WarmedH.refl s).since 0
  show Go FrameEnd p e below s ({ frames := 3, cells := 0, slots := 0, locals := 40 } : Room).cells ({ frames := 3, cells := 0, slots := 0, locals := 40 } : Room).slots (Q6AT_MOST0 Z a1 w0 f0 v1 k1 d1 h0 n0) (s₁.setTop (entryFrame m #[(.ref a1), (.int (0 : Int32))] 2))
  refine go (fun _ k => castTop (ef_6AT_MOST0 m a1) k) ?_
  show Go _ p e below s _ _ _ (s₁.setTop (mkF m 0 #[.val (.ref a1), .val (.int (0 : Int32))] []))
  refine go (fun _ => XS.aloadN X0.here hx rfl (hb hby d6_0) rfl rfl) ?_
  show Go _ p e below s _ _ _ (s₁.setTop (mkF m 1 #[.val (.ref a1), .val (.int (0 : Int32))] [(.ref a1)]))
  obtain ⟨cq76, kq76, q76a, q76b, q76c⟩ := isOf hZ e0 P2
  obtain ⟨_, _, ⟨T76, L76, k76, n76⟩, -, X76, ⟨Lc76, hQ76, l76, y76, z76⟩, st76⟩ := X0.virtualBack hx (y := (⟨"java/lang/String", "isLatin1", "()Z"⟩ : MethodName)) (z := (⟨"java/lang/String", "isLatin1", "()Z"⟩ : MethodName)) hown (mvT hZ (hw _ (List.mem_of_getElem? (i := 39) rfl))) (mvT hZ (hw _ (List.mem_of_getElem? (i := 40) rfl))) (notFace_of_selects (args := #[]) (mvT hZ (hw _ (List.mem_of_getElem? (i := 42) rfl)))) (mvT hZ (hw _ (List.mem_of_getElem? (i := 42) rfl))) (mvT hZ (hw _ (List.mem_of_getElem? (i := 41) rfl))) (by decide) (backOf (W := 0) (rm7 l Z a0 hw [] a1 w0 h0 n0 Z0 P0 P3 hw0) hZ (hw _ (List.mem_of_getElem? (i := 43) rfl)) (hw _ (List.mem_of_getElem? (i := 22) rfl)) (by decide) (by decide)) q76a q76c (g := (mkF m 1 #[.val (.ref a1), .val (.int (0 : Int32))] [(.ref a1)])) rfl (by rw [hml]; rfl) (Steps.refl _) (argsL := []) (rest := []) (lenOf pd_6_0 rfl) rfl (by show 2 * 0 + _ ≤ _; exact Nat.le_of_eq rfl) (hb hby d6_1) (fun _ _ => ⟨rfl, e0, (by decide : 0 + 0 ≤ _), (by decide : 0 + 0 ≤ _)⟩)
  dsimp only [Pt.U, Pt.locs, Pt.cells, Pt.slots] at X76 l76 y76 z76 st76 hQ76
  subst l76 y76 z76
  obtain ⟨rfl, N76q, e76⟩ := hQ76
  have N76 := Fr.app N0 N76q
  refine goT st76 ?_
  show Go _ p e below s _ _ _ (T76.setTop (mkF m 4 #[.val (.ref a1), .val (.int (0 : Int32))] [(.int (1 : Int32))]))
  refine go (fun _ => XS.ifNo X76.here hx rfl (hb hby d6_4) rfl ((if0 _ _).trans (feq (by decide : ¬ ((1 : Int32) = (0 : Int32)))).1)) ?_
  show Go _ p e below s _ _ _ (T76.setTop (mkF m 7 #[.val (.ref a1), .val (.int (0 : Int32))] []))
  refine go (fun _ => XS.aloadN X76.here hx rfl (hb hby d6_7) rfl rfl) ?_
  show Go _ p e below s _ _ _ (T76.setTop (mkF m 8 #[.val (.ref a1), .val (.int (0 : Int32))] [(.ref a1)]))
  obtain ⟨T77, X77, e77, st77⟩ := getF X76 hx hZ hown (host := "") (Or.inl (hw _ (List.mem_of_getElem? (i := 24) rfl))) Via.refl e76 P4 (g := (mkF m 8 #[.val (.ref a1), .val (.int (0 : Int32))] [(.ref a1)])) rfl rfl (hb hby d6_8)
  refine go st77 ?_
  show Go _ p e below s _ _ _ (T77.setTop (mkF m 11 #[.val (.ref a1), .val (.int (0 : Int32))] [(.ref v1)]))
  refine go (fun _ => XS.iloadN X77.here hx rfl (hb hby d6_11) rfl) ?_
  show Go _ p e below s _ _ _ (T77.setTop (mkF m 12 #[.val (.ref a1), .val (.int (0 : Int32))] [(.int (0 : Int32)), (.ref v1)]))
  obtain ⟨_, _, ⟨T78, L78, k78, n78⟩, -, X78, ⟨Lc78, hQ78, l78, y78, z78⟩, st78⟩ := Jvm.LawKit.callS X77 hx (y := (⟨"java/lang/StringLatin1", "charAt", "([BI)C"⟩ : MethodName)) hown (mvT hZ (hw _ (List.mem_of_getElem? (i := 44) rfl))) (mvT hZ (hw _ (List.mem_of_getElem? (i := 45) rfl))) (mvT hZ (hw _ (List.mem_of_getElem? (i := 46) rfl))) (mvT hZ (hw _ (List.mem_of_getElem? (i := 47) rfl))) (by decide) (backOf (W := 0) (rm8AT_MOST0 l Z a0 hw [] v1 f0 k1 d1 h0 n0 Z0 P1 P5 hf) hZ (hw _ (List.mem_of_getElem? (i := 47) rfl)) (hw _ (List.mem_of_getElem? (i := 46) rfl)) (by decide) (by decide)) (g := (mkF m 12 #[.val (.ref a1), .val (.int (0 : Int32))] [(.int (0 : Int32)), (.ref v1)])) rfl (by rw [hml]; rfl) (argsL := [(.ref v1), (.int (0 : Int32))]) (rest := []) (lenOf pd_6_1 rfl) rfl (by show 2 * 0 + _ ≤ _; exact Nat.le_of_eq rfl) (hb hby d6_12) (fun _ _ => ⟨rfl, e77, (by decide : 0 + 0 ≤ _), (by decide : 0 + 0 ≤ _)⟩)
  dsimp only [Pt.U, Pt.locs, Pt.cells, Pt.slots] at X78 l78 y78 z78 st78 hQ78
  subst l78 y78 z78
  obtain ⟨rfl, N78q, e78⟩ := hQ78
  have N78 := Fr.app N76 N78q
  refine go st78 ?_
  show Go _ p e below s _ _ _ (T78.setTop (mkF m 15 #[.val (.ref a1), .val (.int (0 : Int32))] [(.int (60 : Int32))]))
  refine goRet X78 hx Bd.notSynchronized Bd.returns rfl (Or.inl ⟨rfl, Or.inr (Or.inr (Or.inr (Or.inl rfl))), _, rfl⟩) (hb hby d6_15) (by decide) (by decide) (by rw [e78]; refine ⟨rfl, N78, rfl⟩)
theorem pn_8AT_MOST1 : plainName "java/lang/StringLatin1" = true := by first | (simp [plainName, overriddenIn]; done) | decide +kernel
theorem ef_8AT_MOST1 (m : MethodId) (v1 : Addr) : entryFrame m #[(.ref v1), (.int (1 : Int32))] 2 = mkF m 0 #[.val (.ref v1), .val (.int (1 : Int32))] [] := by first | (simp [entryFrame, mkF, argsToLocals, Value.category]; done) | rfl
def Q8AT_MOST1 (Z : State) (v1 : Addr) (f0 : Value) (k1 : ClassId) (d1 : Value) (h0 : Heap) (n0 : Nat) (v : Option Value) (h : Heap) (L : List Loc) : Prop := v = some (.int (61 : Int32)) ∧ Fr n0 L ∧ (h = h0)
set_option maxRecDepth 65536 in
set_option maxHeartbeats 40000000 in
theorem rm8AT_MOST1 (l : Launch) (Z : State) (a0 : Array Value) (hw : ∀ d ∈ tables_1, d.before a0 Z = true) (ws : List Jvm.Cond) (v1 : Addr) (f0 : Value) (k1 : ClassId) (d1 : Value) (h0 : Heap) (n0 : Nat) (Z0 : n0 ≤ h0.size) (P0 : Sta Z h0 "jdk/internal/util/Preconditions" "SIOOBE_FORMATTER" "Ljava/util/function/BiFunction;" f0) (P1 : Arv Z h0 v1 k1 .byte (2 : Int32) [(.int (60 : Int32)), (.int (61 : Int32))] d1) (hf : f0.isRef = true) :
    MetFree l (⟨"java/lang/StringLatin1", "charAt", "([BI)C"⟩ : MethodName) (head1 (Jvm.Cond.code (⟨"java/lang/StringLatin1", "charAt", "([BI)C"⟩ : MethodName) jdk_43_method_2_code 2 (some .char) :: ws) ({ frames := 2, cells := 0, slots := 0, locals := 27 } : Room)) (fun a U => a = #[(.ref v1), (.int (1 : Int32))] ∧ Z.Warmed39 U.vm ∧ U.heap = h0) (fun _ _ _ _ _ => True) (fun _ U o U' => ∃ v L, o = .returned v ∧ Q8AT_MOST1 Z v1 f0 k1 d1 h0 n0 v U'.heap L ∧ FrameEnd U o U' L ({ frames := 2, cells := 0, slots := 0, locals := 27 } : Room).cells ({ frames := 2, cells := 0, slots := 0, locals := 27 } : Room).slots) := by
  refine MetFree.of_bodySF (plainFor_of_name pn_8AT_MOST1) hisR ?_
  intro p e s m args below meth c s₁ Bd hml0 hP hK
  obtain ⟨rfl, hZ, hh⟩ := hP
  have hx := Bd.exec
  have hby := Bd.bytes
  have hml : c.maxLocals = 2 := hml0
  have hown : s.vm.findClass "java/lang/StringLatin1" = some m.cls := findClass_of_methodNamed Bd.named
  have hnm := (name_of_methodNamed Bd.named Bd.method).1
  have X0 : Stand p l e ({ frames := 2, cells := 0, slots := 0, locals := 27 } : Room) s m #[(.ref v1), (.int (1 : Int32))] below meth c s₁ [] 0 0 := Stand.of_body Bd
  have e0 : s₁.heap = h0 := by rw [← hh, Bd.state]; rfl
  have N0 := Fr.nil n0
  have hS0 : s.Since s.vm 0 := (State.WarmedH.refl s).since 0
  show Go FrameEnd p e below s ({ frames := 2, cells := 0, slots := 0, locals := 27 } : Room).cells ({ frames := 2, cells := 0, slots := 0, locals := 27 } : Room).slots (Q8AT_MOST1 Z v1 f0 k1 d1 h0 n0) (s₁.setTop (entryFrame m #[(.ref v1), (.int (1 : Int32))] 2))
  refine go (fun _ k => castTop (ef_8AT_MOST1 m v1) k) ?_
  show Go _ p e below s _ _ _ (s₁.setTop (mkF m 0 #[.val (.ref v1), .val (.int (1 : Int32))] []))
  refine go (fun _ => XS.iloadN X0.here hx rfl (hb hby d8_0) rfl) ?_
  show Go _ p e below s _ _ _ (s₁.setTop (mkF m 1 #[.val (.ref v1), .val (.int (1 : Int32))] [(.int (1 : Int32))]))
  refine go (fun _ => XS.aloadN X0.here hx rfl (hb hby d8_1) rfl rfl) ?_
  show Go _ p e below s _ _ _ (s₁.setTop (mkF m 2 #[.val (.ref v1), .val (.int (1 : Int32))] [(.ref v1), (.int (1 : Int32))]))
  obtain ⟨cl82, Ar82, -, Sz82, Nz82, -, -⟩ := id P1
  refine go (X0.arraylength hx (by rw [e0]; exact Ar82.1) (State.isArrayOf_alike hZ.alike Ar82.2.1) (g := (mkF m 2 #[.val (.ref v1), .val (.int (1 : Int32))] [(.ref v1), (.int (1 : Int32))])) rfl rfl (hb hby d8_2)) ?_
  rw [len_of Sz82 Nz82]
  show Go _ p e below s _ _ _ (s₁.setTop (mkF m 3 #[.val (.ref v1), .val (.int (1 : Int32))] [(.int (2 : Int32)), (.int (1 : Int32))]))
  obtain ⟨_, _, ⟨T83, L83, k83, n83⟩, -, X83, ⟨Lc83, hQ83, l83, y83, z83⟩, st83⟩ := Jvm.LawKit.callS X0 hx (y := (⟨"java/lang/String", "checkIndex", "(II)V"⟩ : MethodName)) hown (mvT hZ (hw _ (List.mem_of_getElem? (i := 48) rfl))) (mvT hZ (hw _ (List.mem_of_getElem? (i := 49) rfl))) (mvT hZ (hw _ (List.mem_of_getElem? (i := 22) rfl))) (mvT hZ (hw _ (List.mem_of_getElem? (i := 50) rfl))) (by decide) (backOf (W := 0) (rm9 l Z a0 hw [] (1 : Int32) (2 : Int32) f0 h0 n0 Z0 P0 (by decide) (by decide) hf) hZ (hw _ (List.mem_of_getElem? (i := 50) rfl)) (hw _ (List.mem_of_getElem? (i := 22) rfl)) (by decide) (by decide)) (g := (mkF m 3 #[.val (.ref v1), .val (.int (1 : Int32))] [(.int (2 : Int32)), (.int (1 : Int32))])) rfl (by rw [hml]; rfl) (argsL := [(.int (1 : Int32)), (.int (2 : Int32))]) (rest := []) (lenOf pd_8_0 rfl) rfl (by show 2 * 0 + _ ≤ _; exact Nat.le_of_eq rfl) (hb hby d8_3) (fun _ _ => ⟨rfl, e0, (by decide : 0 + 0 ≤ _), (by decide : 0 + 0 ≤ _)⟩)
  dsimp only [Pt.U, Pt.locs, Pt.cells, Pt.slots] at X83 l83 y83 z83 st83 hQ83
  subst l83 y83 z83
  obtain ⟨rfl, N83q, e83⟩ := hQ83
  have N83 := Fr.app N0 N83q
  refine go st83 ?_
  show Go _ p e below s _ _ _ (T83.setTop (mkF m 6 #[.val (.ref v1), .val (.int (1 : Int32))] []))
  refine go (fun _ => XS.aloadN X83.here hx rfl (hb hby d8_6) rfl rfl) ?_
  show Go _ p e below s _ _ _ (T83.setTop (mkF m 7 #[.val (.ref v1), .val (.int (1 : Int32))] [(.ref v1)]))
  refine go (fun _ => XS.iloadN X83.here hx rfl (hb hby d8_7) rfl) ?_
  show Go _ p e below s _ _ _ (T83.setTop (mkF m 8 #[.val (.ref v1), .val (.int (1 : Int32))] [(.int (1 : Int32)), (.ref v1)]))
  obtain ⟨cl84, Ar84, q84, Sz84, Nz84, Hs84, Gs84⟩ := id P1
  have hin84 : ¬ ((1 : Int32) < 0 ∨ cl84.slots.size ≤ ((1 : Int32)).toNatClampNeg) := inb_of Sz84 ⟨by decide, by decide⟩
  refine go (X83.baloadBytes hx (j := (1 : Int32)) (v := (.int (61 : Int32))) (by rw [e83]; exact Ar84.1) (State.isArrayOf_alike hZ.alike Ar84.2.1) Ar84.2.2 hin84 (Hs84.at hin84 rfl) (g := (mkF m 8 #[.val (.ref v1), .val (.int (1 : Int32))] [(.int (1 : Int32)), (.ref v1)])) rfl rfl (hb hby d8_8)) ?_
  show Go _ p e below s _ _ _ (T83.setTop (mkF m 9 #[.val (.ref v1), .val (.int (1 : Int32))] [(.int (61 : Int32))]))
  refine go (fun _ => XS.sipush X83.here hx rfl (hb hby d8_9)) ?_
  show Go _ p e below s _ _ _ (T83.setTop (mkF m 12 #[.val (.ref v1), .val (.int (1 : Int32))] [(.int (255 : Int32)), (.int (61 : Int32))]))
  refine go (fun _ => XS.iand X83.here hx rfl (hb hby d8_12) rfl) ?_
  show Go _ p e below s _ _ _ (T83.setTop (mkF m 13 #[.val (.ref v1), .val (.int (1 : Int32))] [(.int (61 : Int32))]))
  refine go (fun _ => XS.i2c X83.here hx rfl (hb hby d8_13) rfl) ?_
  show Go _ p e below s _ _ _ (T83.setTop (mkF m 14 #[.val (.ref v1), .val (.int (1 : Int32))] [(.int ((61 : Int32).toUInt32.toUInt16.toUInt32.toInt32))]))
  rw [show ((61 : Int32).toUInt32.toUInt16.toUInt32.toInt32) = (61 : Int32) from by decide]
  show Go _ p e below s _ _ _ (T83.setTop (mkF m 14 #[.val (.ref v1), .val (.int (1 : Int32))] [(.int (61 : Int32))]))
  refine goRet X83 hx Bd.notSynchronized Bd.returns rfl (Or.inl ⟨rfl, Or.inr (Or.inr (Or.inr (Or.inl rfl))), _, rfl⟩) (hb hby d8_14) (by decide) (by decide) (by rw [e83]; refine ⟨rfl, N83, rfl⟩)
theorem pn_6AT_MOST1 : plainName "java/lang/String" = true := by first | (simp [plainName, overriddenIn]; done) | decide +kernel
theorem ef_6AT_MOST1 (m : MethodId) (a1 : Addr) : entryFrame m #[(.ref a1), (.int (1 : Int32))] 2 = mkF m 0 #[.val (.ref a1), .val (.int (1 : Int32))] [] := by first | (simp [entryFrame, mkF, argsToLocals, Value.category]; done) | rfl
def Q6AT_MOST1 (Z : State) (a1 : Addr) (w0 : Int32) (f0 : Value) (v1 : Addr) (k1 : ClassId) (d1 : Value) (h0 : Heap) (n0 : Nat) (v : Option Value) (h : Heap) (L : List Loc) : Prop := v = some (.int (61 : Int32)) ∧ Fr n0 L ∧ (h = h0)
set_option maxRecDepth 65536 in
set_option maxHeartbeats 40000000 in
theorem rm6AT_MOST1 (l : Launch) (Z : State) (a0 : Array Value) (hw : ∀ d ∈ tables_1, d.before a0 Z = true) (ws : List Jvm.Cond) (a1 : Addr) (w0 : Int32) (f0 : Value) (v1 : Addr) (k1 : ClassId) (d1 : Value) (h0 : Heap) (n0 : Nat) (Z0 : n0 ≤ h0.size) (P0 : Sta Z h0 "java/lang/String" "COMPACT_STRINGS" "Z" (.int w0)) (P1 : Sta Z h0 "jdk/internal/util/Preconditions" "SIOOBE_FORMATTER" "Ljava/util/function/BiFunction;" f0) (P2 : Exa Z h0 a1 "java/lang/String") (P3 : Fld Z h0 a1 "java/lang/String" "coder" "B" (.int (0 : Int32))) (P4 : Fld Z h0 a1 "java/lang/String" "value" "[B" (.ref v1)) (P5 : Arv Z h0 v1 k1 .byte (2 : Int32) [(.int (60 : Int32)), (.int (61 : Int32))] d1) (hw0 : ¬ w0 = 0) (hf : f0.isRef = true) :
    MetFree l (⟨"java/lang/String", "charAt", "(I)C"⟩ : MethodName) (head1 (Jvm.Cond.code (⟨"java/lang/String", "charAt", "(I)C"⟩ : MethodName) jdk_42_method_56_code 2 (some .char) :: ws) ({ frames := 3, cells := 0, slots := 0, locals := 40 } : Room)) (fun a U => a = #[(.ref a1), (.int (1 : Int32))] ∧ Z.Warmed39 U.vm ∧ U.heap = h0) (fun _ _ _ _ _ => True) (fun _ U o U' => ∃ v L, o = .returned v ∧ Q6AT_MOST1 Z a1 w0 f0 v1 k1 d1 h0 n0 v U'.heap L ∧ FrameEnd U o U' L ({ frames := 3, cells := 0, slots := 0, locals := 40 } : Room).cells ({ frames := 3, cells := 0, slots := 0, locals := 40 } : Room).slots) := by
  refine MetFree.of_bodySF (plainFor_of_name pn_6AT_MOST1) hisR ?_
  intro p e s m args below meth c s₁ Bd hml0 hP hK
  obtain ⟨rfl, hZ, hh⟩ := hP
  have hx := Bd.exec
  have hby := Bd.bytes
  have hml : c.maxLocals = 2 := hml0
  have hown : s.vm.findClass "java/lang/String" = some m.cls := findClass_of_methodNamed Bd.named
  have hnm := (name_of_methodNamed Bd.named Bd.method).1
  have X0 : Stand p l e ({ frames := 3, cells := 0, slots := 0, locals := 40 } : Room) s m #[(.ref a1), (.int (1 : Int32))] below meth c s₁ [] 0 0 := Stand.of_body Bd
  have e0 : s₁.heap = h0 := by rw [← hh, Bd.state]; rfl
  have N0 := Fr.nil n0
  have hS0 : s.Since s.vm 0 := (State.WarmedH.refl s).since 0
  show Go FrameEnd p e below s ({ frames := 3, cells := 0, slots := 0, locals := 40 } : Room).cells ({ frames := 3, cells := 0, slots := 0, locals := 40 } : Room).slots (Q6AT_MOST1 Z a1 w0 f0 v1 k1 d1 h0 n0) (s₁.setTop (entryFrame m #[(.ref a1), (.int (1 : Int32))] 2))
  refine go (fun _ k => castTop (ef_6AT_MOST1 m a1) k) ?_
  show Go _ p e below s _ _ _ (s₁.setTop (mkF m 0 #[.val (.ref a1), .val (.int (1 : Int32))] []))
  refine go (fun _ => XS.aloadN X0.here hx rfl (hb hby d6_0) rfl rfl) ?_
  show Go _ p e below s _ _ _ (s₁.setTop (mkF m 1 #[.val (.ref a1), .val (.int (1 : Int32))] [(.ref a1)]))
  obtain ⟨cq88, kq88, q88a, q88b, q88c⟩ := isOf hZ e0 P2
  obtain ⟨_, _, ⟨T88, L88, k88, n88⟩, -, X88, ⟨Lc88, hQ88, l88, y88, z88⟩, st88⟩ := X0.virtualBack hx (y := (⟨"java/lang/String", "isLatin1", "()Z"⟩ : MethodName)) (z := (⟨"java/lang/String", "isLatin1", "()Z"⟩ : MethodName)) hown (mvT hZ (hw _ (List.mem_of_getElem? (i := 39) rfl))) (mvT hZ (hw _ (List.mem_of_getElem? (i := 40) rfl))) (notFace_of_selects (args := #[]) (mvT hZ (hw _ (List.mem_of_getElem? (i := 42) rfl)))) (mvT hZ (hw _ (List.mem_of_getElem? (i := 42) rfl))) (mvT hZ (hw _ (List.mem_of_getElem? (i := 41) rfl))) (by decide) (backOf (W := 0) (rm7 l Z a0 hw [] a1 w0 h0 n0 Z0 P0 P3 hw0) hZ (hw _ (List.mem_of_getElem? (i := 43) rfl)) (hw _ (List.mem_of_getElem? (i := 22) rfl)) (by decide) (by decide)) q88a q88c (g := (mkF m 1 #[.val (.ref a1), .val (.int (1 : Int32))] [(.ref a1)])) rfl (by rw [hml]; rfl) (Steps.refl _) (argsL := []) (rest := []) (lenOf pd_6_0 rfl) rfl (by show 2 * 0 + _ ≤ _; exact Nat.le_of_eq rfl) (hb hby d6_1) (fun _ _ => ⟨rfl, e0, (by decide : 0 + 0 ≤ _), (by decide : 0 + 0 ≤ _)⟩)
  dsimp only [Pt.U, Pt.locs, Pt.cells, Pt.slots] at X88 l88 y88 z88 st88 hQ88
  subst l88 y88 z88
  obtain ⟨rfl, N88q, e88⟩ := hQ88
  have N88 := Fr.app N0 N88q
  refine goT st88 ?_
  show Go _ p e below s _ _ _ (T88.setTop (mkF m 4 #[.val (.ref a1), .val (.int (1 : Int32))] [(.int (1 : Int32))]))
  refine go (fun _ => XS.ifNo X88.here hx rfl (hb hby d6_4) rfl ((if0 _ _).trans (feq (by decide : ¬ ((1 : Int32) = (0 : Int32)))).1)) ?_
  show Go _ p e below s _ _ _ (T88.setTop (mkF m 7 #[.val (.ref a1), .val (.int (1 : Int32))] []))
  refine go (fun _ => XS.aloadN X88.here hx rfl (hb hby d6_7) rfl rfl) ?_
  show Go _ p e below s _ _ _ (T88.setTop (mkF m 8 #[.val (.ref a1), .val (.int (1 : Int32))] [(.ref a1)]))
  obtain ⟨T89, X89, e89, st89⟩ := getF X88 hx hZ hown (host := "") (Or.inl (hw _ (List.mem_of_getElem? (i := 24) rfl))) Via.refl e88 P4 (g := (mkF m 8 #[.val (.ref a1), .val (.int (1 : Int32))] [(.ref a1)])) rfl rfl (hb hby d6_8)
  refine go st89 ?_
  show Go _ p e below s _ _ _ (T89.setTop (mkF m 11 #[.val (.ref a1), .val (.int (1 : Int32))] [(.ref v1)]))
  refine go (fun _ => XS.iloadN X89.here hx rfl (hb hby d6_11) rfl) ?_
  show Go _ p e below s _ _ _ (T89.setTop (mkF m 12 #[.val (.ref a1), .val (.int (1 : Int32))] [(.int (1 : Int32)), (.ref v1)]))
  obtain ⟨_, _, ⟨T90, L90, k90, n90⟩, -, X90, ⟨Lc90, hQ90, l90, y90, z90⟩, st90⟩ := Jvm.LawKit.callS X89 hx (y := (⟨"java/lang/StringLatin1", "charAt", "([BI)C"⟩ : MethodName)) hown (mvT hZ (hw _ (List.mem_of_getElem? (i := 44) rfl))) (mvT hZ (hw _ (List.mem_of_getElem? (i := 45) rfl))) (mvT hZ (hw _ (List.mem_of_getElem? (i := 46) rfl))) (mvT hZ (hw _ (List.mem_of_getElem? (i := 47) rfl))) (by decide) (backOf (W := 0) (rm8AT_MOST1 l Z a0 hw [] v1 f0 k1 d1 h0 n0 Z0 P1 P5 hf) hZ (hw _ (List.mem_of_getElem? (i := 47) rfl)) (hw _ (List.mem_of_getElem? (i := 46) rfl)) (by decide) (by decide)) (g := (mkF m 12 #[.val (.ref a1), .val (.int (1 : Int32))] [(.int (1 : Int32)), (.ref v1)])) rfl (by rw [hml]; rfl) (argsL := [(.ref v1), (.int (1 : Int32))]) (rest := []) (lenOf pd_6_1 rfl) rfl (by show 2 * 0 + _ ≤ _; exact Nat.le_of_eq rfl) (hb hby d6_12) (fun _ _ => ⟨rfl, e89, (by decide : 0 + 0 ≤ _), (by decide : 0 + 0 ≤ _)⟩)
  dsimp only [Pt.U, Pt.locs, Pt.cells, Pt.slots] at X90 l90 y90 z90 st90 hQ90
  subst l90 y90 z90
  obtain ⟨rfl, N90q, e90⟩ := hQ90
  have N90 := Fr.app N88 N90q
  refine go st90 ?_
  show Go _ p e below s _ _ _ (T90.setTop (mkF m 15 #[.val (.ref a1), .val (.int (1 : Int32))] [(.int (61 : Int32))]))
  refine goRet X90 hx Bd.notSynchronized Bd.returns rfl (Or.inl ⟨rfl, Or.inr (Or.inr (Or.inr (Or.inl rfl))), _, rfl⟩) (hb hby d6_15) (by decide) (by decide) (by rw [e90]; refine ⟨rfl, N90, rfl⟩)
theorem pn_8GREATER0 : plainName "java/lang/StringLatin1" = true := by first | (simp [plainName, overriddenIn]; done) | decide +kernel
theorem ef_8GREATER0 (m : MethodId) (v1 : Addr) : entryFrame m #[(.ref v1), (.int (0 : Int32))] 2 = mkF m 0 #[.val (.ref v1), .val (.int (0 : Int32))] [] := by first | (simp [entryFrame, mkF, argsToLocals, Value.category]; done) | rfl
def Q8GREATER0 (Z : State) (v1 : Addr) (f0 : Value) (k1 : ClassId) (d1 : Value) (h0 : Heap) (n0 : Nat) (v : Option Value) (h : Heap) (L : List Loc) : Prop := v = some (.int (62 : Int32)) ∧ Fr n0 L ∧ (h = h0)
set_option maxRecDepth 65536 in
set_option maxHeartbeats 40000000 in
theorem rm8GREATER0 (l : Launch) (Z : State) (a0 : Array Value) (hw : ∀ d ∈ tables_1, d.before a0 Z = true) (ws : List Jvm.Cond) (v1 : Addr) (f0 : Value) (k1 : ClassId) (d1 : Value) (h0 : Heap) (n0 : Nat) (Z0 : n0 ≤ h0.size) (P0 : Sta Z h0 "jdk/internal/util/Preconditions" "SIOOBE_FORMATTER" "Ljava/util/function/BiFunction;" f0) (P1 : Arv Z h0 v1 k1 .byte (1 : Int32) [(.int (62 : Int32))] d1) (hf : f0.isRef = true) :
    MetFree l (⟨"java/lang/StringLatin1", "charAt", "([BI)C"⟩ : MethodName) (head1 (Jvm.Cond.code (⟨"java/lang/StringLatin1", "charAt", "([BI)C"⟩ : MethodName) jdk_43_method_2_code 2 (some .char) :: ws) ({ frames := 2, cells := 0, slots := 0, locals := 27 } : Room)) (fun a U => a = #[(.ref v1), (.int (0 : Int32))] ∧ Z.Warmed39 U.vm ∧ U.heap = h0) (fun _ _ _ _ _ => True) (fun _ U o U' => ∃ v L, o = .returned v ∧ Q8GREATER0 Z v1 f0 k1 d1 h0 n0 v U'.heap L ∧ FrameEnd U o U' L ({ frames := 2, cells := 0, slots := 0, locals := 27 } : Room).cells ({ frames := 2, cells := 0, slots := 0, locals := 27 } : Room).slots) := by
  refine MetFree.of_bodySF (plainFor_of_name pn_8GREATER0) hisR ?_
  intro p e s m args below meth c s₁ Bd hml0 hP hK
  obtain ⟨rfl, hZ, hh⟩ := hP
  have hx := Bd.exec
  have hby := Bd.bytes
  have hml : c.maxLocals = 2 := hml0
  have hown : s.vm.findClass "java/lang/StringLatin1" = some m.cls := findClass_of_methodNamed Bd.named
  have hnm := (name_of_methodNamed Bd.named Bd.method).1
  have X0 : Stand p l e ({ frames := 2, cells := 0, slots := 0, locals := 27 } : Room) s m #[(.ref v1), (.int (0 : Int32))] below meth c s₁ [] 0 0 := Stand.of_body Bd
  have e0 : s₁.heap = h0 := by rw [← hh, Bd.state]; rfl
  have N0 := Fr.nil n0
  have hS0 : s.Since s.vm 0 := (State.WarmedH.refl s).since 0
  show Go FrameEnd p e below s ({ frames := 2, cells := 0, slots := 0, locals := 27 } : Room).cells ({ frames := 2, cells := 0, slots := 0, locals := 27 } : Room).slots (Q8GREATER0 Z v1 f0 k1 d1 h0 n0) (s₁.setTop (entryFrame m #[(.ref v1), (.int (0 : Int32))] 2))
  refine go (fun _ k => castTop (ef_8GREATER0 m v1) k) ?_
  show Go _ p e below s _ _ _ (s₁.setTop (mkF m 0 #[.val (.ref v1), .val (.int (0 : Int32))] []))
  refine go (fun _ => XS.iloadN X0.here hx rfl (hb hby d8_0) rfl) ?_
  show Go _ p e below s _ _ _ (s₁.setTop (mkF m 1 #[.val (.ref v1), .val (.int (0 : Int32))] [(.int (0 : Int32))]))
  refine go (fun _ => XS.aloadN X0.here hx rfl (hb hby d8_1) rfl rfl) ?_
  show Go _ p e below s _ _ _ (s₁.setTop (mkF m 2 #[.val (.ref v1), .val (.int (0 : Int32))] [(.ref v1), (.int (0 : Int32))]))
  obtain ⟨cl94, Ar94, -, Sz94, Nz94, -, -⟩ := id P1
  refine go (X0.arraylength hx (by rw [e0]; exact Ar94.1) (State.isArrayOf_alike hZ.alike Ar94.2.1) (g := (mkF m 2 #[.val (.ref v1), .val (.int (0 : Int32))] [(.ref v1), (.int (0 : Int32))])) rfl rfl (hb hby d8_2)) ?_
  rw [len_of Sz94 Nz94]
  show Go _ p e below s _ _ _ (s₁.setTop (mkF m 3 #[.val (.ref v1), .val (.int (0 : Int32))] [(.int (1 : Int32)), (.int (0 : Int32))]))
  obtain ⟨_, _, ⟨T95, L95, k95, n95⟩, -, X95, ⟨Lc95, hQ95, l95, y95, z95⟩, st95⟩ := Jvm.LawKit.callS X0 hx (y := (⟨"java/lang/String", "checkIndex", "(II)V"⟩ : MethodName)) hown (mvT hZ (hw _ (List.mem_of_getElem? (i := 48) rfl))) (mvT hZ (hw _ (List.mem_of_getElem? (i := 49) rfl))) (mvT hZ (hw _ (List.mem_of_getElem? (i := 22) rfl))) (mvT hZ (hw _ (List.mem_of_getElem? (i := 50) rfl))) (by decide) (backOf (W := 0) (rm9 l Z a0 hw [] (0 : Int32) (1 : Int32) f0 h0 n0 Z0 P0 (by decide) (by decide) hf) hZ (hw _ (List.mem_of_getElem? (i := 50) rfl)) (hw _ (List.mem_of_getElem? (i := 22) rfl)) (by decide) (by decide)) (g := (mkF m 3 #[.val (.ref v1), .val (.int (0 : Int32))] [(.int (1 : Int32)), (.int (0 : Int32))])) rfl (by rw [hml]; rfl) (argsL := [(.int (0 : Int32)), (.int (1 : Int32))]) (rest := []) (lenOf pd_8_0 rfl) rfl (by show 2 * 0 + _ ≤ _; exact Nat.le_of_eq rfl) (hb hby d8_3) (fun _ _ => ⟨rfl, e0, (by decide : 0 + 0 ≤ _), (by decide : 0 + 0 ≤ _)⟩)
  dsimp only [Pt.U, Pt.locs, Pt.cells, Pt.slots] at X95 l95 y95 z95 st95 hQ95
  subst l95 y95 z95
  obtain ⟨rfl, N95q, e95⟩ := hQ95
  have N95 := Fr.app N0 N95q
  refine go st95 ?_
  show Go _ p e below s _ _ _ (T95.setTop (mkF m 6 #[.val (.ref v1), .val (.int (0 : Int32))] []))
  refine go (fun _ => XS.aloadN X95.here hx rfl (hb hby d8_6) rfl rfl) ?_
  show Go _ p e below s _ _ _ (T95.setTop (mkF m 7 #[.val (.ref v1), .val (.int (0 : Int32))] [(.ref v1)]))
  refine go (fun _ => XS.iloadN X95.here hx rfl (hb hby d8_7) rfl) ?_
  show Go _ p e below s _ _ _ (T95.setTop (mkF m 8 #[.val (.ref v1), .val (.int (0 : Int32))] [(.int (0 : Int32)), (.ref v1)]))
  obtain ⟨cl96, Ar96, q96, Sz96, Nz96, Hs96, Gs96⟩ := id P1
  have hin96 : ¬ ((0 : Int32) < 0 ∨ cl96.slots.size ≤ ((0 : Int32)).toNatClampNeg) := inb_of Sz96 ⟨by decide, by decide⟩
  refine go (X95.baloadBytes hx (j := (0 : Int32)) (v := (.int (62 : Int32))) (by rw [e95]; exact Ar96.1) (State.isArrayOf_alike hZ.alike Ar96.2.1) Ar96.2.2 hin96 (Hs96.at hin96 rfl) (g := (mkF m 8 #[.val (.ref v1), .val (.int (0 : Int32))] [(.int (0 : Int32)), (.ref v1)])) rfl rfl (hb hby d8_8)) ?_
  show Go _ p e below s _ _ _ (T95.setTop (mkF m 9 #[.val (.ref v1), .val (.int (0 : Int32))] [(.int (62 : Int32))]))
  refine go (fun _ => XS.sipush X95.here hx rfl (hb hby d8_9)) ?_
  show Go _ p e below s _ _ _ (T95.setTop (mkF m 12 #[.val (.ref v1), .val (.int (0 : Int32))] [(.int (255 : Int32)), (.int (62 : Int32))]))
  refine go (fun _ => XS.iand X95.here hx rfl (hb hby d8_12) rfl) ?_
  show Go _ p e below s _ _ _ (T95.setTop (mkF m 13 #[.val (.ref v1), .val (.int (0 : Int32))] [(.int (62 : Int32))]))
  refine go (fun _ => XS.i2c X95.here hx rfl (hb hby d8_13) rfl) ?_
  show Go _ p e below s _ _ _ (T95.setTop (mkF m 14 #[.val (.ref v1), .val (.int (0 : Int32))] [(.int ((62 : Int32).toUInt32.toUInt16.toUInt32.toInt32))]))
  rw [show ((62 : Int32).toUInt32.toUInt16.toUInt32.toInt32) = (62 : Int32) from by decide]
  show Go _ p e below s _ _ _ (T95.setTop (mkF m 14 #[.val (.ref v1), .val (.int (0 : Int32))] [(.int (62 : Int32))]))
  refine goRet X95 hx Bd.notSynchronized Bd.returns rfl (Or.inl ⟨rfl, Or.inr (Or.inr (Or.inr (Or.inl rfl))), _, rfl⟩) (hb hby d8_14) (by decide) (by decide) (by rw [e95]; refine ⟨rfl, N95, rfl⟩)
theorem pn_6GREATER0 : plainName "java/lang/String" = true := by first | (simp [plainName, overriddenIn]; done) | decide +kernel
theorem ef_6GREATER0 (m : MethodId) (a1 : Addr) : entryFrame m #[(.ref a1), (.int (0 : Int32))] 2 = mkF m 0 #[.val (.ref a1), .val (.int (0 : Int32))] [] := by first | (simp [entryFrame, mkF, argsToLocals, Value.category]; done) | rfl
def Q6GREATER0 (Z : State) (a1 : Addr) (w0 : Int32) (f0 : Value) (v1 : Addr) (k1 : ClassId) (d1 : Value) (h0 : Heap) (n0 : Nat) (v : Option Value) (h : Heap) (L : List Loc) : Prop := v = some (.int (62 : Int32)) ∧ Fr n0 L ∧ (h = h0)
set_option maxRecDepth 65536 in
set_option maxHeartbeats 40000000 in
theorem rm6GREATER0 (l : Launch) (Z : State) (a0 : Array Value) (hw : ∀ d ∈ tables_1, d.before a0 Z = true) (ws : List Jvm.Cond) (a1 : Addr) (w0 : Int32) (f0 : Value) (v1 : Addr) (k1 : ClassId) (d1 : Value) (h0 : Heap) (n0 : Nat) (Z0 : n0 ≤ h0.size) (P0 : Sta Z h0 "java/lang/String" "COMPACT_STRINGS" "Z" (.int w0)) (P1 : Sta Z h0 "jdk/internal/util/Preconditions" "SIOOBE_FORMATTER" "Ljava/util/function/BiFunction;" f0) (P2 : Exa Z h0 a1 "java/lang/String") (P3 : Fld Z h0 a1 "java/lang/String" "coder" "B" (.int (0 : Int32))) (P4 : Fld Z h0 a1 "java/lang/String" "value" "[B" (.ref v1)) (P5 : Arv Z h0 v1 k1 .byte (1 : Int32) [(.int (62 : Int32))] d1) (hw0 : ¬ w0 = 0) (hf : f0.isRef = true) :
    MetFree l (⟨"java/lang/String", "charAt", "(I)C"⟩ : MethodName) (head1 (Jvm.Cond.code (⟨"java/lang/String", "charAt", "(I)C"⟩ : MethodName) jdk_42_method_56_code 2 (some .char) :: ws) ({ frames := 3, cells := 0, slots := 0, locals := 40 } : Room)) (fun a U => a = #[(.ref a1), (.int (0 : Int32))] ∧ Z.Warmed39 U.vm ∧ U.heap = h0) (fun _ _ _ _ _ => True) (fun _ U o U' => ∃ v L, o = .returned v ∧ Q6GREATER0 Z a1 w0 f0 v1 k1 d1 h0 n0 v U'.heap L ∧ FrameEnd U o U' L ({ frames := 3, cells := 0, slots := 0, locals := 40 } : Room).cells ({ frames := 3, cells := 0, slots := 0, locals := 40 } : Room).slots) := by
  refine MetFree.of_bodySF (plainFor_of_name pn_6GREATER0) hisR ?_
  intro p e s m args below meth c s₁ Bd hml0 hP hK
  obtain ⟨rfl, hZ, hh⟩ := hP
  have hx := Bd.exec
  have hby := Bd.bytes
  have hml : c.maxLocals = 2 := hml0
  have hown : s.vm.findClass "java/lang/String" = some m.cls := findClass_of_methodNamed Bd.named
  have hnm := (name_of_methodNamed Bd.named Bd.method).1
  have X0 : Stand p l e ({ frames := 3, cells := 0, slots := 0, locals := 40 } : Room) s m #[(.ref a1), (.int (0 : Int32))] below meth c s₁ [] 0 0 := Stand.of_body Bd
  have e0 : s₁.heap = h0 := by rw [← hh, Bd.state]; rfl
  have N0 := Fr.nil n0
  have hS0 : s.Since s.vm 0 := (State.WarmedH.refl s).since 0
  show Go FrameEnd p e below s ({ frames := 3, cells := 0, slots := 0, locals := 40 } : Room).cells ({ frames := 3, cells := 0, slots := 0, locals := 40 } : Room).slots (Q6GREATER0 Z a1 w0 f0 v1 k1 d1 h0 n0) (s₁.setTop (entryFrame m #[(.ref a1), (.int (0 : Int32))] 2))
  refine go (fun _ k => castTop (ef_6GREATER0 m a1) k) ?_
  show Go _ p e below s _ _ _ (s₁.setTop (mkF m 0 #[.val (.ref a1), .val (.int (0 : Int32))] []))
  refine go (fun _ => XS.aloadN X0.here hx rfl (hb hby d6_0) rfl rfl) ?_
  show Go _ p e below s _ _ _ (s₁.setTop (mkF m 1 #[.val (.ref a1), .val (.int (0 : Int32))] [(.ref a1)]))
  obtain ⟨cq100, kq100, q100a, q100b, q100c⟩ := isOf hZ e0 P2
  obtain ⟨_, _, ⟨T100, L100, k100, n100⟩, -, X100, ⟨Lc100, hQ100, l100, y100, z100⟩, st100⟩ := X0.virtualBack hx (y := (⟨"java/lang/String", "isLatin1", "()Z"⟩ : MethodName)) (z := (⟨"java/lang/String", "isLatin1", "()Z"⟩ : MethodName)) hown (mvT hZ (hw _ (List.mem_of_getElem? (i := 39) rfl))) (mvT hZ (hw _ (List.mem_of_getElem? (i := 40) rfl))) (notFace_of_selects (args := #[]) (mvT hZ (hw _ (List.mem_of_getElem? (i := 42) rfl)))) (mvT hZ (hw _ (List.mem_of_getElem? (i := 42) rfl))) (mvT hZ (hw _ (List.mem_of_getElem? (i := 41) rfl))) (by decide) (backOf (W := 0) (rm7 l Z a0 hw [] a1 w0 h0 n0 Z0 P0 P3 hw0) hZ (hw _ (List.mem_of_getElem? (i := 43) rfl)) (hw _ (List.mem_of_getElem? (i := 22) rfl)) (by decide) (by decide)) q100a q100c (g := (mkF m 1 #[.val (.ref a1), .val (.int (0 : Int32))] [(.ref a1)])) rfl (by rw [hml]; rfl) (Steps.refl _) (argsL := []) (rest := []) (lenOf pd_6_0 rfl) rfl (by show 2 * 0 + _ ≤ _; exact Nat.le_of_eq rfl) (hb hby d6_1) (fun _ _ => ⟨rfl, e0, (by decide : 0 + 0 ≤ _), (by decide : 0 + 0 ≤ _)⟩)
  dsimp only [Pt.U, Pt.locs, Pt.cells, Pt.slots] at X100 l100 y100 z100 st100 hQ100
  subst l100 y100 z100
  obtain ⟨rfl, N100q, e100⟩ := hQ100
  have N100 := Fr.app N0 N100q
  refine goT st100 ?_
  show Go _ p e below s _ _ _ (T100.setTop (mkF m 4 #[.val (.ref a1), .val (.int (0 : Int32))] [(.int (1 : Int32))]))
  refine go (fun _ => XS.ifNo X100.here hx rfl (hb hby d6_4) rfl ((if0 _ _).trans (feq (by decide : ¬ ((1 : Int32) = (0 : Int32)))).1)) ?_
  show Go _ p e below s _ _ _ (T100.setTop (mkF m 7 #[.val (.ref a1), .val (.int (0 : Int32))] []))
  refine go (fun _ => XS.aloadN X100.here hx rfl (hb hby d6_7) rfl rfl) ?_
  show Go _ p e below s _ _ _ (T100.setTop (mkF m 8 #[.val (.ref a1), .val (.int (0 : Int32))] [(.ref a1)]))
  obtain ⟨T101, X101, e101, st101⟩ := getF X100 hx hZ hown (host := "") (Or.inl (hw _ (List.mem_of_getElem? (i := 24) rfl))) Via.refl e100 P4 (g := (mkF m 8 #[.val (.ref a1), .val (.int (0 : Int32))] [(.ref a1)])) rfl rfl (hb hby d6_8)
  refine go st101 ?_
  show Go _ p e below s _ _ _ (T101.setTop (mkF m 11 #[.val (.ref a1), .val (.int (0 : Int32))] [(.ref v1)]))
  refine go (fun _ => XS.iloadN X101.here hx rfl (hb hby d6_11) rfl) ?_
  show Go _ p e below s _ _ _ (T101.setTop (mkF m 12 #[.val (.ref a1), .val (.int (0 : Int32))] [(.int (0 : Int32)), (.ref v1)]))
  obtain ⟨_, _, ⟨T102, L102, k102, n102⟩, -, X102, ⟨Lc102, hQ102, l102, y102, z102⟩, st102⟩ := Jvm.LawKit.callS X101 hx (y := (⟨"java/lang/StringLatin1", "charAt", "([BI)C"⟩ : MethodName)) hown (mvT hZ (hw _ (List.mem_of_getElem? (i := 44) rfl))) (mvT hZ (hw _ (List.mem_of_getElem? (i := 45) rfl))) (mvT hZ (hw _ (List.mem_of_getElem? (i := 46) rfl))) (mvT hZ (hw _ (List.mem_of_getElem? (i := 47) rfl))) (by decide) (backOf (W := 0) (rm8GREATER0 l Z a0 hw [] v1 f0 k1 d1 h0 n0 Z0 P1 P5 hf) hZ (hw _ (List.mem_of_getElem? (i := 47) rfl)) (hw _ (List.mem_of_getElem? (i := 46) rfl)) (by decide) (by decide)) (g := (mkF m 12 #[.val (.ref a1), .val (.int (0 : Int32))] [(.int (0 : Int32)), (.ref v1)])) rfl (by rw [hml]; rfl) (argsL := [(.ref v1), (.int (0 : Int32))]) (rest := []) (lenOf pd_6_1 rfl) rfl (by show 2 * 0 + _ ≤ _; exact Nat.le_of_eq rfl) (hb hby d6_12) (fun _ _ => ⟨rfl, e101, (by decide : 0 + 0 ≤ _), (by decide : 0 + 0 ≤ _)⟩)
  dsimp only [Pt.U, Pt.locs, Pt.cells, Pt.slots] at X102 l102 y102 z102 st102 hQ102
  subst l102 y102 z102
  obtain ⟨rfl, N102q, e102⟩ := hQ102
  have N102 := Fr.app N100 N102q
  refine go st102 ?_
  show Go _ p e below s _ _ _ (T102.setTop (mkF m 15 #[.val (.ref a1), .val (.int (0 : Int32))] [(.int (62 : Int32))]))
  refine goRet X102 hx Bd.notSynchronized Bd.returns rfl (Or.inl ⟨rfl, Or.inr (Or.inr (Or.inr (Or.inl rfl))), _, rfl⟩) (hb hby d6_15) (by decide) (by decide) (by rw [e102]; refine ⟨rfl, N102, rfl⟩)
theorem pn_8AT_LEAST0 : plainName "java/lang/StringLatin1" = true := by first | (simp [plainName, overriddenIn]; done) | decide +kernel
theorem ef_8AT_LEAST0 (m : MethodId) (v1 : Addr) : entryFrame m #[(.ref v1), (.int (0 : Int32))] 2 = mkF m 0 #[.val (.ref v1), .val (.int (0 : Int32))] [] := by first | (simp [entryFrame, mkF, argsToLocals, Value.category]; done) | rfl
def Q8AT_LEAST0 (Z : State) (v1 : Addr) (f0 : Value) (k1 : ClassId) (d1 : Value) (h0 : Heap) (n0 : Nat) (v : Option Value) (h : Heap) (L : List Loc) : Prop := v = some (.int (62 : Int32)) ∧ Fr n0 L ∧ (h = h0)
set_option maxRecDepth 65536 in
set_option maxHeartbeats 40000000 in
theorem rm8AT_LEAST0 (l : Launch) (Z : State) (a0 : Array Value) (hw : ∀ d ∈ tables_1, d.before a0 Z = true) (ws : List Jvm.Cond) (v1 : Addr) (f0 : Value) (k1 : ClassId) (d1 : Value) (h0 : Heap) (n0 : Nat) (Z0 : n0 ≤ h0.size) (P0 : Sta Z h0 "jdk/internal/util/Preconditions" "SIOOBE_FORMATTER" "Ljava/util/function/BiFunction;" f0) (P1 : Arv Z h0 v1 k1 .byte (2 : Int32) [(.int (62 : Int32)), (.int (61 : Int32))] d1) (hf : f0.isRef = true) :
    MetFree l (⟨"java/lang/StringLatin1", "charAt", "([BI)C"⟩ : MethodName) (head1 (Jvm.Cond.code (⟨"java/lang/StringLatin1", "charAt", "([BI)C"⟩ : MethodName) jdk_43_method_2_code 2 (some .char) :: ws) ({ frames := 2, cells := 0, slots := 0, locals := 27 } : Room)) (fun a U => a = #[(.ref v1), (.int (0 : Int32))] ∧ Z.Warmed39 U.vm ∧ U.heap = h0) (fun _ _ _ _ _ => True) (fun _ U o U' => ∃ v L, o = .returned v ∧ Q8AT_LEAST0 Z v1 f0 k1 d1 h0 n0 v U'.heap L ∧ FrameEnd U o U' L ({ frames := 2, cells := 0, slots := 0, locals := 27 } : Room).cells ({ frames := 2, cells := 0, slots := 0, locals := 27 } : Room).slots) := by
  refine MetFree.of_bodySF (plainFor_of_name pn_8AT_LEAST0) hisR ?_
  intro p e s m args below meth c s₁ Bd hml0 hP hK
  obtain ⟨rfl, hZ, hh⟩ := hP
  have hx := Bd.exec
  have hby := Bd.bytes
  have hml : c.maxLocals = 2 := hml0
  have hown : s.vm.findClass "java/lang/StringLatin1" = some m.cls := findClass_of_methodNamed Bd.named
  have hnm := (name_of_methodNamed Bd.named Bd.method).1
  have X0 : Stand p l e ({ frames := 2, cells := 0, slots := 0, locals := 27 } : Room) s m #[(.ref v1), (.int (0 : Int32))] below meth c s₁ [] 0 0 := Stand.of_body Bd
  have e0 : s₁.heap = h0 := by rw [← hh, Bd.state]; rfl
  have N0 := Fr.nil n0
  have hS0 : s.Since s.vm 0 := (State.WarmedH.refl s).since 0
  show Go FrameEnd p e below s ({ frames := 2, cells := 0, slots := 0, locals := 27 } : Room).cells ({ frames := 2, cells := 0, slots := 0, locals := 27 } : Room).slots (Q8AT_LEAST0 Z v1 f0 k1 d1 h0 n0) (s₁.setTop (entryFrame m #[(.ref v1), (.int (0 : Int32))] 2))
  refine go (fun _ k => castTop (ef_8AT_LEAST0 m v1) k) ?_
  show Go _ p e below s _ _ _ (s₁.setTop (mkF m 0 #[.val (.ref v1), .val (.int (0 : Int32))] []))
  refine go (fun _ => XS.iloadN X0.here hx rfl (hb hby d8_0) rfl) ?_
  show Go _ p e below s _ _ _ (s₁.setTop (mkF m 1 #[.val (.ref v1), .val (.int (0 : Int32))] [(.int (0 : Int32))]))
  refine go (fun _ => XS.aloadN X0.here hx rfl (hb hby d8_1) rfl rfl) ?_
  show Go _ p e below s _ _ _ (s₁.setTop (mkF m 2 #[.val (.ref v1), .val (.int (0 : Int32))] [(.ref v1), (.int (0 : Int32))]))
  obtain ⟨cl106, Ar106, -, Sz106, Nz106, -, -⟩ := id P1
  refine go (X0.arraylength hx (by rw [e0]; exact Ar106.1) (State.isArrayOf_alike hZ.alike Ar106.2.1) (g := (mkF m 2 #[.val (.ref v1), .val (.int (0 : Int32))] [(.ref v1), (.int (0 : Int32))])) rfl rfl (hb hby d8_2)) ?_
  rw [len_of Sz106 Nz106]
  show Go _ p e below s _ _ _ (s₁.setTop (mkF m 3 #[.val (.ref v1), .val (.int (0 : Int32))] [(.int (2 : Int32)), (.int (0 : Int32))]))
  obtain ⟨_, _, ⟨T107, L107, k107, n107⟩, -, X107, ⟨Lc107, hQ107, l107, y107, z107⟩, st107⟩ := Jvm.LawKit.callS X0 hx (y := (⟨"java/lang/String", "checkIndex", "(II)V"⟩ : MethodName)) hown (mvT hZ (hw _ (List.mem_of_getElem? (i := 48) rfl))) (mvT hZ (hw _ (List.mem_of_getElem? (i := 49) rfl))) (mvT hZ (hw _ (List.mem_of_getElem? (i := 22) rfl))) (mvT hZ (hw _ (List.mem_of_getElem? (i := 50) rfl))) (by decide) (backOf (W := 0) (rm9 l Z a0 hw [] (0 : Int32) (2 : Int32) f0 h0 n0 Z0 P0 (by decide) (by decide) hf) hZ (hw _ (List.mem_of_getElem? (i := 50) rfl)) (hw _ (List.mem_of_getElem? (i := 22) rfl)) (by decide) (by decide)) (g := (mkF m 3 #[.val (.ref v1), .val (.int (0 : Int32))] [(.int (2 : Int32)), (.int (0 : Int32))])) rfl (by rw [hml]; rfl) (argsL := [(.int (0 : Int32)), (.int (2 : Int32))]) (rest := []) (lenOf pd_8_0 rfl) rfl (by show 2 * 0 + _ ≤ _; exact Nat.le_of_eq rfl) (hb hby d8_3) (fun _ _ => ⟨rfl, e0, (by decide : 0 + 0 ≤ _), (by decide : 0 + 0 ≤ _)⟩)
  dsimp only [Pt.U, Pt.locs, Pt.cells, Pt.slots] at X107 l107 y107 z107 st107 hQ107
  subst l107 y107 z107
  obtain ⟨rfl, N107q, e107⟩ := hQ107
  have N107 := Fr.app N0 N107q
  refine go st107 ?_
  show Go _ p e below s _ _ _ (T107.setTop (mkF m 6 #[.val (.ref v1), .val (.int (0 : Int32))] []))
  refine go (fun _ => XS.aloadN X107.here hx rfl (hb hby d8_6) rfl rfl) ?_
  show Go _ p e below s _ _ _ (T107.setTop (mkF m 7 #[.val (.ref v1), .val (.int (0 : Int32))] [(.ref v1)]))
  refine go (fun _ => XS.iloadN X107.here hx rfl (hb hby d8_7) rfl) ?_
  show Go _ p e below s _ _ _ (T107.setTop (mkF m 8 #[.val (.ref v1), .val (.int (0 : Int32))] [(.int (0 : Int32)), (.ref v1)]))
  obtain ⟨cl108, Ar108, q108, Sz108, Nz108, Hs108, Gs108⟩ := id P1
  have hin108 : ¬ ((0 : Int32) < 0 ∨ cl108.slots.size ≤ ((0 : Int32)).toNatClampNeg) := inb_of Sz108 ⟨by decide, by decide⟩
  refine go (X107.baloadBytes hx (j := (0 : Int32)) (v := (.int (62 : Int32))) (by rw [e107]; exact Ar108.1) (State.isArrayOf_alike hZ.alike Ar108.2.1) Ar108.2.2 hin108 (Hs108.at hin108 rfl) (g := (mkF m 8 #[.val (.ref v1), .val (.int (0 : Int32))] [(.int (0 : Int32)), (.ref v1)])) rfl rfl (hb hby d8_8)) ?_
  show Go _ p e below s _ _ _ (T107.setTop (mkF m 9 #[.val (.ref v1), .val (.int (0 : Int32))] [(.int (62 : Int32))]))
  refine go (fun _ => XS.sipush X107.here hx rfl (hb hby d8_9)) ?_
  show Go _ p e below s _ _ _ (T107.setTop (mkF m 12 #[.val (.ref v1), .val (.int (0 : Int32))] [(.int (255 : Int32)), (.int (62 : Int32))]))
  refine go (fun _ => XS.iand X107.here hx rfl (hb hby d8_12) rfl) ?_
  show Go _ p e below s _ _ _ (T107.setTop (mkF m 13 #[.val (.ref v1), .val (.int (0 : Int32))] [(.int (62 : Int32))]))
  refine go (fun _ => XS.i2c X107.here hx rfl (hb hby d8_13) rfl) ?_
  show Go _ p e below s _ _ _ (T107.setTop (mkF m 14 #[.val (.ref v1), .val (.int (0 : Int32))] [(.int ((62 : Int32).toUInt32.toUInt16.toUInt32.toInt32))]))
  rw [show ((62 : Int32).toUInt32.toUInt16.toUInt32.toInt32) = (62 : Int32) from by decide]
  show Go _ p e below s _ _ _ (T107.setTop (mkF m 14 #[.val (.ref v1), .val (.int (0 : Int32))] [(.int (62 : Int32))]))
  refine goRet X107 hx Bd.notSynchronized Bd.returns rfl (Or.inl ⟨rfl, Or.inr (Or.inr (Or.inr (Or.inl rfl))), _, rfl⟩) (hb hby d8_14) (by decide) (by decide) (by rw [e107]; refine ⟨rfl, N107, rfl⟩)
theorem pn_6AT_LEAST0 : plainName "java/lang/String" = true := by first | (simp [plainName, overriddenIn]; done) | decide +kernel
theorem ef_6AT_LEAST0 (m : MethodId) (a1 : Addr) : entryFrame m #[(.ref a1), (.int (0 : Int32))] 2 = mkF m 0 #[.val (.ref a1), .val (.int (0 : Int32))] [] := by first | (simp [entryFrame, mkF, argsToLocals, Value.category]; done) | rfl
def Q6AT_LEAST0 (Z : State) (a1 : Addr) (w0 : Int32) (f0 : Value) (v1 : Addr) (k1 : ClassId) (d1 : Value) (h0 : Heap) (n0 : Nat) (v : Option Value) (h : Heap) (L : List Loc) : Prop := v = some (.int (62 : Int32)) ∧ Fr n0 L ∧ (h = h0)
set_option maxRecDepth 65536 in
set_option maxHeartbeats 40000000 in
theorem rm6AT_LEAST0 (l : Launch) (Z : State) (a0 : Array Value) (hw : ∀ d ∈ tables_1, d.before a0 Z = true) (ws : List Jvm.Cond) (a1 : Addr) (w0 : Int32) (f0 : Value) (v1 : Addr) (k1 : ClassId) (d1 : Value) (h0 : Heap) (n0 : Nat) (Z0 : n0 ≤ h0.size) (P0 : Sta Z h0 "java/lang/String" "COMPACT_STRINGS" "Z" (.int w0)) (P1 : Sta Z h0 "jdk/internal/util/Preconditions" "SIOOBE_FORMATTER" "Ljava/util/function/BiFunction;" f0) (P2 : Exa Z h0 a1 "java/lang/String") (P3 : Fld Z h0 a1 "java/lang/String" "coder" "B" (.int (0 : Int32))) (P4 : Fld Z h0 a1 "java/lang/String" "value" "[B" (.ref v1)) (P5 : Arv Z h0 v1 k1 .byte (2 : Int32) [(.int (62 : Int32)), (.int (61 : Int32))] d1) (hw0 : ¬ w0 = 0) (hf : f0.isRef = true) :
    MetFree l (⟨"java/lang/String", "charAt", "(I)C"⟩ : MethodName) (head1 (Jvm.Cond.code (⟨"java/lang/String", "charAt", "(I)C"⟩ : MethodName) jdk_42_method_56_code 2 (some .char) :: ws) ({ frames := 3, cells := 0, slots := 0, locals := 40 } : Room)) (fun a U => a = #[(.ref a1), (.int (0 : Int32))] ∧ Z.Warmed39 U.vm ∧ U.heap = h0) (fun _ _ _ _ _ => True) (fun _ U o U' => ∃ v L, o = .returned v ∧ Q6AT_LEAST0 Z a1 w0 f0 v1 k1 d1 h0 n0 v U'.heap L ∧ FrameEnd U o U' L ({ frames := 3, cells := 0, slots := 0, locals := 40 } : Room).cells ({ frames := 3, cells := 0, slots := 0, locals := 40 } : Room).slots) := by
  refine MetFree.of_bodySF (plainFor_of_name pn_6AT_LEAST0) hisR ?_
  intro p e s m args below meth c s₁ Bd hml0 hP hK
  obtain ⟨rfl, hZ, hh⟩ := hP
  have hx := Bd.exec
  have hby := Bd.bytes
  have hml : c.maxLocals = 2 := hml0
  have hown : s.vm.findClass "java/lang/String" = some m.cls := findClass_of_methodNamed Bd.named
  have hnm := (name_of_methodNamed Bd.named Bd.method).1
  have X0 : Stand p l e ({ frames := 3, cells := 0, slots := 0, locals := 40 } : Room) s m #[(.ref a1), (.int (0 : Int32))] below meth c s₁ [] 0 0 := Stand.of_body Bd
  have e0 : s₁.heap = h0 := by rw [← hh, Bd.state]; rfl
  have N0 := Fr.nil n0
  have hS0 : s.Since s.vm 0 := (State.WarmedH.refl s).since 0
  show Go FrameEnd p e below s ({ frames := 3, cells := 0, slots := 0, locals := 40 } : Room).cells ({ frames := 3, cells := 0, slots := 0, locals := 40 } : Room).slots (Q6AT_LEAST0 Z a1 w0 f0 v1 k1 d1 h0 n0) (s₁.setTop (entryFrame m #[(.ref a1), (.int (0 : Int32))] 2))
  refine go (fun _ k => castTop (ef_6AT_LEAST0 m a1) k) ?_
  show Go _ p e below s _ _ _ (s₁.setTop (mkF m 0 #[.val (.ref a1), .val (.int (0 : Int32))] []))
  refine go (fun _ => XS.aloadN X0.here hx rfl (hb hby d6_0) rfl rfl) ?_
  show Go _ p e below s _ _ _ (s₁.setTop (mkF m 1 #[.val (.ref a1), .val (.int (0 : Int32))] [(.ref a1)]))
  obtain ⟨cq112, kq112, q112a, q112b, q112c⟩ := isOf hZ e0 P2
  obtain ⟨_, _, ⟨T112, L112, k112, n112⟩, -, X112, ⟨Lc112, hQ112, l112, y112, z112⟩, st112⟩ := X0.virtualBack hx (y := (⟨"java/lang/String", "isLatin1", "()Z"⟩ : MethodName)) (z := (⟨"java/lang/String", "isLatin1", "()Z"⟩ : MethodName)) hown (mvT hZ (hw _ (List.mem_of_getElem? (i := 39) rfl))) (mvT hZ (hw _ (List.mem_of_getElem? (i := 40) rfl))) (notFace_of_selects (args := #[]) (mvT hZ (hw _ (List.mem_of_getElem? (i := 42) rfl)))) (mvT hZ (hw _ (List.mem_of_getElem? (i := 42) rfl))) (mvT hZ (hw _ (List.mem_of_getElem? (i := 41) rfl))) (by decide) (backOf (W := 0) (rm7 l Z a0 hw [] a1 w0 h0 n0 Z0 P0 P3 hw0) hZ (hw _ (List.mem_of_getElem? (i := 43) rfl)) (hw _ (List.mem_of_getElem? (i := 22) rfl)) (by decide) (by decide)) q112a q112c (g := (mkF m 1 #[.val (.ref a1), .val (.int (0 : Int32))] [(.ref a1)])) rfl (by rw [hml]; rfl) (Steps.refl _) (argsL := []) (rest := []) (lenOf pd_6_0 rfl) rfl (by show 2 * 0 + _ ≤ _; exact Nat.le_of_eq rfl) (hb hby d6_1) (fun _ _ => ⟨rfl, e0, (by decide : 0 + 0 ≤ _), (by decide : 0 + 0 ≤ _)⟩)
  dsimp only [Pt.U, Pt.locs, Pt.cells, Pt.slots] at X112 l112 y112 z112 st112 hQ112
  subst l112 y112 z112
  obtain ⟨rfl, N112q, e112⟩ := hQ112
  have N112 := Fr.app N0 N112q
  refine goT st112 ?_
  show Go _ p e below s _ _ _ (T112.setTop (mkF m 4 #[.val (.ref a1), .val (.int (0 : Int32))] [(.int (1 : Int32))]))
  refine go (fun _ => XS.ifNo X112.here hx rfl (hb hby d6_4) rfl ((if0 _ _).trans (feq (by decide : ¬ ((1 : Int32) = (0 : Int32)))).1)) ?_
  show Go _ p e below s _ _ _ (T112.setTop (mkF m 7 #[.val (.ref a1), .val (.int (0 : Int32))] []))
  refine go (fun _ => XS.aloadN X112.here hx rfl (hb hby d6_7) rfl rfl) ?_
  show Go _ p e below s _ _ _ (T112.setTop (mkF m 8 #[.val (.ref a1), .val (.int (0 : Int32))] [(.ref a1)]))
  obtain ⟨T113, X113, e113, st113⟩ := getF X112 hx hZ hown (host := "") (Or.inl (hw _ (List.mem_of_getElem? (i := 24) rfl))) Via.refl e112 P4 (g := (mkF m 8 #[.val (.ref a1), .val (.int (0 : Int32))] [(.ref a1)])) rfl rfl (hb hby d6_8)
  refine go st113 ?_
  show Go _ p e below s _ _ _ (T113.setTop (mkF m 11 #[.val (.ref a1), .val (.int (0 : Int32))] [(.ref v1)]))
  refine go (fun _ => XS.iloadN X113.here hx rfl (hb hby d6_11) rfl) ?_
  show Go _ p e below s _ _ _ (T113.setTop (mkF m 12 #[.val (.ref a1), .val (.int (0 : Int32))] [(.int (0 : Int32)), (.ref v1)]))
  obtain ⟨_, _, ⟨T114, L114, k114, n114⟩, -, X114, ⟨Lc114, hQ114, l114, y114, z114⟩, st114⟩ := Jvm.LawKit.callS X113 hx (y := (⟨"java/lang/StringLatin1", "charAt", "([BI)C"⟩ : MethodName)) hown (mvT hZ (hw _ (List.mem_of_getElem? (i := 44) rfl))) (mvT hZ (hw _ (List.mem_of_getElem? (i := 45) rfl))) (mvT hZ (hw _ (List.mem_of_getElem? (i := 46) rfl))) (mvT hZ (hw _ (List.mem_of_getElem? (i := 47) rfl))) (by decide) (backOf (W := 0) (rm8AT_LEAST0 l Z a0 hw [] v1 f0 k1 d1 h0 n0 Z0 P1 P5 hf) hZ (hw _ (List.mem_of_getElem? (i := 47) rfl)) (hw _ (List.mem_of_getElem? (i := 46) rfl)) (by decide) (by decide)) (g := (mkF m 12 #[.val (.ref a1), .val (.int (0 : Int32))] [(.int (0 : Int32)), (.ref v1)])) rfl (by rw [hml]; rfl) (argsL := [(.ref v1), (.int (0 : Int32))]) (rest := []) (lenOf pd_6_1 rfl) rfl (by show 2 * 0 + _ ≤ _; exact Nat.le_of_eq rfl) (hb hby d6_12) (fun _ _ => ⟨rfl, e113, (by decide : 0 + 0 ≤ _), (by decide : 0 + 0 ≤ _)⟩)
  dsimp only [Pt.U, Pt.locs, Pt.cells, Pt.slots] at X114 l114 y114 z114 st114 hQ114
  subst l114 y114 z114
  obtain ⟨rfl, N114q, e114⟩ := hQ114
  have N114 := Fr.app N112 N114q
  refine go st114 ?_
  show Go _ p e below s _ _ _ (T114.setTop (mkF m 15 #[.val (.ref a1), .val (.int (0 : Int32))] [(.int (62 : Int32))]))
  refine goRet X114 hx Bd.notSynchronized Bd.returns rfl (Or.inl ⟨rfl, Or.inr (Or.inr (Or.inr (Or.inl rfl))), _, rfl⟩) (hb hby d6_15) (by decide) (by decide) (by rw [e114]; refine ⟨rfl, N114, rfl⟩)
theorem pn_8AT_LEAST1 : plainName "java/lang/StringLatin1" = true := by first | (simp [plainName, overriddenIn]; done) | decide +kernel
theorem ef_8AT_LEAST1 (m : MethodId) (v1 : Addr) : entryFrame m #[(.ref v1), (.int (1 : Int32))] 2 = mkF m 0 #[.val (.ref v1), .val (.int (1 : Int32))] [] := by first | (simp [entryFrame, mkF, argsToLocals, Value.category]; done) | rfl
def Q8AT_LEAST1 (Z : State) (v1 : Addr) (f0 : Value) (k1 : ClassId) (d1 : Value) (h0 : Heap) (n0 : Nat) (v : Option Value) (h : Heap) (L : List Loc) : Prop := v = some (.int (61 : Int32)) ∧ Fr n0 L ∧ (h = h0)
set_option maxRecDepth 65536 in
set_option maxHeartbeats 40000000 in
theorem rm8AT_LEAST1 (l : Launch) (Z : State) (a0 : Array Value) (hw : ∀ d ∈ tables_1, d.before a0 Z = true) (ws : List Jvm.Cond) (v1 : Addr) (f0 : Value) (k1 : ClassId) (d1 : Value) (h0 : Heap) (n0 : Nat) (Z0 : n0 ≤ h0.size) (P0 : Sta Z h0 "jdk/internal/util/Preconditions" "SIOOBE_FORMATTER" "Ljava/util/function/BiFunction;" f0) (P1 : Arv Z h0 v1 k1 .byte (2 : Int32) [(.int (62 : Int32)), (.int (61 : Int32))] d1) (hf : f0.isRef = true) :
    MetFree l (⟨"java/lang/StringLatin1", "charAt", "([BI)C"⟩ : MethodName) (head1 (Jvm.Cond.code (⟨"java/lang/StringLatin1", "charAt", "([BI)C"⟩ : MethodName) jdk_43_method_2_code 2 (some .char) :: ws) ({ frames := 2, cells := 0, slots := 0, locals := 27 } : Room)) (fun a U => a = #[(.ref v1), (.int (1 : Int32))] ∧ Z.Warmed39 U.vm ∧ U.heap = h0) (fun _ _ _ _ _ => True) (fun _ U o U' => ∃ v L, o = .returned v ∧ Q8AT_LEAST1 Z v1 f0 k1 d1 h0 n0 v U'.heap L ∧ FrameEnd U o U' L ({ frames := 2, cells := 0, slots := 0, locals := 27 } : Room).cells ({ frames := 2, cells := 0, slots := 0, locals := 27 } : Room).slots) := by
  refine MetFree.of_bodySF (plainFor_of_name pn_8AT_LEAST1) hisR ?_
  intro p e s m args below meth c s₁ Bd hml0 hP hK
  obtain ⟨rfl, hZ, hh⟩ := hP
  have hx := Bd.exec
  have hby := Bd.bytes
  have hml : c.maxLocals = 2 := hml0
  have hown : s.vm.findClass "java/lang/StringLatin1" = some m.cls := findClass_of_methodNamed Bd.named
  have hnm := (name_of_methodNamed Bd.named Bd.method).1
  have X0 : Stand p l e ({ frames := 2, cells := 0, slots := 0, locals := 27 } : Room) s m #[(.ref v1), (.int (1 : Int32))] below meth c s₁ [] 0 0 := Stand.of_body Bd
  have e0 : s₁.heap = h0 := by rw [← hh, Bd.state]; rfl
  have N0 := Fr.nil n0
  have hS0 : s.Since s.vm 0 := (State.WarmedH.refl s).since 0
  show Go FrameEnd p e below s ({ frames := 2, cells := 0, slots := 0, locals := 27 } : Room).cells ({ frames := 2, cells := 0, slots := 0, locals := 27 } : Room).slots (Q8AT_LEAST1 Z v1 f0 k1 d1 h0 n0) (s₁.setTop (entryFrame m #[(.ref v1), (.int (1 : Int32))] 2))
  refine go (fun _ k => castTop (ef_8AT_LEAST1 m v1) k) ?_
  show Go _ p e below s _ _ _ (s₁.setTop (mkF m 0 #[.val (.ref v1), .val (.int (1 : Int32))] []))
  refine go (fun _ => XS.iloadN X0.here hx rfl (hb hby d8_0) rfl) ?_
  show Go _ p e below s _ _ _ (s₁.setTop (mkF m 1 #[.val (.ref v1), .val (.int (1 : Int32))] [(.int (1 : Int32))]))
  refine go (fun _ => XS.aloadN X0.here hx rfl (hb hby d8_1) rfl rfl) ?_
  show Go _ p e below s _ _ _ (s₁.setTop (mkF m 2 #[.val (.ref v1), .val (.int (1 : Int32))] [(.ref v1), (.int (1 : Int32))]))
  obtain ⟨cl118, Ar118, -, Sz118, Nz118, -, -⟩ := id P1
  refine go (X0.arraylength hx (by rw [e0]; exact Ar118.1) (State.isArrayOf_alike hZ.alike Ar118.2.1) (g := (mkF m 2 #[.val (.ref v1), .val (.int (1 : Int32))] [(.ref v1), (.int (1 : Int32))])) rfl rfl (hb hby d8_2)) ?_
  rw [len_of Sz118 Nz118]
  show Go _ p e below s _ _ _ (s₁.setTop (mkF m 3 #[.val (.ref v1), .val (.int (1 : Int32))] [(.int (2 : Int32)), (.int (1 : Int32))]))
  obtain ⟨_, _, ⟨T119, L119, k119, n119⟩, -, X119, ⟨Lc119, hQ119, l119, y119, z119⟩, st119⟩ := Jvm.LawKit.callS X0 hx (y := (⟨"java/lang/String", "checkIndex", "(II)V"⟩ : MethodName)) hown (mvT hZ (hw _ (List.mem_of_getElem? (i := 48) rfl))) (mvT hZ (hw _ (List.mem_of_getElem? (i := 49) rfl))) (mvT hZ (hw _ (List.mem_of_getElem? (i := 22) rfl))) (mvT hZ (hw _ (List.mem_of_getElem? (i := 50) rfl))) (by decide) (backOf (W := 0) (rm9 l Z a0 hw [] (1 : Int32) (2 : Int32) f0 h0 n0 Z0 P0 (by decide) (by decide) hf) hZ (hw _ (List.mem_of_getElem? (i := 50) rfl)) (hw _ (List.mem_of_getElem? (i := 22) rfl)) (by decide) (by decide)) (g := (mkF m 3 #[.val (.ref v1), .val (.int (1 : Int32))] [(.int (2 : Int32)), (.int (1 : Int32))])) rfl (by rw [hml]; rfl) (argsL := [(.int (1 : Int32)), (.int (2 : Int32))]) (rest := []) (lenOf pd_8_0 rfl) rfl (by show 2 * 0 + _ ≤ _; exact Nat.le_of_eq rfl) (hb hby d8_3) (fun _ _ => ⟨rfl, e0, (by decide : 0 + 0 ≤ _), (by decide : 0 + 0 ≤ _)⟩)
  dsimp only [Pt.U, Pt.locs, Pt.cells, Pt.slots] at X119 l119 y119 z119 st119 hQ119
  subst l119 y119 z119
  obtain ⟨rfl, N119q, e119⟩ := hQ119
  have N119 := Fr.app N0 N119q
  refine go st119 ?_
  show Go _ p e below s _ _ _ (T119.setTop (mkF m 6 #[.val (.ref v1), .val (.int (1 : Int32))] []))
  refine go (fun _ => XS.aloadN X119.here hx rfl (hb hby d8_6) rfl rfl) ?_
  show Go _ p e below s _ _ _ (T119.setTop (mkF m 7 #[.val (.ref v1), .val (.int (1 : Int32))] [(.ref v1)]))
  refine go (fun _ => XS.iloadN X119.here hx rfl (hb hby d8_7) rfl) ?_
  show Go _ p e below s _ _ _ (T119.setTop (mkF m 8 #[.val (.ref v1), .val (.int (1 : Int32))] [(.int (1 : Int32)), (.ref v1)]))
  obtain ⟨cl120, Ar120, q120, Sz120, Nz120, Hs120, Gs120⟩ := id P1
  have hin120 : ¬ ((1 : Int32) < 0 ∨ cl120.slots.size ≤ ((1 : Int32)).toNatClampNeg) := inb_of Sz120 ⟨by decide, by decide⟩
  refine go (X119.baloadBytes hx (j := (1 : Int32)) (v := (.int (61 : Int32))) (by rw [e119]; exact Ar120.1) (State.isArrayOf_alike hZ.alike Ar120.2.1) Ar120.2.2 hin120 (Hs120.at hin120 rfl) (g := (mkF m 8 #[.val (.ref v1), .val (.int (1 : Int32))] [(.int (1 : Int32)), (.ref v1)])) rfl rfl (hb hby d8_8)) ?_
  show Go _ p e below s _ _ _ (T119.setTop (mkF m 9 #[.val (.ref v1), .val (.int (1 : Int32))] [(.int (61 : Int32))]))
  refine go (fun _ => XS.sipush X119.here hx rfl (hb hby d8_9)) ?_
  show Go _ p e below s _ _ _ (T119.setTop (mkF m 12 #[.val (.ref v1), .val (.int (1 : Int32))] [(.int (255 : Int32)), (.int (61 : Int32))]))
  refine go (fun _ => XS.iand X119.here hx rfl (hb hby d8_12) rfl) ?_
  show Go _ p e below s _ _ _ (T119.setTop (mkF m 13 #[.val (.ref v1), .val (.int (1 : Int32))] [(.int (61 : Int32))]))
  refine go (fun _ => XS.i2c X119.here hx rfl (hb hby d8_13) rfl) ?_
  show Go _ p e below s _ _ _ (T119.setTop (mkF m 14 #[.val (.ref v1), .val (.int (1 : Int32))] [(.int ((61 : Int32).toUInt32.toUInt16.toUInt32.toInt32))]))
  rw [show ((61 : Int32).toUInt32.toUInt16.toUInt32.toInt32) = (61 : Int32) from by decide]
  show Go _ p e below s _ _ _ (T119.setTop (mkF m 14 #[.val (.ref v1), .val (.int (1 : Int32))] [(.int (61 : Int32))]))
  refine goRet X119 hx Bd.notSynchronized Bd.returns rfl (Or.inl ⟨rfl, Or.inr (Or.inr (Or.inr (Or.inl rfl))), _, rfl⟩) (hb hby d8_14) (by decide) (by decide) (by rw [e119]; refine ⟨rfl, N119, rfl⟩)
theorem pn_6AT_LEAST1 : plainName "java/lang/String" = true := by first | (simp [plainName, overriddenIn]; done) | decide +kernel
theorem ef_6AT_LEAST1 (m : MethodId) (a1 : Addr) : entryFrame m #[(.ref a1), (.int (1 : Int32))] 2 = mkF m 0 #[.val (.ref a1), .val (.int (1 : Int32))] [] := by first | (simp [entryFrame, mkF, argsToLocals, Value.category]; done) | rfl
def Q6AT_LEAST1 (Z : State) (a1 : Addr) (w0 : Int32) (f0 : Value) (v1 : Addr) (k1 : ClassId) (d1 : Value) (h0 : Heap) (n0 : Nat) (v : Option Value) (h : Heap) (L : List Loc) : Prop := v = some (.int (61 : Int32)) ∧ Fr n0 L ∧ (h = h0)
set_option maxRecDepth 65536 in
set_option maxHeartbeats 40000000 in
theorem rm6AT_LEAST1 (l : Launch) (Z : State) (a0 : Array Value) (hw : ∀ d ∈ tables_1, d.before a0 Z = true) (ws : List Jvm.Cond) (a1 : Addr) (w0 : Int32) (f0 : Value) (v1 : Addr) (k1 : ClassId) (d1 : Value) (h0 : Heap) (n0 : Nat) (Z0 : n0 ≤ h0.size) (P0 : Sta Z h0 "java/lang/String" "COMPACT_STRINGS" "Z" (.int w0)) (P1 : Sta Z h0 "jdk/internal/util/Preconditions" "SIOOBE_FORMATTER" "Ljava/util/function/BiFunction;" f0) (P2 : Exa Z h0 a1 "java/lang/String") (P3 : Fld Z h0 a1 "java/lang/String" "coder" "B" (.int (0 : Int32))) (P4 : Fld Z h0 a1 "java/lang/String" "value" "[B" (.ref v1)) (P5 : Arv Z h0 v1 k1 .byte (2 : Int32) [(.int (62 : Int32)), (.int (61 : Int32))] d1) (hw0 : ¬ w0 = 0) (hf : f0.isRef = true) :
    MetFree l (⟨"java/lang/String", "charAt", "(I)C"⟩ : MethodName) (head1 (Jvm.Cond.code (⟨"java/lang/String", "charAt", "(I)C"⟩ : MethodName) jdk_42_method_56_code 2 (some .char) :: ws) ({ frames := 3, cells := 0, slots := 0, locals := 40 } : Room)) (fun a U => a = #[(.ref a1), (.int (1 : Int32))] ∧ Z.Warmed39 U.vm ∧ U.heap = h0) (fun _ _ _ _ _ => True) (fun _ U o U' => ∃ v L, o = .returned v ∧ Q6AT_LEAST1 Z a1 w0 f0 v1 k1 d1 h0 n0 v U'.heap L ∧ FrameEnd U o U' L ({ frames := 3, cells := 0, slots := 0, locals := 40 } : Room).cells ({ frames := 3, cells := 0, slots := 0, locals := 40 } : Room).slots) := by
  refine MetFree.of_bodySF (plainFor_of_name pn_6AT_LEAST1) hisR ?_
  intro p e s m args below meth c s₁ Bd hml0 hP hK
  obtain ⟨rfl, hZ, hh⟩ := hP
  have hx := Bd.exec
  have hby := Bd.bytes
  have hml : c.maxLocals = 2 := hml0
  have hown : s.vm.findClass "java/lang/String" = some m.cls := findClass_of_methodNamed Bd.named
  have hnm := (name_of_methodNamed Bd.named Bd.method).1
  have X0 : Stand p l e ({ frames := 3, cells := 0, slots := 0, locals := 40 } : Room) s m #[(.ref a1), (.int (1 : Int32))] below meth c s₁ [] 0 0 := Stand.of_body Bd
  have e0 : s₁.heap = h0 := by rw [← hh, Bd.state]; rfl
  have N0 := Fr.nil n0
  have hS0 : s.Since s.vm 0 := (State.WarmedH.refl s).since 0
  show Go FrameEnd p e below s ({ frames := 3, cells := 0, slots := 0, locals := 40 } : Room).cells ({ frames := 3, cells := 0, slots := 0, locals := 40 } : Room).slots (Q6AT_LEAST1 Z a1 w0 f0 v1 k1 d1 h0 n0) (s₁.setTop (entryFrame m #[(.ref a1), (.int (1 : Int32))] 2))
  refine go (fun _ k => castTop (ef_6AT_LEAST1 m a1) k) ?_
  show Go _ p e below s _ _ _ (s₁.setTop (mkF m 0 #[.val (.ref a1), .val (.int (1 : Int32))] []))
  refine go (fun _ => XS.aloadN X0.here hx rfl (hb hby d6_0) rfl rfl) ?_
  show Go _ p e below s _ _ _ (s₁.setTop (mkF m 1 #[.val (.ref a1), .val (.int (1 : Int32))] [(.ref a1)]))
  obtain ⟨cq124, kq124, q124a, q124b, q124c⟩ := isOf hZ e0 P2
  obtain ⟨_, _, ⟨T124, L124, k124, n124⟩, -, X124, ⟨Lc124, hQ124, l124, y124, z124⟩, st124⟩ := X0.virtualBack hx (y := (⟨"java/lang/String", "isLatin1", "()Z"⟩ : MethodName)) (z := (⟨"java/lang/String", "isLatin1", "()Z"⟩ : MethodName)) hown (mvT hZ (hw _ (List.mem_of_getElem? (i := 39) rfl))) (mvT hZ (hw _ (List.mem_of_getElem? (i := 40) rfl))) (notFace_of_selects (args := #[]) (mvT hZ (hw _ (List.mem_of_getElem? (i := 42) rfl)))) (mvT hZ (hw _ (List.mem_of_getElem? (i := 42) rfl))) (mvT hZ (hw _ (List.mem_of_getElem? (i := 41) rfl))) (by decide) (backOf (W := 0) (rm7 l Z a0 hw [] a1 w0 h0 n0 Z0 P0 P3 hw0) hZ (hw _ (List.mem_of_getElem? (i := 43) rfl)) (hw _ (List.mem_of_getElem? (i := 22) rfl)) (by decide) (by decide)) q124a q124c (g := (mkF m 1 #[.val (.ref a1), .val (.int (1 : Int32))] [(.ref a1)])) rfl (by rw [hml]; rfl) (Steps.refl _) (argsL := []) (rest := []) (lenOf pd_6_0 rfl) rfl (by show 2 * 0 + _ ≤ _; exact Nat.le_of_eq rfl) (hb hby d6_1) (fun _ _ => ⟨rfl, e0, (by decide : 0 + 0 ≤ _), (by decide : 0 + 0 ≤ _)⟩)
  dsimp only [Pt.U, Pt.locs, Pt.cells, Pt.slots] at X124 l124 y124 z124 st124 hQ124
  subst l124 y124 z124
  obtain ⟨rfl, N124q, e124⟩ := hQ124
  have N124 := Fr.app N0 N124q
  refine goT st124 ?_
  show Go _ p e below s _ _ _ (T124.setTop (mkF m 4 #[.val (.ref a1), .val (.int (1 : Int32))] [(.int (1 : Int32))]))
  refine go (fun _ => XS.ifNo X124.here hx rfl (hb hby d6_4) rfl ((if0 _ _).trans (feq (by decide : ¬ ((1 : Int32) = (0 : Int32)))).1)) ?_
  show Go _ p e below s _ _ _ (T124.setTop (mkF m 7 #[.val (.ref a1), .val (.int (1 : Int32))] []))
  refine go (fun _ => XS.aloadN X124.here hx rfl (hb hby d6_7) rfl rfl) ?_
  show Go _ p e below s _ _ _ (T124.setTop (mkF m 8 #[.val (.ref a1), .val (.int (1 : Int32))] [(.ref a1)]))
  obtain ⟨T125, X125, e125, st125⟩ := getF X124 hx hZ hown (host := "") (Or.inl (hw _ (List.mem_of_getElem? (i := 24) rfl))) Via.refl e124 P4 (g := (mkF m 8 #[.val (.ref a1), .val (.int (1 : Int32))] [(.ref a1)])) rfl rfl (hb hby d6_8)
  refine go st125 ?_
  show Go _ p e below s _ _ _ (T125.setTop (mkF m 11 #[.val (.ref a1), .val (.int (1 : Int32))] [(.ref v1)]))
  refine go (fun _ => XS.iloadN X125.here hx rfl (hb hby d6_11) rfl) ?_
  show Go _ p e below s _ _ _ (T125.setTop (mkF m 12 #[.val (.ref a1), .val (.int (1 : Int32))] [(.int (1 : Int32)), (.ref v1)]))
  obtain ⟨_, _, ⟨T126, L126, k126, n126⟩, -, X126, ⟨Lc126, hQ126, l126, y126, z126⟩, st126⟩ := Jvm.LawKit.callS X125 hx (y := (⟨"java/lang/StringLatin1", "charAt", "([BI)C"⟩ : MethodName)) hown (mvT hZ (hw _ (List.mem_of_getElem? (i := 44) rfl))) (mvT hZ (hw _ (List.mem_of_getElem? (i := 45) rfl))) (mvT hZ (hw _ (List.mem_of_getElem? (i := 46) rfl))) (mvT hZ (hw _ (List.mem_of_getElem? (i := 47) rfl))) (by decide) (backOf (W := 0) (rm8AT_LEAST1 l Z a0 hw [] v1 f0 k1 d1 h0 n0 Z0 P1 P5 hf) hZ (hw _ (List.mem_of_getElem? (i := 47) rfl)) (hw _ (List.mem_of_getElem? (i := 46) rfl)) (by decide) (by decide)) (g := (mkF m 12 #[.val (.ref a1), .val (.int (1 : Int32))] [(.int (1 : Int32)), (.ref v1)])) rfl (by rw [hml]; rfl) (argsL := [(.ref v1), (.int (1 : Int32))]) (rest := []) (lenOf pd_6_1 rfl) rfl (by show 2 * 0 + _ ≤ _; exact Nat.le_of_eq rfl) (hb hby d6_12) (fun _ _ => ⟨rfl, e125, (by decide : 0 + 0 ≤ _), (by decide : 0 + 0 ≤ _)⟩)
  dsimp only [Pt.U, Pt.locs, Pt.cells, Pt.slots] at X126 l126 y126 z126 st126 hQ126
  subst l126 y126 z126
  obtain ⟨rfl, N126q, e126⟩ := hQ126
  have N126 := Fr.app N124 N126q
  refine go st126 ?_
  show Go _ p e below s _ _ _ (T126.setTop (mkF m 15 #[.val (.ref a1), .val (.int (1 : Int32))] [(.int (61 : Int32))]))
  refine goRet X126 hx Bd.notSynchronized Bd.returns rfl (Or.inl ⟨rfl, Or.inr (Or.inr (Or.inr (Or.inl rfl))), _, rfl⟩) (hb hby d6_15) (by decide) (by decide) (by rw [e126]; refine ⟨rfl, N126, rfl⟩)
theorem d3_0 : decode method_3_code 0 = .ok (.aload_n 0, 1) := by decide +kernel
theorem d3_1 : decode method_3_code 1 = .ok (.invokevirtual 28, 3) := by decide +kernel
theorem d3_4 : decode method_3_code 4 = .ok (.ifCond .le 16, 3) := by decide +kernel
theorem d3_7 : decode method_3_code 7 = .ok (.aload_n 0, 1) := by decide +kernel
theorem d3_8 : decode method_3_code 8 = .ok (.iconst 0, 1) := by decide +kernel
theorem d3_9 : decode method_3_code 9 = .ok (.invokevirtual 34, 3) := by decide +kernel
theorem d3_12 : decode method_3_code 12 = .ok (.iload_n 1, 1) := by decide +kernel
theorem d3_13 : decode method_3_code 13 = .ok (.if_icmp .ne 7, 3) := by decide +kernel
theorem d3_20 : decode method_3_code 20 = .ok (.iconst 0, 1) := by decide +kernel
theorem d3_21 : decode method_3_code 21 = .ok (.istore_n 2, 1) := by decide +kernel
theorem d3_22 : decode method_3_code 22 = .ok (.aload_n 0, 1) := by decide +kernel
theorem d3_23 : decode method_3_code 23 = .ok (.invokevirtual 28, 3) := by decide +kernel
theorem d3_26 : decode method_3_code 26 = .ok (.iconst 1, 1) := by decide +kernel
theorem d3_27 : decode method_3_code 27 = .ok (.if_icmp .le 16, 3) := by decide +kernel
theorem d3_43 : decode method_3_code 43 = .ok (.iconst 0, 1) := by decide +kernel
theorem d3_44 : decode method_3_code 44 = .ok (.istore_n 3, 1) := by decide +kernel
theorem d3_45 : decode method_3_code 45 = .ok (.iload_n 2, 1) := by decide +kernel
theorem d3_46 : decode method_3_code 46 = .ok (.ifCond .ne 7, 3) := by decide +kernel
theorem d3_49 : decode method_3_code 49 = .ok (.iload_n 3, 1) := by decide +kernel
theorem d3_50 : decode method_3_code 50 = .ok (.ifCond .eq 7, 3) := by decide +kernel
theorem d3_57 : decode method_3_code 57 = .ok (.iconst 0, 1) := by decide +kernel
theorem d3_58 : decode method_3_code 58 = .ok (.ireturn, 1) := by decide +kernel
theorem pn_3EQUAL60 : plainName "com/example/reticule/reticule/engine/ComparisonHoldsPinLaw" = true := by first | (simp [plainName, overriddenIn]; done) | decide +kernel
theorem pd_3_0 : parseMethodDescriptor "()I" = some ⟨[], some .int⟩ := by decide +kernel
theorem pd_3_1 : parseMethodDescriptor "(I)C" = some ⟨[.int], some .char⟩ := by decide +kernel
theorem ef_3EQUAL60 (m : MethodId) (a1 : Addr) : entryFrame m #[(.ref a1), (.int (60 : Int32))] 4 = mkF m 0 #[.val (.ref a1), .val (.int (60 : Int32)), .unset, .unset] [] := by first | (simp [entryFrame, mkF, argsToLocals, Value.category]; done) | rfl
def Q3EQUAL60 (Z : State) (a1 : Addr) (w0 : Int32) (f0 : Value) (v1 : Addr) (k1 : ClassId) (d1 : Value) (h0 : Heap) (n0 : Nat) (v : Option Value) (h : Heap) (L : List Loc) : Prop := v = some (.int (0 : Int32)) ∧ Fr n0 L ∧ (h = h0)
set_option maxRecDepth 65536 in
set_option maxHeartbeats 40000000 in
theorem rm3EQUAL60 (l : Launch) (Z : State) (a0 : Array Value) (hw : ∀ d ∈ tables_1, d.before a0 Z = true) (ws : List Jvm.Cond) (a1 : Addr) (w0 : Int32) (f0 : Value) (v1 : Addr) (k1 : ClassId) (d1 : Value) (h0 : Heap) (n0 : Nat) (Z0 : n0 ≤ h0.size) (P0 : Sta Z h0 "java/lang/String" "COMPACT_STRINGS" "Z" (.int w0)) (P1 : Sta Z h0 "jdk/internal/util/Preconditions" "SIOOBE_FORMATTER" "Ljava/util/function/BiFunction;" f0) (P2 : Exa Z h0 a1 "java/lang/String") (P3 : Fld Z h0 a1 "java/lang/String" "coder" "B" (.int (0 : Int32))) (P4 : Fld Z h0 a1 "java/lang/String" "value" "[B" (.ref v1)) (P5 : Arv Z h0 v1 k1 .byte (1 : Int32) [(.int (61 : Int32))] d1) (hw0 : ¬ w0 = 0) (hf : f0.isRef = true) :
    MetFree l (⟨"com/example/reticule/reticule/engine/ComparisonHoldsPinLaw", "has", "(Ljava/lang/String;C)Z"⟩ : MethodName) (head1 (Jvm.Cond.code (⟨"com/example/reticule/reticule/engine/ComparisonHoldsPinLaw", "has", "(Ljava/lang/String;C)Z"⟩ : MethodName) method_3_code 4 (some .boolean) :: ws) ({ frames := 4, cells := 0, slots := 0, locals := 53 } : Room)) (fun a U => a = #[(.ref a1), (.int (60 : Int32))] ∧ Z.Warmed39 U.vm ∧ U.heap = h0) (fun _ _ _ _ _ => True) (fun _ U o U' => ∃ v L, o = .returned v ∧ Q3EQUAL60 Z a1 w0 f0 v1 k1 d1 h0 n0 v U'.heap L ∧ FrameEnd U o U' L ({ frames := 4, cells := 0, slots := 0, locals := 53 } : Room).cells ({ frames := 4, cells := 0, slots := 0, locals := 53 } : Room).slots) := by
  refine MetFree.of_bodySF (plainFor_of_name pn_3EQUAL60) hisR ?_
  intro p e s m args below meth c s₁ Bd hml0 hP hK
  obtain ⟨rfl, hZ, hh⟩ := hP
  have hx := Bd.exec
  have hby := Bd.bytes
  have hml : c.maxLocals = 4 := hml0
  have hown : s.vm.findClass "com/example/reticule/reticule/engine/ComparisonHoldsPinLaw" = some m.cls := findClass_of_methodNamed Bd.named
  have hnm := (name_of_methodNamed Bd.named Bd.method).1
  have X0 : Stand p l e ({ frames := 4, cells := 0, slots := 0, locals := 53 } : Room) s m #[(.ref a1), (.int (60 : Int32))] below meth c s₁ [] 0 0 := Stand.of_body Bd
  have e0 : s₁.heap = h0 := by rw [← hh, Bd.state]; rfl
  have N0 := Fr.nil n0
  have hS0 : s.Since s.vm 0 := (State.WarmedH.refl s).since 0
  show Go FrameEnd p e below s ({ frames := 4, cells := 0, slots := 0, locals := 53 } : Room).cells ({ frames := 4, cells := 0, slots := 0, locals := 53 } : Room).slots (Q3EQUAL60 Z a1 w0 f0 v1 k1 d1 h0 n0) (s₁.setTop (entryFrame m #[(.ref a1), (.int (60 : Int32))] 4))
  refine go (fun _ k => castTop (ef_3EQUAL60 m a1) k) ?_
  show Go _ p e below s _ _ _ (s₁.setTop (mkF m 0 #[.val (.ref a1), .val (.int (60 : Int32)), .unset, .unset] []))
  refine go (fun _ => XS.aloadN X0.here hx rfl (hb hby d3_0) rfl rfl) ?_
  show Go _ p e below s _ _ _ (s₁.setTop (mkF m 1 #[.val (.ref a1), .val (.int (60 : Int32)), .unset, .unset] [(.ref a1)]))
  obtain ⟨cq130, kq130, q130a, q130b, q130c⟩ := isOf hZ e0 P2
  obtain ⟨_, _, ⟨T130, L130, k130, n130⟩, -, X130, ⟨Lc130, hQ130, l130, y130, z130⟩, st130⟩ := X0.virtualBack hx (y := (⟨"java/lang/String", "length", "()I"⟩ : MethodName)) (z := (⟨"java/lang/String", "length", "()I"⟩ : MethodName)) hown (mvT hZ (hw _ (List.mem_of_getElem? (i := 18) rfl))) (mvT hZ (hw _ (List.mem_of_getElem? (i := 19) rfl))) (notFace_of_selects (args := #[]) (mvT hZ (hw _ (List.mem_of_getElem? (i := 21) rfl)))) (mvT hZ (hw _ (List.mem_of_getElem? (i := 21) rfl))) (mvT hZ (hw _ (List.mem_of_getElem? (i := 20) rfl))) (by decide) (backOf (W := 0) (rm4 l Z a0 hw [] a1 w0 v1 k1 (1 : Int32) [(.int (61 : Int32))] d1 h0 n0 Z0 P0 P2 P3 P4 P5 hw0) hZ (hw _ (List.mem_of_getElem? (i := 23) rfl)) (hw _ (List.mem_of_getElem? (i := 22) rfl)) (by decide) (by decide)) q130a q130c (g := (mkF m 1 #[.val (.ref a1), .val (.int (60 : Int32)), .unset, .unset] [(.ref a1)])) rfl (by rw [hml]; rfl) (Steps.refl _) (argsL := []) (rest := []) (lenOf pd_3_0 rfl) rfl (by show 2 * 0 + _ ≤ _; exact Nat.le_of_eq rfl) (hb hby d3_1) (fun _ _ => ⟨rfl, e0, (by decide : 0 + 0 ≤ _), (by decide : 0 + 0 ≤ _)⟩)
  dsimp only [Pt.U, Pt.locs, Pt.cells, Pt.slots] at X130 l130 y130 z130 st130 hQ130
  subst l130 y130 z130
  obtain ⟨rfl, N130q, e130⟩ := hQ130
  have N130 := Fr.app N0 N130q
  refine goT st130 ?_
  show Go _ p e below s _ _ _ (T130.setTop (mkF m 4 #[.val (.ref a1), .val (.int (60 : Int32)), .unset, .unset] [(.int (1 : Int32))]))
  refine go (fun _ => XS.ifNo X130.here hx rfl (hb hby d3_4) rfl ((if0 _ _).trans (tlt (by decide : ((0 : Int32) < (1 : Int32)))).2.2.2)) ?_
  show Go _ p e below s _ _ _ (T130.setTop (mkF m 7 #[.val (.ref a1), .val (.int (60 : Int32)), .unset, .unset] []))
  refine go (fun _ => XS.aloadN X130.here hx rfl (hb hby d3_7) rfl rfl) ?_
  show Go _ p e below s _ _ _ (T130.setTop (mkF m 8 #[.val (.ref a1), .val (.int (60 : Int32)), .unset, .unset] [(.ref a1)]))
  refine go (fun _ => XS.iconst X130.here hx rfl (hb hby d3_8)) ?_
  show Go _ p e below s _ _ _ (T130.setTop (mkF m 9 #[.val (.ref a1), .val (.int (60 : Int32)), .unset, .unset] [(.int (0 : Int32)), (.ref a1)]))
  obtain ⟨cq131, kq131, q131a, q131b, q131c⟩ := isOf hZ e130 P2
  obtain ⟨_, _, ⟨T131, L131, k131, n131⟩, -, X131, ⟨Lc131, hQ131, l131, y131, z131⟩, st131⟩ := X130.virtualBack hx (y := (⟨"java/lang/String", "charAt", "(I)C"⟩ : MethodName)) (z := (⟨"java/lang/String", "charAt", "(I)C"⟩ : MethodName)) hown (mvT hZ (hw _ (List.mem_of_getElem? (i := 34) rfl))) (mvT hZ (hw _ (List.mem_of_getElem? (i := 35) rfl))) (notFace_of_selects (args := #[]) (mvT hZ (hw _ (List.mem_of_getElem? (i := 37) rfl)))) (mvT hZ (hw _ (List.mem_of_getElem? (i := 37) rfl))) (mvT hZ (hw _ (List.mem_of_getElem? (i := 36) rfl))) (by decide) (backOf (W := 0) (rm6EQUAL0 l Z a0 hw [] a1 w0 f0 v1 k1 d1 h0 n0 Z0 P0 P1 P2 P3 P4 P5 hw0 hf) hZ (hw _ (List.mem_of_getElem? (i := 38) rfl)) (hw _ (List.mem_of_getElem? (i := 22) rfl)) (by decide) (by decide)) q131a q131c (g := (mkF m 9 #[.val (.ref a1), .val (.int (60 : Int32)), .unset, .unset] [(.int (0 : Int32)), (.ref a1)])) rfl (by rw [hml]; rfl) (Steps.refl _) (argsL := [(.int (0 : Int32))]) (rest := []) (lenOf pd_3_1 rfl) rfl (by show 2 * 0 + _ ≤ _; exact Nat.le_of_eq rfl) (hb hby d3_9) (fun _ _ => ⟨rfl, e130, (by decide : 0 + 0 ≤ _), (by decide : 0 + 0 ≤ _)⟩)
  dsimp only [Pt.U, Pt.locs, Pt.cells, Pt.slots] at X131 l131 y131 z131 st131 hQ131
  subst l131 y131 z131
  obtain ⟨rfl, N131q, e131⟩ := hQ131
  have N131 := Fr.app N130 N131q
  refine goT st131 ?_
  show Go _ p e below s _ _ _ (T131.setTop (mkF m 12 #[.val (.ref a1), .val (.int (60 : Int32)), .unset, .unset] [(.int (61 : Int32))]))
  refine go (fun _ => XS.iloadN X131.here hx rfl (hb hby d3_12) rfl) ?_
  show Go _ p e below s _ _ _ (T131.setTop (mkF m 13 #[.val (.ref a1), .val (.int (60 : Int32)), .unset, .unset] [(.int (60 : Int32)), (.int (61 : Int32))]))
  refine go (fun _ => XS.icmpYes X131.here hx rfl (pc0 := 13) (pc' := 20) rfl (hb hby d3_13) rfl (feq (by decide : ¬ ((61 : Int32) = (60 : Int32)))).2 (by decide) (by decide)) ?_
  show Go _ p e below s _ _ _ (T131.setTop (mkF m 20 #[.val (.ref a1), .val (.int (60 : Int32)), .unset, .unset] []))
  refine go (fun _ => XS.iconst X131.here hx rfl (hb hby d3_20)) ?_
  show Go _ p e below s _ _ _ (T131.setTop (mkF m 21 #[.val (.ref a1), .val (.int (60 : Int32)), .unset, .unset] [(.int (0 : Int32))]))
  refine go (fun _ => XS.istoreN X131.here hx rfl (hb hby d3_21) rfl (l' := #[.val (.ref a1), .val (.int (60 : Int32)), .val (.int (0 : Int32)), .unset]) rfl) ?_
  show Go _ p e below s _ _ _ (T131.setTop (mkF m 22 #[.val (.ref a1), .val (.int (60 : Int32)), .val (.int (0 : Int32)), .unset] []))
  refine go (fun _ => XS.aloadN X131.here hx rfl (hb hby d3_22) rfl rfl) ?_
  show Go _ p e below s _ _ _ (T131.setTop (mkF m 23 #[.val (.ref a1), .val (.int (60 : Int32)), .val (.int (0 : Int32)), .unset] [(.ref a1)]))
  obtain ⟨cq132, kq132, q132a, q132b, q132c⟩ := isOf hZ e131 P2
  obtain ⟨_, _, ⟨T132, L132, k132, n132⟩, -, X132, ⟨Lc132, hQ132, l132, y132, z132⟩, st132⟩ := X131.virtualBack hx (y := (⟨"java/lang/String", "length", "()I"⟩ : MethodName)) (z := (⟨"java/lang/String", "length", "()I"⟩ : MethodName)) hown (mvT hZ (hw _ (List.mem_of_getElem? (i := 18) rfl))) (mvT hZ (hw _ (List.mem_of_getElem? (i := 19) rfl))) (notFace_of_selects (args := #[]) (mvT hZ (hw _ (List.mem_of_getElem? (i := 21) rfl)))) (mvT hZ (hw _ (List.mem_of_getElem? (i := 21) rfl))) (mvT hZ (hw _ (List.mem_of_getElem? (i := 20) rfl))) (by decide) (backOf (W := 0) (rm4 l Z a0 hw [] a1 w0 v1 k1 (1 : Int32) [(.int (61 : Int32))] d1 h0 n0 Z0 P0 P2 P3 P4 P5 hw0) hZ (hw _ (List.mem_of_getElem? (i := 23) rfl)) (hw _ (List.mem_of_getElem? (i := 22) rfl)) (by decide) (by decide)) q132a q132c (g := (mkF m 23 #[.val (.ref a1), .val (.int (60 : Int32)), .val (.int (0 : Int32)), .unset] [(.ref a1)])) rfl (by rw [hml]; rfl) (Steps.refl _) (argsL := []) (rest := []) (lenOf pd_3_0 rfl) rfl (by show 2 * 0 + _ ≤ _; exact Nat.le_of_eq rfl) (hb hby d3_23) (fun _ _ => ⟨rfl, e131, (by decide : 0 + 0 ≤ _), (by decide : 0 + 0 ≤ _)⟩)
  dsimp only [Pt.U, Pt.locs, Pt.cells, Pt.slots] at X132 l132 y132 z132 st132 hQ132
  subst l132 y132 z132
  obtain ⟨rfl, N132q, e132⟩ := hQ132
  have N132 := Fr.app N131 N132q
  refine goT st132 ?_
  show Go _ p e below s _ _ _ (T132.setTop (mkF m 26 #[.val (.ref a1), .val (.int (60 : Int32)), .val (.int (0 : Int32)), .unset] [(.int (1 : Int32))]))
  refine go (fun _ => XS.iconst X132.here hx rfl (hb hby d3_26)) ?_
  show Go _ p e below s _ _ _ (T132.setTop (mkF m 27 #[.val (.ref a1), .val (.int (60 : Int32)), .val (.int (0 : Int32)), .unset] [(.int (1 : Int32)), (.int (1 : Int32))]))
  refine go (fun _ => XS.icmpYes X132.here hx rfl (pc0 := 27) (pc' := 43) rfl (hb hby d3_27) rfl (flt (by decide : ¬ ((1 : Int32) < (1 : Int32)))).2.2.2 (by decide) (by decide)) ?_
  show Go _ p e below s _ _ _ (T132.setTop (mkF m 43 #[.val (.ref a1), .val (.int (60 : Int32)), .val (.int (0 : Int32)), .unset] []))
  refine go (fun _ => XS.iconst X132.here hx rfl (hb hby d3_43)) ?_
  show Go _ p e below s _ _ _ (T132.setTop (mkF m 44 #[.val (.ref a1), .val (.int (60 : Int32)), .val (.int (0 : Int32)), .unset] [(.int (0 : Int32))]))
  refine go (fun _ => XS.istoreN X132.here hx rfl (hb hby d3_44) rfl (l' := #[.val (.ref a1), .val (.int (60 : Int32)), .val (.int (0 : Int32)), .val (.int (0 : Int32))]) rfl) ?_
  show Go _ p e below s _ _ _ (T132.setTop (mkF m 45 #[.val (.ref a1), .val (.int (60 : Int32)), .val (.int (0 : Int32)), .val (.int (0 : Int32))] []))
  refine go (fun _ => XS.iloadN X132.here hx rfl (hb hby d3_45) rfl) ?_
  show Go _ p e below s _ _ _ (T132.setTop (mkF m 46 #[.val (.ref a1), .val (.int (60 : Int32)), .val (.int (0 : Int32)), .val (.int (0 : Int32))] [(.int (0 : Int32))]))
  refine go (fun _ => XS.ifNo X132.here hx rfl (hb hby d3_46) rfl ((if0 _ _).trans (teq (rfl : (0 : Int32) = (0 : Int32))).2)) ?_
  show Go _ p e below s _ _ _ (T132.setTop (mkF m 49 #[.val (.ref a1), .val (.int (60 : Int32)), .val (.int (0 : Int32)), .val (.int (0 : Int32))] []))
  refine go (fun _ => XS.iloadN X132.here hx rfl (hb hby d3_49) rfl) ?_
  show Go _ p e below s _ _ _ (T132.setTop (mkF m 50 #[.val (.ref a1), .val (.int (60 : Int32)), .val (.int (0 : Int32)), .val (.int (0 : Int32))] [(.int (0 : Int32))]))
  refine go (fun _ => XS.ifYes X132.here hx rfl (pc0 := 50) (pc' := 57) rfl (hb hby d3_50) rfl ((if0 _ _).trans (teq (rfl : (0 : Int32) = (0 : Int32))).1) (by decide) (by decide)) ?_
  show Go _ p e below s _ _ _ (T132.setTop (mkF m 57 #[.val (.ref a1), .val (.int (60 : Int32)), .val (.int (0 : Int32)), .val (.int (0 : Int32))] []))
  refine go (fun _ => XS.iconst X132.here hx rfl (hb hby d3_57)) ?_
  show Go _ p e below s _ _ _ (T132.setTop (mkF m 58 #[.val (.ref a1), .val (.int (60 : Int32)), .val (.int (0 : Int32)), .val (.int (0 : Int32))] [(.int (0 : Int32))]))
  refine goRet X132 hx Bd.notSynchronized Bd.returns rfl (Or.inl ⟨rfl, Or.inr (Or.inl rfl), _, rfl⟩) (hb hby d3_58) (by decide) (by decide) (by rw [e132]; refine ⟨rfl, N132, rfl⟩)
theorem d3_16 : decode method_3_code 16 = .ok (.iconst 1, 1) := by decide +kernel
theorem d3_17 : decode method_3_code 17 = .ok (.goto 4, 3) := by decide +kernel
theorem d3_53 : decode method_3_code 53 = .ok (.iconst 1, 1) := by decide +kernel
theorem d3_54 : decode method_3_code 54 = .ok (.goto 4, 3) := by decide +kernel
theorem pn_3EQUAL61 : plainName "com/example/reticule/reticule/engine/ComparisonHoldsPinLaw" = true := by first | (simp [plainName, overriddenIn]; done) | decide +kernel
theorem ef_3EQUAL61 (m : MethodId) (a1 : Addr) : entryFrame m #[(.ref a1), (.int (61 : Int32))] 4 = mkF m 0 #[.val (.ref a1), .val (.int (61 : Int32)), .unset, .unset] [] := by first | (simp [entryFrame, mkF, argsToLocals, Value.category]; done) | rfl
def Q3EQUAL61 (Z : State) (a1 : Addr) (w0 : Int32) (f0 : Value) (v1 : Addr) (k1 : ClassId) (d1 : Value) (h0 : Heap) (n0 : Nat) (v : Option Value) (h : Heap) (L : List Loc) : Prop := v = some (.int (1 : Int32)) ∧ Fr n0 L ∧ (h = h0)
set_option maxRecDepth 65536 in
set_option maxHeartbeats 40000000 in
theorem rm3EQUAL61 (l : Launch) (Z : State) (a0 : Array Value) (hw : ∀ d ∈ tables_1, d.before a0 Z = true) (ws : List Jvm.Cond) (a1 : Addr) (w0 : Int32) (f0 : Value) (v1 : Addr) (k1 : ClassId) (d1 : Value) (h0 : Heap) (n0 : Nat) (Z0 : n0 ≤ h0.size) (P0 : Sta Z h0 "java/lang/String" "COMPACT_STRINGS" "Z" (.int w0)) (P1 : Sta Z h0 "jdk/internal/util/Preconditions" "SIOOBE_FORMATTER" "Ljava/util/function/BiFunction;" f0) (P2 : Exa Z h0 a1 "java/lang/String") (P3 : Fld Z h0 a1 "java/lang/String" "coder" "B" (.int (0 : Int32))) (P4 : Fld Z h0 a1 "java/lang/String" "value" "[B" (.ref v1)) (P5 : Arv Z h0 v1 k1 .byte (1 : Int32) [(.int (61 : Int32))] d1) (hw0 : ¬ w0 = 0) (hf : f0.isRef = true) :
    MetFree l (⟨"com/example/reticule/reticule/engine/ComparisonHoldsPinLaw", "has", "(Ljava/lang/String;C)Z"⟩ : MethodName) (head1 (Jvm.Cond.code (⟨"com/example/reticule/reticule/engine/ComparisonHoldsPinLaw", "has", "(Ljava/lang/String;C)Z"⟩ : MethodName) method_3_code 4 (some .boolean) :: ws) ({ frames := 4, cells := 0, slots := 0, locals := 53 } : Room)) (fun a U => a = #[(.ref a1), (.int (61 : Int32))] ∧ Z.Warmed39 U.vm ∧ U.heap = h0) (fun _ _ _ _ _ => True) (fun _ U o U' => ∃ v L, o = .returned v ∧ Q3EQUAL61 Z a1 w0 f0 v1 k1 d1 h0 n0 v U'.heap L ∧ FrameEnd U o U' L ({ frames := 4, cells := 0, slots := 0, locals := 53 } : Room).cells ({ frames := 4, cells := 0, slots := 0, locals := 53 } : Room).slots) := by
  refine MetFree.of_bodySF (plainFor_of_name pn_3EQUAL61) hisR ?_
  intro p e s m args below meth c s₁ Bd hml0 hP hK
  obtain ⟨rfl, hZ, hh⟩ := hP
  have hx := Bd.exec
  have hby := Bd.bytes
  have hml : c.maxLocals = 4 := hml0
  have hown : s.vm.findClass "com/example/reticule/reticule/engine/ComparisonHoldsPinLaw" = some m.cls := findClass_of_methodNamed Bd.named
  have hnm := (name_of_methodNamed Bd.named Bd.method).1
  have X0 : Stand p l e ({ frames := 4, cells := 0, slots := 0, locals := 53 } : Room) s m #[(.ref a1), (.int (61 : Int32))] below meth c s₁ [] 0 0 := Stand.of_body Bd
  have e0 : s₁.heap = h0 := by rw [← hh, Bd.state]; rfl
  have N0 := Fr.nil n0
  have hS0 : s.Since s.vm 0 := (State.WarmedH.refl s).since 0
  show Go FrameEnd p e below s ({ frames := 4, cells := 0, slots := 0, locals := 53 } : Room).cells ({ frames := 4, cells := 0, slots := 0, locals := 53 } : Room).slots (Q3EQUAL61 Z a1 w0 f0 v1 k1 d1 h0 n0) (s₁.setTop (entryFrame m #[(.ref a1), (.int (61 : Int32))] 4))
  refine go (fun _ k => castTop (ef_3EQUAL61 m a1) k) ?_
  show Go _ p e below s _ _ _ (s₁.setTop (mkF m 0 #[.val (.ref a1), .val (.int (61 : Int32)), .unset, .unset] []))
  refine go (fun _ => XS.aloadN X0.here hx rfl (hb hby d3_0) rfl rfl) ?_
  show Go _ p e below s _ _ _ (s₁.setTop (mkF m 1 #[.val (.ref a1), .val (.int (61 : Int32)), .unset, .unset] [(.ref a1)]))
  obtain ⟨cq136, kq136, q136a, q136b, q136c⟩ := isOf hZ e0 P2
  obtain ⟨_, _, ⟨T136, L136, k136, n136⟩, -, X136, ⟨Lc136, hQ136, l136, y136, z136⟩, st136⟩ := X0.virtualBack hx (y := (⟨"java/lang/String", "length", "()I"⟩ : MethodName)) (z := (⟨"java/lang/String", "length", "()I"⟩ : MethodName)) hown (mvT hZ (hw _ (List.mem_of_getElem? (i := 18) rfl))) (mvT hZ (hw _ (List.mem_of_getElem? (i := 19) rfl))) (notFace_of_selects (args := #[]) (mvT hZ (hw _ (List.mem_of_getElem? (i := 21) rfl)))) (mvT hZ (hw _ (List.mem_of_getElem? (i := 21) rfl))) (mvT hZ (hw _ (List.mem_of_getElem? (i := 20) rfl))) (by decide) (backOf (W := 0) (rm4 l Z a0 hw [] a1 w0 v1 k1 (1 : Int32) [(.int (61 : Int32))] d1 h0 n0 Z0 P0 P2 P3 P4 P5 hw0) hZ (hw _ (List.mem_of_getElem? (i := 23) rfl)) (hw _ (List.mem_of_getElem? (i := 22) rfl)) (by decide) (by decide)) q136a q136c (g := (mkF m 1 #[.val (.ref a1), .val (.int (61 : Int32)), .unset, .unset] [(.ref a1)])) rfl (by rw [hml]; rfl) (Steps.refl _) (argsL := []) (rest := []) (lenOf pd_3_0 rfl) rfl (by show 2 * 0 + _ ≤ _; exact Nat.le_of_eq rfl) (hb hby d3_1) (fun _ _ => ⟨rfl, e0, (by decide : 0 + 0 ≤ _), (by decide : 0 + 0 ≤ _)⟩)
  dsimp only [Pt.U, Pt.locs, Pt.cells, Pt.slots] at X136 l136 y136 z136 st136 hQ136
  subst l136 y136 z136
  obtain ⟨rfl, N136q, e136⟩ := hQ136
  have N136 := Fr.app N0 N136q
  refine goT st136 ?_
  show Go _ p e below s _ _ _ (T136.setTop (mkF m 4 #[.val (.ref a1), .val (.int (61 : Int32)), .unset, .unset] [(.int (1 : Int32))]))
  refine go (fun _ => XS.ifNo X136.here hx rfl (hb hby d3_4) rfl ((if0 _ _).trans (tlt (by decide : ((0 : Int32) < (1 : Int32)))).2.2.2)) ?_
  show Go _ p e below s _ _ _ (T136.setTop (mkF m 7 #[.val (.ref a1), .val (.int (61 : Int32)), .unset, .unset] []))
  refine go (fun _ => XS.aloadN X136.here hx rfl (hb hby d3_7) rfl rfl) ?_
  show Go _ p e below s _ _ _ (T136.setTop (mkF m 8 #[.val (.ref a1), .val (.int (61 : Int32)), .unset, .unset] [(.ref a1)]))
  refine go (fun _ => XS.iconst X136.here hx rfl (hb hby d3_8)) ?_
  show Go _ p e below s _ _ _ (T136.setTop (mkF m 9 #[.val (.ref a1), .val (.int (61 : Int32)), .unset, .unset] [(.int (0 : Int32)), (.ref a1)]))
  obtain ⟨cq137, kq137, q137a, q137b, q137c⟩ := isOf hZ e136 P2
  obtain ⟨_, _, ⟨T137, L137, k137, n137⟩, -, X137, ⟨Lc137, hQ137, l137, y137, z137⟩, st137⟩ := X136.virtualBack hx (y := (⟨"java/lang/String", "charAt", "(I)C"⟩ : MethodName)) (z := (⟨"java/lang/String", "charAt", "(I)C"⟩ : MethodName)) hown (mvT hZ (hw _ (List.mem_of_getElem? (i := 34) rfl))) (mvT hZ (hw _ (List.mem_of_getElem? (i := 35) rfl))) (notFace_of_selects (args := #[]) (mvT hZ (hw _ (List.mem_of_getElem? (i := 37) rfl)))) (mvT hZ (hw _ (List.mem_of_getElem? (i := 37) rfl))) (mvT hZ (hw _ (List.mem_of_getElem? (i := 36) rfl))) (by decide) (backOf (W := 0) (rm6EQUAL0 l Z a0 hw [] a1 w0 f0 v1 k1 d1 h0 n0 Z0 P0 P1 P2 P3 P4 P5 hw0 hf) hZ (hw _ (List.mem_of_getElem? (i := 38) rfl)) (hw _ (List.mem_of_getElem? (i := 22) rfl)) (by decide) (by decide)) q137a q137c (g := (mkF m 9 #[.val (.ref a1), .val (.int (61 : Int32)), .unset, .unset] [(.int (0 : Int32)), (.ref a1)])) rfl (by rw [hml]; rfl) (Steps.refl _) (argsL := [(.int (0 : Int32))]) (rest := []) (lenOf pd_3_1 rfl) rfl (by show 2 * 0 + _ ≤ _; exact Nat.le_of_eq rfl) (hb hby d3_9) (fun _ _ => ⟨rfl, e136, (by decide : 0 + 0 ≤ _), (by decide : 0 + 0 ≤ _)⟩)
  dsimp only [Pt.U, Pt.locs, Pt.cells, Pt.slots] at X137 l137 y137 z137 st137 hQ137
  subst l137 y137 z137
  obtain ⟨rfl, N137q, e137⟩ := hQ137
  have N137 := Fr.app N136 N137q
  refine goT st137 ?_
  show Go _ p e below s _ _ _ (T137.setTop (mkF m 12 #[.val (.ref a1), .val (.int (61 : Int32)), .unset, .unset] [(.int (61 : Int32))]))
  refine go (fun _ => XS.iloadN X137.here hx rfl (hb hby d3_12) rfl) ?_
  show Go _ p e below s _ _ _ (T137.setTop (mkF m 13 #[.val (.ref a1), .val (.int (61 : Int32)), .unset, .unset] [(.int (61 : Int32)), (.int (61 : Int32))]))
  refine go (fun _ => XS.icmpNo X137.here hx rfl (hb hby d3_13) rfl (teq (rfl : (61 : Int32) = (61 : Int32))).2) ?_
  show Go _ p e below s _ _ _ (T137.setTop (mkF m 16 #[.val (.ref a1), .val (.int (61 : Int32)), .unset, .unset] []))
  refine go (fun _ => XS.iconst X137.here hx rfl (hb hby d3_16)) ?_
  show Go _ p e below s _ _ _ (T137.setTop (mkF m 17 #[.val (.ref a1), .val (.int (61 : Int32)), .unset, .unset] [(.int (1 : Int32))]))
  refine go (fun _ => XS.goto X137.here hx rfl (pc0 := 17) (pc' := 21) rfl (hb hby d3_17) (by decide) (by decide)) ?_
  show Go _ p e below s _ _ _ (T137.setTop (mkF m 21 #[.val (.ref a1), .val (.int (61 : Int32)), .unset, .unset] [(.int (1 : Int32))]))
  refine go (fun _ => XS.istoreN X137.here hx rfl (hb hby d3_21) rfl (l' := #[.val (.ref a1), .val (.int (61 : Int32)), .val (.int (1 : Int32)), .unset]) rfl) ?_
  show Go _ p e below s _ _ _ (T137.setTop (mkF m 22 #[.val (.ref a1), .val (.int (61 : Int32)), .val (.int (1 : Int32)), .unset] []))
  refine go (fun _ => XS.aloadN X137.here hx rfl (hb hby d3_22) rfl rfl) ?_
  show Go _ p e below s _ _ _ (T137.setTop (mkF m 23 #[.val (.ref a1), .val (.int (61 : Int32)), .val (.int (1 : Int32)), .unset] [(.ref a1)]))
  obtain ⟨cq138, kq138, q138a, q138b, q138c⟩ := isOf hZ e137 P2
  obtain ⟨_, _, ⟨T138, L138, k138, n138⟩, -, X138, ⟨Lc138, hQ138, l138, y138, z138⟩, st138⟩ := X137.virtualBack hx (y := (⟨"java/lang/String", "length", "()I"⟩ : MethodName)) (z := (⟨"java/lang/String", "length", "()I"⟩ : MethodName)) hown (mvT hZ (hw _ (List.mem_of_getElem? (i := 18) rfl))) (mvT hZ (hw _ (List.mem_of_getElem? (i := 19) rfl))) (notFace_of_selects (args := #[]) (mvT hZ (hw _ (List.mem_of_getElem? (i := 21) rfl)))) (mvT hZ (hw _ (List.mem_of_getElem? (i := 21) rfl))) (mvT hZ (hw _ (List.mem_of_getElem? (i := 20) rfl))) (by decide) (backOf (W := 0) (rm4 l Z a0 hw [] a1 w0 v1 k1 (1 : Int32) [(.int (61 : Int32))] d1 h0 n0 Z0 P0 P2 P3 P4 P5 hw0) hZ (hw _ (List.mem_of_getElem? (i := 23) rfl)) (hw _ (List.mem_of_getElem? (i := 22) rfl)) (by decide) (by decide)) q138a q138c (g := (mkF m 23 #[.val (.ref a1), .val (.int (61 : Int32)), .val (.int (1 : Int32)), .unset] [(.ref a1)])) rfl (by rw [hml]; rfl) (Steps.refl _) (argsL := []) (rest := []) (lenOf pd_3_0 rfl) rfl (by show 2 * 0 + _ ≤ _; exact Nat.le_of_eq rfl) (hb hby d3_23) (fun _ _ => ⟨rfl, e137, (by decide : 0 + 0 ≤ _), (by decide : 0 + 0 ≤ _)⟩)
  dsimp only [Pt.U, Pt.locs, Pt.cells, Pt.slots] at X138 l138 y138 z138 st138 hQ138
  subst l138 y138 z138
  obtain ⟨rfl, N138q, e138⟩ := hQ138
  have N138 := Fr.app N137 N138q
  refine goT st138 ?_
  show Go _ p e below s _ _ _ (T138.setTop (mkF m 26 #[.val (.ref a1), .val (.int (61 : Int32)), .val (.int (1 : Int32)), .unset] [(.int (1 : Int32))]))
  refine go (fun _ => XS.iconst X138.here hx rfl (hb hby d3_26)) ?_
  show Go _ p e below s _ _ _ (T138.setTop (mkF m 27 #[.val (.ref a1), .val (.int (61 : Int32)), .val (.int (1 : Int32)), .unset] [(.int (1 : Int32)), (.int (1 : Int32))]))
  refine go (fun _ => XS.icmpYes X138.here hx rfl (pc0 := 27) (pc' := 43) rfl (hb hby d3_27) rfl (flt (by decide : ¬ ((1 : Int32) < (1 : Int32)))).2.2.2 (by decide) (by decide)) ?_
  show Go _ p e below s _ _ _ (T138.setTop (mkF m 43 #[.val (.ref a1), .val (.int (61 : Int32)), .val (.int (1 : Int32)), .unset] []))
  refine go (fun _ => XS.iconst X138.here hx rfl (hb hby d3_43)) ?_
  show Go _ p e below s _ _ _ (T138.setTop (mkF m 44 #[.val (.ref a1), .val (.int (61 : Int32)), .val (.int (1 : Int32)), .unset] [(.int (0 : Int32))]))
  refine go (fun _ => XS.istoreN X138.here hx rfl (hb hby d3_44) rfl (l' := #[.val (.ref a1), .val (.int (61 : Int32)), .val (.int (1 : Int32)), .val (.int (0 : Int32))]) rfl) ?_
  show Go _ p e below s _ _ _ (T138.setTop (mkF m 45 #[.val (.ref a1), .val (.int (61 : Int32)), .val (.int (1 : Int32)), .val (.int (0 : Int32))] []))
  refine go (fun _ => XS.iloadN X138.here hx rfl (hb hby d3_45) rfl) ?_
  show Go _ p e below s _ _ _ (T138.setTop (mkF m 46 #[.val (.ref a1), .val (.int (61 : Int32)), .val (.int (1 : Int32)), .val (.int (0 : Int32))] [(.int (1 : Int32))]))
  refine go (fun _ => XS.ifYes X138.here hx rfl (pc0 := 46) (pc' := 53) rfl (hb hby d3_46) rfl ((if0 _ _).trans (feq (by decide : ¬ ((1 : Int32) = (0 : Int32)))).2) (by decide) (by decide)) ?_
  show Go _ p e below s _ _ _ (T138.setTop (mkF m 53 #[.val (.ref a1), .val (.int (61 : Int32)), .val (.int (1 : Int32)), .val (.int (0 : Int32))] []))
  refine go (fun _ => XS.iconst X138.here hx rfl (hb hby d3_53)) ?_
  show Go _ p e below s _ _ _ (T138.setTop (mkF m 54 #[.val (.ref a1), .val (.int (61 : Int32)), .val (.int (1 : Int32)), .val (.int (0 : Int32))] [(.int (1 : Int32))]))
  refine go (fun _ => XS.goto X138.here hx rfl (pc0 := 54) (pc' := 58) rfl (hb hby d3_54) (by decide) (by decide)) ?_
  show Go _ p e below s _ _ _ (T138.setTop (mkF m 58 #[.val (.ref a1), .val (.int (61 : Int32)), .val (.int (1 : Int32)), .val (.int (0 : Int32))] [(.int (1 : Int32))]))
  refine goRet X138 hx Bd.notSynchronized Bd.returns rfl (Or.inl ⟨rfl, Or.inr (Or.inl rfl), _, rfl⟩) (hb hby d3_58) (by decide) (by decide) (by rw [e138]; refine ⟨rfl, N138, rfl⟩)
theorem pn_3EQUAL62 : plainName "com/example/reticule/reticule/engine/ComparisonHoldsPinLaw" = true := by first | (simp [plainName, overriddenIn]; done) | decide +kernel
theorem ef_3EQUAL62 (m : MethodId) (a1 : Addr) : entryFrame m #[(.ref a1), (.int (62 : Int32))] 4 = mkF m 0 #[.val (.ref a1), .val (.int (62 : Int32)), .unset, .unset] [] := by first | (simp [entryFrame, mkF, argsToLocals, Value.category]; done) | rfl
def Q3EQUAL62 (Z : State) (a1 : Addr) (w0 : Int32) (f0 : Value) (v1 : Addr) (k1 : ClassId) (d1 : Value) (h0 : Heap) (n0 : Nat) (v : Option Value) (h : Heap) (L : List Loc) : Prop := v = some (.int (0 : Int32)) ∧ Fr n0 L ∧ (h = h0)
set_option maxRecDepth 65536 in
set_option maxHeartbeats 40000000 in
theorem rm3EQUAL62 (l : Launch) (Z : State) (a0 : Array Value) (hw : ∀ d ∈ tables_1, d.before a0 Z = true) (ws : List Jvm.Cond) (a1 : Addr) (w0 : Int32) (f0 : Value) (v1 : Addr) (k1 : ClassId) (d1 : Value) (h0 : Heap) (n0 : Nat) (Z0 : n0 ≤ h0.size) (P0 : Sta Z h0 "java/lang/String" "COMPACT_STRINGS" "Z" (.int w0)) (P1 : Sta Z h0 "jdk/internal/util/Preconditions" "SIOOBE_FORMATTER" "Ljava/util/function/BiFunction;" f0) (P2 : Exa Z h0 a1 "java/lang/String") (P3 : Fld Z h0 a1 "java/lang/String" "coder" "B" (.int (0 : Int32))) (P4 : Fld Z h0 a1 "java/lang/String" "value" "[B" (.ref v1)) (P5 : Arv Z h0 v1 k1 .byte (1 : Int32) [(.int (61 : Int32))] d1) (hw0 : ¬ w0 = 0) (hf : f0.isRef = true) :
    MetFree l (⟨"com/example/reticule/reticule/engine/ComparisonHoldsPinLaw", "has", "(Ljava/lang/String;C)Z"⟩ : MethodName) (head1 (Jvm.Cond.code (⟨"com/example/reticule/reticule/engine/ComparisonHoldsPinLaw", "has", "(Ljava/lang/String;C)Z"⟩ : MethodName) method_3_code 4 (some .boolean) :: ws) ({ frames := 4, cells := 0, slots := 0, locals := 53 } : Room)) (fun a U => a = #[(.ref a1), (.int (62 : Int32))] ∧ Z.Warmed39 U.vm ∧ U.heap = h0) (fun _ _ _ _ _ => True) (fun _ U o U' => ∃ v L, o = .returned v ∧ Q3EQUAL62 Z a1 w0 f0 v1 k1 d1 h0 n0 v U'.heap L ∧ FrameEnd U o U' L ({ frames := 4, cells := 0, slots := 0, locals := 53 } : Room).cells ({ frames := 4, cells := 0, slots := 0, locals := 53 } : Room).slots) := by
  refine MetFree.of_bodySF (plainFor_of_name pn_3EQUAL62) hisR ?_
  intro p e s m args below meth c s₁ Bd hml0 hP hK
  obtain ⟨rfl, hZ, hh⟩ := hP
  have hx := Bd.exec
  have hby := Bd.bytes
  have hml : c.maxLocals = 4 := hml0
  have hown : s.vm.findClass "com/example/reticule/reticule/engine/ComparisonHoldsPinLaw" = some m.cls := findClass_of_methodNamed Bd.named
  have hnm := (name_of_methodNamed Bd.named Bd.method).1
  have X0 : Stand p l e ({ frames := 4, cells := 0, slots := 0, locals := 53 } : Room) s m #[(.ref a1), (.int (62 : Int32))] below meth c s₁ [] 0 0 := Stand.of_body Bd
  have e0 : s₁.heap = h0 := by rw [← hh, Bd.state]; rfl
  have N0 := Fr.nil n0
  have hS0 : s.Since s.vm 0 := (State.WarmedH.refl s).since 0
  show Go FrameEnd p e below s ({ frames := 4, cells := 0, slots := 0, locals := 53 } : Room).cells ({ frames := 4, cells := 0, slots := 0, locals := 53 } : Room).slots (Q3EQUAL62 Z a1 w0 f0 v1 k1 d1 h0 n0) (s₁.setTop (entryFrame m #[(.ref a1), (.int (62 : Int32))] 4))
  refine go (fun _ k => castTop (ef_3EQUAL62 m a1) k) ?_
  show Go _ p e below s _ _ _ (s₁.setTop (mkF m 0 #[.val (.ref a1), .val (.int (62 : Int32)), .unset, .unset] []))
  refine go (fun _ => XS.aloadN X0.here hx rfl (hb hby d3_0) rfl rfl) ?_
  show Go _ p e below s _ _ _ (s₁.setTop (mkF m 1 #[.val (.ref a1), .val (.int (62 : Int32)), .unset, .unset] [(.ref a1)]))
  obtain ⟨cq142, kq142, q142a, q142b, q142c⟩ := isOf hZ e0 P2
  obtain ⟨_, _, ⟨T142, L142, k142, n142⟩, -, X142, ⟨Lc142, hQ142, l142, y142, z142⟩, st142⟩ := X0.virtualBack hx (y := (⟨"java/lang/String", "length", "()I"⟩ : MethodName)) (z := (⟨"java/lang/String", "length", "()I"⟩ : MethodName)) hown (mvT hZ (hw _ (List.mem_of_getElem? (i := 18) rfl))) (mvT hZ (hw _ (List.mem_of_getElem? (i := 19) rfl))) (notFace_of_selects (args := #[]) (mvT hZ (hw _ (List.mem_of_getElem? (i := 21) rfl)))) (mvT hZ (hw _ (List.mem_of_getElem? (i := 21) rfl))) (mvT hZ (hw _ (List.mem_of_getElem? (i := 20) rfl))) (by decide) (backOf (W := 0) (rm4 l Z a0 hw [] a1 w0 v1 k1 (1 : Int32) [(.int (61 : Int32))] d1 h0 n0 Z0 P0 P2 P3 P4 P5 hw0) hZ (hw _ (List.mem_of_getElem? (i := 23) rfl)) (hw _ (List.mem_of_getElem? (i := 22) rfl)) (by decide) (by decide)) q142a q142c (g := (mkF m 1 #[.val (.ref a1), .val (.int (62 : Int32)), .unset, .unset] [(.ref a1)])) rfl (by rw [hml]; rfl) (Steps.refl _) (argsL := []) (rest := []) (lenOf pd_3_0 rfl) rfl (by show 2 * 0 + _ ≤ _; exact Nat.le_of_eq rfl) (hb hby d3_1) (fun _ _ => ⟨rfl, e0, (by decide : 0 + 0 ≤ _), (by decide : 0 + 0 ≤ _)⟩)
  dsimp only [Pt.U, Pt.locs, Pt.cells, Pt.slots] at X142 l142 y142 z142 st142 hQ142
  subst l142 y142 z142
  obtain ⟨rfl, N142q, e142⟩ := hQ142
  have N142 := Fr.app N0 N142q
  refine goT st142 ?_
  show Go _ p e below s _ _ _ (T142.setTop (mkF m 4 #[.val (.ref a1), .val (.int (62 : Int32)), .unset, .unset] [(.int (1 : Int32))]))
  refine go (fun _ => XS.ifNo X142.here hx rfl (hb hby d3_4) rfl ((if0 _ _).trans (tlt (by decide : ((0 : Int32) < (1 : Int32)))).2.2.2)) ?_
  show Go _ p e below s _ _ _ (T142.setTop (mkF m 7 #[.val (.ref a1), .val (.int (62 : Int32)), .unset, .unset] []))
  refine go (fun _ => XS.aloadN X142.here hx rfl (hb hby d3_7) rfl rfl) ?_
  show Go _ p e below s _ _ _ (T142.setTop (mkF m 8 #[.val (.ref a1), .val (.int (62 : Int32)), .unset, .unset] [(.ref a1)]))
  refine go (fun _ => XS.iconst X142.here hx rfl (hb hby d3_8)) ?_
  show Go _ p e below s _ _ _ (T142.setTop (mkF m 9 #[.val (.ref a1), .val (.int (62 : Int32)), .unset, .unset] [(.int (0 : Int32)), (.ref a1)]))
  obtain ⟨cq143, kq143, q143a, q143b, q143c⟩ := isOf hZ e142 P2
  obtain ⟨_, _, ⟨T143, L143, k143, n143⟩, -, X143, ⟨Lc143, hQ143, l143, y143, z143⟩, st143⟩ := X142.virtualBack hx (y := (⟨"java/lang/String", "charAt", "(I)C"⟩ : MethodName)) (z := (⟨"java/lang/String", "charAt", "(I)C"⟩ : MethodName)) hown (mvT hZ (hw _ (List.mem_of_getElem? (i := 34) rfl))) (mvT hZ (hw _ (List.mem_of_getElem? (i := 35) rfl))) (notFace_of_selects (args := #[]) (mvT hZ (hw _ (List.mem_of_getElem? (i := 37) rfl)))) (mvT hZ (hw _ (List.mem_of_getElem? (i := 37) rfl))) (mvT hZ (hw _ (List.mem_of_getElem? (i := 36) rfl))) (by decide) (backOf (W := 0) (rm6EQUAL0 l Z a0 hw [] a1 w0 f0 v1 k1 d1 h0 n0 Z0 P0 P1 P2 P3 P4 P5 hw0 hf) hZ (hw _ (List.mem_of_getElem? (i := 38) rfl)) (hw _ (List.mem_of_getElem? (i := 22) rfl)) (by decide) (by decide)) q143a q143c (g := (mkF m 9 #[.val (.ref a1), .val (.int (62 : Int32)), .unset, .unset] [(.int (0 : Int32)), (.ref a1)])) rfl (by rw [hml]; rfl) (Steps.refl _) (argsL := [(.int (0 : Int32))]) (rest := []) (lenOf pd_3_1 rfl) rfl (by show 2 * 0 + _ ≤ _; exact Nat.le_of_eq rfl) (hb hby d3_9) (fun _ _ => ⟨rfl, e142, (by decide : 0 + 0 ≤ _), (by decide : 0 + 0 ≤ _)⟩)
  dsimp only [Pt.U, Pt.locs, Pt.cells, Pt.slots] at X143 l143 y143 z143 st143 hQ143
  subst l143 y143 z143
  obtain ⟨rfl, N143q, e143⟩ := hQ143
  have N143 := Fr.app N142 N143q
  refine goT st143 ?_
  show Go _ p e below s _ _ _ (T143.setTop (mkF m 12 #[.val (.ref a1), .val (.int (62 : Int32)), .unset, .unset] [(.int (61 : Int32))]))
  refine go (fun _ => XS.iloadN X143.here hx rfl (hb hby d3_12) rfl) ?_
  show Go _ p e below s _ _ _ (T143.setTop (mkF m 13 #[.val (.ref a1), .val (.int (62 : Int32)), .unset, .unset] [(.int (62 : Int32)), (.int (61 : Int32))]))
  refine go (fun _ => XS.icmpYes X143.here hx rfl (pc0 := 13) (pc' := 20) rfl (hb hby d3_13) rfl (feq (by decide : ¬ ((61 : Int32) = (62 : Int32)))).2 (by decide) (by decide)) ?_
  show Go _ p e below s _ _ _ (T143.setTop (mkF m 20 #[.val (.ref a1), .val (.int (62 : Int32)), .unset, .unset] []))
  refine go (fun _ => XS.iconst X143.here hx rfl (hb hby d3_20)) ?_
  show Go _ p e below s _ _ _ (T143.setTop (mkF m 21 #[.val (.ref a1), .val (.int (62 : Int32)), .unset, .unset] [(.int (0 : Int32))]))
  refine go (fun _ => XS.istoreN X143.here hx rfl (hb hby d3_21) rfl (l' := #[.val (.ref a1), .val (.int (62 : Int32)), .val (.int (0 : Int32)), .unset]) rfl) ?_
  show Go _ p e below s _ _ _ (T143.setTop (mkF m 22 #[.val (.ref a1), .val (.int (62 : Int32)), .val (.int (0 : Int32)), .unset] []))
  refine go (fun _ => XS.aloadN X143.here hx rfl (hb hby d3_22) rfl rfl) ?_
  show Go _ p e below s _ _ _ (T143.setTop (mkF m 23 #[.val (.ref a1), .val (.int (62 : Int32)), .val (.int (0 : Int32)), .unset] [(.ref a1)]))
  obtain ⟨cq144, kq144, q144a, q144b, q144c⟩ := isOf hZ e143 P2
  obtain ⟨_, _, ⟨T144, L144, k144, n144⟩, -, X144, ⟨Lc144, hQ144, l144, y144, z144⟩, st144⟩ := X143.virtualBack hx (y := (⟨"java/lang/String", "length", "()I"⟩ : MethodName)) (z := (⟨"java/lang/String", "length", "()I"⟩ : MethodName)) hown (mvT hZ (hw _ (List.mem_of_getElem? (i := 18) rfl))) (mvT hZ (hw _ (List.mem_of_getElem? (i := 19) rfl))) (notFace_of_selects (args := #[]) (mvT hZ (hw _ (List.mem_of_getElem? (i := 21) rfl)))) (mvT hZ (hw _ (List.mem_of_getElem? (i := 21) rfl))) (mvT hZ (hw _ (List.mem_of_getElem? (i := 20) rfl))) (by decide) (backOf (W := 0) (rm4 l Z a0 hw [] a1 w0 v1 k1 (1 : Int32) [(.int (61 : Int32))] d1 h0 n0 Z0 P0 P2 P3 P4 P5 hw0) hZ (hw _ (List.mem_of_getElem? (i := 23) rfl)) (hw _ (List.mem_of_getElem? (i := 22) rfl)) (by decide) (by decide)) q144a q144c (g := (mkF m 23 #[.val (.ref a1), .val (.int (62 : Int32)), .val (.int (0 : Int32)), .unset] [(.ref a1)])) rfl (by rw [hml]; rfl) (Steps.refl _) (argsL := []) (rest := []) (lenOf pd_3_0 rfl) rfl (by show 2 * 0 + _ ≤ _; exact Nat.le_of_eq rfl) (hb hby d3_23) (fun _ _ => ⟨rfl, e143, (by decide : 0 + 0 ≤ _), (by decide : 0 + 0 ≤ _)⟩)
  dsimp only [Pt.U, Pt.locs, Pt.cells, Pt.slots] at X144 l144 y144 z144 st144 hQ144
  subst l144 y144 z144
  obtain ⟨rfl, N144q, e144⟩ := hQ144
  have N144 := Fr.app N143 N144q
  refine goT st144 ?_
  show Go _ p e below s _ _ _ (T144.setTop (mkF m 26 #[.val (.ref a1), .val (.int (62 : Int32)), .val (.int (0 : Int32)), .unset] [(.int (1 : Int32))]))
  refine go (fun _ => XS.iconst X144.here hx rfl (hb hby d3_26)) ?_
  show Go _ p e below s _ _ _ (T144.setTop (mkF m 27 #[.val (.ref a1), .val (.int (62 : Int32)), .val (.int (0 : Int32)), .unset] [(.int (1 : Int32)), (.int (1 : Int32))]))
  refine go (fun _ => XS.icmpYes X144.here hx rfl (pc0 := 27) (pc' := 43) rfl (hb hby d3_27) rfl (flt (by decide : ¬ ((1 : Int32) < (1 : Int32)))).2.2.2 (by decide) (by decide)) ?_
  show Go _ p e below s _ _ _ (T144.setTop (mkF m 43 #[.val (.ref a1), .val (.int (62 : Int32)), .val (.int (0 : Int32)), .unset] []))
  refine go (fun _ => XS.iconst X144.here hx rfl (hb hby d3_43)) ?_
  show Go _ p e below s _ _ _ (T144.setTop (mkF m 44 #[.val (.ref a1), .val (.int (62 : Int32)), .val (.int (0 : Int32)), .unset] [(.int (0 : Int32))]))
  refine go (fun _ => XS.istoreN X144.here hx rfl (hb hby d3_44) rfl (l' := #[.val (.ref a1), .val (.int (62 : Int32)), .val (.int (0 : Int32)), .val (.int (0 : Int32))]) rfl) ?_
  show Go _ p e below s _ _ _ (T144.setTop (mkF m 45 #[.val (.ref a1), .val (.int (62 : Int32)), .val (.int (0 : Int32)), .val (.int (0 : Int32))] []))
  refine go (fun _ => XS.iloadN X144.here hx rfl (hb hby d3_45) rfl) ?_
  show Go _ p e below s _ _ _ (T144.setTop (mkF m 46 #[.val (.ref a1), .val (.int (62 : Int32)), .val (.int (0 : Int32)), .val (.int (0 : Int32))] [(.int (0 : Int32))]))
  refine go (fun _ => XS.ifNo X144.here hx rfl (hb hby d3_46) rfl ((if0 _ _).trans (teq (rfl : (0 : Int32) = (0 : Int32))).2)) ?_
  show Go _ p e below s _ _ _ (T144.setTop (mkF m 49 #[.val (.ref a1), .val (.int (62 : Int32)), .val (.int (0 : Int32)), .val (.int (0 : Int32))] []))
  refine go (fun _ => XS.iloadN X144.here hx rfl (hb hby d3_49) rfl) ?_
  show Go _ p e below s _ _ _ (T144.setTop (mkF m 50 #[.val (.ref a1), .val (.int (62 : Int32)), .val (.int (0 : Int32)), .val (.int (0 : Int32))] [(.int (0 : Int32))]))
  refine go (fun _ => XS.ifYes X144.here hx rfl (pc0 := 50) (pc' := 57) rfl (hb hby d3_50) rfl ((if0 _ _).trans (teq (rfl : (0 : Int32) = (0 : Int32))).1) (by decide) (by decide)) ?_
  show Go _ p e below s _ _ _ (T144.setTop (mkF m 57 #[.val (.ref a1), .val (.int (62 : Int32)), .val (.int (0 : Int32)), .val (.int (0 : Int32))] []))
  refine go (fun _ => XS.iconst X144.here hx rfl (hb hby d3_57)) ?_
  show Go _ p e below s _ _ _ (T144.setTop (mkF m 58 #[.val (.ref a1), .val (.int (62 : Int32)), .val (.int (0 : Int32)), .val (.int (0 : Int32))] [(.int (0 : Int32))]))
  refine goRet X144 hx Bd.notSynchronized Bd.returns rfl (Or.inl ⟨rfl, Or.inr (Or.inl rfl), _, rfl⟩) (hb hby d3_58) (by decide) (by decide) (by rw [e144]; refine ⟨rfl, N144, rfl⟩)
theorem d3_30 : decode method_3_code 30 = .ok (.aload_n 0, 1) := by decide +kernel
theorem d3_31 : decode method_3_code 31 = .ok (.iconst 1, 1) := by decide +kernel
theorem d3_32 : decode method_3_code 32 = .ok (.invokevirtual 34, 3) := by decide +kernel
theorem d3_35 : decode method_3_code 35 = .ok (.iload_n 1, 1) := by decide +kernel
theorem d3_36 : decode method_3_code 36 = .ok (.if_icmp .ne 7, 3) := by decide +kernel
theorem pn_3DIFFERENT60 : plainName "com/example/reticule/reticule/engine/ComparisonHoldsPinLaw" = true := by first | (simp [plainName, overriddenIn]; done) | decide +kernel
theorem ef_3DIFFERENT60 (m : MethodId) (a1 : Addr) : entryFrame m #[(.ref a1), (.int (60 : Int32))] 4 = mkF m 0 #[.val (.ref a1), .val (.int (60 : Int32)), .unset, .unset] [] := by first | (simp [entryFrame, mkF, argsToLocals, Value.category]; done) | rfl
def Q3DIFFERENT60 (Z : State) (a1 : Addr) (w0 : Int32) (f0 : Value) (v1 : Addr) (k1 : ClassId) (d1 : Value) (h0 : Heap) (n0 : Nat) (v : Option Value) (h : Heap) (L : List Loc) : Prop := v = some (.int (1 : Int32)) ∧ Fr n0 L ∧ (h = h0)
set_option maxRecDepth 65536 in
set_option maxHeartbeats 40000000 in
theorem rm3DIFFERENT60 (l : Launch) (Z : State) (a0 : Array Value) (hw : ∀ d ∈ tables_1, d.before a0 Z = true) (ws : List Jvm.Cond) (a1 : Addr) (w0 : Int32) (f0 : Value) (v1 : Addr) (k1 : ClassId) (d1 : Value) (h0 : Heap) (n0 : Nat) (Z0 : n0 ≤ h0.size) (P0 : Sta Z h0 "java/lang/String" "COMPACT_STRINGS" "Z" (.int w0)) (P1 : Sta Z h0 "jdk/internal/util/Preconditions" "SIOOBE_FORMATTER" "Ljava/util/function/BiFunction;" f0) (P2 : Exa Z h0 a1 "java/lang/String") (P3 : Fld Z h0 a1 "java/lang/String" "coder" "B" (.int (0 : Int32))) (P4 : Fld Z h0 a1 "java/lang/String" "value" "[B" (.ref v1)) (P5 : Arv Z h0 v1 k1 .byte (2 : Int32) [(.int (60 : Int32)), (.int (62 : Int32))] d1) (hw0 : ¬ w0 = 0) (hf : f0.isRef = true) :
    MetFree l (⟨"com/example/reticule/reticule/engine/ComparisonHoldsPinLaw", "has", "(Ljava/lang/String;C)Z"⟩ : MethodName) (head1 (Jvm.Cond.code (⟨"com/example/reticule/reticule/engine/ComparisonHoldsPinLaw", "has", "(Ljava/lang/String;C)Z"⟩ : MethodName) method_3_code 4 (some .boolean) :: ws) ({ frames := 4, cells := 0, slots := 0, locals := 53 } : Room)) (fun a U => a = #[(.ref a1), (.int (60 : Int32))] ∧ Z.Warmed39 U.vm ∧ U.heap = h0) (fun _ _ _ _ _ => True) (fun _ U o U' => ∃ v L, o = .returned v ∧ Q3DIFFERENT60 Z a1 w0 f0 v1 k1 d1 h0 n0 v U'.heap L ∧ FrameEnd U o U' L ({ frames := 4, cells := 0, slots := 0, locals := 53 } : Room).cells ({ frames := 4, cells := 0, slots := 0, locals := 53 } : Room).slots) := by
  refine MetFree.of_bodySF (plainFor_of_name pn_3DIFFERENT60) hisR ?_
  intro p e s m args below meth c s₁ Bd hml0 hP hK
  obtain ⟨rfl, hZ, hh⟩ := hP
  have hx := Bd.exec
  have hby := Bd.bytes
  have hml : c.maxLocals = 4 := hml0
  have hown : s.vm.findClass "com/example/reticule/reticule/engine/ComparisonHoldsPinLaw" = some m.cls := findClass_of_methodNamed Bd.named
  have hnm := (name_of_methodNamed Bd.named Bd.method).1
  have X0 : Stand p l e ({ frames := 4, cells := 0, slots := 0, locals := 53 } : Room) s m #[(.ref a1), (.int (60 : Int32))] below meth c s₁ [] 0 0 := Stand.of_body Bd
  have e0 : s₁.heap = h0 := by rw [← hh, Bd.state]; rfl
  have N0 := Fr.nil n0
  have hS0 : s.Since s.vm 0 := (State.WarmedH.refl s).since 0
  show Go FrameEnd p e below s ({ frames := 4, cells := 0, slots := 0, locals := 53 } : Room).cells ({ frames := 4, cells := 0, slots := 0, locals := 53 } : Room).slots (Q3DIFFERENT60 Z a1 w0 f0 v1 k1 d1 h0 n0) (s₁.setTop (entryFrame m #[(.ref a1), (.int (60 : Int32))] 4))
  refine go (fun _ k => castTop (ef_3DIFFERENT60 m a1) k) ?_
  show Go _ p e below s _ _ _ (s₁.setTop (mkF m 0 #[.val (.ref a1), .val (.int (60 : Int32)), .unset, .unset] []))
  refine go (fun _ => XS.aloadN X0.here hx rfl (hb hby d3_0) rfl rfl) ?_
  show Go _ p e below s _ _ _ (s₁.setTop (mkF m 1 #[.val (.ref a1), .val (.int (60 : Int32)), .unset, .unset] [(.ref a1)]))
  obtain ⟨cq149, kq149, q149a, q149b, q149c⟩ := isOf hZ e0 P2
  obtain ⟨_, _, ⟨T149, L149, k149, n149⟩, -, X149, ⟨Lc149, hQ149, l149, y149, z149⟩, st149⟩ := X0.virtualBack hx (y := (⟨"java/lang/String", "length", "()I"⟩ : MethodName)) (z := (⟨"java/lang/String", "length", "()I"⟩ : MethodName)) hown (mvT hZ (hw _ (List.mem_of_getElem? (i := 18) rfl))) (mvT hZ (hw _ (List.mem_of_getElem? (i := 19) rfl))) (notFace_of_selects (args := #[]) (mvT hZ (hw _ (List.mem_of_getElem? (i := 21) rfl)))) (mvT hZ (hw _ (List.mem_of_getElem? (i := 21) rfl))) (mvT hZ (hw _ (List.mem_of_getElem? (i := 20) rfl))) (by decide) (backOf (W := 0) (rm4 l Z a0 hw [] a1 w0 v1 k1 (2 : Int32) [(.int (60 : Int32)), (.int (62 : Int32))] d1 h0 n0 Z0 P0 P2 P3 P4 P5 hw0) hZ (hw _ (List.mem_of_getElem? (i := 23) rfl)) (hw _ (List.mem_of_getElem? (i := 22) rfl)) (by decide) (by decide)) q149a q149c (g := (mkF m 1 #[.val (.ref a1), .val (.int (60 : Int32)), .unset, .unset] [(.ref a1)])) rfl (by rw [hml]; rfl) (Steps.refl _) (argsL := []) (rest := []) (lenOf pd_3_0 rfl) rfl (by show 2 * 0 + _ ≤ _; exact Nat.le_of_eq rfl) (hb hby d3_1) (fun _ _ => ⟨rfl, e0, (by decide : 0 + 0 ≤ _), (by decide : 0 + 0 ≤ _)⟩)
  dsimp only [Pt.U, Pt.locs, Pt.cells, Pt.slots] at X149 l149 y149 z149 st149 hQ149
  subst l149 y149 z149
  obtain ⟨rfl, N149q, e149⟩ := hQ149
  have N149 := Fr.app N0 N149q
  refine goT st149 ?_
  show Go _ p e below s _ _ _ (T149.setTop (mkF m 4 #[.val (.ref a1), .val (.int (60 : Int32)), .unset, .unset] [(.int (2 : Int32))]))
  refine go (fun _ => XS.ifNo X149.here hx rfl (hb hby d3_4) rfl ((if0 _ _).trans (tlt (by decide : ((0 : Int32) < (2 : Int32)))).2.2.2)) ?_
  show Go _ p e below s _ _ _ (T149.setTop (mkF m 7 #[.val (.ref a1), .val (.int (60 : Int32)), .unset, .unset] []))
  refine go (fun _ => XS.aloadN X149.here hx rfl (hb hby d3_7) rfl rfl) ?_
  show Go _ p e below s _ _ _ (T149.setTop (mkF m 8 #[.val (.ref a1), .val (.int (60 : Int32)), .unset, .unset] [(.ref a1)]))
  refine go (fun _ => XS.iconst X149.here hx rfl (hb hby d3_8)) ?_
  show Go _ p e below s _ _ _ (T149.setTop (mkF m 9 #[.val (.ref a1), .val (.int (60 : Int32)), .unset, .unset] [(.int (0 : Int32)), (.ref a1)]))
  obtain ⟨cq150, kq150, q150a, q150b, q150c⟩ := isOf hZ e149 P2
  obtain ⟨_, _, ⟨T150, L150, k150, n150⟩, -, X150, ⟨Lc150, hQ150, l150, y150, z150⟩, st150⟩ := X149.virtualBack hx (y := (⟨"java/lang/String", "charAt", "(I)C"⟩ : MethodName)) (z := (⟨"java/lang/String", "charAt", "(I)C"⟩ : MethodName)) hown (mvT hZ (hw _ (List.mem_of_getElem? (i := 34) rfl))) (mvT hZ (hw _ (List.mem_of_getElem? (i := 35) rfl))) (notFace_of_selects (args := #[]) (mvT hZ (hw _ (List.mem_of_getElem? (i := 37) rfl)))) (mvT hZ (hw _ (List.mem_of_getElem? (i := 37) rfl))) (mvT hZ (hw _ (List.mem_of_getElem? (i := 36) rfl))) (by decide) (backOf (W := 0) (rm6DIFFERENT0 l Z a0 hw [] a1 w0 f0 v1 k1 d1 h0 n0 Z0 P0 P1 P2 P3 P4 P5 hw0 hf) hZ (hw _ (List.mem_of_getElem? (i := 38) rfl)) (hw _ (List.mem_of_getElem? (i := 22) rfl)) (by decide) (by decide)) q150a q150c (g := (mkF m 9 #[.val (.ref a1), .val (.int (60 : Int32)), .unset, .unset] [(.int (0 : Int32)), (.ref a1)])) rfl (by rw [hml]; rfl) (Steps.refl _) (argsL := [(.int (0 : Int32))]) (rest := []) (lenOf pd_3_1 rfl) rfl (by show 2 * 0 + _ ≤ _; exact Nat.le_of_eq rfl) (hb hby d3_9) (fun _ _ => ⟨rfl, e149, (by decide : 0 + 0 ≤ _), (by decide : 0 + 0 ≤ _)⟩)
  dsimp only [Pt.U, Pt.locs, Pt.cells, Pt.slots] at X150 l150 y150 z150 st150 hQ150
  subst l150 y150 z150
  obtain ⟨rfl, N150q, e150⟩ := hQ150
  have N150 := Fr.app N149 N150q
  refine goT st150 ?_
  show Go _ p e below s _ _ _ (T150.setTop (mkF m 12 #[.val (.ref a1), .val (.int (60 : Int32)), .unset, .unset] [(.int (60 : Int32))]))
  refine go (fun _ => XS.iloadN X150.here hx rfl (hb hby d3_12) rfl) ?_
  show Go _ p e below s _ _ _ (T150.setTop (mkF m 13 #[.val (.ref a1), .val (.int (60 : Int32)), .unset, .unset] [(.int (60 : Int32)), (.int (60 : Int32))]))
  refine go (fun _ => XS.icmpNo X150.here hx rfl (hb hby d3_13) rfl (teq (rfl : (60 : Int32) = (60 : Int32))).2) ?_
  show Go _ p e below s _ _ _ (T150.setTop (mkF m 16 #[.val (.ref a1), .val (.int (60 : Int32)), .unset, .unset] []))
  refine go (fun _ => XS.iconst X150.here hx rfl (hb hby d3_16)) ?_
  show Go _ p e below s _ _ _ (T150.setTop (mkF m 17 #[.val (.ref a1), .val (.int (60 : Int32)), .unset, .unset] [(.int (1 : Int32))]))
  refine go (fun _ => XS.goto X150.here hx rfl (pc0 := 17) (pc' := 21) rfl (hb hby d3_17) (by decide) (by decide)) ?_
  show Go _ p e below s _ _ _ (T150.setTop (mkF m 21 #[.val (.ref a1), .val (.int (60 : Int32)), .unset, .unset] [(.int (1 : Int32))]))
  refine go (fun _ => XS.istoreN X150.here hx rfl (hb hby d3_21) rfl (l' := #[.val (.ref a1), .val (.int (60 : Int32)), .val (.int (1 : Int32)), .unset]) rfl) ?_
  show Go _ p e below s _ _ _ (T150.setTop (mkF m 22 #[.val (.ref a1), .val (.int (60 : Int32)), .val (.int (1 : Int32)), .unset] []))
  refine go (fun _ => XS.aloadN X150.here hx rfl (hb hby d3_22) rfl rfl) ?_
  show Go _ p e below s _ _ _ (T150.setTop (mkF m 23 #[.val (.ref a1), .val (.int (60 : Int32)), .val (.int (1 : Int32)), .unset] [(.ref a1)]))
  obtain ⟨cq151, kq151, q151a, q151b, q151c⟩ := isOf hZ e150 P2
  obtain ⟨_, _, ⟨T151, L151, k151, n151⟩, -, X151, ⟨Lc151, hQ151, l151, y151, z151⟩, st151⟩ := X150.virtualBack hx (y := (⟨"java/lang/String", "length", "()I"⟩ : MethodName)) (z := (⟨"java/lang/String", "length", "()I"⟩ : MethodName)) hown (mvT hZ (hw _ (List.mem_of_getElem? (i := 18) rfl))) (mvT hZ (hw _ (List.mem_of_getElem? (i := 19) rfl))) (notFace_of_selects (args := #[]) (mvT hZ (hw _ (List.mem_of_getElem? (i := 21) rfl)))) (mvT hZ (hw _ (List.mem_of_getElem? (i := 21) rfl))) (mvT hZ (hw _ (List.mem_of_getElem? (i := 20) rfl))) (by decide) (backOf (W := 0) (rm4 l Z a0 hw [] a1 w0 v1 k1 (2 : Int32) [(.int (60 : Int32)), (.int (62 : Int32))] d1 h0 n0 Z0 P0 P2 P3 P4 P5 hw0) hZ (hw _ (List.mem_of_getElem? (i := 23) rfl)) (hw _ (List.mem_of_getElem? (i := 22) rfl)) (by decide) (by decide)) q151a q151c (g := (mkF m 23 #[.val (.ref a1), .val (.int (60 : Int32)), .val (.int (1 : Int32)), .unset] [(.ref a1)])) rfl (by rw [hml]; rfl) (Steps.refl _) (argsL := []) (rest := []) (lenOf pd_3_0 rfl) rfl (by show 2 * 0 + _ ≤ _; exact Nat.le_of_eq rfl) (hb hby d3_23) (fun _ _ => ⟨rfl, e150, (by decide : 0 + 0 ≤ _), (by decide : 0 + 0 ≤ _)⟩)
  dsimp only [Pt.U, Pt.locs, Pt.cells, Pt.slots] at X151 l151 y151 z151 st151 hQ151
  subst l151 y151 z151
  obtain ⟨rfl, N151q, e151⟩ := hQ151
  have N151 := Fr.app N150 N151q
  refine goT st151 ?_
  show Go _ p e below s _ _ _ (T151.setTop (mkF m 26 #[.val (.ref a1), .val (.int (60 : Int32)), .val (.int (1 : Int32)), .unset] [(.int (2 : Int32))]))
  refine go (fun _ => XS.iconst X151.here hx rfl (hb hby d3_26)) ?_
  show Go _ p e below s _ _ _ (T151.setTop (mkF m 27 #[.val (.ref a1), .val (.int (60 : Int32)), .val (.int (1 : Int32)), .unset] [(.int (1 : Int32)), (.int (2 : Int32))]))
  refine go (fun _ => XS.icmpNo X151.here hx rfl (hb hby d3_27) rfl (tlt (by decide : ((1 : Int32) < (2 : Int32)))).2.2.2) ?_
  show Go _ p e below s _ _ _ (T151.setTop (mkF m 30 #[.val (.ref a1), .val (.int (60 : Int32)), .val (.int (1 : Int32)), .unset] []))
  refine go (fun _ => XS.aloadN X151.here hx rfl (hb hby d3_30) rfl rfl) ?_
  show Go _ p e below s _ _ _ (T151.setTop (mkF m 31 #[.val (.ref a1), .val (.int (60 : Int32)), .val (.int (1 : Int32)), .unset] [(.ref a1)]))
  refine go (fun _ => XS.iconst X151.here hx rfl (hb hby d3_31)) ?_
  show Go _ p e below s _ _ _ (T151.setTop (mkF m 32 #[.val (.ref a1), .val (.int (60 : Int32)), .val (.int (1 : Int32)), .unset] [(.int (1 : Int32)), (.ref a1)]))
  obtain ⟨cq152, kq152, q152a, q152b, q152c⟩ := isOf hZ e151 P2
  obtain ⟨_, _, ⟨T152, L152, k152, n152⟩, -, X152, ⟨Lc152, hQ152, l152, y152, z152⟩, st152⟩ := X151.virtualBack hx (y := (⟨"java/lang/String", "charAt", "(I)C"⟩ : MethodName)) (z := (⟨"java/lang/String", "charAt", "(I)C"⟩ : MethodName)) hown (mvT hZ (hw _ (List.mem_of_getElem? (i := 34) rfl))) (mvT hZ (hw _ (List.mem_of_getElem? (i := 35) rfl))) (notFace_of_selects (args := #[]) (mvT hZ (hw _ (List.mem_of_getElem? (i := 37) rfl)))) (mvT hZ (hw _ (List.mem_of_getElem? (i := 37) rfl))) (mvT hZ (hw _ (List.mem_of_getElem? (i := 36) rfl))) (by decide) (backOf (W := 0) (rm6DIFFERENT1 l Z a0 hw [] a1 w0 f0 v1 k1 d1 h0 n0 Z0 P0 P1 P2 P3 P4 P5 hw0 hf) hZ (hw _ (List.mem_of_getElem? (i := 38) rfl)) (hw _ (List.mem_of_getElem? (i := 22) rfl)) (by decide) (by decide)) q152a q152c (g := (mkF m 32 #[.val (.ref a1), .val (.int (60 : Int32)), .val (.int (1 : Int32)), .unset] [(.int (1 : Int32)), (.ref a1)])) rfl (by rw [hml]; rfl) (Steps.refl _) (argsL := [(.int (1 : Int32))]) (rest := []) (lenOf pd_3_1 rfl) rfl (by show 2 * 0 + _ ≤ _; exact Nat.le_of_eq rfl) (hb hby d3_32) (fun _ _ => ⟨rfl, e151, (by decide : 0 + 0 ≤ _), (by decide : 0 + 0 ≤ _)⟩)
  dsimp only [Pt.U, Pt.locs, Pt.cells, Pt.slots] at X152 l152 y152 z152 st152 hQ152
  subst l152 y152 z152
  obtain ⟨rfl, N152q, e152⟩ := hQ152
  have N152 := Fr.app N151 N152q
  refine goT st152 ?_
  show Go _ p e below s _ _ _ (T152.setTop (mkF m 35 #[.val (.ref a1), .val (.int (60 : Int32)), .val (.int (1 : Int32)), .unset] [(.int (62 : Int32))]))
  refine go (fun _ => XS.iloadN X152.here hx rfl (hb hby d3_35) rfl) ?_
  show Go _ p e below s _ _ _ (T152.setTop (mkF m 36 #[.val (.ref a1), .val (.int (60 : Int32)), .val (.int (1 : Int32)), .unset] [(.int (60 : Int32)), (.int (62 : Int32))]))
  refine go (fun _ => XS.icmpYes X152.here hx rfl (pc0 := 36) (pc' := 43) rfl (hb hby d3_36) rfl (feq (by decide : ¬ ((62 : Int32) = (60 : Int32)))).2 (by decide) (by decide)) ?_
  show Go _ p e below s _ _ _ (T152.setTop (mkF m 43 #[.val (.ref a1), .val (.int (60 : Int32)), .val (.int (1 : Int32)), .unset] []))
  refine go (fun _ => XS.iconst X152.here hx rfl (hb hby d3_43)) ?_
  show Go _ p e below s _ _ _ (T152.setTop (mkF m 44 #[.val (.ref a1), .val (.int (60 : Int32)), .val (.int (1 : Int32)), .unset] [(.int (0 : Int32))]))
  refine go (fun _ => XS.istoreN X152.here hx rfl (hb hby d3_44) rfl (l' := #[.val (.ref a1), .val (.int (60 : Int32)), .val (.int (1 : Int32)), .val (.int (0 : Int32))]) rfl) ?_
  show Go _ p e below s _ _ _ (T152.setTop (mkF m 45 #[.val (.ref a1), .val (.int (60 : Int32)), .val (.int (1 : Int32)), .val (.int (0 : Int32))] []))
  refine go (fun _ => XS.iloadN X152.here hx rfl (hb hby d3_45) rfl) ?_
  show Go _ p e below s _ _ _ (T152.setTop (mkF m 46 #[.val (.ref a1), .val (.int (60 : Int32)), .val (.int (1 : Int32)), .val (.int (0 : Int32))] [(.int (1 : Int32))]))
  refine go (fun _ => XS.ifYes X152.here hx rfl (pc0 := 46) (pc' := 53) rfl (hb hby d3_46) rfl ((if0 _ _).trans (feq (by decide : ¬ ((1 : Int32) = (0 : Int32)))).2) (by decide) (by decide)) ?_
  show Go _ p e below s _ _ _ (T152.setTop (mkF m 53 #[.val (.ref a1), .val (.int (60 : Int32)), .val (.int (1 : Int32)), .val (.int (0 : Int32))] []))
  refine go (fun _ => XS.iconst X152.here hx rfl (hb hby d3_53)) ?_
  show Go _ p e below s _ _ _ (T152.setTop (mkF m 54 #[.val (.ref a1), .val (.int (60 : Int32)), .val (.int (1 : Int32)), .val (.int (0 : Int32))] [(.int (1 : Int32))]))
  refine go (fun _ => XS.goto X152.here hx rfl (pc0 := 54) (pc' := 58) rfl (hb hby d3_54) (by decide) (by decide)) ?_
  show Go _ p e below s _ _ _ (T152.setTop (mkF m 58 #[.val (.ref a1), .val (.int (60 : Int32)), .val (.int (1 : Int32)), .val (.int (0 : Int32))] [(.int (1 : Int32))]))
  refine goRet X152 hx Bd.notSynchronized Bd.returns rfl (Or.inl ⟨rfl, Or.inr (Or.inl rfl), _, rfl⟩) (hb hby d3_58) (by decide) (by decide) (by rw [e152]; refine ⟨rfl, N152, rfl⟩)
theorem pn_3DIFFERENT61 : plainName "com/example/reticule/reticule/engine/ComparisonHoldsPinLaw" = true := by first | (simp [plainName, overriddenIn]; done) | decide +kernel
theorem ef_3DIFFERENT61 (m : MethodId) (a1 : Addr) : entryFrame m #[(.ref a1), (.int (61 : Int32))] 4 = mkF m 0 #[.val (.ref a1), .val (.int (61 : Int32)), .unset, .unset] [] := by first | (simp [entryFrame, mkF, argsToLocals, Value.category]; done) | rfl
def Q3DIFFERENT61 (Z : State) (a1 : Addr) (w0 : Int32) (f0 : Value) (v1 : Addr) (k1 : ClassId) (d1 : Value) (h0 : Heap) (n0 : Nat) (v : Option Value) (h : Heap) (L : List Loc) : Prop := v = some (.int (0 : Int32)) ∧ Fr n0 L ∧ (h = h0)
set_option maxRecDepth 65536 in
set_option maxHeartbeats 40000000 in
theorem rm3DIFFERENT61 (l : Launch) (Z : State) (a0 : Array Value) (hw : ∀ d ∈ tables_1, d.before a0 Z = true) (ws : List Jvm.Cond) (a1 : Addr) (w0 : Int32) (f0 : Value) (v1 : Addr) (k1 : ClassId) (d1 : Value) (h0 : Heap) (n0 : Nat) (Z0 : n0 ≤ h0.size) (P0 : Sta Z h0 "java/lang/String" "COMPACT_STRINGS" "Z" (.int w0)) (P1 : Sta Z h0 "jdk/internal/util/Preconditions" "SIOOBE_FORMATTER" "Ljava/util/function/BiFunction;" f0) (P2 : Exa Z h0 a1 "java/lang/String") (P3 : Fld Z h0 a1 "java/lang/String" "coder" "B" (.int (0 : Int32))) (P4 : Fld Z h0 a1 "java/lang/String" "value" "[B" (.ref v1)) (P5 : Arv Z h0 v1 k1 .byte (2 : Int32) [(.int (60 : Int32)), (.int (62 : Int32))] d1) (hw0 : ¬ w0 = 0) (hf : f0.isRef = true) :
    MetFree l (⟨"com/example/reticule/reticule/engine/ComparisonHoldsPinLaw", "has", "(Ljava/lang/String;C)Z"⟩ : MethodName) (head1 (Jvm.Cond.code (⟨"com/example/reticule/reticule/engine/ComparisonHoldsPinLaw", "has", "(Ljava/lang/String;C)Z"⟩ : MethodName) method_3_code 4 (some .boolean) :: ws) ({ frames := 4, cells := 0, slots := 0, locals := 53 } : Room)) (fun a U => a = #[(.ref a1), (.int (61 : Int32))] ∧ Z.Warmed39 U.vm ∧ U.heap = h0) (fun _ _ _ _ _ => True) (fun _ U o U' => ∃ v L, o = .returned v ∧ Q3DIFFERENT61 Z a1 w0 f0 v1 k1 d1 h0 n0 v U'.heap L ∧ FrameEnd U o U' L ({ frames := 4, cells := 0, slots := 0, locals := 53 } : Room).cells ({ frames := 4, cells := 0, slots := 0, locals := 53 } : Room).slots) := by
  refine MetFree.of_bodySF (plainFor_of_name pn_3DIFFERENT61) hisR ?_
  intro p e s m args below meth c s₁ Bd hml0 hP hK
  obtain ⟨rfl, hZ, hh⟩ := hP
  have hx := Bd.exec
  have hby := Bd.bytes
  have hml : c.maxLocals = 4 := hml0
  have hown : s.vm.findClass "com/example/reticule/reticule/engine/ComparisonHoldsPinLaw" = some m.cls := findClass_of_methodNamed Bd.named
  have hnm := (name_of_methodNamed Bd.named Bd.method).1
  have X0 : Stand p l e ({ frames := 4, cells := 0, slots := 0, locals := 53 } : Room) s m #[(.ref a1), (.int (61 : Int32))] below meth c s₁ [] 0 0 := Stand.of_body Bd
  have e0 : s₁.heap = h0 := by rw [← hh, Bd.state]; rfl
  have N0 := Fr.nil n0
  have hS0 : s.Since s.vm 0 := (State.WarmedH.refl s).since 0
  show Go FrameEnd p e below s ({ frames := 4, cells := 0, slots := 0, locals := 53 } : Room).cells ({ frames := 4, cells := 0, slots := 0, locals := 53 } : Room).slots (Q3DIFFERENT61 Z a1 w0 f0 v1 k1 d1 h0 n0) (s₁.setTop (entryFrame m #[(.ref a1), (.int (61 : Int32))] 4))
  refine go (fun _ k => castTop (ef_3DIFFERENT61 m a1) k) ?_
  show Go _ p e below s _ _ _ (s₁.setTop (mkF m 0 #[.val (.ref a1), .val (.int (61 : Int32)), .unset, .unset] []))
  refine go (fun _ => XS.aloadN X0.here hx rfl (hb hby d3_0) rfl rfl) ?_
  show Go _ p e below s _ _ _ (s₁.setTop (mkF m 1 #[.val (.ref a1), .val (.int (61 : Int32)), .unset, .unset] [(.ref a1)]))
  obtain ⟨cq157, kq157, q157a, q157b, q157c⟩ := isOf hZ e0 P2
  obtain ⟨_, _, ⟨T157, L157, k157, n157⟩, -, X157, ⟨Lc157, hQ157, l157, y157, z157⟩, st157⟩ := X0.virtualBack hx (y := (⟨"java/lang/String", "length", "()I"⟩ : MethodName)) (z := (⟨"java/lang/String", "length", "()I"⟩ : MethodName)) hown (mvT hZ (hw _ (List.mem_of_getElem? (i := 18) rfl))) (mvT hZ (hw _ (List.mem_of_getElem? (i := 19) rfl))) (notFace_of_selects (args := #[]) (mvT hZ (hw _ (List.mem_of_getElem? (i := 21) rfl)))) (mvT hZ (hw _ (List.mem_of_getElem? (i := 21) rfl))) (mvT hZ (hw _ (List.mem_of_getElem? (i := 20) rfl))) (by decide) (backOf (W := 0) (rm4 l Z a0 hw [] a1 w0 v1 k1 (2 : Int32) [(.int (60 : Int32)), (.int (62 : Int32))] d1 h0 n0 Z0 P0 P2 P3 P4 P5 hw0) hZ (hw _ (List.mem_of_getElem? (i := 23) rfl)) (hw _ (List.mem_of_getElem? (i := 22) rfl)) (by decide) (by decide)) q157a q157c (g := (mkF m 1 #[.val (.ref a1), .val (.int (61 : Int32)), .unset, .unset] [(.ref a1)])) rfl (by rw [hml]; rfl) (Steps.refl _) (argsL := []) (rest := []) (lenOf pd_3_0 rfl) rfl (by show 2 * 0 + _ ≤ _; exact Nat.le_of_eq rfl) (hb hby d3_1) (fun _ _ => ⟨rfl, e0, (by decide : 0 + 0 ≤ _), (by decide : 0 + 0 ≤ _)⟩)
  dsimp only [Pt.U, Pt.locs, Pt.cells, Pt.slots] at X157 l157 y157 z157 st157 hQ157
  subst l157 y157 z157
  obtain ⟨rfl, N157q, e157⟩ := hQ157
  have N157 := Fr.app N0 N157q
  refine goT st157 ?_
  show Go _ p e below s _ _ _ (T157.setTop (mkF m 4 #[.val (.ref a1), .val (.int (61 : Int32)), .unset, .unset] [(.int (2 : Int32))]))
  refine go (fun _ => XS.ifNo X157.here hx rfl (hb hby d3_4) rfl ((if0 _ _).trans (tlt (by decide : ((0 : Int32) < (2 : Int32)))).2.2.2)) ?_
  show Go _ p e below s _ _ _ (T157.setTop (mkF m 7 #[.val (.ref a1), .val (.int (61 : Int32)), .unset, .unset] []))
  refine go (fun _ => XS.aloadN X157.here hx rfl (hb hby d3_7) rfl rfl) ?_
  show Go _ p e below s _ _ _ (T157.setTop (mkF m 8 #[.val (.ref a1), .val (.int (61 : Int32)), .unset, .unset] [(.ref a1)]))
  refine go (fun _ => XS.iconst X157.here hx rfl (hb hby d3_8)) ?_
  show Go _ p e below s _ _ _ (T157.setTop (mkF m 9 #[.val (.ref a1), .val (.int (61 : Int32)), .unset, .unset] [(.int (0 : Int32)), (.ref a1)]))
  obtain ⟨cq158, kq158, q158a, q158b, q158c⟩ := isOf hZ e157 P2
  obtain ⟨_, _, ⟨T158, L158, k158, n158⟩, -, X158, ⟨Lc158, hQ158, l158, y158, z158⟩, st158⟩ := X157.virtualBack hx (y := (⟨"java/lang/String", "charAt", "(I)C"⟩ : MethodName)) (z := (⟨"java/lang/String", "charAt", "(I)C"⟩ : MethodName)) hown (mvT hZ (hw _ (List.mem_of_getElem? (i := 34) rfl))) (mvT hZ (hw _ (List.mem_of_getElem? (i := 35) rfl))) (notFace_of_selects (args := #[]) (mvT hZ (hw _ (List.mem_of_getElem? (i := 37) rfl)))) (mvT hZ (hw _ (List.mem_of_getElem? (i := 37) rfl))) (mvT hZ (hw _ (List.mem_of_getElem? (i := 36) rfl))) (by decide) (backOf (W := 0) (rm6DIFFERENT0 l Z a0 hw [] a1 w0 f0 v1 k1 d1 h0 n0 Z0 P0 P1 P2 P3 P4 P5 hw0 hf) hZ (hw _ (List.mem_of_getElem? (i := 38) rfl)) (hw _ (List.mem_of_getElem? (i := 22) rfl)) (by decide) (by decide)) q158a q158c (g := (mkF m 9 #[.val (.ref a1), .val (.int (61 : Int32)), .unset, .unset] [(.int (0 : Int32)), (.ref a1)])) rfl (by rw [hml]; rfl) (Steps.refl _) (argsL := [(.int (0 : Int32))]) (rest := []) (lenOf pd_3_1 rfl) rfl (by show 2 * 0 + _ ≤ _; exact Nat.le_of_eq rfl) (hb hby d3_9) (fun _ _ => ⟨rfl, e157, (by decide : 0 + 0 ≤ _), (by decide : 0 + 0 ≤ _)⟩)
  dsimp only [Pt.U, Pt.locs, Pt.cells, Pt.slots] at X158 l158 y158 z158 st158 hQ158
  subst l158 y158 z158
  obtain ⟨rfl, N158q, e158⟩ := hQ158
  have N158 := Fr.app N157 N158q
  refine goT st158 ?_
  show Go _ p e below s _ _ _ (T158.setTop (mkF m 12 #[.val (.ref a1), .val (.int (61 : Int32)), .unset, .unset] [(.int (60 : Int32))]))
  refine go (fun _ => XS.iloadN X158.here hx rfl (hb hby d3_12) rfl) ?_
  show Go _ p e below s _ _ _ (T158.setTop (mkF m 13 #[.val (.ref a1), .val (.int (61 : Int32)), .unset, .unset] [(.int (61 : Int32)), (.int (60 : Int32))]))
  refine go (fun _ => XS.icmpYes X158.here hx rfl (pc0 := 13) (pc' := 20) rfl (hb hby d3_13) rfl (feq (by decide : ¬ ((60 : Int32) = (61 : Int32)))).2 (by decide) (by decide)) ?_
  show Go _ p e below s _ _ _ (T158.setTop (mkF m 20 #[.val (.ref a1), .val (.int (61 : Int32)), .unset, .unset] []))
  refine go (fun _ => XS.iconst X158.here hx rfl (hb hby d3_20)) ?_
  show Go _ p e below s _ _ _ (T158.setTop (mkF m 21 #[.val (.ref a1), .val (.int (61 : Int32)), .unset, .unset] [(.int (0 : Int32))]))
  refine go (fun _ => XS.istoreN X158.here hx rfl (hb hby d3_21) rfl (l' := #[.val (.ref a1), .val (.int (61 : Int32)), .val (.int (0 : Int32)), .unset]) rfl) ?_
  show Go _ p e below s _ _ _ (T158.setTop (mkF m 22 #[.val (.ref a1), .val (.int (61 : Int32)), .val (.int (0 : Int32)), .unset] []))
  refine go (fun _ => XS.aloadN X158.here hx rfl (hb hby d3_22) rfl rfl) ?_
  show Go _ p e below s _ _ _ (T158.setTop (mkF m 23 #[.val (.ref a1), .val (.int (61 : Int32)), .val (.int (0 : Int32)), .unset] [(.ref a1)]))
  obtain ⟨cq159, kq159, q159a, q159b, q159c⟩ := isOf hZ e158 P2
  obtain ⟨_, _, ⟨T159, L159, k159, n159⟩, -, X159, ⟨Lc159, hQ159, l159, y159, z159⟩, st159⟩ := X158.virtualBack hx (y := (⟨"java/lang/String", "length", "()I"⟩ : MethodName)) (z := (⟨"java/lang/String", "length", "()I"⟩ : MethodName)) hown (mvT hZ (hw _ (List.mem_of_getElem? (i := 18) rfl))) (mvT hZ (hw _ (List.mem_of_getElem? (i := 19) rfl))) (notFace_of_selects (args := #[]) (mvT hZ (hw _ (List.mem_of_getElem? (i := 21) rfl)))) (mvT hZ (hw _ (List.mem_of_getElem? (i := 21) rfl))) (mvT hZ (hw _ (List.mem_of_getElem? (i := 20) rfl))) (by decide) (backOf (W := 0) (rm4 l Z a0 hw [] a1 w0 v1 k1 (2 : Int32) [(.int (60 : Int32)), (.int (62 : Int32))] d1 h0 n0 Z0 P0 P2 P3 P4 P5 hw0) hZ (hw _ (List.mem_of_getElem? (i := 23) rfl)) (hw _ (List.mem_of_getElem? (i := 22) rfl)) (by decide) (by decide)) q159a q159c (g := (mkF m 23 #[.val (.ref a1), .val (.int (61 : Int32)), .val (.int (0 : Int32)), .unset] [(.ref a1)])) rfl (by rw [hml]; rfl) (Steps.refl _) (argsL := []) (rest := []) (lenOf pd_3_0 rfl) rfl (by show 2 * 0 + _ ≤ _; exact Nat.le_of_eq rfl) (hb hby d3_23) (fun _ _ => ⟨rfl, e158, (by decide : 0 + 0 ≤ _), (by decide : 0 + 0 ≤ _)⟩)
  dsimp only [Pt.U, Pt.locs, Pt.cells, Pt.slots] at X159 l159 y159 z159 st159 hQ159
  subst l159 y159 z159
  obtain ⟨rfl, N159q, e159⟩ := hQ159
  have N159 := Fr.app N158 N159q
  refine goT st159 ?_
  show Go _ p e below s _ _ _ (T159.setTop (mkF m 26 #[.val (.ref a1), .val (.int (61 : Int32)), .val (.int (0 : Int32)), .unset] [(.int (2 : Int32))]))
  refine go (fun _ => XS.iconst X159.here hx rfl (hb hby d3_26)) ?_
  show Go _ p e below s _ _ _ (T159.setTop (mkF m 27 #[.val (.ref a1), .val (.int (61 : Int32)), .val (.int (0 : Int32)), .unset] [(.int (1 : Int32)), (.int (2 : Int32))]))
  refine go (fun _ => XS.icmpNo X159.here hx rfl (hb hby d3_27) rfl (tlt (by decide : ((1 : Int32) < (2 : Int32)))).2.2.2) ?_
  show Go _ p e below s _ _ _ (T159.setTop (mkF m 30 #[.val (.ref a1), .val (.int (61 : Int32)), .val (.int (0 : Int32)), .unset] []))
  refine go (fun _ => XS.aloadN X159.here hx rfl (hb hby d3_30) rfl rfl) ?_
  show Go _ p e below s _ _ _ (T159.setTop (mkF m 31 #[.val (.ref a1), .val (.int (61 : Int32)), .val (.int (0 : Int32)), .unset] [(.ref a1)]))
  refine go (fun _ => XS.iconst X159.here hx rfl (hb hby d3_31)) ?_
  show Go _ p e below s _ _ _ (T159.setTop (mkF m 32 #[.val (.ref a1), .val (.int (61 : Int32)), .val (.int (0 : Int32)), .unset] [(.int (1 : Int32)), (.ref a1)]))
  obtain ⟨cq160, kq160, q160a, q160b, q160c⟩ := isOf hZ e159 P2
  obtain ⟨_, _, ⟨T160, L160, k160, n160⟩, -, X160, ⟨Lc160, hQ160, l160, y160, z160⟩, st160⟩ := X159.virtualBack hx (y := (⟨"java/lang/String", "charAt", "(I)C"⟩ : MethodName)) (z := (⟨"java/lang/String", "charAt", "(I)C"⟩ : MethodName)) hown (mvT hZ (hw _ (List.mem_of_getElem? (i := 34) rfl))) (mvT hZ (hw _ (List.mem_of_getElem? (i := 35) rfl))) (notFace_of_selects (args := #[]) (mvT hZ (hw _ (List.mem_of_getElem? (i := 37) rfl)))) (mvT hZ (hw _ (List.mem_of_getElem? (i := 37) rfl))) (mvT hZ (hw _ (List.mem_of_getElem? (i := 36) rfl))) (by decide) (backOf (W := 0) (rm6DIFFERENT1 l Z a0 hw [] a1 w0 f0 v1 k1 d1 h0 n0 Z0 P0 P1 P2 P3 P4 P5 hw0 hf) hZ (hw _ (List.mem_of_getElem? (i := 38) rfl)) (hw _ (List.mem_of_getElem? (i := 22) rfl)) (by decide) (by decide)) q160a q160c (g := (mkF m 32 #[.val (.ref a1), .val (.int (61 : Int32)), .val (.int (0 : Int32)), .unset] [(.int (1 : Int32)), (.ref a1)])) rfl (by rw [hml]; rfl) (Steps.refl _) (argsL := [(.int (1 : Int32))]) (rest := []) (lenOf pd_3_1 rfl) rfl (by show 2 * 0 + _ ≤ _; exact Nat.le_of_eq rfl) (hb hby d3_32) (fun _ _ => ⟨rfl, e159, (by decide : 0 + 0 ≤ _), (by decide : 0 + 0 ≤ _)⟩)
  dsimp only [Pt.U, Pt.locs, Pt.cells, Pt.slots] at X160 l160 y160 z160 st160 hQ160
  subst l160 y160 z160
  obtain ⟨rfl, N160q, e160⟩ := hQ160
  have N160 := Fr.app N159 N160q
  refine goT st160 ?_
  show Go _ p e below s _ _ _ (T160.setTop (mkF m 35 #[.val (.ref a1), .val (.int (61 : Int32)), .val (.int (0 : Int32)), .unset] [(.int (62 : Int32))]))
  refine go (fun _ => XS.iloadN X160.here hx rfl (hb hby d3_35) rfl) ?_
  show Go _ p e below s _ _ _ (T160.setTop (mkF m 36 #[.val (.ref a1), .val (.int (61 : Int32)), .val (.int (0 : Int32)), .unset] [(.int (61 : Int32)), (.int (62 : Int32))]))
  refine go (fun _ => XS.icmpYes X160.here hx rfl (pc0 := 36) (pc' := 43) rfl (hb hby d3_36) rfl (feq (by decide : ¬ ((62 : Int32) = (61 : Int32)))).2 (by decide) (by decide)) ?_
  show Go _ p e below s _ _ _ (T160.setTop (mkF m 43 #[.val (.ref a1), .val (.int (61 : Int32)), .val (.int (0 : Int32)), .unset] []))
  refine go (fun _ => XS.iconst X160.here hx rfl (hb hby d3_43)) ?_
  show Go _ p e below s _ _ _ (T160.setTop (mkF m 44 #[.val (.ref a1), .val (.int (61 : Int32)), .val (.int (0 : Int32)), .unset] [(.int (0 : Int32))]))
  refine go (fun _ => XS.istoreN X160.here hx rfl (hb hby d3_44) rfl (l' := #[.val (.ref a1), .val (.int (61 : Int32)), .val (.int (0 : Int32)), .val (.int (0 : Int32))]) rfl) ?_
  show Go _ p e below s _ _ _ (T160.setTop (mkF m 45 #[.val (.ref a1), .val (.int (61 : Int32)), .val (.int (0 : Int32)), .val (.int (0 : Int32))] []))
  refine go (fun _ => XS.iloadN X160.here hx rfl (hb hby d3_45) rfl) ?_
  show Go _ p e below s _ _ _ (T160.setTop (mkF m 46 #[.val (.ref a1), .val (.int (61 : Int32)), .val (.int (0 : Int32)), .val (.int (0 : Int32))] [(.int (0 : Int32))]))
  refine go (fun _ => XS.ifNo X160.here hx rfl (hb hby d3_46) rfl ((if0 _ _).trans (teq (rfl : (0 : Int32) = (0 : Int32))).2)) ?_
  show Go _ p e below s _ _ _ (T160.setTop (mkF m 49 #[.val (.ref a1), .val (.int (61 : Int32)), .val (.int (0 : Int32)), .val (.int (0 : Int32))] []))
  refine go (fun _ => XS.iloadN X160.here hx rfl (hb hby d3_49) rfl) ?_
  show Go _ p e below s _ _ _ (T160.setTop (mkF m 50 #[.val (.ref a1), .val (.int (61 : Int32)), .val (.int (0 : Int32)), .val (.int (0 : Int32))] [(.int (0 : Int32))]))
  refine go (fun _ => XS.ifYes X160.here hx rfl (pc0 := 50) (pc' := 57) rfl (hb hby d3_50) rfl ((if0 _ _).trans (teq (rfl : (0 : Int32) = (0 : Int32))).1) (by decide) (by decide)) ?_
  show Go _ p e below s _ _ _ (T160.setTop (mkF m 57 #[.val (.ref a1), .val (.int (61 : Int32)), .val (.int (0 : Int32)), .val (.int (0 : Int32))] []))
  refine go (fun _ => XS.iconst X160.here hx rfl (hb hby d3_57)) ?_
  show Go _ p e below s _ _ _ (T160.setTop (mkF m 58 #[.val (.ref a1), .val (.int (61 : Int32)), .val (.int (0 : Int32)), .val (.int (0 : Int32))] [(.int (0 : Int32))]))
  refine goRet X160 hx Bd.notSynchronized Bd.returns rfl (Or.inl ⟨rfl, Or.inr (Or.inl rfl), _, rfl⟩) (hb hby d3_58) (by decide) (by decide) (by rw [e160]; refine ⟨rfl, N160, rfl⟩)
theorem d3_39 : decode method_3_code 39 = .ok (.iconst 1, 1) := by decide +kernel
theorem d3_40 : decode method_3_code 40 = .ok (.goto 4, 3) := by decide +kernel
theorem pn_3DIFFERENT62 : plainName "com/example/reticule/reticule/engine/ComparisonHoldsPinLaw" = true := by first | (simp [plainName, overriddenIn]; done) | decide +kernel
theorem ef_3DIFFERENT62 (m : MethodId) (a1 : Addr) : entryFrame m #[(.ref a1), (.int (62 : Int32))] 4 = mkF m 0 #[.val (.ref a1), .val (.int (62 : Int32)), .unset, .unset] [] := by first | (simp [entryFrame, mkF, argsToLocals, Value.category]; done) | rfl
def Q3DIFFERENT62 (Z : State) (a1 : Addr) (w0 : Int32) (f0 : Value) (v1 : Addr) (k1 : ClassId) (d1 : Value) (h0 : Heap) (n0 : Nat) (v : Option Value) (h : Heap) (L : List Loc) : Prop := v = some (.int (1 : Int32)) ∧ Fr n0 L ∧ (h = h0)
set_option maxRecDepth 65536 in
set_option maxHeartbeats 40000000 in
theorem rm3DIFFERENT62 (l : Launch) (Z : State) (a0 : Array Value) (hw : ∀ d ∈ tables_1, d.before a0 Z = true) (ws : List Jvm.Cond) (a1 : Addr) (w0 : Int32) (f0 : Value) (v1 : Addr) (k1 : ClassId) (d1 : Value) (h0 : Heap) (n0 : Nat) (Z0 : n0 ≤ h0.size) (P0 : Sta Z h0 "java/lang/String" "COMPACT_STRINGS" "Z" (.int w0)) (P1 : Sta Z h0 "jdk/internal/util/Preconditions" "SIOOBE_FORMATTER" "Ljava/util/function/BiFunction;" f0) (P2 : Exa Z h0 a1 "java/lang/String") (P3 : Fld Z h0 a1 "java/lang/String" "coder" "B" (.int (0 : Int32))) (P4 : Fld Z h0 a1 "java/lang/String" "value" "[B" (.ref v1)) (P5 : Arv Z h0 v1 k1 .byte (2 : Int32) [(.int (60 : Int32)), (.int (62 : Int32))] d1) (hw0 : ¬ w0 = 0) (hf : f0.isRef = true) :
    MetFree l (⟨"com/example/reticule/reticule/engine/ComparisonHoldsPinLaw", "has", "(Ljava/lang/String;C)Z"⟩ : MethodName) (head1 (Jvm.Cond.code (⟨"com/example/reticule/reticule/engine/ComparisonHoldsPinLaw", "has", "(Ljava/lang/String;C)Z"⟩ : MethodName) method_3_code 4 (some .boolean) :: ws) ({ frames := 4, cells := 0, slots := 0, locals := 53 } : Room)) (fun a U => a = #[(.ref a1), (.int (62 : Int32))] ∧ Z.Warmed39 U.vm ∧ U.heap = h0) (fun _ _ _ _ _ => True) (fun _ U o U' => ∃ v L, o = .returned v ∧ Q3DIFFERENT62 Z a1 w0 f0 v1 k1 d1 h0 n0 v U'.heap L ∧ FrameEnd U o U' L ({ frames := 4, cells := 0, slots := 0, locals := 53 } : Room).cells ({ frames := 4, cells := 0, slots := 0, locals := 53 } : Room).slots) := by
  refine MetFree.of_bodySF (plainFor_of_name pn_3DIFFERENT62) hisR ?_
  intro p e s m args below meth c s₁ Bd hml0 hP hK
  obtain ⟨rfl, hZ, hh⟩ := hP
  have hx := Bd.exec
  have hby := Bd.bytes
  have hml : c.maxLocals = 4 := hml0
  have hown : s.vm.findClass "com/example/reticule/reticule/engine/ComparisonHoldsPinLaw" = some m.cls := findClass_of_methodNamed Bd.named
  have hnm := (name_of_methodNamed Bd.named Bd.method).1
  have X0 : Stand p l e ({ frames := 4, cells := 0, slots := 0, locals := 53 } : Room) s m #[(.ref a1), (.int (62 : Int32))] below meth c s₁ [] 0 0 := Stand.of_body Bd
  have e0 : s₁.heap = h0 := by rw [← hh, Bd.state]; rfl
  have N0 := Fr.nil n0
  have hS0 : s.Since s.vm 0 := (State.WarmedH.refl s).since 0
  show Go FrameEnd p e below s ({ frames := 4, cells := 0, slots := 0, locals := 53 } : Room).cells ({ frames := 4, cells := 0, slots := 0, locals := 53 } : Room).slots (Q3DIFFERENT62 Z a1 w0 f0 v1 k1 d1 h0 n0) (s₁.setTop (entryFrame m #[(.ref a1), (.int (62 : Int32))] 4))
  refine go (fun _ k => castTop (ef_3DIFFERENT62 m a1) k) ?_
  show Go _ p e below s _ _ _ (s₁.setTop (mkF m 0 #[.val (.ref a1), .val (.int (62 : Int32)), .unset, .unset] []))
  refine go (fun _ => XS.aloadN X0.here hx rfl (hb hby d3_0) rfl rfl) ?_
  show Go _ p e below s _ _ _ (s₁.setTop (mkF m 1 #[.val (.ref a1), .val (.int (62 : Int32)), .unset, .unset] [(.ref a1)]))
  obtain ⟨cq165, kq165, q165a, q165b, q165c⟩ := isOf hZ e0 P2
  obtain ⟨_, _, ⟨T165, L165, k165, n165⟩, -, X165, ⟨Lc165, hQ165, l165, y165, z165⟩, st165⟩ := X0.virtualBack hx (y := (⟨"java/lang/String", "length", "()I"⟩ : MethodName)) (z := (⟨"java/lang/String", "length", "()I"⟩ : MethodName)) hown (mvT hZ (hw _ (List.mem_of_getElem? (i := 18) rfl))) (mvT hZ (hw _ (List.mem_of_getElem? (i := 19) rfl))) (notFace_of_selects (args := #[]) (mvT hZ (hw _ (List.mem_of_getElem? (i := 21) rfl)))) (mvT hZ (hw _ (List.mem_of_getElem? (i := 21) rfl))) (mvT hZ (hw _ (List.mem_of_getElem? (i := 20) rfl))) (by decide) (backOf (W := 0) (rm4 l Z a0 hw [] a1 w0 v1 k1 (2 : Int32) [(.int (60 : Int32)), (.int (62 : Int32))] d1 h0 n0 Z0 P0 P2 P3 P4 P5 hw0) hZ (hw _ (List.mem_of_getElem? (i := 23) rfl)) (hw _ (List.mem_of_getElem? (i := 22) rfl)) (by decide) (by decide)) q165a q165c (g := (mkF m 1 #[.val (.ref a1), .val (.int (62 : Int32)), .unset, .unset] [(.ref a1)])) rfl (by rw [hml]; rfl) (Steps.refl _) (argsL := []) (rest := []) (lenOf pd_3_0 rfl) rfl (by show 2 * 0 + _ ≤ _; exact Nat.le_of_eq rfl) (hb hby d3_1) (fun _ _ => ⟨rfl, e0, (by decide : 0 + 0 ≤ _), (by decide : 0 + 0 ≤ _)⟩)
  dsimp only [Pt.U, Pt.locs, Pt.cells, Pt.slots] at X165 l165 y165 z165 st165 hQ165
  subst l165 y165 z165
  obtain ⟨rfl, N165q, e165⟩ := hQ165
  have N165 := Fr.app N0 N165q
  refine goT st165 ?_
  show Go _ p e below s _ _ _ (T165.setTop (mkF m 4 #[.val (.ref a1), .val (.int (62 : Int32)), .unset, .unset] [(.int (2 : Int32))]))
  refine go (fun _ => XS.ifNo X165.here hx rfl (hb hby d3_4) rfl ((if0 _ _).trans (tlt (by decide : ((0 : Int32) < (2 : Int32)))).2.2.2)) ?_
  show Go _ p e below s _ _ _ (T165.setTop (mkF m 7 #[.val (.ref a1), .val (.int (62 : Int32)), .unset, .unset] []))
  refine go (fun _ => XS.aloadN X165.here hx rfl (hb hby d3_7) rfl rfl) ?_
  show Go _ p e below s _ _ _ (T165.setTop (mkF m 8 #[.val (.ref a1), .val (.int (62 : Int32)), .unset, .unset] [(.ref a1)]))
  refine go (fun _ => XS.iconst X165.here hx rfl (hb hby d3_8)) ?_
  show Go _ p e below s _ _ _ (T165.setTop (mkF m 9 #[.val (.ref a1), .val (.int (62 : Int32)), .unset, .unset] [(.int (0 : Int32)), (.ref a1)]))
  obtain ⟨cq166, kq166, q166a, q166b, q166c⟩ := isOf hZ e165 P2
  obtain ⟨_, _, ⟨T166, L166, k166, n166⟩, -, X166, ⟨Lc166, hQ166, l166, y166, z166⟩, st166⟩ := X165.virtualBack hx (y := (⟨"java/lang/String", "charAt", "(I)C"⟩ : MethodName)) (z := (⟨"java/lang/String", "charAt", "(I)C"⟩ : MethodName)) hown (mvT hZ (hw _ (List.mem_of_getElem? (i := 34) rfl))) (mvT hZ (hw _ (List.mem_of_getElem? (i := 35) rfl))) (notFace_of_selects (args := #[]) (mvT hZ (hw _ (List.mem_of_getElem? (i := 37) rfl)))) (mvT hZ (hw _ (List.mem_of_getElem? (i := 37) rfl))) (mvT hZ (hw _ (List.mem_of_getElem? (i := 36) rfl))) (by decide) (backOf (W := 0) (rm6DIFFERENT0 l Z a0 hw [] a1 w0 f0 v1 k1 d1 h0 n0 Z0 P0 P1 P2 P3 P4 P5 hw0 hf) hZ (hw _ (List.mem_of_getElem? (i := 38) rfl)) (hw _ (List.mem_of_getElem? (i := 22) rfl)) (by decide) (by decide)) q166a q166c (g := (mkF m 9 #[.val (.ref a1), .val (.int (62 : Int32)), .unset, .unset] [(.int (0 : Int32)), (.ref a1)])) rfl (by rw [hml]; rfl) (Steps.refl _) (argsL := [(.int (0 : Int32))]) (rest := []) (lenOf pd_3_1 rfl) rfl (by show 2 * 0 + _ ≤ _; exact Nat.le_of_eq rfl) (hb hby d3_9) (fun _ _ => ⟨rfl, e165, (by decide : 0 + 0 ≤ _), (by decide : 0 + 0 ≤ _)⟩)
  dsimp only [Pt.U, Pt.locs, Pt.cells, Pt.slots] at X166 l166 y166 z166 st166 hQ166
  subst l166 y166 z166
  obtain ⟨rfl, N166q, e166⟩ := hQ166
  have N166 := Fr.app N165 N166q
  refine goT st166 ?_
  show Go _ p e below s _ _ _ (T166.setTop (mkF m 12 #[.val (.ref a1), .val (.int (62 : Int32)), .unset, .unset] [(.int (60 : Int32))]))
  refine go (fun _ => XS.iloadN X166.here hx rfl (hb hby d3_12) rfl) ?_
  show Go _ p e below s _ _ _ (T166.setTop (mkF m 13 #[.val (.ref a1), .val (.int (62 : Int32)), .unset, .unset] [(.int (62 : Int32)), (.int (60 : Int32))]))
  refine go (fun _ => XS.icmpYes X166.here hx rfl (pc0 := 13) (pc' := 20) rfl (hb hby d3_13) rfl (feq (by decide : ¬ ((60 : Int32) = (62 : Int32)))).2 (by decide) (by decide)) ?_
  show Go _ p e below s _ _ _ (T166.setTop (mkF m 20 #[.val (.ref a1), .val (.int (62 : Int32)), .unset, .unset] []))
  refine go (fun _ => XS.iconst X166.here hx rfl (hb hby d3_20)) ?_
  show Go _ p e below s _ _ _ (T166.setTop (mkF m 21 #[.val (.ref a1), .val (.int (62 : Int32)), .unset, .unset] [(.int (0 : Int32))]))
  refine go (fun _ => XS.istoreN X166.here hx rfl (hb hby d3_21) rfl (l' := #[.val (.ref a1), .val (.int (62 : Int32)), .val (.int (0 : Int32)), .unset]) rfl) ?_
  show Go _ p e below s _ _ _ (T166.setTop (mkF m 22 #[.val (.ref a1), .val (.int (62 : Int32)), .val (.int (0 : Int32)), .unset] []))
  refine go (fun _ => XS.aloadN X166.here hx rfl (hb hby d3_22) rfl rfl) ?_
  show Go _ p e below s _ _ _ (T166.setTop (mkF m 23 #[.val (.ref a1), .val (.int (62 : Int32)), .val (.int (0 : Int32)), .unset] [(.ref a1)]))
  obtain ⟨cq167, kq167, q167a, q167b, q167c⟩ := isOf hZ e166 P2
  obtain ⟨_, _, ⟨T167, L167, k167, n167⟩, -, X167, ⟨Lc167, hQ167, l167, y167, z167⟩, st167⟩ := X166.virtualBack hx (y := (⟨"java/lang/String", "length", "()I"⟩ : MethodName)) (z := (⟨"java/lang/String", "length", "()I"⟩ : MethodName)) hown (mvT hZ (hw _ (List.mem_of_getElem? (i := 18) rfl))) (mvT hZ (hw _ (List.mem_of_getElem? (i := 19) rfl))) (notFace_of_selects (args := #[]) (mvT hZ (hw _ (List.mem_of_getElem? (i := 21) rfl)))) (mvT hZ (hw _ (List.mem_of_getElem? (i := 21) rfl))) (mvT hZ (hw _ (List.mem_of_getElem? (i := 20) rfl))) (by decide) (backOf (W := 0) (rm4 l Z a0 hw [] a1 w0 v1 k1 (2 : Int32) [(.int (60 : Int32)), (.int (62 : Int32))] d1 h0 n0 Z0 P0 P2 P3 P4 P5 hw0) hZ (hw _ (List.mem_of_getElem? (i := 23) rfl)) (hw _ (List.mem_of_getElem? (i := 22) rfl)) (by decide) (by decide)) q167a q167c (g := (mkF m 23 #[.val (.ref a1), .val (.int (62 : Int32)), .val (.int (0 : Int32)), .unset] [(.ref a1)])) rfl (by rw [hml]; rfl) (Steps.refl _) (argsL := []) (rest := []) (lenOf pd_3_0 rfl) rfl (by show 2 * 0 + _ ≤ _; exact Nat.le_of_eq rfl) (hb hby d3_23) (fun _ _ => ⟨rfl, e166, (by decide : 0 + 0 ≤ _), (by decide : 0 + 0 ≤ _)⟩)
  dsimp only [Pt.U, Pt.locs, Pt.cells, Pt.slots] at X167 l167 y167 z167 st167 hQ167
  subst l167 y167 z167
  obtain ⟨rfl, N167q, e167⟩ := hQ167
  have N167 := Fr.app N166 N167q
  refine goT st167 ?_
  show Go _ p e below s _ _ _ (T167.setTop (mkF m 26 #[.val (.ref a1), .val (.int (62 : Int32)), .val (.int (0 : Int32)), .unset] [(.int (2 : Int32))]))
  refine go (fun _ => XS.iconst X167.here hx rfl (hb hby d3_26)) ?_
  show Go _ p e below s _ _ _ (T167.setTop (mkF m 27 #[.val (.ref a1), .val (.int (62 : Int32)), .val (.int (0 : Int32)), .unset] [(.int (1 : Int32)), (.int (2 : Int32))]))
  refine go (fun _ => XS.icmpNo X167.here hx rfl (hb hby d3_27) rfl (tlt (by decide : ((1 : Int32) < (2 : Int32)))).2.2.2) ?_
  show Go _ p e below s _ _ _ (T167.setTop (mkF m 30 #[.val (.ref a1), .val (.int (62 : Int32)), .val (.int (0 : Int32)), .unset] []))
  refine go (fun _ => XS.aloadN X167.here hx rfl (hb hby d3_30) rfl rfl) ?_
  show Go _ p e below s _ _ _ (T167.setTop (mkF m 31 #[.val (.ref a1), .val (.int (62 : Int32)), .val (.int (0 : Int32)), .unset] [(.ref a1)]))
  refine go (fun _ => XS.iconst X167.here hx rfl (hb hby d3_31)) ?_
  show Go _ p e below s _ _ _ (T167.setTop (mkF m 32 #[.val (.ref a1), .val (.int (62 : Int32)), .val (.int (0 : Int32)), .unset] [(.int (1 : Int32)), (.ref a1)]))
  obtain ⟨cq168, kq168, q168a, q168b, q168c⟩ := isOf hZ e167 P2
  obtain ⟨_, _, ⟨T168, L168, k168, n168⟩, -, X168, ⟨Lc168, hQ168, l168, y168, z168⟩, st168⟩ := X167.virtualBack hx (y := (⟨"java/lang/String", "charAt", "(I)C"⟩ : MethodName)) (z := (⟨"java/lang/String", "charAt", "(I)C"⟩ : MethodName)) hown (mvT hZ (hw _ (List.mem_of_getElem? (i := 34) rfl))) (mvT hZ (hw _ (List.mem_of_getElem? (i := 35) rfl))) (notFace_of_selects (args := #[]) (mvT hZ (hw _ (List.mem_of_getElem? (i := 37) rfl)))) (mvT hZ (hw _ (List.mem_of_getElem? (i := 37) rfl))) (mvT hZ (hw _ (List.mem_of_getElem? (i := 36) rfl))) (by decide) (backOf (W := 0) (rm6DIFFERENT1 l Z a0 hw [] a1 w0 f0 v1 k1 d1 h0 n0 Z0 P0 P1 P2 P3 P4 P5 hw0 hf) hZ (hw _ (List.mem_of_getElem? (i := 38) rfl)) (hw _ (List.mem_of_getElem? (i := 22) rfl)) (by decide) (by decide)) q168a q168c (g := (mkF m 32 #[.val (.ref a1), .val (.int (62 : Int32)), .val (.int (0 : Int32)), .unset] [(.int (1 : Int32)), (.ref a1)])) rfl (by rw [hml]; rfl) (Steps.refl _) (argsL := [(.int (1 : Int32))]) (rest := []) (lenOf pd_3_1 rfl) rfl (by show 2 * 0 + _ ≤ _; exact Nat.le_of_eq rfl) (hb hby d3_32) (fun _ _ => ⟨rfl, e167, (by decide : 0 + 0 ≤ _), (by decide : 0 + 0 ≤ _)⟩)
  dsimp only [Pt.U, Pt.locs, Pt.cells, Pt.slots] at X168 l168 y168 z168 st168 hQ168
  subst l168 y168 z168
  obtain ⟨rfl, N168q, e168⟩ := hQ168
  have N168 := Fr.app N167 N168q
  refine goT st168 ?_
  show Go _ p e below s _ _ _ (T168.setTop (mkF m 35 #[.val (.ref a1), .val (.int (62 : Int32)), .val (.int (0 : Int32)), .unset] [(.int (62 : Int32))]))
  refine go (fun _ => XS.iloadN X168.here hx rfl (hb hby d3_35) rfl) ?_
  show Go _ p e below s _ _ _ (T168.setTop (mkF m 36 #[.val (.ref a1), .val (.int (62 : Int32)), .val (.int (0 : Int32)), .unset] [(.int (62 : Int32)), (.int (62 : Int32))]))
  refine go (fun _ => XS.icmpNo X168.here hx rfl (hb hby d3_36) rfl (teq (rfl : (62 : Int32) = (62 : Int32))).2) ?_
  show Go _ p e below s _ _ _ (T168.setTop (mkF m 39 #[.val (.ref a1), .val (.int (62 : Int32)), .val (.int (0 : Int32)), .unset] []))
  refine go (fun _ => XS.iconst X168.here hx rfl (hb hby d3_39)) ?_
  show Go _ p e below s _ _ _ (T168.setTop (mkF m 40 #[.val (.ref a1), .val (.int (62 : Int32)), .val (.int (0 : Int32)), .unset] [(.int (1 : Int32))]))
  refine go (fun _ => XS.goto X168.here hx rfl (pc0 := 40) (pc' := 44) rfl (hb hby d3_40) (by decide) (by decide)) ?_
  show Go _ p e below s _ _ _ (T168.setTop (mkF m 44 #[.val (.ref a1), .val (.int (62 : Int32)), .val (.int (0 : Int32)), .unset] [(.int (1 : Int32))]))
  refine go (fun _ => XS.istoreN X168.here hx rfl (hb hby d3_44) rfl (l' := #[.val (.ref a1), .val (.int (62 : Int32)), .val (.int (0 : Int32)), .val (.int (1 : Int32))]) rfl) ?_
  show Go _ p e below s _ _ _ (T168.setTop (mkF m 45 #[.val (.ref a1), .val (.int (62 : Int32)), .val (.int (0 : Int32)), .val (.int (1 : Int32))] []))
  refine go (fun _ => XS.iloadN X168.here hx rfl (hb hby d3_45) rfl) ?_
  show Go _ p e below s _ _ _ (T168.setTop (mkF m 46 #[.val (.ref a1), .val (.int (62 : Int32)), .val (.int (0 : Int32)), .val (.int (1 : Int32))] [(.int (0 : Int32))]))
  refine go (fun _ => XS.ifNo X168.here hx rfl (hb hby d3_46) rfl ((if0 _ _).trans (teq (rfl : (0 : Int32) = (0 : Int32))).2)) ?_
  show Go _ p e below s _ _ _ (T168.setTop (mkF m 49 #[.val (.ref a1), .val (.int (62 : Int32)), .val (.int (0 : Int32)), .val (.int (1 : Int32))] []))
  refine go (fun _ => XS.iloadN X168.here hx rfl (hb hby d3_49) rfl) ?_
  show Go _ p e below s _ _ _ (T168.setTop (mkF m 50 #[.val (.ref a1), .val (.int (62 : Int32)), .val (.int (0 : Int32)), .val (.int (1 : Int32))] [(.int (1 : Int32))]))
  refine go (fun _ => XS.ifNo X168.here hx rfl (hb hby d3_50) rfl ((if0 _ _).trans (feq (by decide : ¬ ((1 : Int32) = (0 : Int32)))).1)) ?_
  show Go _ p e below s _ _ _ (T168.setTop (mkF m 53 #[.val (.ref a1), .val (.int (62 : Int32)), .val (.int (0 : Int32)), .val (.int (1 : Int32))] []))
  refine go (fun _ => XS.iconst X168.here hx rfl (hb hby d3_53)) ?_
  show Go _ p e below s _ _ _ (T168.setTop (mkF m 54 #[.val (.ref a1), .val (.int (62 : Int32)), .val (.int (0 : Int32)), .val (.int (1 : Int32))] [(.int (1 : Int32))]))
  refine go (fun _ => XS.goto X168.here hx rfl (pc0 := 54) (pc' := 58) rfl (hb hby d3_54) (by decide) (by decide)) ?_
  show Go _ p e below s _ _ _ (T168.setTop (mkF m 58 #[.val (.ref a1), .val (.int (62 : Int32)), .val (.int (0 : Int32)), .val (.int (1 : Int32))] [(.int (1 : Int32))]))
  refine goRet X168 hx Bd.notSynchronized Bd.returns rfl (Or.inl ⟨rfl, Or.inr (Or.inl rfl), _, rfl⟩) (hb hby d3_58) (by decide) (by decide) (by rw [e168]; refine ⟨rfl, N168, rfl⟩)
theorem pn_3LESS60 : plainName "com/example/reticule/reticule/engine/ComparisonHoldsPinLaw" = true := by first | (simp [plainName, overriddenIn]; done) | decide +kernel
theorem ef_3LESS60 (m : MethodId) (a1 : Addr) : entryFrame m #[(.ref a1), (.int (60 : Int32))] 4 = mkF m 0 #[.val (.ref a1), .val (.int (60 : Int32)), .unset, .unset] [] := by first | (simp [entryFrame, mkF, argsToLocals, Value.category]; done) | rfl
def Q3LESS60 (Z : State) (a1 : Addr) (w0 : Int32) (f0 : Value) (v1 : Addr) (k1 : ClassId) (d1 : Value) (h0 : Heap) (n0 : Nat) (v : Option Value) (h : Heap) (L : List Loc) : Prop := v = some (.int (1 : Int32)) ∧ Fr n0 L ∧ (h = h0)
set_option maxRecDepth 65536 in
set_option maxHeartbeats 40000000 in
theorem rm3LESS60 (l : Launch) (Z : State) (a0 : Array Value) (hw : ∀ d ∈ tables_1, d.before a0 Z = true) (ws : List Jvm.Cond) (a1 : Addr) (w0 : Int32) (f0 : Value) (v1 : Addr) (k1 : ClassId) (d1 : Value) (h0 : Heap) (n0 : Nat) (Z0 : n0 ≤ h0.size) (P0 : Sta Z h0 "java/lang/String" "COMPACT_STRINGS" "Z" (.int w0)) (P1 : Sta Z h0 "jdk/internal/util/Preconditions" "SIOOBE_FORMATTER" "Ljava/util/function/BiFunction;" f0) (P2 : Exa Z h0 a1 "java/lang/String") (P3 : Fld Z h0 a1 "java/lang/String" "coder" "B" (.int (0 : Int32))) (P4 : Fld Z h0 a1 "java/lang/String" "value" "[B" (.ref v1)) (P5 : Arv Z h0 v1 k1 .byte (1 : Int32) [(.int (60 : Int32))] d1) (hw0 : ¬ w0 = 0) (hf : f0.isRef = true) :
    MetFree l (⟨"com/example/reticule/reticule/engine/ComparisonHoldsPinLaw", "has", "(Ljava/lang/String;C)Z"⟩ : MethodName) (head1 (Jvm.Cond.code (⟨"com/example/reticule/reticule/engine/ComparisonHoldsPinLaw", "has", "(Ljava/lang/String;C)Z"⟩ : MethodName) method_3_code 4 (some .boolean) :: ws) ({ frames := 4, cells := 0, slots := 0, locals := 53 } : Room)) (fun a U => a = #[(.ref a1), (.int (60 : Int32))] ∧ Z.Warmed39 U.vm ∧ U.heap = h0) (fun _ _ _ _ _ => True) (fun _ U o U' => ∃ v L, o = .returned v ∧ Q3LESS60 Z a1 w0 f0 v1 k1 d1 h0 n0 v U'.heap L ∧ FrameEnd U o U' L ({ frames := 4, cells := 0, slots := 0, locals := 53 } : Room).cells ({ frames := 4, cells := 0, slots := 0, locals := 53 } : Room).slots) := by
  refine MetFree.of_bodySF (plainFor_of_name pn_3LESS60) hisR ?_
  intro p e s m args below meth c s₁ Bd hml0 hP hK
  obtain ⟨rfl, hZ, hh⟩ := hP
  have hx := Bd.exec
  have hby := Bd.bytes
  have hml : c.maxLocals = 4 := hml0
  have hown : s.vm.findClass "com/example/reticule/reticule/engine/ComparisonHoldsPinLaw" = some m.cls := findClass_of_methodNamed Bd.named
  have hnm := (name_of_methodNamed Bd.named Bd.method).1
  have X0 : Stand p l e ({ frames := 4, cells := 0, slots := 0, locals := 53 } : Room) s m #[(.ref a1), (.int (60 : Int32))] below meth c s₁ [] 0 0 := Stand.of_body Bd
  have e0 : s₁.heap = h0 := by rw [← hh, Bd.state]; rfl
  have N0 := Fr.nil n0
  have hS0 : s.Since s.vm 0 := (State.WarmedH.refl s).since 0
  show Go FrameEnd p e below s ({ frames := 4, cells := 0, slots := 0, locals := 53 } : Room).cells ({ frames := 4, cells := 0, slots := 0, locals := 53 } : Room).slots (Q3LESS60 Z a1 w0 f0 v1 k1 d1 h0 n0) (s₁.setTop (entryFrame m #[(.ref a1), (.int (60 : Int32))] 4))
  refine go (fun _ k => castTop (ef_3LESS60 m a1) k) ?_
  show Go _ p e below s _ _ _ (s₁.setTop (mkF m 0 #[.val (.ref a1), .val (.int (60 : Int32)), .unset, .unset] []))
  refine go (fun _ => XS.aloadN X0.here hx rfl (hb hby d3_0) rfl rfl) ?_
  show Go _ p e below s _ _ _ (s₁.setTop (mkF m 1 #[.val (.ref a1), .val (.int (60 : Int32)), .unset, .unset] [(.ref a1)]))
  obtain ⟨cq172, kq172, q172a, q172b, q172c⟩ := isOf hZ e0 P2
  obtain ⟨_, _, ⟨T172, L172, k172, n172⟩, -, X172, ⟨Lc172, hQ172, l172, y172, z172⟩, st172⟩ := X0.virtualBack hx (y := (⟨"java/lang/String", "length", "()I"⟩ : MethodName)) (z := (⟨"java/lang/String", "length", "()I"⟩ : MethodName)) hown (mvT hZ (hw _ (List.mem_of_getElem? (i := 18) rfl))) (mvT hZ (hw _ (List.mem_of_getElem? (i := 19) rfl))) (notFace_of_selects (args := #[]) (mvT hZ (hw _ (List.mem_of_getElem? (i := 21) rfl)))) (mvT hZ (hw _ (List.mem_of_getElem? (i := 21) rfl))) (mvT hZ (hw _ (List.mem_of_getElem? (i := 20) rfl))) (by decide) (backOf (W := 0) (rm4 l Z a0 hw [] a1 w0 v1 k1 (1 : Int32) [(.int (60 : Int32))] d1 h0 n0 Z0 P0 P2 P3 P4 P5 hw0) hZ (hw _ (List.mem_of_getElem? (i := 23) rfl)) (hw _ (List.mem_of_getElem? (i := 22) rfl)) (by decide) (by decide)) q172a q172c (g := (mkF m 1 #[.val (.ref a1), .val (.int (60 : Int32)), .unset, .unset] [(.ref a1)])) rfl (by rw [hml]; rfl) (Steps.refl _) (argsL := []) (rest := []) (lenOf pd_3_0 rfl) rfl (by show 2 * 0 + _ ≤ _; exact Nat.le_of_eq rfl) (hb hby d3_1) (fun _ _ => ⟨rfl, e0, (by decide : 0 + 0 ≤ _), (by decide : 0 + 0 ≤ _)⟩)
  dsimp only [Pt.U, Pt.locs, Pt.cells, Pt.slots] at X172 l172 y172 z172 st172 hQ172
  subst l172 y172 z172
  obtain ⟨rfl, N172q, e172⟩ := hQ172
  have N172 := Fr.app N0 N172q
  refine goT st172 ?_
  show Go _ p e below s _ _ _ (T172.setTop (mkF m 4 #[.val (.ref a1), .val (.int (60 : Int32)), .unset, .unset] [(.int (1 : Int32))]))
  refine go (fun _ => XS.ifNo X172.here hx rfl (hb hby d3_4) rfl ((if0 _ _).trans (tlt (by decide : ((0 : Int32) < (1 : Int32)))).2.2.2)) ?_
  show Go _ p e below s _ _ _ (T172.setTop (mkF m 7 #[.val (.ref a1), .val (.int (60 : Int32)), .unset, .unset] []))
  refine go (fun _ => XS.aloadN X172.here hx rfl (hb hby d3_7) rfl rfl) ?_
  show Go _ p e below s _ _ _ (T172.setTop (mkF m 8 #[.val (.ref a1), .val (.int (60 : Int32)), .unset, .unset] [(.ref a1)]))
  refine go (fun _ => XS.iconst X172.here hx rfl (hb hby d3_8)) ?_
  show Go _ p e below s _ _ _ (T172.setTop (mkF m 9 #[.val (.ref a1), .val (.int (60 : Int32)), .unset, .unset] [(.int (0 : Int32)), (.ref a1)]))
  obtain ⟨cq173, kq173, q173a, q173b, q173c⟩ := isOf hZ e172 P2
  obtain ⟨_, _, ⟨T173, L173, k173, n173⟩, -, X173, ⟨Lc173, hQ173, l173, y173, z173⟩, st173⟩ := X172.virtualBack hx (y := (⟨"java/lang/String", "charAt", "(I)C"⟩ : MethodName)) (z := (⟨"java/lang/String", "charAt", "(I)C"⟩ : MethodName)) hown (mvT hZ (hw _ (List.mem_of_getElem? (i := 34) rfl))) (mvT hZ (hw _ (List.mem_of_getElem? (i := 35) rfl))) (notFace_of_selects (args := #[]) (mvT hZ (hw _ (List.mem_of_getElem? (i := 37) rfl)))) (mvT hZ (hw _ (List.mem_of_getElem? (i := 37) rfl))) (mvT hZ (hw _ (List.mem_of_getElem? (i := 36) rfl))) (by decide) (backOf (W := 0) (rm6LESS0 l Z a0 hw [] a1 w0 f0 v1 k1 d1 h0 n0 Z0 P0 P1 P2 P3 P4 P5 hw0 hf) hZ (hw _ (List.mem_of_getElem? (i := 38) rfl)) (hw _ (List.mem_of_getElem? (i := 22) rfl)) (by decide) (by decide)) q173a q173c (g := (mkF m 9 #[.val (.ref a1), .val (.int (60 : Int32)), .unset, .unset] [(.int (0 : Int32)), (.ref a1)])) rfl (by rw [hml]; rfl) (Steps.refl _) (argsL := [(.int (0 : Int32))]) (rest := []) (lenOf pd_3_1 rfl) rfl (by show 2 * 0 + _ ≤ _; exact Nat.le_of_eq rfl) (hb hby d3_9) (fun _ _ => ⟨rfl, e172, (by decide : 0 + 0 ≤ _), (by decide : 0 + 0 ≤ _)⟩)
  dsimp only [Pt.U, Pt.locs, Pt.cells, Pt.slots] at X173 l173 y173 z173 st173 hQ173
  subst l173 y173 z173
  obtain ⟨rfl, N173q, e173⟩ := hQ173
  have N173 := Fr.app N172 N173q
  refine goT st173 ?_
  show Go _ p e below s _ _ _ (T173.setTop (mkF m 12 #[.val (.ref a1), .val (.int (60 : Int32)), .unset, .unset] [(.int (60 : Int32))]))
  refine go (fun _ => XS.iloadN X173.here hx rfl (hb hby d3_12) rfl) ?_
  show Go _ p e below s _ _ _ (T173.setTop (mkF m 13 #[.val (.ref a1), .val (.int (60 : Int32)), .unset, .unset] [(.int (60 : Int32)), (.int (60 : Int32))]))
  refine go (fun _ => XS.icmpNo X173.here hx rfl (hb hby d3_13) rfl (teq (rfl : (60 : Int32) = (60 : Int32))).2) ?_
  show Go _ p e below s _ _ _ (T173.setTop (mkF m 16 #[.val (.ref a1), .val (.int (60 : Int32)), .unset, .unset] []))
  refine go (fun _ => XS.iconst X173.here hx rfl (hb hby d3_16)) ?_
  show Go _ p e below s _ _ _ (T173.setTop (mkF m 17 #[.val (.ref a1), .val (.int (60 : Int32)), .unset, .unset] [(.int (1 : Int32))]))
  refine go (fun _ => XS.goto X173.here hx rfl (pc0 := 17) (pc' := 21) rfl (hb hby d3_17) (by decide) (by decide)) ?_
  show Go _ p e below s _ _ _ (T173.setTop (mkF m 21 #[.val (.ref a1), .val (.int (60 : Int32)), .unset, .unset] [(.int (1 : Int32))]))
  refine go (fun _ => XS.istoreN X173.here hx rfl (hb hby d3_21) rfl (l' := #[.val (.ref a1), .val (.int (60 : Int32)), .val (.int (1 : Int32)), .unset]) rfl) ?_
  show Go _ p e below s _ _ _ (T173.setTop (mkF m 22 #[.val (.ref a1), .val (.int (60 : Int32)), .val (.int (1 : Int32)), .unset] []))
  refine go (fun _ => XS.aloadN X173.here hx rfl (hb hby d3_22) rfl rfl) ?_
  show Go _ p e below s _ _ _ (T173.setTop (mkF m 23 #[.val (.ref a1), .val (.int (60 : Int32)), .val (.int (1 : Int32)), .unset] [(.ref a1)]))
  obtain ⟨cq174, kq174, q174a, q174b, q174c⟩ := isOf hZ e173 P2
  obtain ⟨_, _, ⟨T174, L174, k174, n174⟩, -, X174, ⟨Lc174, hQ174, l174, y174, z174⟩, st174⟩ := X173.virtualBack hx (y := (⟨"java/lang/String", "length", "()I"⟩ : MethodName)) (z := (⟨"java/lang/String", "length", "()I"⟩ : MethodName)) hown (mvT hZ (hw _ (List.mem_of_getElem? (i := 18) rfl))) (mvT hZ (hw _ (List.mem_of_getElem? (i := 19) rfl))) (notFace_of_selects (args := #[]) (mvT hZ (hw _ (List.mem_of_getElem? (i := 21) rfl)))) (mvT hZ (hw _ (List.mem_of_getElem? (i := 21) rfl))) (mvT hZ (hw _ (List.mem_of_getElem? (i := 20) rfl))) (by decide) (backOf (W := 0) (rm4 l Z a0 hw [] a1 w0 v1 k1 (1 : Int32) [(.int (60 : Int32))] d1 h0 n0 Z0 P0 P2 P3 P4 P5 hw0) hZ (hw _ (List.mem_of_getElem? (i := 23) rfl)) (hw _ (List.mem_of_getElem? (i := 22) rfl)) (by decide) (by decide)) q174a q174c (g := (mkF m 23 #[.val (.ref a1), .val (.int (60 : Int32)), .val (.int (1 : Int32)), .unset] [(.ref a1)])) rfl (by rw [hml]; rfl) (Steps.refl _) (argsL := []) (rest := []) (lenOf pd_3_0 rfl) rfl (by show 2 * 0 + _ ≤ _; exact Nat.le_of_eq rfl) (hb hby d3_23) (fun _ _ => ⟨rfl, e173, (by decide : 0 + 0 ≤ _), (by decide : 0 + 0 ≤ _)⟩)
  dsimp only [Pt.U, Pt.locs, Pt.cells, Pt.slots] at X174 l174 y174 z174 st174 hQ174
  subst l174 y174 z174
  obtain ⟨rfl, N174q, e174⟩ := hQ174
  have N174 := Fr.app N173 N174q
  refine goT st174 ?_
  show Go _ p e below s _ _ _ (T174.setTop (mkF m 26 #[.val (.ref a1), .val (.int (60 : Int32)), .val (.int (1 : Int32)), .unset] [(.int (1 : Int32))]))
  refine go (fun _ => XS.iconst X174.here hx rfl (hb hby d3_26)) ?_
  show Go _ p e below s _ _ _ (T174.setTop (mkF m 27 #[.val (.ref a1), .val (.int (60 : Int32)), .val (.int (1 : Int32)), .unset] [(.int (1 : Int32)), (.int (1 : Int32))]))
  refine go (fun _ => XS.icmpYes X174.here hx rfl (pc0 := 27) (pc' := 43) rfl (hb hby d3_27) rfl (flt (by decide : ¬ ((1 : Int32) < (1 : Int32)))).2.2.2 (by decide) (by decide)) ?_
  show Go _ p e below s _ _ _ (T174.setTop (mkF m 43 #[.val (.ref a1), .val (.int (60 : Int32)), .val (.int (1 : Int32)), .unset] []))
  refine go (fun _ => XS.iconst X174.here hx rfl (hb hby d3_43)) ?_
  show Go _ p e below s _ _ _ (T174.setTop (mkF m 44 #[.val (.ref a1), .val (.int (60 : Int32)), .val (.int (1 : Int32)), .unset] [(.int (0 : Int32))]))
  refine go (fun _ => XS.istoreN X174.here hx rfl (hb hby d3_44) rfl (l' := #[.val (.ref a1), .val (.int (60 : Int32)), .val (.int (1 : Int32)), .val (.int (0 : Int32))]) rfl) ?_
  show Go _ p e below s _ _ _ (T174.setTop (mkF m 45 #[.val (.ref a1), .val (.int (60 : Int32)), .val (.int (1 : Int32)), .val (.int (0 : Int32))] []))
  refine go (fun _ => XS.iloadN X174.here hx rfl (hb hby d3_45) rfl) ?_
  show Go _ p e below s _ _ _ (T174.setTop (mkF m 46 #[.val (.ref a1), .val (.int (60 : Int32)), .val (.int (1 : Int32)), .val (.int (0 : Int32))] [(.int (1 : Int32))]))
  refine go (fun _ => XS.ifYes X174.here hx rfl (pc0 := 46) (pc' := 53) rfl (hb hby d3_46) rfl ((if0 _ _).trans (feq (by decide : ¬ ((1 : Int32) = (0 : Int32)))).2) (by decide) (by decide)) ?_
  show Go _ p e below s _ _ _ (T174.setTop (mkF m 53 #[.val (.ref a1), .val (.int (60 : Int32)), .val (.int (1 : Int32)), .val (.int (0 : Int32))] []))
  refine go (fun _ => XS.iconst X174.here hx rfl (hb hby d3_53)) ?_
  show Go _ p e below s _ _ _ (T174.setTop (mkF m 54 #[.val (.ref a1), .val (.int (60 : Int32)), .val (.int (1 : Int32)), .val (.int (0 : Int32))] [(.int (1 : Int32))]))
  refine go (fun _ => XS.goto X174.here hx rfl (pc0 := 54) (pc' := 58) rfl (hb hby d3_54) (by decide) (by decide)) ?_
  show Go _ p e below s _ _ _ (T174.setTop (mkF m 58 #[.val (.ref a1), .val (.int (60 : Int32)), .val (.int (1 : Int32)), .val (.int (0 : Int32))] [(.int (1 : Int32))]))
  refine goRet X174 hx Bd.notSynchronized Bd.returns rfl (Or.inl ⟨rfl, Or.inr (Or.inl rfl), _, rfl⟩) (hb hby d3_58) (by decide) (by decide) (by rw [e174]; refine ⟨rfl, N174, rfl⟩)
theorem pn_3LESS61 : plainName "com/example/reticule/reticule/engine/ComparisonHoldsPinLaw" = true := by first | (simp [plainName, overriddenIn]; done) | decide +kernel
theorem ef_3LESS61 (m : MethodId) (a1 : Addr) : entryFrame m #[(.ref a1), (.int (61 : Int32))] 4 = mkF m 0 #[.val (.ref a1), .val (.int (61 : Int32)), .unset, .unset] [] := by first | (simp [entryFrame, mkF, argsToLocals, Value.category]; done) | rfl
def Q3LESS61 (Z : State) (a1 : Addr) (w0 : Int32) (f0 : Value) (v1 : Addr) (k1 : ClassId) (d1 : Value) (h0 : Heap) (n0 : Nat) (v : Option Value) (h : Heap) (L : List Loc) : Prop := v = some (.int (0 : Int32)) ∧ Fr n0 L ∧ (h = h0)
set_option maxRecDepth 65536 in
set_option maxHeartbeats 40000000 in
theorem rm3LESS61 (l : Launch) (Z : State) (a0 : Array Value) (hw : ∀ d ∈ tables_1, d.before a0 Z = true) (ws : List Jvm.Cond) (a1 : Addr) (w0 : Int32) (f0 : Value) (v1 : Addr) (k1 : ClassId) (d1 : Value) (h0 : Heap) (n0 : Nat) (Z0 : n0 ≤ h0.size) (P0 : Sta Z h0 "java/lang/String" "COMPACT_STRINGS" "Z" (.int w0)) (P1 : Sta Z h0 "jdk/internal/util/Preconditions" "SIOOBE_FORMATTER" "Ljava/util/function/BiFunction;" f0) (P2 : Exa Z h0 a1 "java/lang/String") (P3 : Fld Z h0 a1 "java/lang/String" "coder" "B" (.int (0 : Int32))) (P4 : Fld Z h0 a1 "java/lang/String" "value" "[B" (.ref v1)) (P5 : Arv Z h0 v1 k1 .byte (1 : Int32) [(.int (60 : Int32))] d1) (hw0 : ¬ w0 = 0) (hf : f0.isRef = true) :
    MetFree l (⟨"com/example/reticule/reticule/engine/ComparisonHoldsPinLaw", "has", "(Ljava/lang/String;C)Z"⟩ : MethodName) (head1 (Jvm.Cond.code (⟨"com/example/reticule/reticule/engine/ComparisonHoldsPinLaw", "has", "(Ljava/lang/String;C)Z"⟩ : MethodName) method_3_code 4 (some .boolean) :: ws) ({ frames := 4, cells := 0, slots := 0, locals := 53 } : Room)) (fun a U => a = #[(.ref a1), (.int (61 : Int32))] ∧ Z.Warmed39 U.vm ∧ U.heap = h0) (fun _ _ _ _ _ => True) (fun _ U o U' => ∃ v L, o = .returned v ∧ Q3LESS61 Z a1 w0 f0 v1 k1 d1 h0 n0 v U'.heap L ∧ FrameEnd U o U' L ({ frames := 4, cells := 0, slots := 0, locals := 53 } : Room).cells ({ frames := 4, cells := 0, slots := 0, locals := 53 } : Room).slots) := by
  refine MetFree.of_bodySF (plainFor_of_name pn_3LESS61) hisR ?_
  intro p e s m args below meth c s₁ Bd hml0 hP hK
  obtain ⟨rfl, hZ, hh⟩ := hP
  have hx := Bd.exec
  have hby := Bd.bytes
  have hml : c.maxLocals = 4 := hml0
  have hown : s.vm.findClass "com/example/reticule/reticule/engine/ComparisonHoldsPinLaw" = some m.cls := findClass_of_methodNamed Bd.named
  have hnm := (name_of_methodNamed Bd.named Bd.method).1
  have X0 : Stand p l e ({ frames := 4, cells := 0, slots := 0, locals := 53 } : Room) s m #[(.ref a1), (.int (61 : Int32))] below meth c s₁ [] 0 0 := Stand.of_body Bd
  have e0 : s₁.heap = h0 := by rw [← hh, Bd.state]; rfl
  have N0 := Fr.nil n0
  have hS0 : s.Since s.vm 0 := (State.WarmedH.refl s).since 0
  show Go FrameEnd p e below s ({ frames := 4, cells := 0, slots := 0, locals := 53 } : Room).cells ({ frames := 4, cells := 0, slots := 0, locals := 53 } : Room).slots (Q3LESS61 Z a1 w0 f0 v1 k1 d1 h0 n0) (s₁.setTop (entryFrame m #[(.ref a1), (.int (61 : Int32))] 4))
  refine go (fun _ k => castTop (ef_3LESS61 m a1) k) ?_
  show Go _ p e below s _ _ _ (s₁.setTop (mkF m 0 #[.val (.ref a1), .val (.int (61 : Int32)), .unset, .unset] []))
  refine go (fun _ => XS.aloadN X0.here hx rfl (hb hby d3_0) rfl rfl) ?_
  show Go _ p e below s _ _ _ (s₁.setTop (mkF m 1 #[.val (.ref a1), .val (.int (61 : Int32)), .unset, .unset] [(.ref a1)]))
  obtain ⟨cq178, kq178, q178a, q178b, q178c⟩ := isOf hZ e0 P2
  obtain ⟨_, _, ⟨T178, L178, k178, n178⟩, -, X178, ⟨Lc178, hQ178, l178, y178, z178⟩, st178⟩ := X0.virtualBack hx (y := (⟨"java/lang/String", "length", "()I"⟩ : MethodName)) (z := (⟨"java/lang/String", "length", "()I"⟩ : MethodName)) hown (mvT hZ (hw _ (List.mem_of_getElem? (i := 18) rfl))) (mvT hZ (hw _ (List.mem_of_getElem? (i := 19) rfl))) (notFace_of_selects (args := #[]) (mvT hZ (hw _ (List.mem_of_getElem? (i := 21) rfl)))) (mvT hZ (hw _ (List.mem_of_getElem? (i := 21) rfl))) (mvT hZ (hw _ (List.mem_of_getElem? (i := 20) rfl))) (by decide) (backOf (W := 0) (rm4 l Z a0 hw [] a1 w0 v1 k1 (1 : Int32) [(.int (60 : Int32))] d1 h0 n0 Z0 P0 P2 P3 P4 P5 hw0) hZ (hw _ (List.mem_of_getElem? (i := 23) rfl)) (hw _ (List.mem_of_getElem? (i := 22) rfl)) (by decide) (by decide)) q178a q178c (g := (mkF m 1 #[.val (.ref a1), .val (.int (61 : Int32)), .unset, .unset] [(.ref a1)])) rfl (by rw [hml]; rfl) (Steps.refl _) (argsL := []) (rest := []) (lenOf pd_3_0 rfl) rfl (by show 2 * 0 + _ ≤ _; exact Nat.le_of_eq rfl) (hb hby d3_1) (fun _ _ => ⟨rfl, e0, (by decide : 0 + 0 ≤ _), (by decide : 0 + 0 ≤ _)⟩)
  dsimp only [Pt.U, Pt.locs, Pt.cells, Pt.slots] at X178 l178 y178 z178 st178 hQ178
  subst l178 y178 z178
  obtain ⟨rfl, N178q, e178⟩ := hQ178
  have N178 := Fr.app N0 N178q
  refine goT st178 ?_
  show Go _ p e below s _ _ _ (T178.setTop (mkF m 4 #[.val (.ref a1), .val (.int (61 : Int32)), .unset, .unset] [(.int (1 : Int32))]))
  refine go (fun _ => XS.ifNo X178.here hx rfl (hb hby d3_4) rfl ((if0 _ _).trans (tlt (by decide : ((0 : Int32) < (1 : Int32)))).2.2.2)) ?_
  show Go _ p e below s _ _ _ (T178.setTop (mkF m 7 #[.val (.ref a1), .val (.int (61 : Int32)), .unset, .unset] []))
  refine go (fun _ => XS.aloadN X178.here hx rfl (hb hby d3_7) rfl rfl) ?_
  show Go _ p e below s _ _ _ (T178.setTop (mkF m 8 #[.val (.ref a1), .val (.int (61 : Int32)), .unset, .unset] [(.ref a1)]))
  refine go (fun _ => XS.iconst X178.here hx rfl (hb hby d3_8)) ?_
  show Go _ p e below s _ _ _ (T178.setTop (mkF m 9 #[.val (.ref a1), .val (.int (61 : Int32)), .unset, .unset] [(.int (0 : Int32)), (.ref a1)]))
  obtain ⟨cq179, kq179, q179a, q179b, q179c⟩ := isOf hZ e178 P2
  obtain ⟨_, _, ⟨T179, L179, k179, n179⟩, -, X179, ⟨Lc179, hQ179, l179, y179, z179⟩, st179⟩ := X178.virtualBack hx (y := (⟨"java/lang/String", "charAt", "(I)C"⟩ : MethodName)) (z := (⟨"java/lang/String", "charAt", "(I)C"⟩ : MethodName)) hown (mvT hZ (hw _ (List.mem_of_getElem? (i := 34) rfl))) (mvT hZ (hw _ (List.mem_of_getElem? (i := 35) rfl))) (notFace_of_selects (args := #[]) (mvT hZ (hw _ (List.mem_of_getElem? (i := 37) rfl)))) (mvT hZ (hw _ (List.mem_of_getElem? (i := 37) rfl))) (mvT hZ (hw _ (List.mem_of_getElem? (i := 36) rfl))) (by decide) (backOf (W := 0) (rm6LESS0 l Z a0 hw [] a1 w0 f0 v1 k1 d1 h0 n0 Z0 P0 P1 P2 P3 P4 P5 hw0 hf) hZ (hw _ (List.mem_of_getElem? (i := 38) rfl)) (hw _ (List.mem_of_getElem? (i := 22) rfl)) (by decide) (by decide)) q179a q179c (g := (mkF m 9 #[.val (.ref a1), .val (.int (61 : Int32)), .unset, .unset] [(.int (0 : Int32)), (.ref a1)])) rfl (by rw [hml]; rfl) (Steps.refl _) (argsL := [(.int (0 : Int32))]) (rest := []) (lenOf pd_3_1 rfl) rfl (by show 2 * 0 + _ ≤ _; exact Nat.le_of_eq rfl) (hb hby d3_9) (fun _ _ => ⟨rfl, e178, (by decide : 0 + 0 ≤ _), (by decide : 0 + 0 ≤ _)⟩)
  dsimp only [Pt.U, Pt.locs, Pt.cells, Pt.slots] at X179 l179 y179 z179 st179 hQ179
  subst l179 y179 z179
  obtain ⟨rfl, N179q, e179⟩ := hQ179
  have N179 := Fr.app N178 N179q
  refine goT st179 ?_
  show Go _ p e below s _ _ _ (T179.setTop (mkF m 12 #[.val (.ref a1), .val (.int (61 : Int32)), .unset, .unset] [(.int (60 : Int32))]))
  refine go (fun _ => XS.iloadN X179.here hx rfl (hb hby d3_12) rfl) ?_
  show Go _ p e below s _ _ _ (T179.setTop (mkF m 13 #[.val (.ref a1), .val (.int (61 : Int32)), .unset, .unset] [(.int (61 : Int32)), (.int (60 : Int32))]))
  refine go (fun _ => XS.icmpYes X179.here hx rfl (pc0 := 13) (pc' := 20) rfl (hb hby d3_13) rfl (feq (by decide : ¬ ((60 : Int32) = (61 : Int32)))).2 (by decide) (by decide)) ?_
  show Go _ p e below s _ _ _ (T179.setTop (mkF m 20 #[.val (.ref a1), .val (.int (61 : Int32)), .unset, .unset] []))
  refine go (fun _ => XS.iconst X179.here hx rfl (hb hby d3_20)) ?_
  show Go _ p e below s _ _ _ (T179.setTop (mkF m 21 #[.val (.ref a1), .val (.int (61 : Int32)), .unset, .unset] [(.int (0 : Int32))]))
  refine go (fun _ => XS.istoreN X179.here hx rfl (hb hby d3_21) rfl (l' := #[.val (.ref a1), .val (.int (61 : Int32)), .val (.int (0 : Int32)), .unset]) rfl) ?_
  show Go _ p e below s _ _ _ (T179.setTop (mkF m 22 #[.val (.ref a1), .val (.int (61 : Int32)), .val (.int (0 : Int32)), .unset] []))
  refine go (fun _ => XS.aloadN X179.here hx rfl (hb hby d3_22) rfl rfl) ?_
  show Go _ p e below s _ _ _ (T179.setTop (mkF m 23 #[.val (.ref a1), .val (.int (61 : Int32)), .val (.int (0 : Int32)), .unset] [(.ref a1)]))
  obtain ⟨cq180, kq180, q180a, q180b, q180c⟩ := isOf hZ e179 P2
  obtain ⟨_, _, ⟨T180, L180, k180, n180⟩, -, X180, ⟨Lc180, hQ180, l180, y180, z180⟩, st180⟩ := X179.virtualBack hx (y := (⟨"java/lang/String", "length", "()I"⟩ : MethodName)) (z := (⟨"java/lang/String", "length", "()I"⟩ : MethodName)) hown (mvT hZ (hw _ (List.mem_of_getElem? (i := 18) rfl))) (mvT hZ (hw _ (List.mem_of_getElem? (i := 19) rfl))) (notFace_of_selects (args := #[]) (mvT hZ (hw _ (List.mem_of_getElem? (i := 21) rfl)))) (mvT hZ (hw _ (List.mem_of_getElem? (i := 21) rfl))) (mvT hZ (hw _ (List.mem_of_getElem? (i := 20) rfl))) (by decide) (backOf (W := 0) (rm4 l Z a0 hw [] a1 w0 v1 k1 (1 : Int32) [(.int (60 : Int32))] d1 h0 n0 Z0 P0 P2 P3 P4 P5 hw0) hZ (hw _ (List.mem_of_getElem? (i := 23) rfl)) (hw _ (List.mem_of_getElem? (i := 22) rfl)) (by decide) (by decide)) q180a q180c (g := (mkF m 23 #[.val (.ref a1), .val (.int (61 : Int32)), .val (.int (0 : Int32)), .unset] [(.ref a1)])) rfl (by rw [hml]; rfl) (Steps.refl _) (argsL := []) (rest := []) (lenOf pd_3_0 rfl) rfl (by show 2 * 0 + _ ≤ _; exact Nat.le_of_eq rfl) (hb hby d3_23) (fun _ _ => ⟨rfl, e179, (by decide : 0 + 0 ≤ _), (by decide : 0 + 0 ≤ _)⟩)
  dsimp only [Pt.U, Pt.locs, Pt.cells, Pt.slots] at X180 l180 y180 z180 st180 hQ180
  subst l180 y180 z180
  obtain ⟨rfl, N180q, e180⟩ := hQ180
  have N180 := Fr.app N179 N180q
  refine goT st180 ?_
  show Go _ p e below s _ _ _ (T180.setTop (mkF m 26 #[.val (.ref a1), .val (.int (61 : Int32)), .val (.int (0 : Int32)), .unset] [(.int (1 : Int32))]))
  refine go (fun _ => XS.iconst X180.here hx rfl (hb hby d3_26)) ?_
  show Go _ p e below s _ _ _ (T180.setTop (mkF m 27 #[.val (.ref a1), .val (.int (61 : Int32)), .val (.int (0 : Int32)), .unset] [(.int (1 : Int32)), (.int (1 : Int32))]))
  refine go (fun _ => XS.icmpYes X180.here hx rfl (pc0 := 27) (pc' := 43) rfl (hb hby d3_27) rfl (flt (by decide : ¬ ((1 : Int32) < (1 : Int32)))).2.2.2 (by decide) (by decide)) ?_
  show Go _ p e below s _ _ _ (T180.setTop (mkF m 43 #[.val (.ref a1), .val (.int (61 : Int32)), .val (.int (0 : Int32)), .unset] []))
  refine go (fun _ => XS.iconst X180.here hx rfl (hb hby d3_43)) ?_
  show Go _ p e below s _ _ _ (T180.setTop (mkF m 44 #[.val (.ref a1), .val (.int (61 : Int32)), .val (.int (0 : Int32)), .unset] [(.int (0 : Int32))]))
  refine go (fun _ => XS.istoreN X180.here hx rfl (hb hby d3_44) rfl (l' := #[.val (.ref a1), .val (.int (61 : Int32)), .val (.int (0 : Int32)), .val (.int (0 : Int32))]) rfl) ?_
  show Go _ p e below s _ _ _ (T180.setTop (mkF m 45 #[.val (.ref a1), .val (.int (61 : Int32)), .val (.int (0 : Int32)), .val (.int (0 : Int32))] []))
  refine go (fun _ => XS.iloadN X180.here hx rfl (hb hby d3_45) rfl) ?_
  show Go _ p e below s _ _ _ (T180.setTop (mkF m 46 #[.val (.ref a1), .val (.int (61 : Int32)), .val (.int (0 : Int32)), .val (.int (0 : Int32))] [(.int (0 : Int32))]))
  refine go (fun _ => XS.ifNo X180.here hx rfl (hb hby d3_46) rfl ((if0 _ _).trans (teq (rfl : (0 : Int32) = (0 : Int32))).2)) ?_
  show Go _ p e below s _ _ _ (T180.setTop (mkF m 49 #[.val (.ref a1), .val (.int (61 : Int32)), .val (.int (0 : Int32)), .val (.int (0 : Int32))] []))
  refine go (fun _ => XS.iloadN X180.here hx rfl (hb hby d3_49) rfl) ?_
  show Go _ p e below s _ _ _ (T180.setTop (mkF m 50 #[.val (.ref a1), .val (.int (61 : Int32)), .val (.int (0 : Int32)), .val (.int (0 : Int32))] [(.int (0 : Int32))]))
  refine go (fun _ => XS.ifYes X180.here hx rfl (pc0 := 50) (pc' := 57) rfl (hb hby d3_50) rfl ((if0 _ _).trans (teq (rfl : (0 : Int32) = (0 : Int32))).1) (by decide) (by decide)) ?_
  show Go _ p e below s _ _ _ (T180.setTop (mkF m 57 #[.val (.ref a1), .val (.int (61 : Int32)), .val (.int (0 : Int32)), .val (.int (0 : Int32))] []))
  refine go (fun _ => XS.iconst X180.here hx rfl (hb hby d3_57)) ?_
  show Go _ p e below s _ _ _ (T180.setTop (mkF m 58 #[.val (.ref a1), .val (.int (61 : Int32)), .val (.int (0 : Int32)), .val (.int (0 : Int32))] [(.int (0 : Int32))]))
  refine goRet X180 hx Bd.notSynchronized Bd.returns rfl (Or.inl ⟨rfl, Or.inr (Or.inl rfl), _, rfl⟩) (hb hby d3_58) (by decide) (by decide) (by rw [e180]; refine ⟨rfl, N180, rfl⟩)
theorem pn_3LESS62 : plainName "com/example/reticule/reticule/engine/ComparisonHoldsPinLaw" = true := by first | (simp [plainName, overriddenIn]; done) | decide +kernel
theorem ef_3LESS62 (m : MethodId) (a1 : Addr) : entryFrame m #[(.ref a1), (.int (62 : Int32))] 4 = mkF m 0 #[.val (.ref a1), .val (.int (62 : Int32)), .unset, .unset] [] := by first | (simp [entryFrame, mkF, argsToLocals, Value.category]; done) | rfl
def Q3LESS62 (Z : State) (a1 : Addr) (w0 : Int32) (f0 : Value) (v1 : Addr) (k1 : ClassId) (d1 : Value) (h0 : Heap) (n0 : Nat) (v : Option Value) (h : Heap) (L : List Loc) : Prop := v = some (.int (0 : Int32)) ∧ Fr n0 L ∧ (h = h0)
set_option maxRecDepth 65536 in
set_option maxHeartbeats 40000000 in
theorem rm3LESS62 (l : Launch) (Z : State) (a0 : Array Value) (hw : ∀ d ∈ tables_1, d.before a0 Z = true) (ws : List Jvm.Cond) (a1 : Addr) (w0 : Int32) (f0 : Value) (v1 : Addr) (k1 : ClassId) (d1 : Value) (h0 : Heap) (n0 : Nat) (Z0 : n0 ≤ h0.size) (P0 : Sta Z h0 "java/lang/String" "COMPACT_STRINGS" "Z" (.int w0)) (P1 : Sta Z h0 "jdk/internal/util/Preconditions" "SIOOBE_FORMATTER" "Ljava/util/function/BiFunction;" f0) (P2 : Exa Z h0 a1 "java/lang/String") (P3 : Fld Z h0 a1 "java/lang/String" "coder" "B" (.int (0 : Int32))) (P4 : Fld Z h0 a1 "java/lang/String" "value" "[B" (.ref v1)) (P5 : Arv Z h0 v1 k1 .byte (1 : Int32) [(.int (60 : Int32))] d1) (hw0 : ¬ w0 = 0) (hf : f0.isRef = true) :
    MetFree l (⟨"com/example/reticule/reticule/engine/ComparisonHoldsPinLaw", "has", "(Ljava/lang/String;C)Z"⟩ : MethodName) (head1 (Jvm.Cond.code (⟨"com/example/reticule/reticule/engine/ComparisonHoldsPinLaw", "has", "(Ljava/lang/String;C)Z"⟩ : MethodName) method_3_code 4 (some .boolean) :: ws) ({ frames := 4, cells := 0, slots := 0, locals := 53 } : Room)) (fun a U => a = #[(.ref a1), (.int (62 : Int32))] ∧ Z.Warmed39 U.vm ∧ U.heap = h0) (fun _ _ _ _ _ => True) (fun _ U o U' => ∃ v L, o = .returned v ∧ Q3LESS62 Z a1 w0 f0 v1 k1 d1 h0 n0 v U'.heap L ∧ FrameEnd U o U' L ({ frames := 4, cells := 0, slots := 0, locals := 53 } : Room).cells ({ frames := 4, cells := 0, slots := 0, locals := 53 } : Room).slots) := by
  refine MetFree.of_bodySF (plainFor_of_name pn_3LESS62) hisR ?_
  intro p e s m args below meth c s₁ Bd hml0 hP hK
  obtain ⟨rfl, hZ, hh⟩ := hP
  have hx := Bd.exec
  have hby := Bd.bytes
  have hml : c.maxLocals = 4 := hml0
  have hown : s.vm.findClass "com/example/reticule/reticule/engine/ComparisonHoldsPinLaw" = some m.cls := findClass_of_methodNamed Bd.named
  have hnm := (name_of_methodNamed Bd.named Bd.method).1
  have X0 : Stand p l e ({ frames := 4, cells := 0, slots := 0, locals := 53 } : Room) s m #[(.ref a1), (.int (62 : Int32))] below meth c s₁ [] 0 0 := Stand.of_body Bd
  have e0 : s₁.heap = h0 := by rw [← hh, Bd.state]; rfl
  have N0 := Fr.nil n0
  have hS0 : s.Since s.vm 0 := (State.WarmedH.refl s).since 0
  show Go FrameEnd p e below s ({ frames := 4, cells := 0, slots := 0, locals := 53 } : Room).cells ({ frames := 4, cells := 0, slots := 0, locals := 53 } : Room).slots (Q3LESS62 Z a1 w0 f0 v1 k1 d1 h0 n0) (s₁.setTop (entryFrame m #[(.ref a1), (.int (62 : Int32))] 4))
  refine go (fun _ k => castTop (ef_3LESS62 m a1) k) ?_
  show Go _ p e below s _ _ _ (s₁.setTop (mkF m 0 #[.val (.ref a1), .val (.int (62 : Int32)), .unset, .unset] []))
  refine go (fun _ => XS.aloadN X0.here hx rfl (hb hby d3_0) rfl rfl) ?_
  show Go _ p e below s _ _ _ (s₁.setTop (mkF m 1 #[.val (.ref a1), .val (.int (62 : Int32)), .unset, .unset] [(.ref a1)]))
  obtain ⟨cq184, kq184, q184a, q184b, q184c⟩ := isOf hZ e0 P2
  obtain ⟨_, _, ⟨T184, L184, k184, n184⟩, -, X184, ⟨Lc184, hQ184, l184, y184, z184⟩, st184⟩ := X0.virtualBack hx (y := (⟨"java/lang/String", "length", "()I"⟩ : MethodName)) (z := (⟨"java/lang/String", "length", "()I"⟩ : MethodName)) hown (mvT hZ (hw _ (List.mem_of_getElem? (i := 18) rfl))) (mvT hZ (hw _ (List.mem_of_getElem? (i := 19) rfl))) (notFace_of_selects (args := #[]) (mvT hZ (hw _ (List.mem_of_getElem? (i := 21) rfl)))) (mvT hZ (hw _ (List.mem_of_getElem? (i := 21) rfl))) (mvT hZ (hw _ (List.mem_of_getElem? (i := 20) rfl))) (by decide) (backOf (W := 0) (rm4 l Z a0 hw [] a1 w0 v1 k1 (1 : Int32) [(.int (60 : Int32))] d1 h0 n0 Z0 P0 P2 P3 P4 P5 hw0) hZ (hw _ (List.mem_of_getElem? (i := 23) rfl)) (hw _ (List.mem_of_getElem? (i := 22) rfl)) (by decide) (by decide)) q184a q184c (g := (mkF m 1 #[.val (.ref a1), .val (.int (62 : Int32)), .unset, .unset] [(.ref a1)])) rfl (by rw [hml]; rfl) (Steps.refl _) (argsL := []) (rest := []) (lenOf pd_3_0 rfl) rfl (by show 2 * 0 + _ ≤ _; exact Nat.le_of_eq rfl) (hb hby d3_1) (fun _ _ => ⟨rfl, e0, (by decide : 0 + 0 ≤ _), (by decide : 0 + 0 ≤ _)⟩)
  dsimp only [Pt.U, Pt.locs, Pt.cells, Pt.slots] at X184 l184 y184 z184 st184 hQ184
  subst l184 y184 z184
  obtain ⟨rfl, N184q, e184⟩ := hQ184
  have N184 := Fr.app N0 N184q
  refine goT st184 ?_
  show Go _ p e below s _ _ _ (T184.setTop (mkF m 4 #[.val (.ref a1), .val (.int (62 : Int32)), .unset, .unset] [(.int (1 : Int32))]))
  refine go (fun _ => XS.ifNo X184.here hx rfl (hb hby d3_4) rfl ((if0 _ _).trans (tlt (by decide : ((0 : Int32) < (1 : Int32)))).2.2.2)) ?_
  show Go _ p e below s _ _ _ (T184.setTop (mkF m 7 #[.val (.ref a1), .val (.int (62 : Int32)), .unset, .unset] []))
  refine go (fun _ => XS.aloadN X184.here hx rfl (hb hby d3_7) rfl rfl) ?_
  show Go _ p e below s _ _ _ (T184.setTop (mkF m 8 #[.val (.ref a1), .val (.int (62 : Int32)), .unset, .unset] [(.ref a1)]))
  refine go (fun _ => XS.iconst X184.here hx rfl (hb hby d3_8)) ?_
  show Go _ p e below s _ _ _ (T184.setTop (mkF m 9 #[.val (.ref a1), .val (.int (62 : Int32)), .unset, .unset] [(.int (0 : Int32)), (.ref a1)]))
  obtain ⟨cq185, kq185, q185a, q185b, q185c⟩ := isOf hZ e184 P2
  obtain ⟨_, _, ⟨T185, L185, k185, n185⟩, -, X185, ⟨Lc185, hQ185, l185, y185, z185⟩, st185⟩ := X184.virtualBack hx (y := (⟨"java/lang/String", "charAt", "(I)C"⟩ : MethodName)) (z := (⟨"java/lang/String", "charAt", "(I)C"⟩ : MethodName)) hown (mvT hZ (hw _ (List.mem_of_getElem? (i := 34) rfl))) (mvT hZ (hw _ (List.mem_of_getElem? (i := 35) rfl))) (notFace_of_selects (args := #[]) (mvT hZ (hw _ (List.mem_of_getElem? (i := 37) rfl)))) (mvT hZ (hw _ (List.mem_of_getElem? (i := 37) rfl))) (mvT hZ (hw _ (List.mem_of_getElem? (i := 36) rfl))) (by decide) (backOf (W := 0) (rm6LESS0 l Z a0 hw [] a1 w0 f0 v1 k1 d1 h0 n0 Z0 P0 P1 P2 P3 P4 P5 hw0 hf) hZ (hw _ (List.mem_of_getElem? (i := 38) rfl)) (hw _ (List.mem_of_getElem? (i := 22) rfl)) (by decide) (by decide)) q185a q185c (g := (mkF m 9 #[.val (.ref a1), .val (.int (62 : Int32)), .unset, .unset] [(.int (0 : Int32)), (.ref a1)])) rfl (by rw [hml]; rfl) (Steps.refl _) (argsL := [(.int (0 : Int32))]) (rest := []) (lenOf pd_3_1 rfl) rfl (by show 2 * 0 + _ ≤ _; exact Nat.le_of_eq rfl) (hb hby d3_9) (fun _ _ => ⟨rfl, e184, (by decide : 0 + 0 ≤ _), (by decide : 0 + 0 ≤ _)⟩)
  dsimp only [Pt.U, Pt.locs, Pt.cells, Pt.slots] at X185 l185 y185 z185 st185 hQ185
  subst l185 y185 z185
  obtain ⟨rfl, N185q, e185⟩ := hQ185
  have N185 := Fr.app N184 N185q
  refine goT st185 ?_
  show Go _ p e below s _ _ _ (T185.setTop (mkF m 12 #[.val (.ref a1), .val (.int (62 : Int32)), .unset, .unset] [(.int (60 : Int32))]))
  refine go (fun _ => XS.iloadN X185.here hx rfl (hb hby d3_12) rfl) ?_
  show Go _ p e below s _ _ _ (T185.setTop (mkF m 13 #[.val (.ref a1), .val (.int (62 : Int32)), .unset, .unset] [(.int (62 : Int32)), (.int (60 : Int32))]))
  refine go (fun _ => XS.icmpYes X185.here hx rfl (pc0 := 13) (pc' := 20) rfl (hb hby d3_13) rfl (feq (by decide : ¬ ((60 : Int32) = (62 : Int32)))).2 (by decide) (by decide)) ?_
  show Go _ p e below s _ _ _ (T185.setTop (mkF m 20 #[.val (.ref a1), .val (.int (62 : Int32)), .unset, .unset] []))
  refine go (fun _ => XS.iconst X185.here hx rfl (hb hby d3_20)) ?_
  show Go _ p e below s _ _ _ (T185.setTop (mkF m 21 #[.val (.ref a1), .val (.int (62 : Int32)), .unset, .unset] [(.int (0 : Int32))]))
  refine go (fun _ => XS.istoreN X185.here hx rfl (hb hby d3_21) rfl (l' := #[.val (.ref a1), .val (.int (62 : Int32)), .val (.int (0 : Int32)), .unset]) rfl) ?_
  show Go _ p e below s _ _ _ (T185.setTop (mkF m 22 #[.val (.ref a1), .val (.int (62 : Int32)), .val (.int (0 : Int32)), .unset] []))
  refine go (fun _ => XS.aloadN X185.here hx rfl (hb hby d3_22) rfl rfl) ?_
  show Go _ p e below s _ _ _ (T185.setTop (mkF m 23 #[.val (.ref a1), .val (.int (62 : Int32)), .val (.int (0 : Int32)), .unset] [(.ref a1)]))
  obtain ⟨cq186, kq186, q186a, q186b, q186c⟩ := isOf hZ e185 P2
  obtain ⟨_, _, ⟨T186, L186, k186, n186⟩, -, X186, ⟨Lc186, hQ186, l186, y186, z186⟩, st186⟩ := X185.virtualBack hx (y := (⟨"java/lang/String", "length", "()I"⟩ : MethodName)) (z := (⟨"java/lang/String", "length", "()I"⟩ : MethodName)) hown (mvT hZ (hw _ (List.mem_of_getElem? (i := 18) rfl))) (mvT hZ (hw _ (List.mem_of_getElem? (i := 19) rfl))) (notFace_of_selects (args := #[]) (mvT hZ (hw _ (List.mem_of_getElem? (i := 21) rfl)))) (mvT hZ (hw _ (List.mem_of_getElem? (i := 21) rfl))) (mvT hZ (hw _ (List.mem_of_getElem? (i := 20) rfl))) (by decide) (backOf (W := 0) (rm4 l Z a0 hw [] a1 w0 v1 k1 (1 : Int32) [(.int (60 : Int32))] d1 h0 n0 Z0 P0 P2 P3 P4 P5 hw0) hZ (hw _ (List.mem_of_getElem? (i := 23) rfl)) (hw _ (List.mem_of_getElem? (i := 22) rfl)) (by decide) (by decide)) q186a q186c (g := (mkF m 23 #[.val (.ref a1), .val (.int (62 : Int32)), .val (.int (0 : Int32)), .unset] [(.ref a1)])) rfl (by rw [hml]; rfl) (Steps.refl _) (argsL := []) (rest := []) (lenOf pd_3_0 rfl) rfl (by show 2 * 0 + _ ≤ _; exact Nat.le_of_eq rfl) (hb hby d3_23) (fun _ _ => ⟨rfl, e185, (by decide : 0 + 0 ≤ _), (by decide : 0 + 0 ≤ _)⟩)
  dsimp only [Pt.U, Pt.locs, Pt.cells, Pt.slots] at X186 l186 y186 z186 st186 hQ186
  subst l186 y186 z186
  obtain ⟨rfl, N186q, e186⟩ := hQ186
  have N186 := Fr.app N185 N186q
  refine goT st186 ?_
  show Go _ p e below s _ _ _ (T186.setTop (mkF m 26 #[.val (.ref a1), .val (.int (62 : Int32)), .val (.int (0 : Int32)), .unset] [(.int (1 : Int32))]))
  refine go (fun _ => XS.iconst X186.here hx rfl (hb hby d3_26)) ?_
  show Go _ p e below s _ _ _ (T186.setTop (mkF m 27 #[.val (.ref a1), .val (.int (62 : Int32)), .val (.int (0 : Int32)), .unset] [(.int (1 : Int32)), (.int (1 : Int32))]))
  refine go (fun _ => XS.icmpYes X186.here hx rfl (pc0 := 27) (pc' := 43) rfl (hb hby d3_27) rfl (flt (by decide : ¬ ((1 : Int32) < (1 : Int32)))).2.2.2 (by decide) (by decide)) ?_
  show Go _ p e below s _ _ _ (T186.setTop (mkF m 43 #[.val (.ref a1), .val (.int (62 : Int32)), .val (.int (0 : Int32)), .unset] []))
  refine go (fun _ => XS.iconst X186.here hx rfl (hb hby d3_43)) ?_
  show Go _ p e below s _ _ _ (T186.setTop (mkF m 44 #[.val (.ref a1), .val (.int (62 : Int32)), .val (.int (0 : Int32)), .unset] [(.int (0 : Int32))]))
  refine go (fun _ => XS.istoreN X186.here hx rfl (hb hby d3_44) rfl (l' := #[.val (.ref a1), .val (.int (62 : Int32)), .val (.int (0 : Int32)), .val (.int (0 : Int32))]) rfl) ?_
  show Go _ p e below s _ _ _ (T186.setTop (mkF m 45 #[.val (.ref a1), .val (.int (62 : Int32)), .val (.int (0 : Int32)), .val (.int (0 : Int32))] []))
  refine go (fun _ => XS.iloadN X186.here hx rfl (hb hby d3_45) rfl) ?_
  show Go _ p e below s _ _ _ (T186.setTop (mkF m 46 #[.val (.ref a1), .val (.int (62 : Int32)), .val (.int (0 : Int32)), .val (.int (0 : Int32))] [(.int (0 : Int32))]))
  refine go (fun _ => XS.ifNo X186.here hx rfl (hb hby d3_46) rfl ((if0 _ _).trans (teq (rfl : (0 : Int32) = (0 : Int32))).2)) ?_
  show Go _ p e below s _ _ _ (T186.setTop (mkF m 49 #[.val (.ref a1), .val (.int (62 : Int32)), .val (.int (0 : Int32)), .val (.int (0 : Int32))] []))
  refine go (fun _ => XS.iloadN X186.here hx rfl (hb hby d3_49) rfl) ?_
  show Go _ p e below s _ _ _ (T186.setTop (mkF m 50 #[.val (.ref a1), .val (.int (62 : Int32)), .val (.int (0 : Int32)), .val (.int (0 : Int32))] [(.int (0 : Int32))]))
  refine go (fun _ => XS.ifYes X186.here hx rfl (pc0 := 50) (pc' := 57) rfl (hb hby d3_50) rfl ((if0 _ _).trans (teq (rfl : (0 : Int32) = (0 : Int32))).1) (by decide) (by decide)) ?_
  show Go _ p e below s _ _ _ (T186.setTop (mkF m 57 #[.val (.ref a1), .val (.int (62 : Int32)), .val (.int (0 : Int32)), .val (.int (0 : Int32))] []))
  refine go (fun _ => XS.iconst X186.here hx rfl (hb hby d3_57)) ?_
  show Go _ p e below s _ _ _ (T186.setTop (mkF m 58 #[.val (.ref a1), .val (.int (62 : Int32)), .val (.int (0 : Int32)), .val (.int (0 : Int32))] [(.int (0 : Int32))]))
  refine goRet X186 hx Bd.notSynchronized Bd.returns rfl (Or.inl ⟨rfl, Or.inr (Or.inl rfl), _, rfl⟩) (hb hby d3_58) (by decide) (by decide) (by rw [e186]; refine ⟨rfl, N186, rfl⟩)
theorem pn_3AT_MOST60 : plainName "com/example/reticule/reticule/engine/ComparisonHoldsPinLaw" = true := by first | (simp [plainName, overriddenIn]; done) | decide +kernel
theorem ef_3AT_MOST60 (m : MethodId) (a1 : Addr) : entryFrame m #[(.ref a1), (.int (60 : Int32))] 4 = mkF m 0 #[.val (.ref a1), .val (.int (60 : Int32)), .unset, .unset] [] := by first | (simp [entryFrame, mkF, argsToLocals, Value.category]; done) | rfl
def Q3AT_MOST60 (Z : State) (a1 : Addr) (w0 : Int32) (f0 : Value) (v1 : Addr) (k1 : ClassId) (d1 : Value) (h0 : Heap) (n0 : Nat) (v : Option Value) (h : Heap) (L : List Loc) : Prop := v = some (.int (1 : Int32)) ∧ Fr n0 L ∧ (h = h0)
set_option maxRecDepth 65536 in
set_option maxHeartbeats 40000000 in
theorem rm3AT_MOST60 (l : Launch) (Z : State) (a0 : Array Value) (hw : ∀ d ∈ tables_1, d.before a0 Z = true) (ws : List Jvm.Cond) (a1 : Addr) (w0 : Int32) (f0 : Value) (v1 : Addr) (k1 : ClassId) (d1 : Value) (h0 : Heap) (n0 : Nat) (Z0 : n0 ≤ h0.size) (P0 : Sta Z h0 "java/lang/String" "COMPACT_STRINGS" "Z" (.int w0)) (P1 : Sta Z h0 "jdk/internal/util/Preconditions" "SIOOBE_FORMATTER" "Ljava/util/function/BiFunction;" f0) (P2 : Exa Z h0 a1 "java/lang/String") (P3 : Fld Z h0 a1 "java/lang/String" "coder" "B" (.int (0 : Int32))) (P4 : Fld Z h0 a1 "java/lang/String" "value" "[B" (.ref v1)) (P5 : Arv Z h0 v1 k1 .byte (2 : Int32) [(.int (60 : Int32)), (.int (61 : Int32))] d1) (hw0 : ¬ w0 = 0) (hf : f0.isRef = true) :
    MetFree l (⟨"com/example/reticule/reticule/engine/ComparisonHoldsPinLaw", "has", "(Ljava/lang/String;C)Z"⟩ : MethodName) (head1 (Jvm.Cond.code (⟨"com/example/reticule/reticule/engine/ComparisonHoldsPinLaw", "has", "(Ljava/lang/String;C)Z"⟩ : MethodName) method_3_code 4 (some .boolean) :: ws) ({ frames := 4, cells := 0, slots := 0, locals := 53 } : Room)) (fun a U => a = #[(.ref a1), (.int (60 : Int32))] ∧ Z.Warmed39 U.vm ∧ U.heap = h0) (fun _ _ _ _ _ => True) (fun _ U o U' => ∃ v L, o = .returned v ∧ Q3AT_MOST60 Z a1 w0 f0 v1 k1 d1 h0 n0 v U'.heap L ∧ FrameEnd U o U' L ({ frames := 4, cells := 0, slots := 0, locals := 53 } : Room).cells ({ frames := 4, cells := 0, slots := 0, locals := 53 } : Room).slots) := by
  refine MetFree.of_bodySF (plainFor_of_name pn_3AT_MOST60) hisR ?_
  intro p e s m args below meth c s₁ Bd hml0 hP hK
  obtain ⟨rfl, hZ, hh⟩ := hP
  have hx := Bd.exec
  have hby := Bd.bytes
  have hml : c.maxLocals = 4 := hml0
  have hown : s.vm.findClass "com/example/reticule/reticule/engine/ComparisonHoldsPinLaw" = some m.cls := findClass_of_methodNamed Bd.named
  have hnm := (name_of_methodNamed Bd.named Bd.method).1
  have X0 : Stand p l e ({ frames := 4, cells := 0, slots := 0, locals := 53 } : Room) s m #[(.ref a1), (.int (60 : Int32))] below meth c s₁ [] 0 0 := Stand.of_body Bd
  have e0 : s₁.heap = h0 := by rw [← hh, Bd.state]; rfl
  have N0 := Fr.nil n0
  have hS0 : s.Since s.vm 0 := (State.WarmedH.refl s).since 0
  show Go FrameEnd p e below s ({ frames := 4, cells := 0, slots := 0, locals := 53 } : Room).cells ({ frames := 4, cells := 0, slots := 0, locals := 53 } : Room).slots (Q3AT_MOST60 Z a1 w0 f0 v1 k1 d1 h0 n0) (s₁.setTop (entryFrame m #[(.ref a1), (.int (60 : Int32))] 4))
  refine go (fun _ k => castTop (ef_3AT_MOST60 m a1) k) ?_
  show Go _ p e below s _ _ _ (s₁.setTop (mkF m 0 #[.val (.ref a1), .val (.int (60 : Int32)), .unset, .unset] []))
  refine go (fun _ => XS.aloadN X0.here hx rfl (hb hby d3_0) rfl rfl) ?_
  show Go _ p e below s _ _ _ (s₁.setTop (mkF m 1 #[.val (.ref a1), .val (.int (60 : Int32)), .unset, .unset] [(.ref a1)]))
  obtain ⟨cq191, kq191, q191a, q191b, q191c⟩ := isOf hZ e0 P2
  obtain ⟨_, _, ⟨T191, L191, k191, n191⟩, -, X191, ⟨Lc191, hQ191, l191, y191, z191⟩, st191⟩ := X0.virtualBack hx (y := (⟨"java/lang/String", "length", "()I"⟩ : MethodName)) (z := (⟨"java/lang/String", "length", "()I"⟩ : MethodName)) hown (mvT hZ (hw _ (List.mem_of_getElem? (i := 18) rfl))) (mvT hZ (hw _ (List.mem_of_getElem? (i := 19) rfl))) (notFace_of_selects (args := #[]) (mvT hZ (hw _ (List.mem_of_getElem? (i := 21) rfl)))) (mvT hZ (hw _ (List.mem_of_getElem? (i := 21) rfl))) (mvT hZ (hw _ (List.mem_of_getElem? (i := 20) rfl))) (by decide) (backOf (W := 0) (rm4 l Z a0 hw [] a1 w0 v1 k1 (2 : Int32) [(.int (60 : Int32)), (.int (61 : Int32))] d1 h0 n0 Z0 P0 P2 P3 P4 P5 hw0) hZ (hw _ (List.mem_of_getElem? (i := 23) rfl)) (hw _ (List.mem_of_getElem? (i := 22) rfl)) (by decide) (by decide)) q191a q191c (g := (mkF m 1 #[.val (.ref a1), .val (.int (60 : Int32)), .unset, .unset] [(.ref a1)])) rfl (by rw [hml]; rfl) (Steps.refl _) (argsL := []) (rest := []) (lenOf pd_3_0 rfl) rfl (by show 2 * 0 + _ ≤ _; exact Nat.le_of_eq rfl) (hb hby d3_1) (fun _ _ => ⟨rfl, e0, (by decide : 0 + 0 ≤ _), (by decide : 0 + 0 ≤ _)⟩)
  dsimp only [Pt.U, Pt.locs, Pt.cells, Pt.slots] at X191 l191 y191 z191 st191 hQ191
  subst l191 y191 z191
  obtain ⟨rfl, N191q, e191⟩ := hQ191
  have N191 := Fr.app N0 N191q
  refine goT st191 ?_
  show Go _ p e below s _ _ _ (T191.setTop (mkF m 4 #[.val (.ref a1), .val (.int (60 : Int32)), .unset, .unset] [(.int (2 : Int32))]))
  refine go (fun _ => XS.ifNo X191.here hx rfl (hb hby d3_4) rfl ((if0 _ _).trans (tlt (by decide : ((0 : Int32) < (2 : Int32)))).2.2.2)) ?_
  show Go _ p e below s _ _ _ (T191.setTop (mkF m 7 #[.val (.ref a1), .val (.int (60 : Int32)), .unset, .unset] []))
  refine go (fun _ => XS.aloadN X191.here hx rfl (hb hby d3_7) rfl rfl) ?_
  show Go _ p e below s _ _ _ (T191.setTop (mkF m 8 #[.val (.ref a1), .val (.int (60 : Int32)), .unset, .unset] [(.ref a1)]))
  refine go (fun _ => XS.iconst X191.here hx rfl (hb hby d3_8)) ?_
  show Go _ p e below s _ _ _ (T191.setTop (mkF m 9 #[.val (.ref a1), .val (.int (60 : Int32)), .unset, .unset] [(.int (0 : Int32)), (.ref a1)]))
  obtain ⟨cq192, kq192, q192a, q192b, q192c⟩ := isOf hZ e191 P2
  obtain ⟨_, _, ⟨T192, L192, k192, n192⟩, -, X192, ⟨Lc192, hQ192, l192, y192, z192⟩, st192⟩ := X191.virtualBack hx (y := (⟨"java/lang/String", "charAt", "(I)C"⟩ : MethodName)) (z := (⟨"java/lang/String", "charAt", "(I)C"⟩ : MethodName)) hown (mvT hZ (hw _ (List.mem_of_getElem? (i := 34) rfl))) (mvT hZ (hw _ (List.mem_of_getElem? (i := 35) rfl))) (notFace_of_selects (args := #[]) (mvT hZ (hw _ (List.mem_of_getElem? (i := 37) rfl)))) (mvT hZ (hw _ (List.mem_of_getElem? (i := 37) rfl))) (mvT hZ (hw _ (List.mem_of_getElem? (i := 36) rfl))) (by decide) (backOf (W := 0) (rm6AT_MOST0 l Z a0 hw [] a1 w0 f0 v1 k1 d1 h0 n0 Z0 P0 P1 P2 P3 P4 P5 hw0 hf) hZ (hw _ (List.mem_of_getElem? (i := 38) rfl)) (hw _ (List.mem_of_getElem? (i := 22) rfl)) (by decide) (by decide)) q192a q192c (g := (mkF m 9 #[.val (.ref a1), .val (.int (60 : Int32)), .unset, .unset] [(.int (0 : Int32)), (.ref a1)])) rfl (by rw [hml]; rfl) (Steps.refl _) (argsL := [(.int (0 : Int32))]) (rest := []) (lenOf pd_3_1 rfl) rfl (by show 2 * 0 + _ ≤ _; exact Nat.le_of_eq rfl) (hb hby d3_9) (fun _ _ => ⟨rfl, e191, (by decide : 0 + 0 ≤ _), (by decide : 0 + 0 ≤ _)⟩)
  dsimp only [Pt.U, Pt.locs, Pt.cells, Pt.slots] at X192 l192 y192 z192 st192 hQ192
  subst l192 y192 z192
  obtain ⟨rfl, N192q, e192⟩ := hQ192
  have N192 := Fr.app N191 N192q
  refine goT st192 ?_
  show Go _ p e below s _ _ _ (T192.setTop (mkF m 12 #[.val (.ref a1), .val (.int (60 : Int32)), .unset, .unset] [(.int (60 : Int32))]))
  refine go (fun _ => XS.iloadN X192.here hx rfl (hb hby d3_12) rfl) ?_
  show Go _ p e below s _ _ _ (T192.setTop (mkF m 13 #[.val (.ref a1), .val (.int (60 : Int32)), .unset, .unset] [(.int (60 : Int32)), (.int (60 : Int32))]))
  refine go (fun _ => XS.icmpNo X192.here hx rfl (hb hby d3_13) rfl (teq (rfl : (60 : Int32) = (60 : Int32))).2) ?_
  show Go _ p e below s _ _ _ (T192.setTop (mkF m 16 #[.val (.ref a1), .val (.int (60 : Int32)), .unset, .unset] []))
  refine go (fun _ => XS.iconst X192.here hx rfl (hb hby d3_16)) ?_
  show Go _ p e below s _ _ _ (T192.setTop (mkF m 17 #[.val (.ref a1), .val (.int (60 : Int32)), .unset, .unset] [(.int (1 : Int32))]))
  refine go (fun _ => XS.goto X192.here hx rfl (pc0 := 17) (pc' := 21) rfl (hb hby d3_17) (by decide) (by decide)) ?_
  show Go _ p e below s _ _ _ (T192.setTop (mkF m 21 #[.val (.ref a1), .val (.int (60 : Int32)), .unset, .unset] [(.int (1 : Int32))]))
  refine go (fun _ => XS.istoreN X192.here hx rfl (hb hby d3_21) rfl (l' := #[.val (.ref a1), .val (.int (60 : Int32)), .val (.int (1 : Int32)), .unset]) rfl) ?_
  show Go _ p e below s _ _ _ (T192.setTop (mkF m 22 #[.val (.ref a1), .val (.int (60 : Int32)), .val (.int (1 : Int32)), .unset] []))
  refine go (fun _ => XS.aloadN X192.here hx rfl (hb hby d3_22) rfl rfl) ?_
  show Go _ p e below s _ _ _ (T192.setTop (mkF m 23 #[.val (.ref a1), .val (.int (60 : Int32)), .val (.int (1 : Int32)), .unset] [(.ref a1)]))
  obtain ⟨cq193, kq193, q193a, q193b, q193c⟩ := isOf hZ e192 P2
  obtain ⟨_, _, ⟨T193, L193, k193, n193⟩, -, X193, ⟨Lc193, hQ193, l193, y193, z193⟩, st193⟩ := X192.virtualBack hx (y := (⟨"java/lang/String", "length", "()I"⟩ : MethodName)) (z := (⟨"java/lang/String", "length", "()I"⟩ : MethodName)) hown (mvT hZ (hw _ (List.mem_of_getElem? (i := 18) rfl))) (mvT hZ (hw _ (List.mem_of_getElem? (i := 19) rfl))) (notFace_of_selects (args := #[]) (mvT hZ (hw _ (List.mem_of_getElem? (i := 21) rfl)))) (mvT hZ (hw _ (List.mem_of_getElem? (i := 21) rfl))) (mvT hZ (hw _ (List.mem_of_getElem? (i := 20) rfl))) (by decide) (backOf (W := 0) (rm4 l Z a0 hw [] a1 w0 v1 k1 (2 : Int32) [(.int (60 : Int32)), (.int (61 : Int32))] d1 h0 n0 Z0 P0 P2 P3 P4 P5 hw0) hZ (hw _ (List.mem_of_getElem? (i := 23) rfl)) (hw _ (List.mem_of_getElem? (i := 22) rfl)) (by decide) (by decide)) q193a q193c (g := (mkF m 23 #[.val (.ref a1), .val (.int (60 : Int32)), .val (.int (1 : Int32)), .unset] [(.ref a1)])) rfl (by rw [hml]; rfl) (Steps.refl _) (argsL := []) (rest := []) (lenOf pd_3_0 rfl) rfl (by show 2 * 0 + _ ≤ _; exact Nat.le_of_eq rfl) (hb hby d3_23) (fun _ _ => ⟨rfl, e192, (by decide : 0 + 0 ≤ _), (by decide : 0 + 0 ≤ _)⟩)
  dsimp only [Pt.U, Pt.locs, Pt.cells, Pt.slots] at X193 l193 y193 z193 st193 hQ193
  subst l193 y193 z193
  obtain ⟨rfl, N193q, e193⟩ := hQ193
  have N193 := Fr.app N192 N193q
  refine goT st193 ?_
  show Go _ p e below s _ _ _ (T193.setTop (mkF m 26 #[.val (.ref a1), .val (.int (60 : Int32)), .val (.int (1 : Int32)), .unset] [(.int (2 : Int32))]))
  refine go (fun _ => XS.iconst X193.here hx rfl (hb hby d3_26)) ?_
  show Go _ p e below s _ _ _ (T193.setTop (mkF m 27 #[.val (.ref a1), .val (.int (60 : Int32)), .val (.int (1 : Int32)), .unset] [(.int (1 : Int32)), (.int (2 : Int32))]))
  refine go (fun _ => XS.icmpNo X193.here hx rfl (hb hby d3_27) rfl (tlt (by decide : ((1 : Int32) < (2 : Int32)))).2.2.2) ?_
  show Go _ p e below s _ _ _ (T193.setTop (mkF m 30 #[.val (.ref a1), .val (.int (60 : Int32)), .val (.int (1 : Int32)), .unset] []))
  refine go (fun _ => XS.aloadN X193.here hx rfl (hb hby d3_30) rfl rfl) ?_
  show Go _ p e below s _ _ _ (T193.setTop (mkF m 31 #[.val (.ref a1), .val (.int (60 : Int32)), .val (.int (1 : Int32)), .unset] [(.ref a1)]))
  refine go (fun _ => XS.iconst X193.here hx rfl (hb hby d3_31)) ?_
  show Go _ p e below s _ _ _ (T193.setTop (mkF m 32 #[.val (.ref a1), .val (.int (60 : Int32)), .val (.int (1 : Int32)), .unset] [(.int (1 : Int32)), (.ref a1)]))
  obtain ⟨cq194, kq194, q194a, q194b, q194c⟩ := isOf hZ e193 P2
  obtain ⟨_, _, ⟨T194, L194, k194, n194⟩, -, X194, ⟨Lc194, hQ194, l194, y194, z194⟩, st194⟩ := X193.virtualBack hx (y := (⟨"java/lang/String", "charAt", "(I)C"⟩ : MethodName)) (z := (⟨"java/lang/String", "charAt", "(I)C"⟩ : MethodName)) hown (mvT hZ (hw _ (List.mem_of_getElem? (i := 34) rfl))) (mvT hZ (hw _ (List.mem_of_getElem? (i := 35) rfl))) (notFace_of_selects (args := #[]) (mvT hZ (hw _ (List.mem_of_getElem? (i := 37) rfl)))) (mvT hZ (hw _ (List.mem_of_getElem? (i := 37) rfl))) (mvT hZ (hw _ (List.mem_of_getElem? (i := 36) rfl))) (by decide) (backOf (W := 0) (rm6AT_MOST1 l Z a0 hw [] a1 w0 f0 v1 k1 d1 h0 n0 Z0 P0 P1 P2 P3 P4 P5 hw0 hf) hZ (hw _ (List.mem_of_getElem? (i := 38) rfl)) (hw _ (List.mem_of_getElem? (i := 22) rfl)) (by decide) (by decide)) q194a q194c (g := (mkF m 32 #[.val (.ref a1), .val (.int (60 : Int32)), .val (.int (1 : Int32)), .unset] [(.int (1 : Int32)), (.ref a1)])) rfl (by rw [hml]; rfl) (Steps.refl _) (argsL := [(.int (1 : Int32))]) (rest := []) (lenOf pd_3_1 rfl) rfl (by show 2 * 0 + _ ≤ _; exact Nat.le_of_eq rfl) (hb hby d3_32) (fun _ _ => ⟨rfl, e193, (by decide : 0 + 0 ≤ _), (by decide : 0 + 0 ≤ _)⟩)
  dsimp only [Pt.U, Pt.locs, Pt.cells, Pt.slots] at X194 l194 y194 z194 st194 hQ194
  subst l194 y194 z194
  obtain ⟨rfl, N194q, e194⟩ := hQ194
  have N194 := Fr.app N193 N194q
  refine goT st194 ?_
  show Go _ p e below s _ _ _ (T194.setTop (mkF m 35 #[.val (.ref a1), .val (.int (60 : Int32)), .val (.int (1 : Int32)), .unset] [(.int (61 : Int32))]))
  refine go (fun _ => XS.iloadN X194.here hx rfl (hb hby d3_35) rfl) ?_
  show Go _ p e below s _ _ _ (T194.setTop (mkF m 36 #[.val (.ref a1), .val (.int (60 : Int32)), .val (.int (1 : Int32)), .unset] [(.int (60 : Int32)), (.int (61 : Int32))]))
  refine go (fun _ => XS.icmpYes X194.here hx rfl (pc0 := 36) (pc' := 43) rfl (hb hby d3_36) rfl (feq (by decide : ¬ ((61 : Int32) = (60 : Int32)))).2 (by decide) (by decide)) ?_
  show Go _ p e below s _ _ _ (T194.setTop (mkF m 43 #[.val (.ref a1), .val (.int (60 : Int32)), .val (.int (1 : Int32)), .unset] []))
  refine go (fun _ => XS.iconst X194.here hx rfl (hb hby d3_43)) ?_
  show Go _ p e below s _ _ _ (T194.setTop (mkF m 44 #[.val (.ref a1), .val (.int (60 : Int32)), .val (.int (1 : Int32)), .unset] [(.int (0 : Int32))]))
  refine go (fun _ => XS.istoreN X194.here hx rfl (hb hby d3_44) rfl (l' := #[.val (.ref a1), .val (.int (60 : Int32)), .val (.int (1 : Int32)), .val (.int (0 : Int32))]) rfl) ?_
  show Go _ p e below s _ _ _ (T194.setTop (mkF m 45 #[.val (.ref a1), .val (.int (60 : Int32)), .val (.int (1 : Int32)), .val (.int (0 : Int32))] []))
  refine go (fun _ => XS.iloadN X194.here hx rfl (hb hby d3_45) rfl) ?_
  show Go _ p e below s _ _ _ (T194.setTop (mkF m 46 #[.val (.ref a1), .val (.int (60 : Int32)), .val (.int (1 : Int32)), .val (.int (0 : Int32))] [(.int (1 : Int32))]))
  refine go (fun _ => XS.ifYes X194.here hx rfl (pc0 := 46) (pc' := 53) rfl (hb hby d3_46) rfl ((if0 _ _).trans (feq (by decide : ¬ ((1 : Int32) = (0 : Int32)))).2) (by decide) (by decide)) ?_
  show Go _ p e below s _ _ _ (T194.setTop (mkF m 53 #[.val (.ref a1), .val (.int (60 : Int32)), .val (.int (1 : Int32)), .val (.int (0 : Int32))] []))
  refine go (fun _ => XS.iconst X194.here hx rfl (hb hby d3_53)) ?_
  show Go _ p e below s _ _ _ (T194.setTop (mkF m 54 #[.val (.ref a1), .val (.int (60 : Int32)), .val (.int (1 : Int32)), .val (.int (0 : Int32))] [(.int (1 : Int32))]))
  refine go (fun _ => XS.goto X194.here hx rfl (pc0 := 54) (pc' := 58) rfl (hb hby d3_54) (by decide) (by decide)) ?_
  show Go _ p e below s _ _ _ (T194.setTop (mkF m 58 #[.val (.ref a1), .val (.int (60 : Int32)), .val (.int (1 : Int32)), .val (.int (0 : Int32))] [(.int (1 : Int32))]))
  refine goRet X194 hx Bd.notSynchronized Bd.returns rfl (Or.inl ⟨rfl, Or.inr (Or.inl rfl), _, rfl⟩) (hb hby d3_58) (by decide) (by decide) (by rw [e194]; refine ⟨rfl, N194, rfl⟩)
theorem pn_3AT_MOST61 : plainName "com/example/reticule/reticule/engine/ComparisonHoldsPinLaw" = true := by first | (simp [plainName, overriddenIn]; done) | decide +kernel
theorem ef_3AT_MOST61 (m : MethodId) (a1 : Addr) : entryFrame m #[(.ref a1), (.int (61 : Int32))] 4 = mkF m 0 #[.val (.ref a1), .val (.int (61 : Int32)), .unset, .unset] [] := by first | (simp [entryFrame, mkF, argsToLocals, Value.category]; done) | rfl
def Q3AT_MOST61 (Z : State) (a1 : Addr) (w0 : Int32) (f0 : Value) (v1 : Addr) (k1 : ClassId) (d1 : Value) (h0 : Heap) (n0 : Nat) (v : Option Value) (h : Heap) (L : List Loc) : Prop := v = some (.int (1 : Int32)) ∧ Fr n0 L ∧ (h = h0)
set_option maxRecDepth 65536 in
set_option maxHeartbeats 40000000 in
theorem rm3AT_MOST61 (l : Launch) (Z : State) (a0 : Array Value) (hw : ∀ d ∈ tables_1, d.before a0 Z = true) (ws : List Jvm.Cond) (a1 : Addr) (w0 : Int32) (f0 : Value) (v1 : Addr) (k1 : ClassId) (d1 : Value) (h0 : Heap) (n0 : Nat) (Z0 : n0 ≤ h0.size) (P0 : Sta Z h0 "java/lang/String" "COMPACT_STRINGS" "Z" (.int w0)) (P1 : Sta Z h0 "jdk/internal/util/Preconditions" "SIOOBE_FORMATTER" "Ljava/util/function/BiFunction;" f0) (P2 : Exa Z h0 a1 "java/lang/String") (P3 : Fld Z h0 a1 "java/lang/String" "coder" "B" (.int (0 : Int32))) (P4 : Fld Z h0 a1 "java/lang/String" "value" "[B" (.ref v1)) (P5 : Arv Z h0 v1 k1 .byte (2 : Int32) [(.int (60 : Int32)), (.int (61 : Int32))] d1) (hw0 : ¬ w0 = 0) (hf : f0.isRef = true) :
    MetFree l (⟨"com/example/reticule/reticule/engine/ComparisonHoldsPinLaw", "has", "(Ljava/lang/String;C)Z"⟩ : MethodName) (head1 (Jvm.Cond.code (⟨"com/example/reticule/reticule/engine/ComparisonHoldsPinLaw", "has", "(Ljava/lang/String;C)Z"⟩ : MethodName) method_3_code 4 (some .boolean) :: ws) ({ frames := 4, cells := 0, slots := 0, locals := 53 } : Room)) (fun a U => a = #[(.ref a1), (.int (61 : Int32))] ∧ Z.Warmed39 U.vm ∧ U.heap = h0) (fun _ _ _ _ _ => True) (fun _ U o U' => ∃ v L, o = .returned v ∧ Q3AT_MOST61 Z a1 w0 f0 v1 k1 d1 h0 n0 v U'.heap L ∧ FrameEnd U o U' L ({ frames := 4, cells := 0, slots := 0, locals := 53 } : Room).cells ({ frames := 4, cells := 0, slots := 0, locals := 53 } : Room).slots) := by
  refine MetFree.of_bodySF (plainFor_of_name pn_3AT_MOST61) hisR ?_
  intro p e s m args below meth c s₁ Bd hml0 hP hK
  obtain ⟨rfl, hZ, hh⟩ := hP
  have hx := Bd.exec
  have hby := Bd.bytes
  have hml : c.maxLocals = 4 := hml0
  have hown : s.vm.findClass "com/example/reticule/reticule/engine/ComparisonHoldsPinLaw" = some m.cls := findClass_of_methodNamed Bd.named
  have hnm := (name_of_methodNamed Bd.named Bd.method).1
  have X0 : Stand p l e ({ frames := 4, cells := 0, slots := 0, locals := 53 } : Room) s m #[(.ref a1), (.int (61 : Int32))] below meth c s₁ [] 0 0 := Stand.of_body Bd
  have e0 : s₁.heap = h0 := by rw [← hh, Bd.state]; rfl
  have N0 := Fr.nil n0
  have hS0 : s.Since s.vm 0 := (State.WarmedH.refl s).since 0
  show Go FrameEnd p e below s ({ frames := 4, cells := 0, slots := 0, locals := 53 } : Room).cells ({ frames := 4, cells := 0, slots := 0, locals := 53 } : Room).slots (Q3AT_MOST61 Z a1 w0 f0 v1 k1 d1 h0 n0) (s₁.setTop (entryFrame m #[(.ref a1), (.int (61 : Int32))] 4))
  refine go (fun _ k => castTop (ef_3AT_MOST61 m a1) k) ?_
  show Go _ p e below s _ _ _ (s₁.setTop (mkF m 0 #[.val (.ref a1), .val (.int (61 : Int32)), .unset, .unset] []))
  refine go (fun _ => XS.aloadN X0.here hx rfl (hb hby d3_0) rfl rfl) ?_
  show Go _ p e below s _ _ _ (s₁.setTop (mkF m 1 #[.val (.ref a1), .val (.int (61 : Int32)), .unset, .unset] [(.ref a1)]))
  obtain ⟨cq199, kq199, q199a, q199b, q199c⟩ := isOf hZ e0 P2
  obtain ⟨_, _, ⟨T199, L199, k199, n199⟩, -, X199, ⟨Lc199, hQ199, l199, y199, z199⟩, st199⟩ := X0.virtualBack hx (y := (⟨"java/lang/String", "length", "()I"⟩ : MethodName)) (z := (⟨"java/lang/String", "length", "()I"⟩ : MethodName)) hown (mvT hZ (hw _ (List.mem_of_getElem? (i := 18) rfl))) (mvT hZ (hw _ (List.mem_of_getElem? (i := 19) rfl))) (notFace_of_selects (args := #[]) (mvT hZ (hw _ (List.mem_of_getElem? (i := 21) rfl)))) (mvT hZ (hw _ (List.mem_of_getElem? (i := 21) rfl))) (mvT hZ (hw _ (List.mem_of_getElem? (i := 20) rfl))) (by decide) (backOf (W := 0) (rm4 l Z a0 hw [] a1 w0 v1 k1 (2 : Int32) [(.int (60 : Int32)), (.int (61 : Int32))] d1 h0 n0 Z0 P0 P2 P3 P4 P5 hw0) hZ (hw _ (List.mem_of_getElem? (i := 23) rfl)) (hw _ (List.mem_of_getElem? (i := 22) rfl)) (by decide) (by decide)) q199a q199c (g := (mkF m 1 #[.val (.ref a1), .val (.int (61 : Int32)), .unset, .unset] [(.ref a1)])) rfl (by rw [hml]; rfl) (Steps.refl _) (argsL := []) (rest := []) (lenOf pd_3_0 rfl) rfl (by show 2 * 0 + _ ≤ _; exact Nat.le_of_eq rfl) (hb hby d3_1) (fun _ _ => ⟨rfl, e0, (by decide : 0 + 0 ≤ _), (by decide : 0 + 0 ≤ _)⟩)
  dsimp only [Pt.U, Pt.locs, Pt.cells, Pt.slots] at X199 l199 y199 z199 st199 hQ199
  subst l199 y199 z199
  obtain ⟨rfl, N199q, e199⟩ := hQ199
  have N199 := Fr.app N0 N199q
  refine goT st199 ?_
  show Go _ p e below s _ _ _ (T199.setTop (mkF m 4 #[.val (.ref a1), .val (.int (61 : Int32)), .unset, .unset] [(.int (2 : Int32))]))
  refine go (fun _ => XS.ifNo X199.here hx rfl (hb hby d3_4) rfl ((if0 _ _).trans (tlt (by decide : ((0 : Int32) < (2 : Int32)))).2.2.2)) ?_
  show Go _ p e below s _ _ _ (T199.setTop (mkF m 7 #[.val (.ref a1), .val (.int (61 : Int32)), .unset, .unset] []))
  refine go (fun _ => XS.aloadN X199.here hx rfl (hb hby d3_7) rfl rfl) ?_
  show Go _ p e below s _ _ _ (T199.setTop (mkF m 8 #[.val (.ref a1), .val (.int (61 : Int32)), .unset, .unset] [(.ref a1)]))
  refine go (fun _ => XS.iconst X199.here hx rfl (hb hby d3_8)) ?_
  show Go _ p e below s _ _ _ (T199.setTop (mkF m 9 #[.val (.ref a1), .val (.int (61 : Int32)), .unset, .unset] [(.int (0 : Int32)), (.ref a1)]))
  obtain ⟨cq200, kq200, q200a, q200b, q200c⟩ := isOf hZ e199 P2
  obtain ⟨_, _, ⟨T200, L200, k200, n200⟩, -, X200, ⟨Lc200, hQ200, l200, y200, z200⟩, st200⟩ := X199.virtualBack hx (y := (⟨"java/lang/String", "charAt", "(I)C"⟩ : MethodName)) (z := (⟨"java/lang/String", "charAt", "(I)C"⟩ : MethodName)) hown (mvT hZ (hw _ (List.mem_of_getElem? (i := 34) rfl))) (mvT hZ (hw _ (List.mem_of_getElem? (i := 35) rfl))) (notFace_of_selects (args := #[]) (mvT hZ (hw _ (List.mem_of_getElem? (i := 37) rfl)))) (mvT hZ (hw _ (List.mem_of_getElem? (i := 37) rfl))) (mvT hZ (hw _ (List.mem_of_getElem? (i := 36) rfl))) (by decide) (backOf (W := 0) (rm6AT_MOST0 l Z a0 hw [] a1 w0 f0 v1 k1 d1 h0 n0 Z0 P0 P1 P2 P3 P4 P5 hw0 hf) hZ (hw _ (List.mem_of_getElem? (i := 38) rfl)) (hw _ (List.mem_of_getElem? (i := 22) rfl)) (by decide) (by decide)) q200a q200c (g := (mkF m 9 #[.val (.ref a1), .val (.int (61 : Int32)), .unset, .unset] [(.int (0 : Int32)), (.ref a1)])) rfl (by rw [hml]; rfl) (Steps.refl _) (argsL := [(.int (0 : Int32))]) (rest := []) (lenOf pd_3_1 rfl) rfl (by show 2 * 0 + _ ≤ _; exact Nat.le_of_eq rfl) (hb hby d3_9) (fun _ _ => ⟨rfl, e199, (by decide : 0 + 0 ≤ _), (by decide : 0 + 0 ≤ _)⟩)
  dsimp only [Pt.U, Pt.locs, Pt.cells, Pt.slots] at X200 l200 y200 z200 st200 hQ200
  subst l200 y200 z200
  obtain ⟨rfl, N200q, e200⟩ := hQ200
  have N200 := Fr.app N199 N200q
  refine goT st200 ?_
  show Go _ p e below s _ _ _ (T200.setTop (mkF m 12 #[.val (.ref a1), .val (.int (61 : Int32)), .unset, .unset] [(.int (60 : Int32))]))
  refine go (fun _ => XS.iloadN X200.here hx rfl (hb hby d3_12) rfl) ?_
  show Go _ p e below s _ _ _ (T200.setTop (mkF m 13 #[.val (.ref a1), .val (.int (61 : Int32)), .unset, .unset] [(.int (61 : Int32)), (.int (60 : Int32))]))
  refine go (fun _ => XS.icmpYes X200.here hx rfl (pc0 := 13) (pc' := 20) rfl (hb hby d3_13) rfl (feq (by decide : ¬ ((60 : Int32) = (61 : Int32)))).2 (by decide) (by decide)) ?_
  show Go _ p e below s _ _ _ (T200.setTop (mkF m 20 #[.val (.ref a1), .val (.int (61 : Int32)), .unset, .unset] []))
  refine go (fun _ => XS.iconst X200.here hx rfl (hb hby d3_20)) ?_
  show Go _ p e below s _ _ _ (T200.setTop (mkF m 21 #[.val (.ref a1), .val (.int (61 : Int32)), .unset, .unset] [(.int (0 : Int32))]))
  refine go (fun _ => XS.istoreN X200.here hx rfl (hb hby d3_21) rfl (l' := #[.val (.ref a1), .val (.int (61 : Int32)), .val (.int (0 : Int32)), .unset]) rfl) ?_
  show Go _ p e below s _ _ _ (T200.setTop (mkF m 22 #[.val (.ref a1), .val (.int (61 : Int32)), .val (.int (0 : Int32)), .unset] []))
  refine go (fun _ => XS.aloadN X200.here hx rfl (hb hby d3_22) rfl rfl) ?_
  show Go _ p e below s _ _ _ (T200.setTop (mkF m 23 #[.val (.ref a1), .val (.int (61 : Int32)), .val (.int (0 : Int32)), .unset] [(.ref a1)]))
  obtain ⟨cq201, kq201, q201a, q201b, q201c⟩ := isOf hZ e200 P2
  obtain ⟨_, _, ⟨T201, L201, k201, n201⟩, -, X201, ⟨Lc201, hQ201, l201, y201, z201⟩, st201⟩ := X200.virtualBack hx (y := (⟨"java/lang/String", "length", "()I"⟩ : MethodName)) (z := (⟨"java/lang/String", "length", "()I"⟩ : MethodName)) hown (mvT hZ (hw _ (List.mem_of_getElem? (i := 18) rfl))) (mvT hZ (hw _ (List.mem_of_getElem? (i := 19) rfl))) (notFace_of_selects (args := #[]) (mvT hZ (hw _ (List.mem_of_getElem? (i := 21) rfl)))) (mvT hZ (hw _ (List.mem_of_getElem? (i := 21) rfl))) (mvT hZ (hw _ (List.mem_of_getElem? (i := 20) rfl))) (by decide) (backOf (W := 0) (rm4 l Z a0 hw [] a1 w0 v1 k1 (2 : Int32) [(.int (60 : Int32)), (.int (61 : Int32))] d1 h0 n0 Z0 P0 P2 P3 P4 P5 hw0) hZ (hw _ (List.mem_of_getElem? (i := 23) rfl)) (hw _ (List.mem_of_getElem? (i := 22) rfl)) (by decide) (by decide)) q201a q201c (g := (mkF m 23 #[.val (.ref a1), .val (.int (61 : Int32)), .val (.int (0 : Int32)), .unset] [(.ref a1)])) rfl (by rw [hml]; rfl) (Steps.refl _) (argsL := []) (rest := []) (lenOf pd_3_0 rfl) rfl (by show 2 * 0 + _ ≤ _; exact Nat.le_of_eq rfl) (hb hby d3_23) (fun _ _ => ⟨rfl, e200, (by decide : 0 + 0 ≤ _), (by decide : 0 + 0 ≤ _)⟩)
  dsimp only [Pt.U, Pt.locs, Pt.cells, Pt.slots] at X201 l201 y201 z201 st201 hQ201
  subst l201 y201 z201
  obtain ⟨rfl, N201q, e201⟩ := hQ201
  have N201 := Fr.app N200 N201q
  refine goT st201 ?_
  show Go _ p e below s _ _ _ (T201.setTop (mkF m 26 #[.val (.ref a1), .val (.int (61 : Int32)), .val (.int (0 : Int32)), .unset] [(.int (2 : Int32))]))
  refine go (fun _ => XS.iconst X201.here hx rfl (hb hby d3_26)) ?_
  show Go _ p e below s _ _ _ (T201.setTop (mkF m 27 #[.val (.ref a1), .val (.int (61 : Int32)), .val (.int (0 : Int32)), .unset] [(.int (1 : Int32)), (.int (2 : Int32))]))
  refine go (fun _ => XS.icmpNo X201.here hx rfl (hb hby d3_27) rfl (tlt (by decide : ((1 : Int32) < (2 : Int32)))).2.2.2) ?_
  show Go _ p e below s _ _ _ (T201.setTop (mkF m 30 #[.val (.ref a1), .val (.int (61 : Int32)), .val (.int (0 : Int32)), .unset] []))
  refine go (fun _ => XS.aloadN X201.here hx rfl (hb hby d3_30) rfl rfl) ?_
  show Go _ p e below s _ _ _ (T201.setTop (mkF m 31 #[.val (.ref a1), .val (.int (61 : Int32)), .val (.int (0 : Int32)), .unset] [(.ref a1)]))
  refine go (fun _ => XS.iconst X201.here hx rfl (hb hby d3_31)) ?_
  show Go _ p e below s _ _ _ (T201.setTop (mkF m 32 #[.val (.ref a1), .val (.int (61 : Int32)), .val (.int (0 : Int32)), .unset] [(.int (1 : Int32)), (.ref a1)]))
  obtain ⟨cq202, kq202, q202a, q202b, q202c⟩ := isOf hZ e201 P2
  obtain ⟨_, _, ⟨T202, L202, k202, n202⟩, -, X202, ⟨Lc202, hQ202, l202, y202, z202⟩, st202⟩ := X201.virtualBack hx (y := (⟨"java/lang/String", "charAt", "(I)C"⟩ : MethodName)) (z := (⟨"java/lang/String", "charAt", "(I)C"⟩ : MethodName)) hown (mvT hZ (hw _ (List.mem_of_getElem? (i := 34) rfl))) (mvT hZ (hw _ (List.mem_of_getElem? (i := 35) rfl))) (notFace_of_selects (args := #[]) (mvT hZ (hw _ (List.mem_of_getElem? (i := 37) rfl)))) (mvT hZ (hw _ (List.mem_of_getElem? (i := 37) rfl))) (mvT hZ (hw _ (List.mem_of_getElem? (i := 36) rfl))) (by decide) (backOf (W := 0) (rm6AT_MOST1 l Z a0 hw [] a1 w0 f0 v1 k1 d1 h0 n0 Z0 P0 P1 P2 P3 P4 P5 hw0 hf) hZ (hw _ (List.mem_of_getElem? (i := 38) rfl)) (hw _ (List.mem_of_getElem? (i := 22) rfl)) (by decide) (by decide)) q202a q202c (g := (mkF m 32 #[.val (.ref a1), .val (.int (61 : Int32)), .val (.int (0 : Int32)), .unset] [(.int (1 : Int32)), (.ref a1)])) rfl (by rw [hml]; rfl) (Steps.refl _) (argsL := [(.int (1 : Int32))]) (rest := []) (lenOf pd_3_1 rfl) rfl (by show 2 * 0 + _ ≤ _; exact Nat.le_of_eq rfl) (hb hby d3_32) (fun _ _ => ⟨rfl, e201, (by decide : 0 + 0 ≤ _), (by decide : 0 + 0 ≤ _)⟩)
  dsimp only [Pt.U, Pt.locs, Pt.cells, Pt.slots] at X202 l202 y202 z202 st202 hQ202
  subst l202 y202 z202
  obtain ⟨rfl, N202q, e202⟩ := hQ202
  have N202 := Fr.app N201 N202q
  refine goT st202 ?_
  show Go _ p e below s _ _ _ (T202.setTop (mkF m 35 #[.val (.ref a1), .val (.int (61 : Int32)), .val (.int (0 : Int32)), .unset] [(.int (61 : Int32))]))
  refine go (fun _ => XS.iloadN X202.here hx rfl (hb hby d3_35) rfl) ?_
  show Go _ p e below s _ _ _ (T202.setTop (mkF m 36 #[.val (.ref a1), .val (.int (61 : Int32)), .val (.int (0 : Int32)), .unset] [(.int (61 : Int32)), (.int (61 : Int32))]))
  refine go (fun _ => XS.icmpNo X202.here hx rfl (hb hby d3_36) rfl (teq (rfl : (61 : Int32) = (61 : Int32))).2) ?_
  show Go _ p e below s _ _ _ (T202.setTop (mkF m 39 #[.val (.ref a1), .val (.int (61 : Int32)), .val (.int (0 : Int32)), .unset] []))
  refine go (fun _ => XS.iconst X202.here hx rfl (hb hby d3_39)) ?_
  show Go _ p e below s _ _ _ (T202.setTop (mkF m 40 #[.val (.ref a1), .val (.int (61 : Int32)), .val (.int (0 : Int32)), .unset] [(.int (1 : Int32))]))
  refine go (fun _ => XS.goto X202.here hx rfl (pc0 := 40) (pc' := 44) rfl (hb hby d3_40) (by decide) (by decide)) ?_
  show Go _ p e below s _ _ _ (T202.setTop (mkF m 44 #[.val (.ref a1), .val (.int (61 : Int32)), .val (.int (0 : Int32)), .unset] [(.int (1 : Int32))]))
  refine go (fun _ => XS.istoreN X202.here hx rfl (hb hby d3_44) rfl (l' := #[.val (.ref a1), .val (.int (61 : Int32)), .val (.int (0 : Int32)), .val (.int (1 : Int32))]) rfl) ?_
  show Go _ p e below s _ _ _ (T202.setTop (mkF m 45 #[.val (.ref a1), .val (.int (61 : Int32)), .val (.int (0 : Int32)), .val (.int (1 : Int32))] []))
  refine go (fun _ => XS.iloadN X202.here hx rfl (hb hby d3_45) rfl) ?_
  show Go _ p e below s _ _ _ (T202.setTop (mkF m 46 #[.val (.ref a1), .val (.int (61 : Int32)), .val (.int (0 : Int32)), .val (.int (1 : Int32))] [(.int (0 : Int32))]))
  refine go (fun _ => XS.ifNo X202.here hx rfl (hb hby d3_46) rfl ((if0 _ _).trans (teq (rfl : (0 : Int32) = (0 : Int32))).2)) ?_
  show Go _ p e below s _ _ _ (T202.setTop (mkF m 49 #[.val (.ref a1), .val (.int (61 : Int32)), .val (.int (0 : Int32)), .val (.int (1 : Int32))] []))
  refine go (fun _ => XS.iloadN X202.here hx rfl (hb hby d3_49) rfl) ?_
  show Go _ p e below s _ _ _ (T202.setTop (mkF m 50 #[.val (.ref a1), .val (.int (61 : Int32)), .val (.int (0 : Int32)), .val (.int (1 : Int32))] [(.int (1 : Int32))]))
  refine go (fun _ => XS.ifNo X202.here hx rfl (hb hby d3_50) rfl ((if0 _ _).trans (feq (by decide : ¬ ((1 : Int32) = (0 : Int32)))).1)) ?_
  show Go _ p e below s _ _ _ (T202.setTop (mkF m 53 #[.val (.ref a1), .val (.int (61 : Int32)), .val (.int (0 : Int32)), .val (.int (1 : Int32))] []))
  refine go (fun _ => XS.iconst X202.here hx rfl (hb hby d3_53)) ?_
  show Go _ p e below s _ _ _ (T202.setTop (mkF m 54 #[.val (.ref a1), .val (.int (61 : Int32)), .val (.int (0 : Int32)), .val (.int (1 : Int32))] [(.int (1 : Int32))]))
  refine go (fun _ => XS.goto X202.here hx rfl (pc0 := 54) (pc' := 58) rfl (hb hby d3_54) (by decide) (by decide)) ?_
  show Go _ p e below s _ _ _ (T202.setTop (mkF m 58 #[.val (.ref a1), .val (.int (61 : Int32)), .val (.int (0 : Int32)), .val (.int (1 : Int32))] [(.int (1 : Int32))]))
  refine goRet X202 hx Bd.notSynchronized Bd.returns rfl (Or.inl ⟨rfl, Or.inr (Or.inl rfl), _, rfl⟩) (hb hby d3_58) (by decide) (by decide) (by rw [e202]; refine ⟨rfl, N202, rfl⟩)
theorem pn_3AT_MOST62 : plainName "com/example/reticule/reticule/engine/ComparisonHoldsPinLaw" = true := by first | (simp [plainName, overriddenIn]; done) | decide +kernel
theorem ef_3AT_MOST62 (m : MethodId) (a1 : Addr) : entryFrame m #[(.ref a1), (.int (62 : Int32))] 4 = mkF m 0 #[.val (.ref a1), .val (.int (62 : Int32)), .unset, .unset] [] := by first | (simp [entryFrame, mkF, argsToLocals, Value.category]; done) | rfl
def Q3AT_MOST62 (Z : State) (a1 : Addr) (w0 : Int32) (f0 : Value) (v1 : Addr) (k1 : ClassId) (d1 : Value) (h0 : Heap) (n0 : Nat) (v : Option Value) (h : Heap) (L : List Loc) : Prop := v = some (.int (0 : Int32)) ∧ Fr n0 L ∧ (h = h0)
set_option maxRecDepth 65536 in
set_option maxHeartbeats 40000000 in
theorem rm3AT_MOST62 (l : Launch) (Z : State) (a0 : Array Value) (hw : ∀ d ∈ tables_1, d.before a0 Z = true) (ws : List Jvm.Cond) (a1 : Addr) (w0 : Int32) (f0 : Value) (v1 : Addr) (k1 : ClassId) (d1 : Value) (h0 : Heap) (n0 : Nat) (Z0 : n0 ≤ h0.size) (P0 : Sta Z h0 "java/lang/String" "COMPACT_STRINGS" "Z" (.int w0)) (P1 : Sta Z h0 "jdk/internal/util/Preconditions" "SIOOBE_FORMATTER" "Ljava/util/function/BiFunction;" f0) (P2 : Exa Z h0 a1 "java/lang/String") (P3 : Fld Z h0 a1 "java/lang/String" "coder" "B" (.int (0 : Int32))) (P4 : Fld Z h0 a1 "java/lang/String" "value" "[B" (.ref v1)) (P5 : Arv Z h0 v1 k1 .byte (2 : Int32) [(.int (60 : Int32)), (.int (61 : Int32))] d1) (hw0 : ¬ w0 = 0) (hf : f0.isRef = true) :
    MetFree l (⟨"com/example/reticule/reticule/engine/ComparisonHoldsPinLaw", "has", "(Ljava/lang/String;C)Z"⟩ : MethodName) (head1 (Jvm.Cond.code (⟨"com/example/reticule/reticule/engine/ComparisonHoldsPinLaw", "has", "(Ljava/lang/String;C)Z"⟩ : MethodName) method_3_code 4 (some .boolean) :: ws) ({ frames := 4, cells := 0, slots := 0, locals := 53 } : Room)) (fun a U => a = #[(.ref a1), (.int (62 : Int32))] ∧ Z.Warmed39 U.vm ∧ U.heap = h0) (fun _ _ _ _ _ => True) (fun _ U o U' => ∃ v L, o = .returned v ∧ Q3AT_MOST62 Z a1 w0 f0 v1 k1 d1 h0 n0 v U'.heap L ∧ FrameEnd U o U' L ({ frames := 4, cells := 0, slots := 0, locals := 53 } : Room).cells ({ frames := 4, cells := 0, slots := 0, locals := 53 } : Room).slots) := by
  refine MetFree.of_bodySF (plainFor_of_name pn_3AT_MOST62) hisR ?_
  intro p e s m args below meth c s₁ Bd hml0 hP hK
  obtain ⟨rfl, hZ, hh⟩ := hP
  have hx := Bd.exec
  have hby := Bd.bytes
  have hml : c.maxLocals = 4 := hml0
  have hown : s.vm.findClass "com/example/reticule/reticule/engine/ComparisonHoldsPinLaw" = some m.cls := findClass_of_methodNamed Bd.named
  have hnm := (name_of_methodNamed Bd.named Bd.method).1
  have X0 : Stand p l e ({ frames := 4, cells := 0, slots := 0, locals := 53 } : Room) s m #[(.ref a1), (.int (62 : Int32))] below meth c s₁ [] 0 0 := Stand.of_body Bd
  have e0 : s₁.heap = h0 := by rw [← hh, Bd.state]; rfl
  have N0 := Fr.nil n0
  have hS0 : s.Since s.vm 0 := (State.WarmedH.refl s).since 0
  show Go FrameEnd p e below s ({ frames := 4, cells := 0, slots := 0, locals := 53 } : Room).cells ({ frames := 4, cells := 0, slots := 0, locals := 53 } : Room).slots (Q3AT_MOST62 Z a1 w0 f0 v1 k1 d1 h0 n0) (s₁.setTop (entryFrame m #[(.ref a1), (.int (62 : Int32))] 4))
  refine go (fun _ k => castTop (ef_3AT_MOST62 m a1) k) ?_
  show Go _ p e below s _ _ _ (s₁.setTop (mkF m 0 #[.val (.ref a1), .val (.int (62 : Int32)), .unset, .unset] []))
  refine go (fun _ => XS.aloadN X0.here hx rfl (hb hby d3_0) rfl rfl) ?_
  show Go _ p e below s _ _ _ (s₁.setTop (mkF m 1 #[.val (.ref a1), .val (.int (62 : Int32)), .unset, .unset] [(.ref a1)]))
  obtain ⟨cq207, kq207, q207a, q207b, q207c⟩ := isOf hZ e0 P2
  obtain ⟨_, _, ⟨T207, L207, k207, n207⟩, -, X207, ⟨Lc207, hQ207, l207, y207, z207⟩, st207⟩ := X0.virtualBack hx (y := (⟨"java/lang/String", "length", "()I"⟩ : MethodName)) (z := (⟨"java/lang/String", "length", "()I"⟩ : MethodName)) hown (mvT hZ (hw _ (List.mem_of_getElem? (i := 18) rfl))) (mvT hZ (hw _ (List.mem_of_getElem? (i := 19) rfl))) (notFace_of_selects (args := #[]) (mvT hZ (hw _ (List.mem_of_getElem? (i := 21) rfl)))) (mvT hZ (hw _ (List.mem_of_getElem? (i := 21) rfl))) (mvT hZ (hw _ (List.mem_of_getElem? (i := 20) rfl))) (by decide) (backOf (W := 0) (rm4 l Z a0 hw [] a1 w0 v1 k1 (2 : Int32) [(.int (60 : Int32)), (.int (61 : Int32))] d1 h0 n0 Z0 P0 P2 P3 P4 P5 hw0) hZ (hw _ (List.mem_of_getElem? (i := 23) rfl)) (hw _ (List.mem_of_getElem? (i := 22) rfl)) (by decide) (by decide)) q207a q207c (g := (mkF m 1 #[.val (.ref a1), .val (.int (62 : Int32)), .unset, .unset] [(.ref a1)])) rfl (by rw [hml]; rfl) (Steps.refl _) (argsL := []) (rest := []) (lenOf pd_3_0 rfl) rfl (by show 2 * 0 + _ ≤ _; exact Nat.le_of_eq rfl) (hb hby d3_1) (fun _ _ => ⟨rfl, e0, (by decide : 0 + 0 ≤ _), (by decide : 0 + 0 ≤ _)⟩)
  dsimp only [Pt.U, Pt.locs, Pt.cells, Pt.slots] at X207 l207 y207 z207 st207 hQ207
  subst l207 y207 z207
  obtain ⟨rfl, N207q, e207⟩ := hQ207
  have N207 := Fr.app N0 N207q
  refine goT st207 ?_
  show Go _ p e below s _ _ _ (T207.setTop (mkF m 4 #[.val (.ref a1), .val (.int (62 : Int32)), .unset, .unset] [(.int (2 : Int32))]))
  refine go (fun _ => XS.ifNo X207.here hx rfl (hb hby d3_4) rfl ((if0 _ _).trans (tlt (by decide : ((0 : Int32) < (2 : Int32)))).2.2.2)) ?_
  show Go _ p e below s _ _ _ (T207.setTop (mkF m 7 #[.val (.ref a1), .val (.int (62 : Int32)), .unset, .unset] []))
  refine go (fun _ => XS.aloadN X207.here hx rfl (hb hby d3_7) rfl rfl) ?_
  show Go _ p e below s _ _ _ (T207.setTop (mkF m 8 #[.val (.ref a1), .val (.int (62 : Int32)), .unset, .unset] [(.ref a1)]))
  refine go (fun _ => XS.iconst X207.here hx rfl (hb hby d3_8)) ?_
  show Go _ p e below s _ _ _ (T207.setTop (mkF m 9 #[.val (.ref a1), .val (.int (62 : Int32)), .unset, .unset] [(.int (0 : Int32)), (.ref a1)]))
  obtain ⟨cq208, kq208, q208a, q208b, q208c⟩ := isOf hZ e207 P2
  obtain ⟨_, _, ⟨T208, L208, k208, n208⟩, -, X208, ⟨Lc208, hQ208, l208, y208, z208⟩, st208⟩ := X207.virtualBack hx (y := (⟨"java/lang/String", "charAt", "(I)C"⟩ : MethodName)) (z := (⟨"java/lang/String", "charAt", "(I)C"⟩ : MethodName)) hown (mvT hZ (hw _ (List.mem_of_getElem? (i := 34) rfl))) (mvT hZ (hw _ (List.mem_of_getElem? (i := 35) rfl))) (notFace_of_selects (args := #[]) (mvT hZ (hw _ (List.mem_of_getElem? (i := 37) rfl)))) (mvT hZ (hw _ (List.mem_of_getElem? (i := 37) rfl))) (mvT hZ (hw _ (List.mem_of_getElem? (i := 36) rfl))) (by decide) (backOf (W := 0) (rm6AT_MOST0 l Z a0 hw [] a1 w0 f0 v1 k1 d1 h0 n0 Z0 P0 P1 P2 P3 P4 P5 hw0 hf) hZ (hw _ (List.mem_of_getElem? (i := 38) rfl)) (hw _ (List.mem_of_getElem? (i := 22) rfl)) (by decide) (by decide)) q208a q208c (g := (mkF m 9 #[.val (.ref a1), .val (.int (62 : Int32)), .unset, .unset] [(.int (0 : Int32)), (.ref a1)])) rfl (by rw [hml]; rfl) (Steps.refl _) (argsL := [(.int (0 : Int32))]) (rest := []) (lenOf pd_3_1 rfl) rfl (by show 2 * 0 + _ ≤ _; exact Nat.le_of_eq rfl) (hb hby d3_9) (fun _ _ => ⟨rfl, e207, (by decide : 0 + 0 ≤ _), (by decide : 0 + 0 ≤ _)⟩)
  dsimp only [Pt.U, Pt.locs, Pt.cells, Pt.slots] at X208 l208 y208 z208 st208 hQ208
  subst l208 y208 z208
  obtain ⟨rfl, N208q, e208⟩ := hQ208
  have N208 := Fr.app N207 N208q
  refine goT st208 ?_
  show Go _ p e below s _ _ _ (T208.setTop (mkF m 12 #[.val (.ref a1), .val (.int (62 : Int32)), .unset, .unset] [(.int (60 : Int32))]))
  refine go (fun _ => XS.iloadN X208.here hx rfl (hb hby d3_12) rfl) ?_
  show Go _ p e below s _ _ _ (T208.setTop (mkF m 13 #[.val (.ref a1), .val (.int (62 : Int32)), .unset, .unset] [(.int (62 : Int32)), (.int (60 : Int32))]))
  refine go (fun _ => XS.icmpYes X208.here hx rfl (pc0 := 13) (pc' := 20) rfl (hb hby d3_13) rfl (feq (by decide : ¬ ((60 : Int32) = (62 : Int32)))).2 (by decide) (by decide)) ?_
  show Go _ p e below s _ _ _ (T208.setTop (mkF m 20 #[.val (.ref a1), .val (.int (62 : Int32)), .unset, .unset] []))
  refine go (fun _ => XS.iconst X208.here hx rfl (hb hby d3_20)) ?_
  show Go _ p e below s _ _ _ (T208.setTop (mkF m 21 #[.val (.ref a1), .val (.int (62 : Int32)), .unset, .unset] [(.int (0 : Int32))]))
  refine go (fun _ => XS.istoreN X208.here hx rfl (hb hby d3_21) rfl (l' := #[.val (.ref a1), .val (.int (62 : Int32)), .val (.int (0 : Int32)), .unset]) rfl) ?_
  show Go _ p e below s _ _ _ (T208.setTop (mkF m 22 #[.val (.ref a1), .val (.int (62 : Int32)), .val (.int (0 : Int32)), .unset] []))
  refine go (fun _ => XS.aloadN X208.here hx rfl (hb hby d3_22) rfl rfl) ?_
  show Go _ p e below s _ _ _ (T208.setTop (mkF m 23 #[.val (.ref a1), .val (.int (62 : Int32)), .val (.int (0 : Int32)), .unset] [(.ref a1)]))
  obtain ⟨cq209, kq209, q209a, q209b, q209c⟩ := isOf hZ e208 P2
  obtain ⟨_, _, ⟨T209, L209, k209, n209⟩, -, X209, ⟨Lc209, hQ209, l209, y209, z209⟩, st209⟩ := X208.virtualBack hx (y := (⟨"java/lang/String", "length", "()I"⟩ : MethodName)) (z := (⟨"java/lang/String", "length", "()I"⟩ : MethodName)) hown (mvT hZ (hw _ (List.mem_of_getElem? (i := 18) rfl))) (mvT hZ (hw _ (List.mem_of_getElem? (i := 19) rfl))) (notFace_of_selects (args := #[]) (mvT hZ (hw _ (List.mem_of_getElem? (i := 21) rfl)))) (mvT hZ (hw _ (List.mem_of_getElem? (i := 21) rfl))) (mvT hZ (hw _ (List.mem_of_getElem? (i := 20) rfl))) (by decide) (backOf (W := 0) (rm4 l Z a0 hw [] a1 w0 v1 k1 (2 : Int32) [(.int (60 : Int32)), (.int (61 : Int32))] d1 h0 n0 Z0 P0 P2 P3 P4 P5 hw0) hZ (hw _ (List.mem_of_getElem? (i := 23) rfl)) (hw _ (List.mem_of_getElem? (i := 22) rfl)) (by decide) (by decide)) q209a q209c (g := (mkF m 23 #[.val (.ref a1), .val (.int (62 : Int32)), .val (.int (0 : Int32)), .unset] [(.ref a1)])) rfl (by rw [hml]; rfl) (Steps.refl _) (argsL := []) (rest := []) (lenOf pd_3_0 rfl) rfl (by show 2 * 0 + _ ≤ _; exact Nat.le_of_eq rfl) (hb hby d3_23) (fun _ _ => ⟨rfl, e208, (by decide : 0 + 0 ≤ _), (by decide : 0 + 0 ≤ _)⟩)
  dsimp only [Pt.U, Pt.locs, Pt.cells, Pt.slots] at X209 l209 y209 z209 st209 hQ209
  subst l209 y209 z209
  obtain ⟨rfl, N209q, e209⟩ := hQ209
  have N209 := Fr.app N208 N209q
  refine goT st209 ?_
  show Go _ p e below s _ _ _ (T209.setTop (mkF m 26 #[.val (.ref a1), .val (.int (62 : Int32)), .val (.int (0 : Int32)), .unset] [(.int (2 : Int32))]))
  refine go (fun _ => XS.iconst X209.here hx rfl (hb hby d3_26)) ?_
  show Go _ p e below s _ _ _ (T209.setTop (mkF m 27 #[.val (.ref a1), .val (.int (62 : Int32)), .val (.int (0 : Int32)), .unset] [(.int (1 : Int32)), (.int (2 : Int32))]))
  refine go (fun _ => XS.icmpNo X209.here hx rfl (hb hby d3_27) rfl (tlt (by decide : ((1 : Int32) < (2 : Int32)))).2.2.2) ?_
  show Go _ p e below s _ _ _ (T209.setTop (mkF m 30 #[.val (.ref a1), .val (.int (62 : Int32)), .val (.int (0 : Int32)), .unset] []))
  refine go (fun _ => XS.aloadN X209.here hx rfl (hb hby d3_30) rfl rfl) ?_
  show Go _ p e below s _ _ _ (T209.setTop (mkF m 31 #[.val (.ref a1), .val (.int (62 : Int32)), .val (.int (0 : Int32)), .unset] [(.ref a1)]))
  refine go (fun _ => XS.iconst X209.here hx rfl (hb hby d3_31)) ?_
  show Go _ p e below s _ _ _ (T209.setTop (mkF m 32 #[.val (.ref a1), .val (.int (62 : Int32)), .val (.int (0 : Int32)), .unset] [(.int (1 : Int32)), (.ref a1)]))
  obtain ⟨cq210, kq210, q210a, q210b, q210c⟩ := isOf hZ e209 P2
  obtain ⟨_, _, ⟨T210, L210, k210, n210⟩, -, X210, ⟨Lc210, hQ210, l210, y210, z210⟩, st210⟩ := X209.virtualBack hx (y := (⟨"java/lang/String", "charAt", "(I)C"⟩ : MethodName)) (z := (⟨"java/lang/String", "charAt", "(I)C"⟩ : MethodName)) hown (mvT hZ (hw _ (List.mem_of_getElem? (i := 34) rfl))) (mvT hZ (hw _ (List.mem_of_getElem? (i := 35) rfl))) (notFace_of_selects (args := #[]) (mvT hZ (hw _ (List.mem_of_getElem? (i := 37) rfl)))) (mvT hZ (hw _ (List.mem_of_getElem? (i := 37) rfl))) (mvT hZ (hw _ (List.mem_of_getElem? (i := 36) rfl))) (by decide) (backOf (W := 0) (rm6AT_MOST1 l Z a0 hw [] a1 w0 f0 v1 k1 d1 h0 n0 Z0 P0 P1 P2 P3 P4 P5 hw0 hf) hZ (hw _ (List.mem_of_getElem? (i := 38) rfl)) (hw _ (List.mem_of_getElem? (i := 22) rfl)) (by decide) (by decide)) q210a q210c (g := (mkF m 32 #[.val (.ref a1), .val (.int (62 : Int32)), .val (.int (0 : Int32)), .unset] [(.int (1 : Int32)), (.ref a1)])) rfl (by rw [hml]; rfl) (Steps.refl _) (argsL := [(.int (1 : Int32))]) (rest := []) (lenOf pd_3_1 rfl) rfl (by show 2 * 0 + _ ≤ _; exact Nat.le_of_eq rfl) (hb hby d3_32) (fun _ _ => ⟨rfl, e209, (by decide : 0 + 0 ≤ _), (by decide : 0 + 0 ≤ _)⟩)
  dsimp only [Pt.U, Pt.locs, Pt.cells, Pt.slots] at X210 l210 y210 z210 st210 hQ210
  subst l210 y210 z210
  obtain ⟨rfl, N210q, e210⟩ := hQ210
  have N210 := Fr.app N209 N210q
  refine goT st210 ?_
  show Go _ p e below s _ _ _ (T210.setTop (mkF m 35 #[.val (.ref a1), .val (.int (62 : Int32)), .val (.int (0 : Int32)), .unset] [(.int (61 : Int32))]))
  refine go (fun _ => XS.iloadN X210.here hx rfl (hb hby d3_35) rfl) ?_
  show Go _ p e below s _ _ _ (T210.setTop (mkF m 36 #[.val (.ref a1), .val (.int (62 : Int32)), .val (.int (0 : Int32)), .unset] [(.int (62 : Int32)), (.int (61 : Int32))]))
  refine go (fun _ => XS.icmpYes X210.here hx rfl (pc0 := 36) (pc' := 43) rfl (hb hby d3_36) rfl (feq (by decide : ¬ ((61 : Int32) = (62 : Int32)))).2 (by decide) (by decide)) ?_
  show Go _ p e below s _ _ _ (T210.setTop (mkF m 43 #[.val (.ref a1), .val (.int (62 : Int32)), .val (.int (0 : Int32)), .unset] []))
  refine go (fun _ => XS.iconst X210.here hx rfl (hb hby d3_43)) ?_
  show Go _ p e below s _ _ _ (T210.setTop (mkF m 44 #[.val (.ref a1), .val (.int (62 : Int32)), .val (.int (0 : Int32)), .unset] [(.int (0 : Int32))]))
  refine go (fun _ => XS.istoreN X210.here hx rfl (hb hby d3_44) rfl (l' := #[.val (.ref a1), .val (.int (62 : Int32)), .val (.int (0 : Int32)), .val (.int (0 : Int32))]) rfl) ?_
  show Go _ p e below s _ _ _ (T210.setTop (mkF m 45 #[.val (.ref a1), .val (.int (62 : Int32)), .val (.int (0 : Int32)), .val (.int (0 : Int32))] []))
  refine go (fun _ => XS.iloadN X210.here hx rfl (hb hby d3_45) rfl) ?_
  show Go _ p e below s _ _ _ (T210.setTop (mkF m 46 #[.val (.ref a1), .val (.int (62 : Int32)), .val (.int (0 : Int32)), .val (.int (0 : Int32))] [(.int (0 : Int32))]))
  refine go (fun _ => XS.ifNo X210.here hx rfl (hb hby d3_46) rfl ((if0 _ _).trans (teq (rfl : (0 : Int32) = (0 : Int32))).2)) ?_
  show Go _ p e below s _ _ _ (T210.setTop (mkF m 49 #[.val (.ref a1), .val (.int (62 : Int32)), .val (.int (0 : Int32)), .val (.int (0 : Int32))] []))
  refine go (fun _ => XS.iloadN X210.here hx rfl (hb hby d3_49) rfl) ?_
  show Go _ p e below s _ _ _ (T210.setTop (mkF m 50 #[.val (.ref a1), .val (.int (62 : Int32)), .val (.int (0 : Int32)), .val (.int (0 : Int32))] [(.int (0 : Int32))]))
  refine go (fun _ => XS.ifYes X210.here hx rfl (pc0 := 50) (pc' := 57) rfl (hb hby d3_50) rfl ((if0 _ _).trans (teq (rfl : (0 : Int32) = (0 : Int32))).1) (by decide) (by decide)) ?_
  show Go _ p e below s _ _ _ (T210.setTop (mkF m 57 #[.val (.ref a1), .val (.int (62 : Int32)), .val (.int (0 : Int32)), .val (.int (0 : Int32))] []))
  refine go (fun _ => XS.iconst X210.here hx rfl (hb hby d3_57)) ?_
  show Go _ p e below s _ _ _ (T210.setTop (mkF m 58 #[.val (.ref a1), .val (.int (62 : Int32)), .val (.int (0 : Int32)), .val (.int (0 : Int32))] [(.int (0 : Int32))]))
  refine goRet X210 hx Bd.notSynchronized Bd.returns rfl (Or.inl ⟨rfl, Or.inr (Or.inl rfl), _, rfl⟩) (hb hby d3_58) (by decide) (by decide) (by rw [e210]; refine ⟨rfl, N210, rfl⟩)
theorem pn_3GREATER60 : plainName "com/example/reticule/reticule/engine/ComparisonHoldsPinLaw" = true := by first | (simp [plainName, overriddenIn]; done) | decide +kernel
theorem ef_3GREATER60 (m : MethodId) (a1 : Addr) : entryFrame m #[(.ref a1), (.int (60 : Int32))] 4 = mkF m 0 #[.val (.ref a1), .val (.int (60 : Int32)), .unset, .unset] [] := by first | (simp [entryFrame, mkF, argsToLocals, Value.category]; done) | rfl
def Q3GREATER60 (Z : State) (a1 : Addr) (w0 : Int32) (f0 : Value) (v1 : Addr) (k1 : ClassId) (d1 : Value) (h0 : Heap) (n0 : Nat) (v : Option Value) (h : Heap) (L : List Loc) : Prop := v = some (.int (0 : Int32)) ∧ Fr n0 L ∧ (h = h0)
set_option maxRecDepth 65536 in
set_option maxHeartbeats 40000000 in
theorem rm3GREATER60 (l : Launch) (Z : State) (a0 : Array Value) (hw : ∀ d ∈ tables_1, d.before a0 Z = true) (ws : List Jvm.Cond) (a1 : Addr) (w0 : Int32) (f0 : Value) (v1 : Addr) (k1 : ClassId) (d1 : Value) (h0 : Heap) (n0 : Nat) (Z0 : n0 ≤ h0.size) (P0 : Sta Z h0 "java/lang/String" "COMPACT_STRINGS" "Z" (.int w0)) (P1 : Sta Z h0 "jdk/internal/util/Preconditions" "SIOOBE_FORMATTER" "Ljava/util/function/BiFunction;" f0) (P2 : Exa Z h0 a1 "java/lang/String") (P3 : Fld Z h0 a1 "java/lang/String" "coder" "B" (.int (0 : Int32))) (P4 : Fld Z h0 a1 "java/lang/String" "value" "[B" (.ref v1)) (P5 : Arv Z h0 v1 k1 .byte (1 : Int32) [(.int (62 : Int32))] d1) (hw0 : ¬ w0 = 0) (hf : f0.isRef = true) :
    MetFree l (⟨"com/example/reticule/reticule/engine/ComparisonHoldsPinLaw", "has", "(Ljava/lang/String;C)Z"⟩ : MethodName) (head1 (Jvm.Cond.code (⟨"com/example/reticule/reticule/engine/ComparisonHoldsPinLaw", "has", "(Ljava/lang/String;C)Z"⟩ : MethodName) method_3_code 4 (some .boolean) :: ws) ({ frames := 4, cells := 0, slots := 0, locals := 53 } : Room)) (fun a U => a = #[(.ref a1), (.int (60 : Int32))] ∧ Z.Warmed39 U.vm ∧ U.heap = h0) (fun _ _ _ _ _ => True) (fun _ U o U' => ∃ v L, o = .returned v ∧ Q3GREATER60 Z a1 w0 f0 v1 k1 d1 h0 n0 v U'.heap L ∧ FrameEnd U o U' L ({ frames := 4, cells := 0, slots := 0, locals := 53 } : Room).cells ({ frames := 4, cells := 0, slots := 0, locals := 53 } : Room).slots) := by
  refine MetFree.of_bodySF (plainFor_of_name pn_3GREATER60) hisR ?_
  intro p e s m args below meth c s₁ Bd hml0 hP hK
  obtain ⟨rfl, hZ, hh⟩ := hP
  have hx := Bd.exec
  have hby := Bd.bytes
  have hml : c.maxLocals = 4 := hml0
  have hown : s.vm.findClass "com/example/reticule/reticule/engine/ComparisonHoldsPinLaw" = some m.cls := findClass_of_methodNamed Bd.named
  have hnm := (name_of_methodNamed Bd.named Bd.method).1
  have X0 : Stand p l e ({ frames := 4, cells := 0, slots := 0, locals := 53 } : Room) s m #[(.ref a1), (.int (60 : Int32))] below meth c s₁ [] 0 0 := Stand.of_body Bd
  have e0 : s₁.heap = h0 := by rw [← hh, Bd.state]; rfl
  have N0 := Fr.nil n0
  have hS0 : s.Since s.vm 0 := (State.WarmedH.refl s).since 0
  show Go FrameEnd p e below s ({ frames := 4, cells := 0, slots := 0, locals := 53 } : Room).cells ({ frames := 4, cells := 0, slots := 0, locals := 53 } : Room).slots (Q3GREATER60 Z a1 w0 f0 v1 k1 d1 h0 n0) (s₁.setTop (entryFrame m #[(.ref a1), (.int (60 : Int32))] 4))
  refine go (fun _ k => castTop (ef_3GREATER60 m a1) k) ?_
  show Go _ p e below s _ _ _ (s₁.setTop (mkF m 0 #[.val (.ref a1), .val (.int (60 : Int32)), .unset, .unset] []))
  refine go (fun _ => XS.aloadN X0.here hx rfl (hb hby d3_0) rfl rfl) ?_
  show Go _ p e below s _ _ _ (s₁.setTop (mkF m 1 #[.val (.ref a1), .val (.int (60 : Int32)), .unset, .unset] [(.ref a1)]))
  obtain ⟨cq214, kq214, q214a, q214b, q214c⟩ := isOf hZ e0 P2
  obtain ⟨_, _, ⟨T214, L214, k214, n214⟩, -, X214, ⟨Lc214, hQ214, l214, y214, z214⟩, st214⟩ := X0.virtualBack hx (y := (⟨"java/lang/String", "length", "()I"⟩ : MethodName)) (z := (⟨"java/lang/String", "length", "()I"⟩ : MethodName)) hown (mvT hZ (hw _ (List.mem_of_getElem? (i := 18) rfl))) (mvT hZ (hw _ (List.mem_of_getElem? (i := 19) rfl))) (notFace_of_selects (args := #[]) (mvT hZ (hw _ (List.mem_of_getElem? (i := 21) rfl)))) (mvT hZ (hw _ (List.mem_of_getElem? (i := 21) rfl))) (mvT hZ (hw _ (List.mem_of_getElem? (i := 20) rfl))) (by decide) (backOf (W := 0) (rm4 l Z a0 hw [] a1 w0 v1 k1 (1 : Int32) [(.int (62 : Int32))] d1 h0 n0 Z0 P0 P2 P3 P4 P5 hw0) hZ (hw _ (List.mem_of_getElem? (i := 23) rfl)) (hw _ (List.mem_of_getElem? (i := 22) rfl)) (by decide) (by decide)) q214a q214c (g := (mkF m 1 #[.val (.ref a1), .val (.int (60 : Int32)), .unset, .unset] [(.ref a1)])) rfl (by rw [hml]; rfl) (Steps.refl _) (argsL := []) (rest := []) (lenOf pd_3_0 rfl) rfl (by show 2 * 0 + _ ≤ _; exact Nat.le_of_eq rfl) (hb hby d3_1) (fun _ _ => ⟨rfl, e0, (by decide : 0 + 0 ≤ _), (by decide : 0 + 0 ≤ _)⟩)
  dsimp only [Pt.U, Pt.locs, Pt.cells, Pt.slots] at X214 l214 y214 z214 st214 hQ214
  subst l214 y214 z214
  obtain ⟨rfl, N214q, e214⟩ := hQ214
  have N214 := Fr.app N0 N214q
  refine goT st214 ?_
  show Go _ p e below s _ _ _ (T214.setTop (mkF m 4 #[.val (.ref a1), .val (.int (60 : Int32)), .unset, .unset] [(.int (1 : Int32))]))
  refine go (fun _ => XS.ifNo X214.here hx rfl (hb hby d3_4) rfl ((if0 _ _).trans (tlt (by decide : ((0 : Int32) < (1 : Int32)))).2.2.2)) ?_
  show Go _ p e below s _ _ _ (T214.setTop (mkF m 7 #[.val (.ref a1), .val (.int (60 : Int32)), .unset, .unset] []))
  refine go (fun _ => XS.aloadN X214.here hx rfl (hb hby d3_7) rfl rfl) ?_
  show Go _ p e below s _ _ _ (T214.setTop (mkF m 8 #[.val (.ref a1), .val (.int (60 : Int32)), .unset, .unset] [(.ref a1)]))
  refine go (fun _ => XS.iconst X214.here hx rfl (hb hby d3_8)) ?_
  show Go _ p e below s _ _ _ (T214.setTop (mkF m 9 #[.val (.ref a1), .val (.int (60 : Int32)), .unset, .unset] [(.int (0 : Int32)), (.ref a1)]))
  obtain ⟨cq215, kq215, q215a, q215b, q215c⟩ := isOf hZ e214 P2
  obtain ⟨_, _, ⟨T215, L215, k215, n215⟩, -, X215, ⟨Lc215, hQ215, l215, y215, z215⟩, st215⟩ := X214.virtualBack hx (y := (⟨"java/lang/String", "charAt", "(I)C"⟩ : MethodName)) (z := (⟨"java/lang/String", "charAt", "(I)C"⟩ : MethodName)) hown (mvT hZ (hw _ (List.mem_of_getElem? (i := 34) rfl))) (mvT hZ (hw _ (List.mem_of_getElem? (i := 35) rfl))) (notFace_of_selects (args := #[]) (mvT hZ (hw _ (List.mem_of_getElem? (i := 37) rfl)))) (mvT hZ (hw _ (List.mem_of_getElem? (i := 37) rfl))) (mvT hZ (hw _ (List.mem_of_getElem? (i := 36) rfl))) (by decide) (backOf (W := 0) (rm6GREATER0 l Z a0 hw [] a1 w0 f0 v1 k1 d1 h0 n0 Z0 P0 P1 P2 P3 P4 P5 hw0 hf) hZ (hw _ (List.mem_of_getElem? (i := 38) rfl)) (hw _ (List.mem_of_getElem? (i := 22) rfl)) (by decide) (by decide)) q215a q215c (g := (mkF m 9 #[.val (.ref a1), .val (.int (60 : Int32)), .unset, .unset] [(.int (0 : Int32)), (.ref a1)])) rfl (by rw [hml]; rfl) (Steps.refl _) (argsL := [(.int (0 : Int32))]) (rest := []) (lenOf pd_3_1 rfl) rfl (by show 2 * 0 + _ ≤ _; exact Nat.le_of_eq rfl) (hb hby d3_9) (fun _ _ => ⟨rfl, e214, (by decide : 0 + 0 ≤ _), (by decide : 0 + 0 ≤ _)⟩)
  dsimp only [Pt.U, Pt.locs, Pt.cells, Pt.slots] at X215 l215 y215 z215 st215 hQ215
  subst l215 y215 z215
  obtain ⟨rfl, N215q, e215⟩ := hQ215
  have N215 := Fr.app N214 N215q
  refine goT st215 ?_
  show Go _ p e below s _ _ _ (T215.setTop (mkF m 12 #[.val (.ref a1), .val (.int (60 : Int32)), .unset, .unset] [(.int (62 : Int32))]))
  refine go (fun _ => XS.iloadN X215.here hx rfl (hb hby d3_12) rfl) ?_
  show Go _ p e below s _ _ _ (T215.setTop (mkF m 13 #[.val (.ref a1), .val (.int (60 : Int32)), .unset, .unset] [(.int (60 : Int32)), (.int (62 : Int32))]))
  refine go (fun _ => XS.icmpYes X215.here hx rfl (pc0 := 13) (pc' := 20) rfl (hb hby d3_13) rfl (feq (by decide : ¬ ((62 : Int32) = (60 : Int32)))).2 (by decide) (by decide)) ?_
  show Go _ p e below s _ _ _ (T215.setTop (mkF m 20 #[.val (.ref a1), .val (.int (60 : Int32)), .unset, .unset] []))
  refine go (fun _ => XS.iconst X215.here hx rfl (hb hby d3_20)) ?_
  show Go _ p e below s _ _ _ (T215.setTop (mkF m 21 #[.val (.ref a1), .val (.int (60 : Int32)), .unset, .unset] [(.int (0 : Int32))]))
  refine go (fun _ => XS.istoreN X215.here hx rfl (hb hby d3_21) rfl (l' := #[.val (.ref a1), .val (.int (60 : Int32)), .val (.int (0 : Int32)), .unset]) rfl) ?_
  show Go _ p e below s _ _ _ (T215.setTop (mkF m 22 #[.val (.ref a1), .val (.int (60 : Int32)), .val (.int (0 : Int32)), .unset] []))
  refine go (fun _ => XS.aloadN X215.here hx rfl (hb hby d3_22) rfl rfl) ?_
  show Go _ p e below s _ _ _ (T215.setTop (mkF m 23 #[.val (.ref a1), .val (.int (60 : Int32)), .val (.int (0 : Int32)), .unset] [(.ref a1)]))
  obtain ⟨cq216, kq216, q216a, q216b, q216c⟩ := isOf hZ e215 P2
  obtain ⟨_, _, ⟨T216, L216, k216, n216⟩, -, X216, ⟨Lc216, hQ216, l216, y216, z216⟩, st216⟩ := X215.virtualBack hx (y := (⟨"java/lang/String", "length", "()I"⟩ : MethodName)) (z := (⟨"java/lang/String", "length", "()I"⟩ : MethodName)) hown (mvT hZ (hw _ (List.mem_of_getElem? (i := 18) rfl))) (mvT hZ (hw _ (List.mem_of_getElem? (i := 19) rfl))) (notFace_of_selects (args := #[]) (mvT hZ (hw _ (List.mem_of_getElem? (i := 21) rfl)))) (mvT hZ (hw _ (List.mem_of_getElem? (i := 21) rfl))) (mvT hZ (hw _ (List.mem_of_getElem? (i := 20) rfl))) (by decide) (backOf (W := 0) (rm4 l Z a0 hw [] a1 w0 v1 k1 (1 : Int32) [(.int (62 : Int32))] d1 h0 n0 Z0 P0 P2 P3 P4 P5 hw0) hZ (hw _ (List.mem_of_getElem? (i := 23) rfl)) (hw _ (List.mem_of_getElem? (i := 22) rfl)) (by decide) (by decide)) q216a q216c (g := (mkF m 23 #[.val (.ref a1), .val (.int (60 : Int32)), .val (.int (0 : Int32)), .unset] [(.ref a1)])) rfl (by rw [hml]; rfl) (Steps.refl _) (argsL := []) (rest := []) (lenOf pd_3_0 rfl) rfl (by show 2 * 0 + _ ≤ _; exact Nat.le_of_eq rfl) (hb hby d3_23) (fun _ _ => ⟨rfl, e215, (by decide : 0 + 0 ≤ _), (by decide : 0 + 0 ≤ _)⟩)
  dsimp only [Pt.U, Pt.locs, Pt.cells, Pt.slots] at X216 l216 y216 z216 st216 hQ216
  subst l216 y216 z216
  obtain ⟨rfl, N216q, e216⟩ := hQ216
  have N216 := Fr.app N215 N216q
  refine goT st216 ?_
  show Go _ p e below s _ _ _ (T216.setTop (mkF m 26 #[.val (.ref a1), .val (.int (60 : Int32)), .val (.int (0 : Int32)), .unset] [(.int (1 : Int32))]))
  refine go (fun _ => XS.iconst X216.here hx rfl (hb hby d3_26)) ?_
  show Go _ p e below s _ _ _ (T216.setTop (mkF m 27 #[.val (.ref a1), .val (.int (60 : Int32)), .val (.int (0 : Int32)), .unset] [(.int (1 : Int32)), (.int (1 : Int32))]))
  refine go (fun _ => XS.icmpYes X216.here hx rfl (pc0 := 27) (pc' := 43) rfl (hb hby d3_27) rfl (flt (by decide : ¬ ((1 : Int32) < (1 : Int32)))).2.2.2 (by decide) (by decide)) ?_
  show Go _ p e below s _ _ _ (T216.setTop (mkF m 43 #[.val (.ref a1), .val (.int (60 : Int32)), .val (.int (0 : Int32)), .unset] []))
  refine go (fun _ => XS.iconst X216.here hx rfl (hb hby d3_43)) ?_
  show Go _ p e below s _ _ _ (T216.setTop (mkF m 44 #[.val (.ref a1), .val (.int (60 : Int32)), .val (.int (0 : Int32)), .unset] [(.int (0 : Int32))]))
  refine go (fun _ => XS.istoreN X216.here hx rfl (hb hby d3_44) rfl (l' := #[.val (.ref a1), .val (.int (60 : Int32)), .val (.int (0 : Int32)), .val (.int (0 : Int32))]) rfl) ?_
  show Go _ p e below s _ _ _ (T216.setTop (mkF m 45 #[.val (.ref a1), .val (.int (60 : Int32)), .val (.int (0 : Int32)), .val (.int (0 : Int32))] []))
  refine go (fun _ => XS.iloadN X216.here hx rfl (hb hby d3_45) rfl) ?_
  show Go _ p e below s _ _ _ (T216.setTop (mkF m 46 #[.val (.ref a1), .val (.int (60 : Int32)), .val (.int (0 : Int32)), .val (.int (0 : Int32))] [(.int (0 : Int32))]))
  refine go (fun _ => XS.ifNo X216.here hx rfl (hb hby d3_46) rfl ((if0 _ _).trans (teq (rfl : (0 : Int32) = (0 : Int32))).2)) ?_
  show Go _ p e below s _ _ _ (T216.setTop (mkF m 49 #[.val (.ref a1), .val (.int (60 : Int32)), .val (.int (0 : Int32)), .val (.int (0 : Int32))] []))
  refine go (fun _ => XS.iloadN X216.here hx rfl (hb hby d3_49) rfl) ?_
  show Go _ p e below s _ _ _ (T216.setTop (mkF m 50 #[.val (.ref a1), .val (.int (60 : Int32)), .val (.int (0 : Int32)), .val (.int (0 : Int32))] [(.int (0 : Int32))]))
  refine go (fun _ => XS.ifYes X216.here hx rfl (pc0 := 50) (pc' := 57) rfl (hb hby d3_50) rfl ((if0 _ _).trans (teq (rfl : (0 : Int32) = (0 : Int32))).1) (by decide) (by decide)) ?_
  show Go _ p e below s _ _ _ (T216.setTop (mkF m 57 #[.val (.ref a1), .val (.int (60 : Int32)), .val (.int (0 : Int32)), .val (.int (0 : Int32))] []))
  refine go (fun _ => XS.iconst X216.here hx rfl (hb hby d3_57)) ?_
  show Go _ p e below s _ _ _ (T216.setTop (mkF m 58 #[.val (.ref a1), .val (.int (60 : Int32)), .val (.int (0 : Int32)), .val (.int (0 : Int32))] [(.int (0 : Int32))]))
  refine goRet X216 hx Bd.notSynchronized Bd.returns rfl (Or.inl ⟨rfl, Or.inr (Or.inl rfl), _, rfl⟩) (hb hby d3_58) (by decide) (by decide) (by rw [e216]; refine ⟨rfl, N216, rfl⟩)
theorem pn_3GREATER61 : plainName "com/example/reticule/reticule/engine/ComparisonHoldsPinLaw" = true := by first | (simp [plainName, overriddenIn]; done) | decide +kernel
theorem ef_3GREATER61 (m : MethodId) (a1 : Addr) : entryFrame m #[(.ref a1), (.int (61 : Int32))] 4 = mkF m 0 #[.val (.ref a1), .val (.int (61 : Int32)), .unset, .unset] [] := by first | (simp [entryFrame, mkF, argsToLocals, Value.category]; done) | rfl
def Q3GREATER61 (Z : State) (a1 : Addr) (w0 : Int32) (f0 : Value) (v1 : Addr) (k1 : ClassId) (d1 : Value) (h0 : Heap) (n0 : Nat) (v : Option Value) (h : Heap) (L : List Loc) : Prop := v = some (.int (0 : Int32)) ∧ Fr n0 L ∧ (h = h0)
set_option maxRecDepth 65536 in
set_option maxHeartbeats 40000000 in
theorem rm3GREATER61 (l : Launch) (Z : State) (a0 : Array Value) (hw : ∀ d ∈ tables_1, d.before a0 Z = true) (ws : List Jvm.Cond) (a1 : Addr) (w0 : Int32) (f0 : Value) (v1 : Addr) (k1 : ClassId) (d1 : Value) (h0 : Heap) (n0 : Nat) (Z0 : n0 ≤ h0.size) (P0 : Sta Z h0 "java/lang/String" "COMPACT_STRINGS" "Z" (.int w0)) (P1 : Sta Z h0 "jdk/internal/util/Preconditions" "SIOOBE_FORMATTER" "Ljava/util/function/BiFunction;" f0) (P2 : Exa Z h0 a1 "java/lang/String") (P3 : Fld Z h0 a1 "java/lang/String" "coder" "B" (.int (0 : Int32))) (P4 : Fld Z h0 a1 "java/lang/String" "value" "[B" (.ref v1)) (P5 : Arv Z h0 v1 k1 .byte (1 : Int32) [(.int (62 : Int32))] d1) (hw0 : ¬ w0 = 0) (hf : f0.isRef = true) :
    MetFree l (⟨"com/example/reticule/reticule/engine/ComparisonHoldsPinLaw", "has", "(Ljava/lang/String;C)Z"⟩ : MethodName) (head1 (Jvm.Cond.code (⟨"com/example/reticule/reticule/engine/ComparisonHoldsPinLaw", "has", "(Ljava/lang/String;C)Z"⟩ : MethodName) method_3_code 4 (some .boolean) :: ws) ({ frames := 4, cells := 0, slots := 0, locals := 53 } : Room)) (fun a U => a = #[(.ref a1), (.int (61 : Int32))] ∧ Z.Warmed39 U.vm ∧ U.heap = h0) (fun _ _ _ _ _ => True) (fun _ U o U' => ∃ v L, o = .returned v ∧ Q3GREATER61 Z a1 w0 f0 v1 k1 d1 h0 n0 v U'.heap L ∧ FrameEnd U o U' L ({ frames := 4, cells := 0, slots := 0, locals := 53 } : Room).cells ({ frames := 4, cells := 0, slots := 0, locals := 53 } : Room).slots) := by
  refine MetFree.of_bodySF (plainFor_of_name pn_3GREATER61) hisR ?_
  intro p e s m args below meth c s₁ Bd hml0 hP hK
  obtain ⟨rfl, hZ, hh⟩ := hP
  have hx := Bd.exec
  have hby := Bd.bytes
  have hml : c.maxLocals = 4 := hml0
  have hown : s.vm.findClass "com/example/reticule/reticule/engine/ComparisonHoldsPinLaw" = some m.cls := findClass_of_methodNamed Bd.named
  have hnm := (name_of_methodNamed Bd.named Bd.method).1
  have X0 : Stand p l e ({ frames := 4, cells := 0, slots := 0, locals := 53 } : Room) s m #[(.ref a1), (.int (61 : Int32))] below meth c s₁ [] 0 0 := Stand.of_body Bd
  have e0 : s₁.heap = h0 := by rw [← hh, Bd.state]; rfl
  have N0 := Fr.nil n0
  have hS0 : s.Since s.vm 0 := (State.WarmedH.refl s).since 0
  show Go FrameEnd p e below s ({ frames := 4, cells := 0, slots := 0, locals := 53 } : Room).cells ({ frames := 4, cells := 0, slots := 0, locals := 53 } : Room).slots (Q3GREATER61 Z a1 w0 f0 v1 k1 d1 h0 n0) (s₁.setTop (entryFrame m #[(.ref a1), (.int (61 : Int32))] 4))
  refine go (fun _ k => castTop (ef_3GREATER61 m a1) k) ?_
  show Go _ p e below s _ _ _ (s₁.setTop (mkF m 0 #[.val (.ref a1), .val (.int (61 : Int32)), .unset, .unset] []))
  refine go (fun _ => XS.aloadN X0.here hx rfl (hb hby d3_0) rfl rfl) ?_
  show Go _ p e below s _ _ _ (s₁.setTop (mkF m 1 #[.val (.ref a1), .val (.int (61 : Int32)), .unset, .unset] [(.ref a1)]))
  obtain ⟨cq220, kq220, q220a, q220b, q220c⟩ := isOf hZ e0 P2
  obtain ⟨_, _, ⟨T220, L220, k220, n220⟩, -, X220, ⟨Lc220, hQ220, l220, y220, z220⟩, st220⟩ := X0.virtualBack hx (y := (⟨"java/lang/String", "length", "()I"⟩ : MethodName)) (z := (⟨"java/lang/String", "length", "()I"⟩ : MethodName)) hown (mvT hZ (hw _ (List.mem_of_getElem? (i := 18) rfl))) (mvT hZ (hw _ (List.mem_of_getElem? (i := 19) rfl))) (notFace_of_selects (args := #[]) (mvT hZ (hw _ (List.mem_of_getElem? (i := 21) rfl)))) (mvT hZ (hw _ (List.mem_of_getElem? (i := 21) rfl))) (mvT hZ (hw _ (List.mem_of_getElem? (i := 20) rfl))) (by decide) (backOf (W := 0) (rm4 l Z a0 hw [] a1 w0 v1 k1 (1 : Int32) [(.int (62 : Int32))] d1 h0 n0 Z0 P0 P2 P3 P4 P5 hw0) hZ (hw _ (List.mem_of_getElem? (i := 23) rfl)) (hw _ (List.mem_of_getElem? (i := 22) rfl)) (by decide) (by decide)) q220a q220c (g := (mkF m 1 #[.val (.ref a1), .val (.int (61 : Int32)), .unset, .unset] [(.ref a1)])) rfl (by rw [hml]; rfl) (Steps.refl _) (argsL := []) (rest := []) (lenOf pd_3_0 rfl) rfl (by show 2 * 0 + _ ≤ _; exact Nat.le_of_eq rfl) (hb hby d3_1) (fun _ _ => ⟨rfl, e0, (by decide : 0 + 0 ≤ _), (by decide : 0 + 0 ≤ _)⟩)
  dsimp only [Pt.U, Pt.locs, Pt.cells, Pt.slots] at X220 l220 y220 z220 st220 hQ220
  subst l220 y220 z220
  obtain ⟨rfl, N220q, e220⟩ := hQ220
  have N220 := Fr.app N0 N220q
  refine goT st220 ?_
  show Go _ p e below s _ _ _ (T220.setTop (mkF m 4 #[.val (.ref a1), .val (.int (61 : Int32)), .unset, .unset] [(.int (1 : Int32))]))
  refine go (fun _ => XS.ifNo X220.here hx rfl (hb hby d3_4) rfl ((if0 _ _).trans (tlt (by decide : ((0 : Int32) < (1 : Int32)))).2.2.2)) ?_
  show Go _ p e below s _ _ _ (T220.setTop (mkF m 7 #[.val (.ref a1), .val (.int (61 : Int32)), .unset, .unset] []))
  refine go (fun _ => XS.aloadN X220.here hx rfl (hb hby d3_7) rfl rfl) ?_
  show Go _ p e below s _ _ _ (T220.setTop (mkF m 8 #[.val (.ref a1), .val (.int (61 : Int32)), .unset, .unset] [(.ref a1)]))
  refine go (fun _ => XS.iconst X220.here hx rfl (hb hby d3_8)) ?_
  show Go _ p e below s _ _ _ (T220.setTop (mkF m 9 #[.val (.ref a1), .val (.int (61 : Int32)), .unset, .unset] [(.int (0 : Int32)), (.ref a1)]))
  obtain ⟨cq221, kq221, q221a, q221b, q221c⟩ := isOf hZ e220 P2
  obtain ⟨_, _, ⟨T221, L221, k221, n221⟩, -, X221, ⟨Lc221, hQ221, l221, y221, z221⟩, st221⟩ := X220.virtualBack hx (y := (⟨"java/lang/String", "charAt", "(I)C"⟩ : MethodName)) (z := (⟨"java/lang/String", "charAt", "(I)C"⟩ : MethodName)) hown (mvT hZ (hw _ (List.mem_of_getElem? (i := 34) rfl))) (mvT hZ (hw _ (List.mem_of_getElem? (i := 35) rfl))) (notFace_of_selects (args := #[]) (mvT hZ (hw _ (List.mem_of_getElem? (i := 37) rfl)))) (mvT hZ (hw _ (List.mem_of_getElem? (i := 37) rfl))) (mvT hZ (hw _ (List.mem_of_getElem? (i := 36) rfl))) (by decide) (backOf (W := 0) (rm6GREATER0 l Z a0 hw [] a1 w0 f0 v1 k1 d1 h0 n0 Z0 P0 P1 P2 P3 P4 P5 hw0 hf) hZ (hw _ (List.mem_of_getElem? (i := 38) rfl)) (hw _ (List.mem_of_getElem? (i := 22) rfl)) (by decide) (by decide)) q221a q221c (g := (mkF m 9 #[.val (.ref a1), .val (.int (61 : Int32)), .unset, .unset] [(.int (0 : Int32)), (.ref a1)])) rfl (by rw [hml]; rfl) (Steps.refl _) (argsL := [(.int (0 : Int32))]) (rest := []) (lenOf pd_3_1 rfl) rfl (by show 2 * 0 + _ ≤ _; exact Nat.le_of_eq rfl) (hb hby d3_9) (fun _ _ => ⟨rfl, e220, (by decide : 0 + 0 ≤ _), (by decide : 0 + 0 ≤ _)⟩)
  dsimp only [Pt.U, Pt.locs, Pt.cells, Pt.slots] at X221 l221 y221 z221 st221 hQ221
  subst l221 y221 z221
  obtain ⟨rfl, N221q, e221⟩ := hQ221
  have N221 := Fr.app N220 N221q
  refine goT st221 ?_
  show Go _ p e below s _ _ _ (T221.setTop (mkF m 12 #[.val (.ref a1), .val (.int (61 : Int32)), .unset, .unset] [(.int (62 : Int32))]))
  refine go (fun _ => XS.iloadN X221.here hx rfl (hb hby d3_12) rfl) ?_
  show Go _ p e below s _ _ _ (T221.setTop (mkF m 13 #[.val (.ref a1), .val (.int (61 : Int32)), .unset, .unset] [(.int (61 : Int32)), (.int (62 : Int32))]))
  refine go (fun _ => XS.icmpYes X221.here hx rfl (pc0 := 13) (pc' := 20) rfl (hb hby d3_13) rfl (feq (by decide : ¬ ((62 : Int32) = (61 : Int32)))).2 (by decide) (by decide)) ?_
  show Go _ p e below s _ _ _ (T221.setTop (mkF m 20 #[.val (.ref a1), .val (.int (61 : Int32)), .unset, .unset] []))
  refine go (fun _ => XS.iconst X221.here hx rfl (hb hby d3_20)) ?_
  show Go _ p e below s _ _ _ (T221.setTop (mkF m 21 #[.val (.ref a1), .val (.int (61 : Int32)), .unset, .unset] [(.int (0 : Int32))]))
  refine go (fun _ => XS.istoreN X221.here hx rfl (hb hby d3_21) rfl (l' := #[.val (.ref a1), .val (.int (61 : Int32)), .val (.int (0 : Int32)), .unset]) rfl) ?_
  show Go _ p e below s _ _ _ (T221.setTop (mkF m 22 #[.val (.ref a1), .val (.int (61 : Int32)), .val (.int (0 : Int32)), .unset] []))
  refine go (fun _ => XS.aloadN X221.here hx rfl (hb hby d3_22) rfl rfl) ?_
  show Go _ p e below s _ _ _ (T221.setTop (mkF m 23 #[.val (.ref a1), .val (.int (61 : Int32)), .val (.int (0 : Int32)), .unset] [(.ref a1)]))
  obtain ⟨cq222, kq222, q222a, q222b, q222c⟩ := isOf hZ e221 P2
  obtain ⟨_, _, ⟨T222, L222, k222, n222⟩, -, X222, ⟨Lc222, hQ222, l222, y222, z222⟩, st222⟩ := X221.virtualBack hx (y := (⟨"java/lang/String", "length", "()I"⟩ : MethodName)) (z := (⟨"java/lang/String", "length", "()I"⟩ : MethodName)) hown (mvT hZ (hw _ (List.mem_of_getElem? (i := 18) rfl))) (mvT hZ (hw _ (List.mem_of_getElem? (i := 19) rfl))) (notFace_of_selects (args := #[]) (mvT hZ (hw _ (List.mem_of_getElem? (i := 21) rfl)))) (mvT hZ (hw _ (List.mem_of_getElem? (i := 21) rfl))) (mvT hZ (hw _ (List.mem_of_getElem? (i := 20) rfl))) (by decide) (backOf (W := 0) (rm4 l Z a0 hw [] a1 w0 v1 k1 (1 : Int32) [(.int (62 : Int32))] d1 h0 n0 Z0 P0 P2 P3 P4 P5 hw0) hZ (hw _ (List.mem_of_getElem? (i := 23) rfl)) (hw _ (List.mem_of_getElem? (i := 22) rfl)) (by decide) (by decide)) q222a q222c (g := (mkF m 23 #[.val (.ref a1), .val (.int (61 : Int32)), .val (.int (0 : Int32)), .unset] [(.ref a1)])) rfl (by rw [hml]; rfl) (Steps.refl _) (argsL := []) (rest := []) (lenOf pd_3_0 rfl) rfl (by show 2 * 0 + _ ≤ _; exact Nat.le_of_eq rfl) (hb hby d3_23) (fun _ _ => ⟨rfl, e221, (by decide : 0 + 0 ≤ _), (by decide : 0 + 0 ≤ _)⟩)
  dsimp only [Pt.U, Pt.locs, Pt.cells, Pt.slots] at X222 l222 y222 z222 st222 hQ222
  subst l222 y222 z222
  obtain ⟨rfl, N222q, e222⟩ := hQ222
  have N222 := Fr.app N221 N222q
  refine goT st222 ?_
  show Go _ p e below s _ _ _ (T222.setTop (mkF m 26 #[.val (.ref a1), .val (.int (61 : Int32)), .val (.int (0 : Int32)), .unset] [(.int (1 : Int32))]))
  refine go (fun _ => XS.iconst X222.here hx rfl (hb hby d3_26)) ?_
  show Go _ p e below s _ _ _ (T222.setTop (mkF m 27 #[.val (.ref a1), .val (.int (61 : Int32)), .val (.int (0 : Int32)), .unset] [(.int (1 : Int32)), (.int (1 : Int32))]))
  refine go (fun _ => XS.icmpYes X222.here hx rfl (pc0 := 27) (pc' := 43) rfl (hb hby d3_27) rfl (flt (by decide : ¬ ((1 : Int32) < (1 : Int32)))).2.2.2 (by decide) (by decide)) ?_
  show Go _ p e below s _ _ _ (T222.setTop (mkF m 43 #[.val (.ref a1), .val (.int (61 : Int32)), .val (.int (0 : Int32)), .unset] []))
  refine go (fun _ => XS.iconst X222.here hx rfl (hb hby d3_43)) ?_
  show Go _ p e below s _ _ _ (T222.setTop (mkF m 44 #[.val (.ref a1), .val (.int (61 : Int32)), .val (.int (0 : Int32)), .unset] [(.int (0 : Int32))]))
  refine go (fun _ => XS.istoreN X222.here hx rfl (hb hby d3_44) rfl (l' := #[.val (.ref a1), .val (.int (61 : Int32)), .val (.int (0 : Int32)), .val (.int (0 : Int32))]) rfl) ?_
  show Go _ p e below s _ _ _ (T222.setTop (mkF m 45 #[.val (.ref a1), .val (.int (61 : Int32)), .val (.int (0 : Int32)), .val (.int (0 : Int32))] []))
  refine go (fun _ => XS.iloadN X222.here hx rfl (hb hby d3_45) rfl) ?_
  show Go _ p e below s _ _ _ (T222.setTop (mkF m 46 #[.val (.ref a1), .val (.int (61 : Int32)), .val (.int (0 : Int32)), .val (.int (0 : Int32))] [(.int (0 : Int32))]))
  refine go (fun _ => XS.ifNo X222.here hx rfl (hb hby d3_46) rfl ((if0 _ _).trans (teq (rfl : (0 : Int32) = (0 : Int32))).2)) ?_
  show Go _ p e below s _ _ _ (T222.setTop (mkF m 49 #[.val (.ref a1), .val (.int (61 : Int32)), .val (.int (0 : Int32)), .val (.int (0 : Int32))] []))
  refine go (fun _ => XS.iloadN X222.here hx rfl (hb hby d3_49) rfl) ?_
  show Go _ p e below s _ _ _ (T222.setTop (mkF m 50 #[.val (.ref a1), .val (.int (61 : Int32)), .val (.int (0 : Int32)), .val (.int (0 : Int32))] [(.int (0 : Int32))]))
  refine go (fun _ => XS.ifYes X222.here hx rfl (pc0 := 50) (pc' := 57) rfl (hb hby d3_50) rfl ((if0 _ _).trans (teq (rfl : (0 : Int32) = (0 : Int32))).1) (by decide) (by decide)) ?_
  show Go _ p e below s _ _ _ (T222.setTop (mkF m 57 #[.val (.ref a1), .val (.int (61 : Int32)), .val (.int (0 : Int32)), .val (.int (0 : Int32))] []))
  refine go (fun _ => XS.iconst X222.here hx rfl (hb hby d3_57)) ?_
  show Go _ p e below s _ _ _ (T222.setTop (mkF m 58 #[.val (.ref a1), .val (.int (61 : Int32)), .val (.int (0 : Int32)), .val (.int (0 : Int32))] [(.int (0 : Int32))]))
  refine goRet X222 hx Bd.notSynchronized Bd.returns rfl (Or.inl ⟨rfl, Or.inr (Or.inl rfl), _, rfl⟩) (hb hby d3_58) (by decide) (by decide) (by rw [e222]; refine ⟨rfl, N222, rfl⟩)
theorem pn_3GREATER62 : plainName "com/example/reticule/reticule/engine/ComparisonHoldsPinLaw" = true := by first | (simp [plainName, overriddenIn]; done) | decide +kernel
theorem ef_3GREATER62 (m : MethodId) (a1 : Addr) : entryFrame m #[(.ref a1), (.int (62 : Int32))] 4 = mkF m 0 #[.val (.ref a1), .val (.int (62 : Int32)), .unset, .unset] [] := by first | (simp [entryFrame, mkF, argsToLocals, Value.category]; done) | rfl
def Q3GREATER62 (Z : State) (a1 : Addr) (w0 : Int32) (f0 : Value) (v1 : Addr) (k1 : ClassId) (d1 : Value) (h0 : Heap) (n0 : Nat) (v : Option Value) (h : Heap) (L : List Loc) : Prop := v = some (.int (1 : Int32)) ∧ Fr n0 L ∧ (h = h0)
set_option maxRecDepth 65536 in
set_option maxHeartbeats 40000000 in
theorem rm3GREATER62 (l : Launch) (Z : State) (a0 : Array Value) (hw : ∀ d ∈ tables_1, d.before a0 Z = true) (ws : List Jvm.Cond) (a1 : Addr) (w0 : Int32) (f0 : Value) (v1 : Addr) (k1 : ClassId) (d1 : Value) (h0 : Heap) (n0 : Nat) (Z0 : n0 ≤ h0.size) (P0 : Sta Z h0 "java/lang/String" "COMPACT_STRINGS" "Z" (.int w0)) (P1 : Sta Z h0 "jdk/internal/util/Preconditions" "SIOOBE_FORMATTER" "Ljava/util/function/BiFunction;" f0) (P2 : Exa Z h0 a1 "java/lang/String") (P3 : Fld Z h0 a1 "java/lang/String" "coder" "B" (.int (0 : Int32))) (P4 : Fld Z h0 a1 "java/lang/String" "value" "[B" (.ref v1)) (P5 : Arv Z h0 v1 k1 .byte (1 : Int32) [(.int (62 : Int32))] d1) (hw0 : ¬ w0 = 0) (hf : f0.isRef = true) :
    MetFree l (⟨"com/example/reticule/reticule/engine/ComparisonHoldsPinLaw", "has", "(Ljava/lang/String;C)Z"⟩ : MethodName) (head1 (Jvm.Cond.code (⟨"com/example/reticule/reticule/engine/ComparisonHoldsPinLaw", "has", "(Ljava/lang/String;C)Z"⟩ : MethodName) method_3_code 4 (some .boolean) :: ws) ({ frames := 4, cells := 0, slots := 0, locals := 53 } : Room)) (fun a U => a = #[(.ref a1), (.int (62 : Int32))] ∧ Z.Warmed39 U.vm ∧ U.heap = h0) (fun _ _ _ _ _ => True) (fun _ U o U' => ∃ v L, o = .returned v ∧ Q3GREATER62 Z a1 w0 f0 v1 k1 d1 h0 n0 v U'.heap L ∧ FrameEnd U o U' L ({ frames := 4, cells := 0, slots := 0, locals := 53 } : Room).cells ({ frames := 4, cells := 0, slots := 0, locals := 53 } : Room).slots) := by
  refine MetFree.of_bodySF (plainFor_of_name pn_3GREATER62) hisR ?_
  intro p e s m args below meth c s₁ Bd hml0 hP hK
  obtain ⟨rfl, hZ, hh⟩ := hP
  have hx := Bd.exec
  have hby := Bd.bytes
  have hml : c.maxLocals = 4 := hml0
  have hown : s.vm.findClass "com/example/reticule/reticule/engine/ComparisonHoldsPinLaw" = some m.cls := findClass_of_methodNamed Bd.named
  have hnm := (name_of_methodNamed Bd.named Bd.method).1
  have X0 : Stand p l e ({ frames := 4, cells := 0, slots := 0, locals := 53 } : Room) s m #[(.ref a1), (.int (62 : Int32))] below meth c s₁ [] 0 0 := Stand.of_body Bd
  have e0 : s₁.heap = h0 := by rw [← hh, Bd.state]; rfl
  have N0 := Fr.nil n0
  have hS0 : s.Since s.vm 0 := (State.WarmedH.refl s).since 0
  show Go FrameEnd p e below s ({ frames := 4, cells := 0, slots := 0, locals := 53 } : Room).cells ({ frames := 4, cells := 0, slots := 0, locals := 53 } : Room).slots (Q3GREATER62 Z a1 w0 f0 v1 k1 d1 h0 n0) (s₁.setTop (entryFrame m #[(.ref a1), (.int (62 : Int32))] 4))
  refine go (fun _ k => castTop (ef_3GREATER62 m a1) k) ?_
  show Go _ p e below s _ _ _ (s₁.setTop (mkF m 0 #[.val (.ref a1), .val (.int (62 : Int32)), .unset, .unset] []))
  refine go (fun _ => XS.aloadN X0.here hx rfl (hb hby d3_0) rfl rfl) ?_
  show Go _ p e below s _ _ _ (s₁.setTop (mkF m 1 #[.val (.ref a1), .val (.int (62 : Int32)), .unset, .unset] [(.ref a1)]))
  obtain ⟨cq226, kq226, q226a, q226b, q226c⟩ := isOf hZ e0 P2
  obtain ⟨_, _, ⟨T226, L226, k226, n226⟩, -, X226, ⟨Lc226, hQ226, l226, y226, z226⟩, st226⟩ := X0.virtualBack hx (y := (⟨"java/lang/String", "length", "()I"⟩ : MethodName)) (z := (⟨"java/lang/String", "length", "()I"⟩ : MethodName)) hown (mvT hZ (hw _ (List.mem_of_getElem? (i := 18) rfl))) (mvT hZ (hw _ (List.mem_of_getElem? (i := 19) rfl))) (notFace_of_selects (args := #[]) (mvT hZ (hw _ (List.mem_of_getElem? (i := 21) rfl)))) (mvT hZ (hw _ (List.mem_of_getElem? (i := 21) rfl))) (mvT hZ (hw _ (List.mem_of_getElem? (i := 20) rfl))) (by decide) (backOf (W := 0) (rm4 l Z a0 hw [] a1 w0 v1 k1 (1 : Int32) [(.int (62 : Int32))] d1 h0 n0 Z0 P0 P2 P3 P4 P5 hw0) hZ (hw _ (List.mem_of_getElem? (i := 23) rfl)) (hw _ (List.mem_of_getElem? (i := 22) rfl)) (by decide) (by decide)) q226a q226c (g := (mkF m 1 #[.val (.ref a1), .val (.int (62 : Int32)), .unset, .unset] [(.ref a1)])) rfl (by rw [hml]; rfl) (Steps.refl _) (argsL := []) (rest := []) (lenOf pd_3_0 rfl) rfl (by show 2 * 0 + _ ≤ _; exact Nat.le_of_eq rfl) (hb hby d3_1) (fun _ _ => ⟨rfl, e0, (by decide : 0 + 0 ≤ _), (by decide : 0 + 0 ≤ _)⟩)
  dsimp only [Pt.U, Pt.locs, Pt.cells, Pt.slots] at X226 l226 y226 z226 st226 hQ226
  subst l226 y226 z226
  obtain ⟨rfl, N226q, e226⟩ := hQ226
  have N226 := Fr.app N0 N226q
  refine goT st226 ?_
  show Go _ p e below s _ _ _ (T226.setTop (mkF m 4 #[.val (.ref a1), .val (.int (62 : Int32)), .unset, .unset] [(.int (1 : Int32))]))
  refine go (fun _ => XS.ifNo X226.here hx rfl (hb hby d3_4) rfl ((if0 _ _).trans (tlt (by decide : ((0 : Int32) < (1 : Int32)))).2.2.2)) ?_
  show Go _ p e below s _ _ _ (T226.setTop (mkF m 7 #[.val (.ref a1), .val (.int (62 : Int32)), .unset, .unset] []))
  refine go (fun _ => XS.aloadN X226.here hx rfl (hb hby d3_7) rfl rfl) ?_
  show Go _ p e below s _ _ _ (T226.setTop (mkF m 8 #[.val (.ref a1), .val (.int (62 : Int32)), .unset, .unset] [(.ref a1)]))
  refine go (fun _ => XS.iconst X226.here hx rfl (hb hby d3_8)) ?_
  show Go _ p e below s _ _ _ (T226.setTop (mkF m 9 #[.val (.ref a1), .val (.int (62 : Int32)), .unset, .unset] [(.int (0 : Int32)), (.ref a1)]))
  obtain ⟨cq227, kq227, q227a, q227b, q227c⟩ := isOf hZ e226 P2
  obtain ⟨_, _, ⟨T227, L227, k227, n227⟩, -, X227, ⟨Lc227, hQ227, l227, y227, z227⟩, st227⟩ := X226.virtualBack hx (y := (⟨"java/lang/String", "charAt", "(I)C"⟩ : MethodName)) (z := (⟨"java/lang/String", "charAt", "(I)C"⟩ : MethodName)) hown (mvT hZ (hw _ (List.mem_of_getElem? (i := 34) rfl))) (mvT hZ (hw _ (List.mem_of_getElem? (i := 35) rfl))) (notFace_of_selects (args := #[]) (mvT hZ (hw _ (List.mem_of_getElem? (i := 37) rfl)))) (mvT hZ (hw _ (List.mem_of_getElem? (i := 37) rfl))) (mvT hZ (hw _ (List.mem_of_getElem? (i := 36) rfl))) (by decide) (backOf (W := 0) (rm6GREATER0 l Z a0 hw [] a1 w0 f0 v1 k1 d1 h0 n0 Z0 P0 P1 P2 P3 P4 P5 hw0 hf) hZ (hw _ (List.mem_of_getElem? (i := 38) rfl)) (hw _ (List.mem_of_getElem? (i := 22) rfl)) (by decide) (by decide)) q227a q227c (g := (mkF m 9 #[.val (.ref a1), .val (.int (62 : Int32)), .unset, .unset] [(.int (0 : Int32)), (.ref a1)])) rfl (by rw [hml]; rfl) (Steps.refl _) (argsL := [(.int (0 : Int32))]) (rest := []) (lenOf pd_3_1 rfl) rfl (by show 2 * 0 + _ ≤ _; exact Nat.le_of_eq rfl) (hb hby d3_9) (fun _ _ => ⟨rfl, e226, (by decide : 0 + 0 ≤ _), (by decide : 0 + 0 ≤ _)⟩)
  dsimp only [Pt.U, Pt.locs, Pt.cells, Pt.slots] at X227 l227 y227 z227 st227 hQ227
  subst l227 y227 z227
  obtain ⟨rfl, N227q, e227⟩ := hQ227
  have N227 := Fr.app N226 N227q
  refine goT st227 ?_
  show Go _ p e below s _ _ _ (T227.setTop (mkF m 12 #[.val (.ref a1), .val (.int (62 : Int32)), .unset, .unset] [(.int (62 : Int32))]))
  refine go (fun _ => XS.iloadN X227.here hx rfl (hb hby d3_12) rfl) ?_
  show Go _ p e below s _ _ _ (T227.setTop (mkF m 13 #[.val (.ref a1), .val (.int (62 : Int32)), .unset, .unset] [(.int (62 : Int32)), (.int (62 : Int32))]))
  refine go (fun _ => XS.icmpNo X227.here hx rfl (hb hby d3_13) rfl (teq (rfl : (62 : Int32) = (62 : Int32))).2) ?_
  show Go _ p e below s _ _ _ (T227.setTop (mkF m 16 #[.val (.ref a1), .val (.int (62 : Int32)), .unset, .unset] []))
  refine go (fun _ => XS.iconst X227.here hx rfl (hb hby d3_16)) ?_
  show Go _ p e below s _ _ _ (T227.setTop (mkF m 17 #[.val (.ref a1), .val (.int (62 : Int32)), .unset, .unset] [(.int (1 : Int32))]))
  refine go (fun _ => XS.goto X227.here hx rfl (pc0 := 17) (pc' := 21) rfl (hb hby d3_17) (by decide) (by decide)) ?_
  show Go _ p e below s _ _ _ (T227.setTop (mkF m 21 #[.val (.ref a1), .val (.int (62 : Int32)), .unset, .unset] [(.int (1 : Int32))]))
  refine go (fun _ => XS.istoreN X227.here hx rfl (hb hby d3_21) rfl (l' := #[.val (.ref a1), .val (.int (62 : Int32)), .val (.int (1 : Int32)), .unset]) rfl) ?_
  show Go _ p e below s _ _ _ (T227.setTop (mkF m 22 #[.val (.ref a1), .val (.int (62 : Int32)), .val (.int (1 : Int32)), .unset] []))
  refine go (fun _ => XS.aloadN X227.here hx rfl (hb hby d3_22) rfl rfl) ?_
  show Go _ p e below s _ _ _ (T227.setTop (mkF m 23 #[.val (.ref a1), .val (.int (62 : Int32)), .val (.int (1 : Int32)), .unset] [(.ref a1)]))
  obtain ⟨cq228, kq228, q228a, q228b, q228c⟩ := isOf hZ e227 P2
  obtain ⟨_, _, ⟨T228, L228, k228, n228⟩, -, X228, ⟨Lc228, hQ228, l228, y228, z228⟩, st228⟩ := X227.virtualBack hx (y := (⟨"java/lang/String", "length", "()I"⟩ : MethodName)) (z := (⟨"java/lang/String", "length", "()I"⟩ : MethodName)) hown (mvT hZ (hw _ (List.mem_of_getElem? (i := 18) rfl))) (mvT hZ (hw _ (List.mem_of_getElem? (i := 19) rfl))) (notFace_of_selects (args := #[]) (mvT hZ (hw _ (List.mem_of_getElem? (i := 21) rfl)))) (mvT hZ (hw _ (List.mem_of_getElem? (i := 21) rfl))) (mvT hZ (hw _ (List.mem_of_getElem? (i := 20) rfl))) (by decide) (backOf (W := 0) (rm4 l Z a0 hw [] a1 w0 v1 k1 (1 : Int32) [(.int (62 : Int32))] d1 h0 n0 Z0 P0 P2 P3 P4 P5 hw0) hZ (hw _ (List.mem_of_getElem? (i := 23) rfl)) (hw _ (List.mem_of_getElem? (i := 22) rfl)) (by decide) (by decide)) q228a q228c (g := (mkF m 23 #[.val (.ref a1), .val (.int (62 : Int32)), .val (.int (1 : Int32)), .unset] [(.ref a1)])) rfl (by rw [hml]; rfl) (Steps.refl _) (argsL := []) (rest := []) (lenOf pd_3_0 rfl) rfl (by show 2 * 0 + _ ≤ _; exact Nat.le_of_eq rfl) (hb hby d3_23) (fun _ _ => ⟨rfl, e227, (by decide : 0 + 0 ≤ _), (by decide : 0 + 0 ≤ _)⟩)
  dsimp only [Pt.U, Pt.locs, Pt.cells, Pt.slots] at X228 l228 y228 z228 st228 hQ228
  subst l228 y228 z228
  obtain ⟨rfl, N228q, e228⟩ := hQ228
  have N228 := Fr.app N227 N228q
  refine goT st228 ?_
  show Go _ p e below s _ _ _ (T228.setTop (mkF m 26 #[.val (.ref a1), .val (.int (62 : Int32)), .val (.int (1 : Int32)), .unset] [(.int (1 : Int32))]))
  refine go (fun _ => XS.iconst X228.here hx rfl (hb hby d3_26)) ?_
  show Go _ p e below s _ _ _ (T228.setTop (mkF m 27 #[.val (.ref a1), .val (.int (62 : Int32)), .val (.int (1 : Int32)), .unset] [(.int (1 : Int32)), (.int (1 : Int32))]))
  refine go (fun _ => XS.icmpYes X228.here hx rfl (pc0 := 27) (pc' := 43) rfl (hb hby d3_27) rfl (flt (by decide : ¬ ((1 : Int32) < (1 : Int32)))).2.2.2 (by decide) (by decide)) ?_
  show Go _ p e below s _ _ _ (T228.setTop (mkF m 43 #[.val (.ref a1), .val (.int (62 : Int32)), .val (.int (1 : Int32)), .unset] []))
  refine go (fun _ => XS.iconst X228.here hx rfl (hb hby d3_43)) ?_
  show Go _ p e below s _ _ _ (T228.setTop (mkF m 44 #[.val (.ref a1), .val (.int (62 : Int32)), .val (.int (1 : Int32)), .unset] [(.int (0 : Int32))]))
  refine go (fun _ => XS.istoreN X228.here hx rfl (hb hby d3_44) rfl (l' := #[.val (.ref a1), .val (.int (62 : Int32)), .val (.int (1 : Int32)), .val (.int (0 : Int32))]) rfl) ?_
  show Go _ p e below s _ _ _ (T228.setTop (mkF m 45 #[.val (.ref a1), .val (.int (62 : Int32)), .val (.int (1 : Int32)), .val (.int (0 : Int32))] []))
  refine go (fun _ => XS.iloadN X228.here hx rfl (hb hby d3_45) rfl) ?_
  show Go _ p e below s _ _ _ (T228.setTop (mkF m 46 #[.val (.ref a1), .val (.int (62 : Int32)), .val (.int (1 : Int32)), .val (.int (0 : Int32))] [(.int (1 : Int32))]))
  refine go (fun _ => XS.ifYes X228.here hx rfl (pc0 := 46) (pc' := 53) rfl (hb hby d3_46) rfl ((if0 _ _).trans (feq (by decide : ¬ ((1 : Int32) = (0 : Int32)))).2) (by decide) (by decide)) ?_
  show Go _ p e below s _ _ _ (T228.setTop (mkF m 53 #[.val (.ref a1), .val (.int (62 : Int32)), .val (.int (1 : Int32)), .val (.int (0 : Int32))] []))
  refine go (fun _ => XS.iconst X228.here hx rfl (hb hby d3_53)) ?_
  show Go _ p e below s _ _ _ (T228.setTop (mkF m 54 #[.val (.ref a1), .val (.int (62 : Int32)), .val (.int (1 : Int32)), .val (.int (0 : Int32))] [(.int (1 : Int32))]))
  refine go (fun _ => XS.goto X228.here hx rfl (pc0 := 54) (pc' := 58) rfl (hb hby d3_54) (by decide) (by decide)) ?_
  show Go _ p e below s _ _ _ (T228.setTop (mkF m 58 #[.val (.ref a1), .val (.int (62 : Int32)), .val (.int (1 : Int32)), .val (.int (0 : Int32))] [(.int (1 : Int32))]))
  refine goRet X228 hx Bd.notSynchronized Bd.returns rfl (Or.inl ⟨rfl, Or.inr (Or.inl rfl), _, rfl⟩) (hb hby d3_58) (by decide) (by decide) (by rw [e228]; refine ⟨rfl, N228, rfl⟩)
theorem pn_3AT_LEAST60 : plainName "com/example/reticule/reticule/engine/ComparisonHoldsPinLaw" = true := by first | (simp [plainName, overriddenIn]; done) | decide +kernel
theorem ef_3AT_LEAST60 (m : MethodId) (a1 : Addr) : entryFrame m #[(.ref a1), (.int (60 : Int32))] 4 = mkF m 0 #[.val (.ref a1), .val (.int (60 : Int32)), .unset, .unset] [] := by first | (simp [entryFrame, mkF, argsToLocals, Value.category]; done) | rfl
def Q3AT_LEAST60 (Z : State) (a1 : Addr) (w0 : Int32) (f0 : Value) (v1 : Addr) (k1 : ClassId) (d1 : Value) (h0 : Heap) (n0 : Nat) (v : Option Value) (h : Heap) (L : List Loc) : Prop := v = some (.int (0 : Int32)) ∧ Fr n0 L ∧ (h = h0)
set_option maxRecDepth 65536 in
set_option maxHeartbeats 40000000 in
theorem rm3AT_LEAST60 (l : Launch) (Z : State) (a0 : Array Value) (hw : ∀ d ∈ tables_1, d.before a0 Z = true) (ws : List Jvm.Cond) (a1 : Addr) (w0 : Int32) (f0 : Value) (v1 : Addr) (k1 : ClassId) (d1 : Value) (h0 : Heap) (n0 : Nat) (Z0 : n0 ≤ h0.size) (P0 : Sta Z h0 "java/lang/String" "COMPACT_STRINGS" "Z" (.int w0)) (P1 : Sta Z h0 "jdk/internal/util/Preconditions" "SIOOBE_FORMATTER" "Ljava/util/function/BiFunction;" f0) (P2 : Exa Z h0 a1 "java/lang/String") (P3 : Fld Z h0 a1 "java/lang/String" "coder" "B" (.int (0 : Int32))) (P4 : Fld Z h0 a1 "java/lang/String" "value" "[B" (.ref v1)) (P5 : Arv Z h0 v1 k1 .byte (2 : Int32) [(.int (62 : Int32)), (.int (61 : Int32))] d1) (hw0 : ¬ w0 = 0) (hf : f0.isRef = true) :
    MetFree l (⟨"com/example/reticule/reticule/engine/ComparisonHoldsPinLaw", "has", "(Ljava/lang/String;C)Z"⟩ : MethodName) (head1 (Jvm.Cond.code (⟨"com/example/reticule/reticule/engine/ComparisonHoldsPinLaw", "has", "(Ljava/lang/String;C)Z"⟩ : MethodName) method_3_code 4 (some .boolean) :: ws) ({ frames := 4, cells := 0, slots := 0, locals := 53 } : Room)) (fun a U => a = #[(.ref a1), (.int (60 : Int32))] ∧ Z.Warmed39 U.vm ∧ U.heap = h0) (fun _ _ _ _ _ => True) (fun _ U o U' => ∃ v L, o = .returned v ∧ Q3AT_LEAST60 Z a1 w0 f0 v1 k1 d1 h0 n0 v U'.heap L ∧ FrameEnd U o U' L ({ frames := 4, cells := 0, slots := 0, locals := 53 } : Room).cells ({ frames := 4, cells := 0, slots := 0, locals := 53 } : Room).slots) := by
  refine MetFree.of_bodySF (plainFor_of_name pn_3AT_LEAST60) hisR ?_
  intro p e s m args below meth c s₁ Bd hml0 hP hK
  obtain ⟨rfl, hZ, hh⟩ := hP
  have hx := Bd.exec
  have hby := Bd.bytes
  have hml : c.maxLocals = 4 := hml0
  have hown : s.vm.findClass "com/example/reticule/reticule/engine/ComparisonHoldsPinLaw" = some m.cls := findClass_of_methodNamed Bd.named
  have hnm := (name_of_methodNamed Bd.named Bd.method).1
  have X0 : Stand p l e ({ frames := 4, cells := 0, slots := 0, locals := 53 } : Room) s m #[(.ref a1), (.int (60 : Int32))] below meth c s₁ [] 0 0 := Stand.of_body Bd
  have e0 : s₁.heap = h0 := by rw [← hh, Bd.state]; rfl
  have N0 := Fr.nil n0
  have hS0 : s.Since s.vm 0 := (State.WarmedH.refl s).since 0
  show Go FrameEnd p e below s ({ frames := 4, cells := 0, slots := 0, locals := 53 } : Room).cells ({ frames := 4, cells := 0, slots := 0, locals := 53 } : Room).slots (Q3AT_LEAST60 Z a1 w0 f0 v1 k1 d1 h0 n0) (s₁.setTop (entryFrame m #[(.ref a1), (.int (60 : Int32))] 4))
  refine go (fun _ k => castTop (ef_3AT_LEAST60 m a1) k) ?_
  show Go _ p e below s _ _ _ (s₁.setTop (mkF m 0 #[.val (.ref a1), .val (.int (60 : Int32)), .unset, .unset] []))
  refine go (fun _ => XS.aloadN X0.here hx rfl (hb hby d3_0) rfl rfl) ?_
  show Go _ p e below s _ _ _ (s₁.setTop (mkF m 1 #[.val (.ref a1), .val (.int (60 : Int32)), .unset, .unset] [(.ref a1)]))
  obtain ⟨cq233, kq233, q233a, q233b, q233c⟩ := isOf hZ e0 P2
  obtain ⟨_, _, ⟨T233, L233, k233, n233⟩, -, X233, ⟨Lc233, hQ233, l233, y233, z233⟩, st233⟩ := X0.virtualBack hx (y := (⟨"java/lang/String", "length", "()I"⟩ : MethodName)) (z := (⟨"java/lang/String", "length", "()I"⟩ : MethodName)) hown (mvT hZ (hw _ (List.mem_of_getElem? (i := 18) rfl))) (mvT hZ (hw _ (List.mem_of_getElem? (i := 19) rfl))) (notFace_of_selects (args := #[]) (mvT hZ (hw _ (List.mem_of_getElem? (i := 21) rfl)))) (mvT hZ (hw _ (List.mem_of_getElem? (i := 21) rfl))) (mvT hZ (hw _ (List.mem_of_getElem? (i := 20) rfl))) (by decide) (backOf (W := 0) (rm4 l Z a0 hw [] a1 w0 v1 k1 (2 : Int32) [(.int (62 : Int32)), (.int (61 : Int32))] d1 h0 n0 Z0 P0 P2 P3 P4 P5 hw0) hZ (hw _ (List.mem_of_getElem? (i := 23) rfl)) (hw _ (List.mem_of_getElem? (i := 22) rfl)) (by decide) (by decide)) q233a q233c (g := (mkF m 1 #[.val (.ref a1), .val (.int (60 : Int32)), .unset, .unset] [(.ref a1)])) rfl (by rw [hml]; rfl) (Steps.refl _) (argsL := []) (rest := []) (lenOf pd_3_0 rfl) rfl (by show 2 * 0 + _ ≤ _; exact Nat.le_of_eq rfl) (hb hby d3_1) (fun _ _ => ⟨rfl, e0, (by decide : 0 + 0 ≤ _), (by decide : 0 + 0 ≤ _)⟩)
  dsimp only [Pt.U, Pt.locs, Pt.cells, Pt.slots] at X233 l233 y233 z233 st233 hQ233
  subst l233 y233 z233
  obtain ⟨rfl, N233q, e233⟩ := hQ233
  have N233 := Fr.app N0 N233q
  refine goT st233 ?_
  show Go _ p e below s _ _ _ (T233.setTop (mkF m 4 #[.val (.ref a1), .val (.int (60 : Int32)), .unset, .unset] [(.int (2 : Int32))]))
  refine go (fun _ => XS.ifNo X233.here hx rfl (hb hby d3_4) rfl ((if0 _ _).trans (tlt (by decide : ((0 : Int32) < (2 : Int32)))).2.2.2)) ?_
  show Go _ p e below s _ _ _ (T233.setTop (mkF m 7 #[.val (.ref a1), .val (.int (60 : Int32)), .unset, .unset] []))
  refine go (fun _ => XS.aloadN X233.here hx rfl (hb hby d3_7) rfl rfl) ?_
  show Go _ p e below s _ _ _ (T233.setTop (mkF m 8 #[.val (.ref a1), .val (.int (60 : Int32)), .unset, .unset] [(.ref a1)]))
  refine go (fun _ => XS.iconst X233.here hx rfl (hb hby d3_8)) ?_
  show Go _ p e below s _ _ _ (T233.setTop (mkF m 9 #[.val (.ref a1), .val (.int (60 : Int32)), .unset, .unset] [(.int (0 : Int32)), (.ref a1)]))
  obtain ⟨cq234, kq234, q234a, q234b, q234c⟩ := isOf hZ e233 P2
  obtain ⟨_, _, ⟨T234, L234, k234, n234⟩, -, X234, ⟨Lc234, hQ234, l234, y234, z234⟩, st234⟩ := X233.virtualBack hx (y := (⟨"java/lang/String", "charAt", "(I)C"⟩ : MethodName)) (z := (⟨"java/lang/String", "charAt", "(I)C"⟩ : MethodName)) hown (mvT hZ (hw _ (List.mem_of_getElem? (i := 34) rfl))) (mvT hZ (hw _ (List.mem_of_getElem? (i := 35) rfl))) (notFace_of_selects (args := #[]) (mvT hZ (hw _ (List.mem_of_getElem? (i := 37) rfl)))) (mvT hZ (hw _ (List.mem_of_getElem? (i := 37) rfl))) (mvT hZ (hw _ (List.mem_of_getElem? (i := 36) rfl))) (by decide) (backOf (W := 0) (rm6AT_LEAST0 l Z a0 hw [] a1 w0 f0 v1 k1 d1 h0 n0 Z0 P0 P1 P2 P3 P4 P5 hw0 hf) hZ (hw _ (List.mem_of_getElem? (i := 38) rfl)) (hw _ (List.mem_of_getElem? (i := 22) rfl)) (by decide) (by decide)) q234a q234c (g := (mkF m 9 #[.val (.ref a1), .val (.int (60 : Int32)), .unset, .unset] [(.int (0 : Int32)), (.ref a1)])) rfl (by rw [hml]; rfl) (Steps.refl _) (argsL := [(.int (0 : Int32))]) (rest := []) (lenOf pd_3_1 rfl) rfl (by show 2 * 0 + _ ≤ _; exact Nat.le_of_eq rfl) (hb hby d3_9) (fun _ _ => ⟨rfl, e233, (by decide : 0 + 0 ≤ _), (by decide : 0 + 0 ≤ _)⟩)
  dsimp only [Pt.U, Pt.locs, Pt.cells, Pt.slots] at X234 l234 y234 z234 st234 hQ234
  subst l234 y234 z234
  obtain ⟨rfl, N234q, e234⟩ := hQ234
  have N234 := Fr.app N233 N234q
  refine goT st234 ?_
  show Go _ p e below s _ _ _ (T234.setTop (mkF m 12 #[.val (.ref a1), .val (.int (60 : Int32)), .unset, .unset] [(.int (62 : Int32))]))
  refine go (fun _ => XS.iloadN X234.here hx rfl (hb hby d3_12) rfl) ?_
  show Go _ p e below s _ _ _ (T234.setTop (mkF m 13 #[.val (.ref a1), .val (.int (60 : Int32)), .unset, .unset] [(.int (60 : Int32)), (.int (62 : Int32))]))
  refine go (fun _ => XS.icmpYes X234.here hx rfl (pc0 := 13) (pc' := 20) rfl (hb hby d3_13) rfl (feq (by decide : ¬ ((62 : Int32) = (60 : Int32)))).2 (by decide) (by decide)) ?_
  show Go _ p e below s _ _ _ (T234.setTop (mkF m 20 #[.val (.ref a1), .val (.int (60 : Int32)), .unset, .unset] []))
  refine go (fun _ => XS.iconst X234.here hx rfl (hb hby d3_20)) ?_
  show Go _ p e below s _ _ _ (T234.setTop (mkF m 21 #[.val (.ref a1), .val (.int (60 : Int32)), .unset, .unset] [(.int (0 : Int32))]))
  refine go (fun _ => XS.istoreN X234.here hx rfl (hb hby d3_21) rfl (l' := #[.val (.ref a1), .val (.int (60 : Int32)), .val (.int (0 : Int32)), .unset]) rfl) ?_
  show Go _ p e below s _ _ _ (T234.setTop (mkF m 22 #[.val (.ref a1), .val (.int (60 : Int32)), .val (.int (0 : Int32)), .unset] []))
  refine go (fun _ => XS.aloadN X234.here hx rfl (hb hby d3_22) rfl rfl) ?_
  show Go _ p e below s _ _ _ (T234.setTop (mkF m 23 #[.val (.ref a1), .val (.int (60 : Int32)), .val (.int (0 : Int32)), .unset] [(.ref a1)]))
  obtain ⟨cq235, kq235, q235a, q235b, q235c⟩ := isOf hZ e234 P2
  obtain ⟨_, _, ⟨T235, L235, k235, n235⟩, -, X235, ⟨Lc235, hQ235, l235, y235, z235⟩, st235⟩ := X234.virtualBack hx (y := (⟨"java/lang/String", "length", "()I"⟩ : MethodName)) (z := (⟨"java/lang/String", "length", "()I"⟩ : MethodName)) hown (mvT hZ (hw _ (List.mem_of_getElem? (i := 18) rfl))) (mvT hZ (hw _ (List.mem_of_getElem? (i := 19) rfl))) (notFace_of_selects (args := #[]) (mvT hZ (hw _ (List.mem_of_getElem? (i := 21) rfl)))) (mvT hZ (hw _ (List.mem_of_getElem? (i := 21) rfl))) (mvT hZ (hw _ (List.mem_of_getElem? (i := 20) rfl))) (by decide) (backOf (W := 0) (rm4 l Z a0 hw [] a1 w0 v1 k1 (2 : Int32) [(.int (62 : Int32)), (.int (61 : Int32))] d1 h0 n0 Z0 P0 P2 P3 P4 P5 hw0) hZ (hw _ (List.mem_of_getElem? (i := 23) rfl)) (hw _ (List.mem_of_getElem? (i := 22) rfl)) (by decide) (by decide)) q235a q235c (g := (mkF m 23 #[.val (.ref a1), .val (.int (60 : Int32)), .val (.int (0 : Int32)), .unset] [(.ref a1)])) rfl (by rw [hml]; rfl) (Steps.refl _) (argsL := []) (rest := []) (lenOf pd_3_0 rfl) rfl (by show 2 * 0 + _ ≤ _; exact Nat.le_of_eq rfl) (hb hby d3_23) (fun _ _ => ⟨rfl, e234, (by decide : 0 + 0 ≤ _), (by decide : 0 + 0 ≤ _)⟩)
  dsimp only [Pt.U, Pt.locs, Pt.cells, Pt.slots] at X235 l235 y235 z235 st235 hQ235
  subst l235 y235 z235
  obtain ⟨rfl, N235q, e235⟩ := hQ235
  have N235 := Fr.app N234 N235q
  refine goT st235 ?_
  show Go _ p e below s _ _ _ (T235.setTop (mkF m 26 #[.val (.ref a1), .val (.int (60 : Int32)), .val (.int (0 : Int32)), .unset] [(.int (2 : Int32))]))
  refine go (fun _ => XS.iconst X235.here hx rfl (hb hby d3_26)) ?_
  show Go _ p e below s _ _ _ (T235.setTop (mkF m 27 #[.val (.ref a1), .val (.int (60 : Int32)), .val (.int (0 : Int32)), .unset] [(.int (1 : Int32)), (.int (2 : Int32))]))
  refine go (fun _ => XS.icmpNo X235.here hx rfl (hb hby d3_27) rfl (tlt (by decide : ((1 : Int32) < (2 : Int32)))).2.2.2) ?_
  show Go _ p e below s _ _ _ (T235.setTop (mkF m 30 #[.val (.ref a1), .val (.int (60 : Int32)), .val (.int (0 : Int32)), .unset] []))
  refine go (fun _ => XS.aloadN X235.here hx rfl (hb hby d3_30) rfl rfl) ?_
  show Go _ p e below s _ _ _ (T235.setTop (mkF m 31 #[.val (.ref a1), .val (.int (60 : Int32)), .val (.int (0 : Int32)), .unset] [(.ref a1)]))
  refine go (fun _ => XS.iconst X235.here hx rfl (hb hby d3_31)) ?_
  show Go _ p e below s _ _ _ (T235.setTop (mkF m 32 #[.val (.ref a1), .val (.int (60 : Int32)), .val (.int (0 : Int32)), .unset] [(.int (1 : Int32)), (.ref a1)]))
  obtain ⟨cq236, kq236, q236a, q236b, q236c⟩ := isOf hZ e235 P2
  obtain ⟨_, _, ⟨T236, L236, k236, n236⟩, -, X236, ⟨Lc236, hQ236, l236, y236, z236⟩, st236⟩ := X235.virtualBack hx (y := (⟨"java/lang/String", "charAt", "(I)C"⟩ : MethodName)) (z := (⟨"java/lang/String", "charAt", "(I)C"⟩ : MethodName)) hown (mvT hZ (hw _ (List.mem_of_getElem? (i := 34) rfl))) (mvT hZ (hw _ (List.mem_of_getElem? (i := 35) rfl))) (notFace_of_selects (args := #[]) (mvT hZ (hw _ (List.mem_of_getElem? (i := 37) rfl)))) (mvT hZ (hw _ (List.mem_of_getElem? (i := 37) rfl))) (mvT hZ (hw _ (List.mem_of_getElem? (i := 36) rfl))) (by decide) (backOf (W := 0) (rm6AT_LEAST1 l Z a0 hw [] a1 w0 f0 v1 k1 d1 h0 n0 Z0 P0 P1 P2 P3 P4 P5 hw0 hf) hZ (hw _ (List.mem_of_getElem? (i := 38) rfl)) (hw _ (List.mem_of_getElem? (i := 22) rfl)) (by decide) (by decide)) q236a q236c (g := (mkF m 32 #[.val (.ref a1), .val (.int (60 : Int32)), .val (.int (0 : Int32)), .unset] [(.int (1 : Int32)), (.ref a1)])) rfl (by rw [hml]; rfl) (Steps.refl _) (argsL := [(.int (1 : Int32))]) (rest := []) (lenOf pd_3_1 rfl) rfl (by show 2 * 0 + _ ≤ _; exact Nat.le_of_eq rfl) (hb hby d3_32) (fun _ _ => ⟨rfl, e235, (by decide : 0 + 0 ≤ _), (by decide : 0 + 0 ≤ _)⟩)
  dsimp only [Pt.U, Pt.locs, Pt.cells, Pt.slots] at X236 l236 y236 z236 st236 hQ236
  subst l236 y236 z236
  obtain ⟨rfl, N236q, e236⟩ := hQ236
  have N236 := Fr.app N235 N236q
  refine goT st236 ?_
  show Go _ p e below s _ _ _ (T236.setTop (mkF m 35 #[.val (.ref a1), .val (.int (60 : Int32)), .val (.int (0 : Int32)), .unset] [(.int (61 : Int32))]))
  refine go (fun _ => XS.iloadN X236.here hx rfl (hb hby d3_35) rfl) ?_
  show Go _ p e below s _ _ _ (T236.setTop (mkF m 36 #[.val (.ref a1), .val (.int (60 : Int32)), .val (.int (0 : Int32)), .unset] [(.int (60 : Int32)), (.int (61 : Int32))]))
  refine go (fun _ => XS.icmpYes X236.here hx rfl (pc0 := 36) (pc' := 43) rfl (hb hby d3_36) rfl (feq (by decide : ¬ ((61 : Int32) = (60 : Int32)))).2 (by decide) (by decide)) ?_
  show Go _ p e below s _ _ _ (T236.setTop (mkF m 43 #[.val (.ref a1), .val (.int (60 : Int32)), .val (.int (0 : Int32)), .unset] []))
  refine go (fun _ => XS.iconst X236.here hx rfl (hb hby d3_43)) ?_
  show Go _ p e below s _ _ _ (T236.setTop (mkF m 44 #[.val (.ref a1), .val (.int (60 : Int32)), .val (.int (0 : Int32)), .unset] [(.int (0 : Int32))]))
  refine go (fun _ => XS.istoreN X236.here hx rfl (hb hby d3_44) rfl (l' := #[.val (.ref a1), .val (.int (60 : Int32)), .val (.int (0 : Int32)), .val (.int (0 : Int32))]) rfl) ?_
  show Go _ p e below s _ _ _ (T236.setTop (mkF m 45 #[.val (.ref a1), .val (.int (60 : Int32)), .val (.int (0 : Int32)), .val (.int (0 : Int32))] []))
  refine go (fun _ => XS.iloadN X236.here hx rfl (hb hby d3_45) rfl) ?_
  show Go _ p e below s _ _ _ (T236.setTop (mkF m 46 #[.val (.ref a1), .val (.int (60 : Int32)), .val (.int (0 : Int32)), .val (.int (0 : Int32))] [(.int (0 : Int32))]))
  refine go (fun _ => XS.ifNo X236.here hx rfl (hb hby d3_46) rfl ((if0 _ _).trans (teq (rfl : (0 : Int32) = (0 : Int32))).2)) ?_
  show Go _ p e below s _ _ _ (T236.setTop (mkF m 49 #[.val (.ref a1), .val (.int (60 : Int32)), .val (.int (0 : Int32)), .val (.int (0 : Int32))] []))
  refine go (fun _ => XS.iloadN X236.here hx rfl (hb hby d3_49) rfl) ?_
  show Go _ p e below s _ _ _ (T236.setTop (mkF m 50 #[.val (.ref a1), .val (.int (60 : Int32)), .val (.int (0 : Int32)), .val (.int (0 : Int32))] [(.int (0 : Int32))]))
  refine go (fun _ => XS.ifYes X236.here hx rfl (pc0 := 50) (pc' := 57) rfl (hb hby d3_50) rfl ((if0 _ _).trans (teq (rfl : (0 : Int32) = (0 : Int32))).1) (by decide) (by decide)) ?_
  show Go _ p e below s _ _ _ (T236.setTop (mkF m 57 #[.val (.ref a1), .val (.int (60 : Int32)), .val (.int (0 : Int32)), .val (.int (0 : Int32))] []))
  refine go (fun _ => XS.iconst X236.here hx rfl (hb hby d3_57)) ?_
  show Go _ p e below s _ _ _ (T236.setTop (mkF m 58 #[.val (.ref a1), .val (.int (60 : Int32)), .val (.int (0 : Int32)), .val (.int (0 : Int32))] [(.int (0 : Int32))]))
  refine goRet X236 hx Bd.notSynchronized Bd.returns rfl (Or.inl ⟨rfl, Or.inr (Or.inl rfl), _, rfl⟩) (hb hby d3_58) (by decide) (by decide) (by rw [e236]; refine ⟨rfl, N236, rfl⟩)
theorem pn_3AT_LEAST61 : plainName "com/example/reticule/reticule/engine/ComparisonHoldsPinLaw" = true := by first | (simp [plainName, overriddenIn]; done) | decide +kernel
theorem ef_3AT_LEAST61 (m : MethodId) (a1 : Addr) : entryFrame m #[(.ref a1), (.int (61 : Int32))] 4 = mkF m 0 #[.val (.ref a1), .val (.int (61 : Int32)), .unset, .unset] [] := by first | (simp [entryFrame, mkF, argsToLocals, Value.category]; done) | rfl
def Q3AT_LEAST61 (Z : State) (a1 : Addr) (w0 : Int32) (f0 : Value) (v1 : Addr) (k1 : ClassId) (d1 : Value) (h0 : Heap) (n0 : Nat) (v : Option Value) (h : Heap) (L : List Loc) : Prop := v = some (.int (1 : Int32)) ∧ Fr n0 L ∧ (h = h0)
set_option maxRecDepth 65536 in
set_option maxHeartbeats 40000000 in
theorem rm3AT_LEAST61 (l : Launch) (Z : State) (a0 : Array Value) (hw : ∀ d ∈ tables_1, d.before a0 Z = true) (ws : List Jvm.Cond) (a1 : Addr) (w0 : Int32) (f0 : Value) (v1 : Addr) (k1 : ClassId) (d1 : Value) (h0 : Heap) (n0 : Nat) (Z0 : n0 ≤ h0.size) (P0 : Sta Z h0 "java/lang/String" "COMPACT_STRINGS" "Z" (.int w0)) (P1 : Sta Z h0 "jdk/internal/util/Preconditions" "SIOOBE_FORMATTER" "Ljava/util/function/BiFunction;" f0) (P2 : Exa Z h0 a1 "java/lang/String") (P3 : Fld Z h0 a1 "java/lang/String" "coder" "B" (.int (0 : Int32))) (P4 : Fld Z h0 a1 "java/lang/String" "value" "[B" (.ref v1)) (P5 : Arv Z h0 v1 k1 .byte (2 : Int32) [(.int (62 : Int32)), (.int (61 : Int32))] d1) (hw0 : ¬ w0 = 0) (hf : f0.isRef = true) :
    MetFree l (⟨"com/example/reticule/reticule/engine/ComparisonHoldsPinLaw", "has", "(Ljava/lang/String;C)Z"⟩ : MethodName) (head1 (Jvm.Cond.code (⟨"com/example/reticule/reticule/engine/ComparisonHoldsPinLaw", "has", "(Ljava/lang/String;C)Z"⟩ : MethodName) method_3_code 4 (some .boolean) :: ws) ({ frames := 4, cells := 0, slots := 0, locals := 53 } : Room)) (fun a U => a = #[(.ref a1), (.int (61 : Int32))] ∧ Z.Warmed39 U.vm ∧ U.heap = h0) (fun _ _ _ _ _ => True) (fun _ U o U' => ∃ v L, o = .returned v ∧ Q3AT_LEAST61 Z a1 w0 f0 v1 k1 d1 h0 n0 v U'.heap L ∧ FrameEnd U o U' L ({ frames := 4, cells := 0, slots := 0, locals := 53 } : Room).cells ({ frames := 4, cells := 0, slots := 0, locals := 53 } : Room).slots) := by
  refine MetFree.of_bodySF (plainFor_of_name pn_3AT_LEAST61) hisR ?_
  intro p e s m args below meth c s₁ Bd hml0 hP hK
  obtain ⟨rfl, hZ, hh⟩ := hP
  have hx := Bd.exec
  have hby := Bd.bytes
  have hml : c.maxLocals = 4 := hml0
  have hown : s.vm.findClass "com/example/reticule/reticule/engine/ComparisonHoldsPinLaw" = some m.cls := findClass_of_methodNamed Bd.named
  have hnm := (name_of_methodNamed Bd.named Bd.method).1
  have X0 : Stand p l e ({ frames := 4, cells := 0, slots := 0, locals := 53 } : Room) s m #[(.ref a1), (.int (61 : Int32))] below meth c s₁ [] 0 0 := Stand.of_body Bd
  have e0 : s₁.heap = h0 := by rw [← hh, Bd.state]; rfl
  have N0 := Fr.nil n0
  have hS0 : s.Since s.vm 0 := (State.WarmedH.refl s).since 0
  show Go FrameEnd p e below s ({ frames := 4, cells := 0, slots := 0, locals := 53 } : Room).cells ({ frames := 4, cells := 0, slots := 0, locals := 53 } : Room).slots (Q3AT_LEAST61 Z a1 w0 f0 v1 k1 d1 h0 n0) (s₁.setTop (entryFrame m #[(.ref a1), (.int (61 : Int32))] 4))
  refine go (fun _ k => castTop (ef_3AT_LEAST61 m a1) k) ?_
  show Go _ p e below s _ _ _ (s₁.setTop (mkF m 0 #[.val (.ref a1), .val (.int (61 : Int32)), .unset, .unset] []))
  refine go (fun _ => XS.aloadN X0.here hx rfl (hb hby d3_0) rfl rfl) ?_
  show Go _ p e below s _ _ _ (s₁.setTop (mkF m 1 #[.val (.ref a1), .val (.int (61 : Int32)), .unset, .unset] [(.ref a1)]))
  obtain ⟨cq241, kq241, q241a, q241b, q241c⟩ := isOf hZ e0 P2
  obtain ⟨_, _, ⟨T241, L241, k241, n241⟩, -, X241, ⟨Lc241, hQ241, l241, y241, z241⟩, st241⟩ := X0.virtualBack hx (y := (⟨"java/lang/String", "length", "()I"⟩ : MethodName)) (z := (⟨"java/lang/String", "length", "()I"⟩ : MethodName)) hown (mvT hZ (hw _ (List.mem_of_getElem? (i := 18) rfl))) (mvT hZ (hw _ (List.mem_of_getElem? (i := 19) rfl))) (notFace_of_selects (args := #[]) (mvT hZ (hw _ (List.mem_of_getElem? (i := 21) rfl)))) (mvT hZ (hw _ (List.mem_of_getElem? (i := 21) rfl))) (mvT hZ (hw _ (List.mem_of_getElem? (i := 20) rfl))) (by decide) (backOf (W := 0) (rm4 l Z a0 hw [] a1 w0 v1 k1 (2 : Int32) [(.int (62 : Int32)), (.int (61 : Int32))] d1 h0 n0 Z0 P0 P2 P3 P4 P5 hw0) hZ (hw _ (List.mem_of_getElem? (i := 23) rfl)) (hw _ (List.mem_of_getElem? (i := 22) rfl)) (by decide) (by decide)) q241a q241c (g := (mkF m 1 #[.val (.ref a1), .val (.int (61 : Int32)), .unset, .unset] [(.ref a1)])) rfl (by rw [hml]; rfl) (Steps.refl _) (argsL := []) (rest := []) (lenOf pd_3_0 rfl) rfl (by show 2 * 0 + _ ≤ _; exact Nat.le_of_eq rfl) (hb hby d3_1) (fun _ _ => ⟨rfl, e0, (by decide : 0 + 0 ≤ _), (by decide : 0 + 0 ≤ _)⟩)
  dsimp only [Pt.U, Pt.locs, Pt.cells, Pt.slots] at X241 l241 y241 z241 st241 hQ241
  subst l241 y241 z241
  obtain ⟨rfl, N241q, e241⟩ := hQ241
  have N241 := Fr.app N0 N241q
  refine goT st241 ?_
  show Go _ p e below s _ _ _ (T241.setTop (mkF m 4 #[.val (.ref a1), .val (.int (61 : Int32)), .unset, .unset] [(.int (2 : Int32))]))
  refine go (fun _ => XS.ifNo X241.here hx rfl (hb hby d3_4) rfl ((if0 _ _).trans (tlt (by decide : ((0 : Int32) < (2 : Int32)))).2.2.2)) ?_
  show Go _ p e below s _ _ _ (T241.setTop (mkF m 7 #[.val (.ref a1), .val (.int (61 : Int32)), .unset, .unset] []))
  refine go (fun _ => XS.aloadN X241.here hx rfl (hb hby d3_7) rfl rfl) ?_
  show Go _ p e below s _ _ _ (T241.setTop (mkF m 8 #[.val (.ref a1), .val (.int (61 : Int32)), .unset, .unset] [(.ref a1)]))
  refine go (fun _ => XS.iconst X241.here hx rfl (hb hby d3_8)) ?_
  show Go _ p e below s _ _ _ (T241.setTop (mkF m 9 #[.val (.ref a1), .val (.int (61 : Int32)), .unset, .unset] [(.int (0 : Int32)), (.ref a1)]))
  obtain ⟨cq242, kq242, q242a, q242b, q242c⟩ := isOf hZ e241 P2
  obtain ⟨_, _, ⟨T242, L242, k242, n242⟩, -, X242, ⟨Lc242, hQ242, l242, y242, z242⟩, st242⟩ := X241.virtualBack hx (y := (⟨"java/lang/String", "charAt", "(I)C"⟩ : MethodName)) (z := (⟨"java/lang/String", "charAt", "(I)C"⟩ : MethodName)) hown (mvT hZ (hw _ (List.mem_of_getElem? (i := 34) rfl))) (mvT hZ (hw _ (List.mem_of_getElem? (i := 35) rfl))) (notFace_of_selects (args := #[]) (mvT hZ (hw _ (List.mem_of_getElem? (i := 37) rfl)))) (mvT hZ (hw _ (List.mem_of_getElem? (i := 37) rfl))) (mvT hZ (hw _ (List.mem_of_getElem? (i := 36) rfl))) (by decide) (backOf (W := 0) (rm6AT_LEAST0 l Z a0 hw [] a1 w0 f0 v1 k1 d1 h0 n0 Z0 P0 P1 P2 P3 P4 P5 hw0 hf) hZ (hw _ (List.mem_of_getElem? (i := 38) rfl)) (hw _ (List.mem_of_getElem? (i := 22) rfl)) (by decide) (by decide)) q242a q242c (g := (mkF m 9 #[.val (.ref a1), .val (.int (61 : Int32)), .unset, .unset] [(.int (0 : Int32)), (.ref a1)])) rfl (by rw [hml]; rfl) (Steps.refl _) (argsL := [(.int (0 : Int32))]) (rest := []) (lenOf pd_3_1 rfl) rfl (by show 2 * 0 + _ ≤ _; exact Nat.le_of_eq rfl) (hb hby d3_9) (fun _ _ => ⟨rfl, e241, (by decide : 0 + 0 ≤ _), (by decide : 0 + 0 ≤ _)⟩)
  dsimp only [Pt.U, Pt.locs, Pt.cells, Pt.slots] at X242 l242 y242 z242 st242 hQ242
  subst l242 y242 z242
  obtain ⟨rfl, N242q, e242⟩ := hQ242
  have N242 := Fr.app N241 N242q
  refine goT st242 ?_
  show Go _ p e below s _ _ _ (T242.setTop (mkF m 12 #[.val (.ref a1), .val (.int (61 : Int32)), .unset, .unset] [(.int (62 : Int32))]))
  refine go (fun _ => XS.iloadN X242.here hx rfl (hb hby d3_12) rfl) ?_
  show Go _ p e below s _ _ _ (T242.setTop (mkF m 13 #[.val (.ref a1), .val (.int (61 : Int32)), .unset, .unset] [(.int (61 : Int32)), (.int (62 : Int32))]))
  refine go (fun _ => XS.icmpYes X242.here hx rfl (pc0 := 13) (pc' := 20) rfl (hb hby d3_13) rfl (feq (by decide : ¬ ((62 : Int32) = (61 : Int32)))).2 (by decide) (by decide)) ?_
  show Go _ p e below s _ _ _ (T242.setTop (mkF m 20 #[.val (.ref a1), .val (.int (61 : Int32)), .unset, .unset] []))
  refine go (fun _ => XS.iconst X242.here hx rfl (hb hby d3_20)) ?_
  show Go _ p e below s _ _ _ (T242.setTop (mkF m 21 #[.val (.ref a1), .val (.int (61 : Int32)), .unset, .unset] [(.int (0 : Int32))]))
  refine go (fun _ => XS.istoreN X242.here hx rfl (hb hby d3_21) rfl (l' := #[.val (.ref a1), .val (.int (61 : Int32)), .val (.int (0 : Int32)), .unset]) rfl) ?_
  show Go _ p e below s _ _ _ (T242.setTop (mkF m 22 #[.val (.ref a1), .val (.int (61 : Int32)), .val (.int (0 : Int32)), .unset] []))
  refine go (fun _ => XS.aloadN X242.here hx rfl (hb hby d3_22) rfl rfl) ?_
  show Go _ p e below s _ _ _ (T242.setTop (mkF m 23 #[.val (.ref a1), .val (.int (61 : Int32)), .val (.int (0 : Int32)), .unset] [(.ref a1)]))
  obtain ⟨cq243, kq243, q243a, q243b, q243c⟩ := isOf hZ e242 P2
  obtain ⟨_, _, ⟨T243, L243, k243, n243⟩, -, X243, ⟨Lc243, hQ243, l243, y243, z243⟩, st243⟩ := X242.virtualBack hx (y := (⟨"java/lang/String", "length", "()I"⟩ : MethodName)) (z := (⟨"java/lang/String", "length", "()I"⟩ : MethodName)) hown (mvT hZ (hw _ (List.mem_of_getElem? (i := 18) rfl))) (mvT hZ (hw _ (List.mem_of_getElem? (i := 19) rfl))) (notFace_of_selects (args := #[]) (mvT hZ (hw _ (List.mem_of_getElem? (i := 21) rfl)))) (mvT hZ (hw _ (List.mem_of_getElem? (i := 21) rfl))) (mvT hZ (hw _ (List.mem_of_getElem? (i := 20) rfl))) (by decide) (backOf (W := 0) (rm4 l Z a0 hw [] a1 w0 v1 k1 (2 : Int32) [(.int (62 : Int32)), (.int (61 : Int32))] d1 h0 n0 Z0 P0 P2 P3 P4 P5 hw0) hZ (hw _ (List.mem_of_getElem? (i := 23) rfl)) (hw _ (List.mem_of_getElem? (i := 22) rfl)) (by decide) (by decide)) q243a q243c (g := (mkF m 23 #[.val (.ref a1), .val (.int (61 : Int32)), .val (.int (0 : Int32)), .unset] [(.ref a1)])) rfl (by rw [hml]; rfl) (Steps.refl _) (argsL := []) (rest := []) (lenOf pd_3_0 rfl) rfl (by show 2 * 0 + _ ≤ _; exact Nat.le_of_eq rfl) (hb hby d3_23) (fun _ _ => ⟨rfl, e242, (by decide : 0 + 0 ≤ _), (by decide : 0 + 0 ≤ _)⟩)
  dsimp only [Pt.U, Pt.locs, Pt.cells, Pt.slots] at X243 l243 y243 z243 st243 hQ243
  subst l243 y243 z243
  obtain ⟨rfl, N243q, e243⟩ := hQ243
  have N243 := Fr.app N242 N243q
  refine goT st243 ?_
  show Go _ p e below s _ _ _ (T243.setTop (mkF m 26 #[.val (.ref a1), .val (.int (61 : Int32)), .val (.int (0 : Int32)), .unset] [(.int (2 : Int32))]))
  refine go (fun _ => XS.iconst X243.here hx rfl (hb hby d3_26)) ?_
  show Go _ p e below s _ _ _ (T243.setTop (mkF m 27 #[.val (.ref a1), .val (.int (61 : Int32)), .val (.int (0 : Int32)), .unset] [(.int (1 : Int32)), (.int (2 : Int32))]))
  refine go (fun _ => XS.icmpNo X243.here hx rfl (hb hby d3_27) rfl (tlt (by decide : ((1 : Int32) < (2 : Int32)))).2.2.2) ?_
  show Go _ p e below s _ _ _ (T243.setTop (mkF m 30 #[.val (.ref a1), .val (.int (61 : Int32)), .val (.int (0 : Int32)), .unset] []))
  refine go (fun _ => XS.aloadN X243.here hx rfl (hb hby d3_30) rfl rfl) ?_
  show Go _ p e below s _ _ _ (T243.setTop (mkF m 31 #[.val (.ref a1), .val (.int (61 : Int32)), .val (.int (0 : Int32)), .unset] [(.ref a1)]))
  refine go (fun _ => XS.iconst X243.here hx rfl (hb hby d3_31)) ?_
  show Go _ p e below s _ _ _ (T243.setTop (mkF m 32 #[.val (.ref a1), .val (.int (61 : Int32)), .val (.int (0 : Int32)), .unset] [(.int (1 : Int32)), (.ref a1)]))
  obtain ⟨cq244, kq244, q244a, q244b, q244c⟩ := isOf hZ e243 P2
  obtain ⟨_, _, ⟨T244, L244, k244, n244⟩, -, X244, ⟨Lc244, hQ244, l244, y244, z244⟩, st244⟩ := X243.virtualBack hx (y := (⟨"java/lang/String", "charAt", "(I)C"⟩ : MethodName)) (z := (⟨"java/lang/String", "charAt", "(I)C"⟩ : MethodName)) hown (mvT hZ (hw _ (List.mem_of_getElem? (i := 34) rfl))) (mvT hZ (hw _ (List.mem_of_getElem? (i := 35) rfl))) (notFace_of_selects (args := #[]) (mvT hZ (hw _ (List.mem_of_getElem? (i := 37) rfl)))) (mvT hZ (hw _ (List.mem_of_getElem? (i := 37) rfl))) (mvT hZ (hw _ (List.mem_of_getElem? (i := 36) rfl))) (by decide) (backOf (W := 0) (rm6AT_LEAST1 l Z a0 hw [] a1 w0 f0 v1 k1 d1 h0 n0 Z0 P0 P1 P2 P3 P4 P5 hw0 hf) hZ (hw _ (List.mem_of_getElem? (i := 38) rfl)) (hw _ (List.mem_of_getElem? (i := 22) rfl)) (by decide) (by decide)) q244a q244c (g := (mkF m 32 #[.val (.ref a1), .val (.int (61 : Int32)), .val (.int (0 : Int32)), .unset] [(.int (1 : Int32)), (.ref a1)])) rfl (by rw [hml]; rfl) (Steps.refl _) (argsL := [(.int (1 : Int32))]) (rest := []) (lenOf pd_3_1 rfl) rfl (by show 2 * 0 + _ ≤ _; exact Nat.le_of_eq rfl) (hb hby d3_32) (fun _ _ => ⟨rfl, e243, (by decide : 0 + 0 ≤ _), (by decide : 0 + 0 ≤ _)⟩)
  dsimp only [Pt.U, Pt.locs, Pt.cells, Pt.slots] at X244 l244 y244 z244 st244 hQ244
  subst l244 y244 z244
  obtain ⟨rfl, N244q, e244⟩ := hQ244
  have N244 := Fr.app N243 N244q
  refine goT st244 ?_
  show Go _ p e below s _ _ _ (T244.setTop (mkF m 35 #[.val (.ref a1), .val (.int (61 : Int32)), .val (.int (0 : Int32)), .unset] [(.int (61 : Int32))]))
  refine go (fun _ => XS.iloadN X244.here hx rfl (hb hby d3_35) rfl) ?_
  show Go _ p e below s _ _ _ (T244.setTop (mkF m 36 #[.val (.ref a1), .val (.int (61 : Int32)), .val (.int (0 : Int32)), .unset] [(.int (61 : Int32)), (.int (61 : Int32))]))
  refine go (fun _ => XS.icmpNo X244.here hx rfl (hb hby d3_36) rfl (teq (rfl : (61 : Int32) = (61 : Int32))).2) ?_
  show Go _ p e below s _ _ _ (T244.setTop (mkF m 39 #[.val (.ref a1), .val (.int (61 : Int32)), .val (.int (0 : Int32)), .unset] []))
  refine go (fun _ => XS.iconst X244.here hx rfl (hb hby d3_39)) ?_
  show Go _ p e below s _ _ _ (T244.setTop (mkF m 40 #[.val (.ref a1), .val (.int (61 : Int32)), .val (.int (0 : Int32)), .unset] [(.int (1 : Int32))]))
  refine go (fun _ => XS.goto X244.here hx rfl (pc0 := 40) (pc' := 44) rfl (hb hby d3_40) (by decide) (by decide)) ?_
  show Go _ p e below s _ _ _ (T244.setTop (mkF m 44 #[.val (.ref a1), .val (.int (61 : Int32)), .val (.int (0 : Int32)), .unset] [(.int (1 : Int32))]))
  refine go (fun _ => XS.istoreN X244.here hx rfl (hb hby d3_44) rfl (l' := #[.val (.ref a1), .val (.int (61 : Int32)), .val (.int (0 : Int32)), .val (.int (1 : Int32))]) rfl) ?_
  show Go _ p e below s _ _ _ (T244.setTop (mkF m 45 #[.val (.ref a1), .val (.int (61 : Int32)), .val (.int (0 : Int32)), .val (.int (1 : Int32))] []))
  refine go (fun _ => XS.iloadN X244.here hx rfl (hb hby d3_45) rfl) ?_
  show Go _ p e below s _ _ _ (T244.setTop (mkF m 46 #[.val (.ref a1), .val (.int (61 : Int32)), .val (.int (0 : Int32)), .val (.int (1 : Int32))] [(.int (0 : Int32))]))
  refine go (fun _ => XS.ifNo X244.here hx rfl (hb hby d3_46) rfl ((if0 _ _).trans (teq (rfl : (0 : Int32) = (0 : Int32))).2)) ?_
  show Go _ p e below s _ _ _ (T244.setTop (mkF m 49 #[.val (.ref a1), .val (.int (61 : Int32)), .val (.int (0 : Int32)), .val (.int (1 : Int32))] []))
  refine go (fun _ => XS.iloadN X244.here hx rfl (hb hby d3_49) rfl) ?_
  show Go _ p e below s _ _ _ (T244.setTop (mkF m 50 #[.val (.ref a1), .val (.int (61 : Int32)), .val (.int (0 : Int32)), .val (.int (1 : Int32))] [(.int (1 : Int32))]))
  refine go (fun _ => XS.ifNo X244.here hx rfl (hb hby d3_50) rfl ((if0 _ _).trans (feq (by decide : ¬ ((1 : Int32) = (0 : Int32)))).1)) ?_
  show Go _ p e below s _ _ _ (T244.setTop (mkF m 53 #[.val (.ref a1), .val (.int (61 : Int32)), .val (.int (0 : Int32)), .val (.int (1 : Int32))] []))
  refine go (fun _ => XS.iconst X244.here hx rfl (hb hby d3_53)) ?_
  show Go _ p e below s _ _ _ (T244.setTop (mkF m 54 #[.val (.ref a1), .val (.int (61 : Int32)), .val (.int (0 : Int32)), .val (.int (1 : Int32))] [(.int (1 : Int32))]))
  refine go (fun _ => XS.goto X244.here hx rfl (pc0 := 54) (pc' := 58) rfl (hb hby d3_54) (by decide) (by decide)) ?_
  show Go _ p e below s _ _ _ (T244.setTop (mkF m 58 #[.val (.ref a1), .val (.int (61 : Int32)), .val (.int (0 : Int32)), .val (.int (1 : Int32))] [(.int (1 : Int32))]))
  refine goRet X244 hx Bd.notSynchronized Bd.returns rfl (Or.inl ⟨rfl, Or.inr (Or.inl rfl), _, rfl⟩) (hb hby d3_58) (by decide) (by decide) (by rw [e244]; refine ⟨rfl, N244, rfl⟩)
theorem pn_3AT_LEAST62 : plainName "com/example/reticule/reticule/engine/ComparisonHoldsPinLaw" = true := by first | (simp [plainName, overriddenIn]; done) | decide +kernel
theorem ef_3AT_LEAST62 (m : MethodId) (a1 : Addr) : entryFrame m #[(.ref a1), (.int (62 : Int32))] 4 = mkF m 0 #[.val (.ref a1), .val (.int (62 : Int32)), .unset, .unset] [] := by first | (simp [entryFrame, mkF, argsToLocals, Value.category]; done) | rfl
def Q3AT_LEAST62 (Z : State) (a1 : Addr) (w0 : Int32) (f0 : Value) (v1 : Addr) (k1 : ClassId) (d1 : Value) (h0 : Heap) (n0 : Nat) (v : Option Value) (h : Heap) (L : List Loc) : Prop := v = some (.int (1 : Int32)) ∧ Fr n0 L ∧ (h = h0)
set_option maxRecDepth 65536 in
set_option maxHeartbeats 40000000 in
theorem rm3AT_LEAST62 (l : Launch) (Z : State) (a0 : Array Value) (hw : ∀ d ∈ tables_1, d.before a0 Z = true) (ws : List Jvm.Cond) (a1 : Addr) (w0 : Int32) (f0 : Value) (v1 : Addr) (k1 : ClassId) (d1 : Value) (h0 : Heap) (n0 : Nat) (Z0 : n0 ≤ h0.size) (P0 : Sta Z h0 "java/lang/String" "COMPACT_STRINGS" "Z" (.int w0)) (P1 : Sta Z h0 "jdk/internal/util/Preconditions" "SIOOBE_FORMATTER" "Ljava/util/function/BiFunction;" f0) (P2 : Exa Z h0 a1 "java/lang/String") (P3 : Fld Z h0 a1 "java/lang/String" "coder" "B" (.int (0 : Int32))) (P4 : Fld Z h0 a1 "java/lang/String" "value" "[B" (.ref v1)) (P5 : Arv Z h0 v1 k1 .byte (2 : Int32) [(.int (62 : Int32)), (.int (61 : Int32))] d1) (hw0 : ¬ w0 = 0) (hf : f0.isRef = true) :
    MetFree l (⟨"com/example/reticule/reticule/engine/ComparisonHoldsPinLaw", "has", "(Ljava/lang/String;C)Z"⟩ : MethodName) (head1 (Jvm.Cond.code (⟨"com/example/reticule/reticule/engine/ComparisonHoldsPinLaw", "has", "(Ljava/lang/String;C)Z"⟩ : MethodName) method_3_code 4 (some .boolean) :: ws) ({ frames := 4, cells := 0, slots := 0, locals := 53 } : Room)) (fun a U => a = #[(.ref a1), (.int (62 : Int32))] ∧ Z.Warmed39 U.vm ∧ U.heap = h0) (fun _ _ _ _ _ => True) (fun _ U o U' => ∃ v L, o = .returned v ∧ Q3AT_LEAST62 Z a1 w0 f0 v1 k1 d1 h0 n0 v U'.heap L ∧ FrameEnd U o U' L ({ frames := 4, cells := 0, slots := 0, locals := 53 } : Room).cells ({ frames := 4, cells := 0, slots := 0, locals := 53 } : Room).slots) := by
  refine MetFree.of_bodySF (plainFor_of_name pn_3AT_LEAST62) hisR ?_
  intro p e s m args below meth c s₁ Bd hml0 hP hK
  obtain ⟨rfl, hZ, hh⟩ := hP
  have hx := Bd.exec
  have hby := Bd.bytes
  have hml : c.maxLocals = 4 := hml0
  have hown : s.vm.findClass "com/example/reticule/reticule/engine/ComparisonHoldsPinLaw" = some m.cls := findClass_of_methodNamed Bd.named
  have hnm := (name_of_methodNamed Bd.named Bd.method).1
  have X0 : Stand p l e ({ frames := 4, cells := 0, slots := 0, locals := 53 } : Room) s m #[(.ref a1), (.int (62 : Int32))] below meth c s₁ [] 0 0 := Stand.of_body Bd
  have e0 : s₁.heap = h0 := by rw [← hh, Bd.state]; rfl
  have N0 := Fr.nil n0
  have hS0 : s.Since s.vm 0 := (State.WarmedH.refl s).since 0
  show Go FrameEnd p e below s ({ frames := 4, cells := 0, slots := 0, locals := 53 } : Room).cells ({ frames := 4, cells := 0, slots := 0, locals := 53 } : Room).slots (Q3AT_LEAST62 Z a1 w0 f0 v1 k1 d1 h0 n0) (s₁.setTop (entryFrame m #[(.ref a1), (.int (62 : Int32))] 4))
  refine go (fun _ k => castTop (ef_3AT_LEAST62 m a1) k) ?_
  show Go _ p e below s _ _ _ (s₁.setTop (mkF m 0 #[.val (.ref a1), .val (.int (62 : Int32)), .unset, .unset] []))
  refine go (fun _ => XS.aloadN X0.here hx rfl (hb hby d3_0) rfl rfl) ?_
  show Go _ p e below s _ _ _ (s₁.setTop (mkF m 1 #[.val (.ref a1), .val (.int (62 : Int32)), .unset, .unset] [(.ref a1)]))
  obtain ⟨cq249, kq249, q249a, q249b, q249c⟩ := isOf hZ e0 P2
  obtain ⟨_, _, ⟨T249, L249, k249, n249⟩, -, X249, ⟨Lc249, hQ249, l249, y249, z249⟩, st249⟩ := X0.virtualBack hx (y := (⟨"java/lang/String", "length", "()I"⟩ : MethodName)) (z := (⟨"java/lang/String", "length", "()I"⟩ : MethodName)) hown (mvT hZ (hw _ (List.mem_of_getElem? (i := 18) rfl))) (mvT hZ (hw _ (List.mem_of_getElem? (i := 19) rfl))) (notFace_of_selects (args := #[]) (mvT hZ (hw _ (List.mem_of_getElem? (i := 21) rfl)))) (mvT hZ (hw _ (List.mem_of_getElem? (i := 21) rfl))) (mvT hZ (hw _ (List.mem_of_getElem? (i := 20) rfl))) (by decide) (backOf (W := 0) (rm4 l Z a0 hw [] a1 w0 v1 k1 (2 : Int32) [(.int (62 : Int32)), (.int (61 : Int32))] d1 h0 n0 Z0 P0 P2 P3 P4 P5 hw0) hZ (hw _ (List.mem_of_getElem? (i := 23) rfl)) (hw _ (List.mem_of_getElem? (i := 22) rfl)) (by decide) (by decide)) q249a q249c (g := (mkF m 1 #[.val (.ref a1), .val (.int (62 : Int32)), .unset, .unset] [(.ref a1)])) rfl (by rw [hml]; rfl) (Steps.refl _) (argsL := []) (rest := []) (lenOf pd_3_0 rfl) rfl (by show 2 * 0 + _ ≤ _; exact Nat.le_of_eq rfl) (hb hby d3_1) (fun _ _ => ⟨rfl, e0, (by decide : 0 + 0 ≤ _), (by decide : 0 + 0 ≤ _)⟩)
  dsimp only [Pt.U, Pt.locs, Pt.cells, Pt.slots] at X249 l249 y249 z249 st249 hQ249
  subst l249 y249 z249
  obtain ⟨rfl, N249q, e249⟩ := hQ249
  have N249 := Fr.app N0 N249q
  refine goT st249 ?_
  show Go _ p e below s _ _ _ (T249.setTop (mkF m 4 #[.val (.ref a1), .val (.int (62 : Int32)), .unset, .unset] [(.int (2 : Int32))]))
  refine go (fun _ => XS.ifNo X249.here hx rfl (hb hby d3_4) rfl ((if0 _ _).trans (tlt (by decide : ((0 : Int32) < (2 : Int32)))).2.2.2)) ?_
  show Go _ p e below s _ _ _ (T249.setTop (mkF m 7 #[.val (.ref a1), .val (.int (62 : Int32)), .unset, .unset] []))
  refine go (fun _ => XS.aloadN X249.here hx rfl (hb hby d3_7) rfl rfl) ?_
  show Go _ p e below s _ _ _ (T249.setTop (mkF m 8 #[.val (.ref a1), .val (.int (62 : Int32)), .unset, .unset] [(.ref a1)]))
  refine go (fun _ => XS.iconst X249.here hx rfl (hb hby d3_8)) ?_
  show Go _ p e below s _ _ _ (T249.setTop (mkF m 9 #[.val (.ref a1), .val (.int (62 : Int32)), .unset, .unset] [(.int (0 : Int32)), (.ref a1)]))
  obtain ⟨cq250, kq250, q250a, q250b, q250c⟩ := isOf hZ e249 P2
  obtain ⟨_, _, ⟨T250, L250, k250, n250⟩, -, X250, ⟨Lc250, hQ250, l250, y250, z250⟩, st250⟩ := X249.virtualBack hx (y := (⟨"java/lang/String", "charAt", "(I)C"⟩ : MethodName)) (z := (⟨"java/lang/String", "charAt", "(I)C"⟩ : MethodName)) hown (mvT hZ (hw _ (List.mem_of_getElem? (i := 34) rfl))) (mvT hZ (hw _ (List.mem_of_getElem? (i := 35) rfl))) (notFace_of_selects (args := #[]) (mvT hZ (hw _ (List.mem_of_getElem? (i := 37) rfl)))) (mvT hZ (hw _ (List.mem_of_getElem? (i := 37) rfl))) (mvT hZ (hw _ (List.mem_of_getElem? (i := 36) rfl))) (by decide) (backOf (W := 0) (rm6AT_LEAST0 l Z a0 hw [] a1 w0 f0 v1 k1 d1 h0 n0 Z0 P0 P1 P2 P3 P4 P5 hw0 hf) hZ (hw _ (List.mem_of_getElem? (i := 38) rfl)) (hw _ (List.mem_of_getElem? (i := 22) rfl)) (by decide) (by decide)) q250a q250c (g := (mkF m 9 #[.val (.ref a1), .val (.int (62 : Int32)), .unset, .unset] [(.int (0 : Int32)), (.ref a1)])) rfl (by rw [hml]; rfl) (Steps.refl _) (argsL := [(.int (0 : Int32))]) (rest := []) (lenOf pd_3_1 rfl) rfl (by show 2 * 0 + _ ≤ _; exact Nat.le_of_eq rfl) (hb hby d3_9) (fun _ _ => ⟨rfl, e249, (by decide : 0 + 0 ≤ _), (by decide : 0 + 0 ≤ _)⟩)
  dsimp only [Pt.U, Pt.locs, Pt.cells, Pt.slots] at X250 l250 y250 z250 st250 hQ250
  subst l250 y250 z250
  obtain ⟨rfl, N250q, e250⟩ := hQ250
  have N250 := Fr.app N249 N250q
  refine goT st250 ?_
  show Go _ p e below s _ _ _ (T250.setTop (mkF m 12 #[.val (.ref a1), .val (.int (62 : Int32)), .unset, .unset] [(.int (62 : Int32))]))
  refine go (fun _ => XS.iloadN X250.here hx rfl (hb hby d3_12) rfl) ?_
  show Go _ p e below s _ _ _ (T250.setTop (mkF m 13 #[.val (.ref a1), .val (.int (62 : Int32)), .unset, .unset] [(.int (62 : Int32)), (.int (62 : Int32))]))
  refine go (fun _ => XS.icmpNo X250.here hx rfl (hb hby d3_13) rfl (teq (rfl : (62 : Int32) = (62 : Int32))).2) ?_
  show Go _ p e below s _ _ _ (T250.setTop (mkF m 16 #[.val (.ref a1), .val (.int (62 : Int32)), .unset, .unset] []))
  refine go (fun _ => XS.iconst X250.here hx rfl (hb hby d3_16)) ?_
  show Go _ p e below s _ _ _ (T250.setTop (mkF m 17 #[.val (.ref a1), .val (.int (62 : Int32)), .unset, .unset] [(.int (1 : Int32))]))
  refine go (fun _ => XS.goto X250.here hx rfl (pc0 := 17) (pc' := 21) rfl (hb hby d3_17) (by decide) (by decide)) ?_
  show Go _ p e below s _ _ _ (T250.setTop (mkF m 21 #[.val (.ref a1), .val (.int (62 : Int32)), .unset, .unset] [(.int (1 : Int32))]))
  refine go (fun _ => XS.istoreN X250.here hx rfl (hb hby d3_21) rfl (l' := #[.val (.ref a1), .val (.int (62 : Int32)), .val (.int (1 : Int32)), .unset]) rfl) ?_
  show Go _ p e below s _ _ _ (T250.setTop (mkF m 22 #[.val (.ref a1), .val (.int (62 : Int32)), .val (.int (1 : Int32)), .unset] []))
  refine go (fun _ => XS.aloadN X250.here hx rfl (hb hby d3_22) rfl rfl) ?_
  show Go _ p e below s _ _ _ (T250.setTop (mkF m 23 #[.val (.ref a1), .val (.int (62 : Int32)), .val (.int (1 : Int32)), .unset] [(.ref a1)]))
  obtain ⟨cq251, kq251, q251a, q251b, q251c⟩ := isOf hZ e250 P2
  obtain ⟨_, _, ⟨T251, L251, k251, n251⟩, -, X251, ⟨Lc251, hQ251, l251, y251, z251⟩, st251⟩ := X250.virtualBack hx (y := (⟨"java/lang/String", "length", "()I"⟩ : MethodName)) (z := (⟨"java/lang/String", "length", "()I"⟩ : MethodName)) hown (mvT hZ (hw _ (List.mem_of_getElem? (i := 18) rfl))) (mvT hZ (hw _ (List.mem_of_getElem? (i := 19) rfl))) (notFace_of_selects (args := #[]) (mvT hZ (hw _ (List.mem_of_getElem? (i := 21) rfl)))) (mvT hZ (hw _ (List.mem_of_getElem? (i := 21) rfl))) (mvT hZ (hw _ (List.mem_of_getElem? (i := 20) rfl))) (by decide) (backOf (W := 0) (rm4 l Z a0 hw [] a1 w0 v1 k1 (2 : Int32) [(.int (62 : Int32)), (.int (61 : Int32))] d1 h0 n0 Z0 P0 P2 P3 P4 P5 hw0) hZ (hw _ (List.mem_of_getElem? (i := 23) rfl)) (hw _ (List.mem_of_getElem? (i := 22) rfl)) (by decide) (by decide)) q251a q251c (g := (mkF m 23 #[.val (.ref a1), .val (.int (62 : Int32)), .val (.int (1 : Int32)), .unset] [(.ref a1)])) rfl (by rw [hml]; rfl) (Steps.refl _) (argsL := []) (rest := []) (lenOf pd_3_0 rfl) rfl (by show 2 * 0 + _ ≤ _; exact Nat.le_of_eq rfl) (hb hby d3_23) (fun _ _ => ⟨rfl, e250, (by decide : 0 + 0 ≤ _), (by decide : 0 + 0 ≤ _)⟩)
  dsimp only [Pt.U, Pt.locs, Pt.cells, Pt.slots] at X251 l251 y251 z251 st251 hQ251
  subst l251 y251 z251
  obtain ⟨rfl, N251q, e251⟩ := hQ251
  have N251 := Fr.app N250 N251q
  refine goT st251 ?_
  show Go _ p e below s _ _ _ (T251.setTop (mkF m 26 #[.val (.ref a1), .val (.int (62 : Int32)), .val (.int (1 : Int32)), .unset] [(.int (2 : Int32))]))
  refine go (fun _ => XS.iconst X251.here hx rfl (hb hby d3_26)) ?_
  show Go _ p e below s _ _ _ (T251.setTop (mkF m 27 #[.val (.ref a1), .val (.int (62 : Int32)), .val (.int (1 : Int32)), .unset] [(.int (1 : Int32)), (.int (2 : Int32))]))
  refine go (fun _ => XS.icmpNo X251.here hx rfl (hb hby d3_27) rfl (tlt (by decide : ((1 : Int32) < (2 : Int32)))).2.2.2) ?_
  show Go _ p e below s _ _ _ (T251.setTop (mkF m 30 #[.val (.ref a1), .val (.int (62 : Int32)), .val (.int (1 : Int32)), .unset] []))
  refine go (fun _ => XS.aloadN X251.here hx rfl (hb hby d3_30) rfl rfl) ?_
  show Go _ p e below s _ _ _ (T251.setTop (mkF m 31 #[.val (.ref a1), .val (.int (62 : Int32)), .val (.int (1 : Int32)), .unset] [(.ref a1)]))
  refine go (fun _ => XS.iconst X251.here hx rfl (hb hby d3_31)) ?_
  show Go _ p e below s _ _ _ (T251.setTop (mkF m 32 #[.val (.ref a1), .val (.int (62 : Int32)), .val (.int (1 : Int32)), .unset] [(.int (1 : Int32)), (.ref a1)]))
  obtain ⟨cq252, kq252, q252a, q252b, q252c⟩ := isOf hZ e251 P2
  obtain ⟨_, _, ⟨T252, L252, k252, n252⟩, -, X252, ⟨Lc252, hQ252, l252, y252, z252⟩, st252⟩ := X251.virtualBack hx (y := (⟨"java/lang/String", "charAt", "(I)C"⟩ : MethodName)) (z := (⟨"java/lang/String", "charAt", "(I)C"⟩ : MethodName)) hown (mvT hZ (hw _ (List.mem_of_getElem? (i := 34) rfl))) (mvT hZ (hw _ (List.mem_of_getElem? (i := 35) rfl))) (notFace_of_selects (args := #[]) (mvT hZ (hw _ (List.mem_of_getElem? (i := 37) rfl)))) (mvT hZ (hw _ (List.mem_of_getElem? (i := 37) rfl))) (mvT hZ (hw _ (List.mem_of_getElem? (i := 36) rfl))) (by decide) (backOf (W := 0) (rm6AT_LEAST1 l Z a0 hw [] a1 w0 f0 v1 k1 d1 h0 n0 Z0 P0 P1 P2 P3 P4 P5 hw0 hf) hZ (hw _ (List.mem_of_getElem? (i := 38) rfl)) (hw _ (List.mem_of_getElem? (i := 22) rfl)) (by decide) (by decide)) q252a q252c (g := (mkF m 32 #[.val (.ref a1), .val (.int (62 : Int32)), .val (.int (1 : Int32)), .unset] [(.int (1 : Int32)), (.ref a1)])) rfl (by rw [hml]; rfl) (Steps.refl _) (argsL := [(.int (1 : Int32))]) (rest := []) (lenOf pd_3_1 rfl) rfl (by show 2 * 0 + _ ≤ _; exact Nat.le_of_eq rfl) (hb hby d3_32) (fun _ _ => ⟨rfl, e251, (by decide : 0 + 0 ≤ _), (by decide : 0 + 0 ≤ _)⟩)
  dsimp only [Pt.U, Pt.locs, Pt.cells, Pt.slots] at X252 l252 y252 z252 st252 hQ252
  subst l252 y252 z252
  obtain ⟨rfl, N252q, e252⟩ := hQ252
  have N252 := Fr.app N251 N252q
  refine goT st252 ?_
  show Go _ p e below s _ _ _ (T252.setTop (mkF m 35 #[.val (.ref a1), .val (.int (62 : Int32)), .val (.int (1 : Int32)), .unset] [(.int (61 : Int32))]))
  refine go (fun _ => XS.iloadN X252.here hx rfl (hb hby d3_35) rfl) ?_
  show Go _ p e below s _ _ _ (T252.setTop (mkF m 36 #[.val (.ref a1), .val (.int (62 : Int32)), .val (.int (1 : Int32)), .unset] [(.int (62 : Int32)), (.int (61 : Int32))]))
  refine go (fun _ => XS.icmpYes X252.here hx rfl (pc0 := 36) (pc' := 43) rfl (hb hby d3_36) rfl (feq (by decide : ¬ ((61 : Int32) = (62 : Int32)))).2 (by decide) (by decide)) ?_
  show Go _ p e below s _ _ _ (T252.setTop (mkF m 43 #[.val (.ref a1), .val (.int (62 : Int32)), .val (.int (1 : Int32)), .unset] []))
  refine go (fun _ => XS.iconst X252.here hx rfl (hb hby d3_43)) ?_
  show Go _ p e below s _ _ _ (T252.setTop (mkF m 44 #[.val (.ref a1), .val (.int (62 : Int32)), .val (.int (1 : Int32)), .unset] [(.int (0 : Int32))]))
  refine go (fun _ => XS.istoreN X252.here hx rfl (hb hby d3_44) rfl (l' := #[.val (.ref a1), .val (.int (62 : Int32)), .val (.int (1 : Int32)), .val (.int (0 : Int32))]) rfl) ?_
  show Go _ p e below s _ _ _ (T252.setTop (mkF m 45 #[.val (.ref a1), .val (.int (62 : Int32)), .val (.int (1 : Int32)), .val (.int (0 : Int32))] []))
  refine go (fun _ => XS.iloadN X252.here hx rfl (hb hby d3_45) rfl) ?_
  show Go _ p e below s _ _ _ (T252.setTop (mkF m 46 #[.val (.ref a1), .val (.int (62 : Int32)), .val (.int (1 : Int32)), .val (.int (0 : Int32))] [(.int (1 : Int32))]))
  refine go (fun _ => XS.ifYes X252.here hx rfl (pc0 := 46) (pc' := 53) rfl (hb hby d3_46) rfl ((if0 _ _).trans (feq (by decide : ¬ ((1 : Int32) = (0 : Int32)))).2) (by decide) (by decide)) ?_
  show Go _ p e below s _ _ _ (T252.setTop (mkF m 53 #[.val (.ref a1), .val (.int (62 : Int32)), .val (.int (1 : Int32)), .val (.int (0 : Int32))] []))
  refine go (fun _ => XS.iconst X252.here hx rfl (hb hby d3_53)) ?_
  show Go _ p e below s _ _ _ (T252.setTop (mkF m 54 #[.val (.ref a1), .val (.int (62 : Int32)), .val (.int (1 : Int32)), .val (.int (0 : Int32))] [(.int (1 : Int32))]))
  refine go (fun _ => XS.goto X252.here hx rfl (pc0 := 54) (pc' := 58) rfl (hb hby d3_54) (by decide) (by decide)) ?_
  show Go _ p e below s _ _ _ (T252.setTop (mkF m 58 #[.val (.ref a1), .val (.int (62 : Int32)), .val (.int (1 : Int32)), .val (.int (0 : Int32))] [(.int (1 : Int32))]))
  refine goRet X252 hx Bd.notSynchronized Bd.returns rfl (Or.inl ⟨rfl, Or.inr (Or.inl rfl), _, rfl⟩) (hb hby d3_58) (by decide) (by decide) (by rw [e252]; refine ⟨rfl, N252, rfl⟩)
theorem d2_0 : decode prog_28_method_4_code 0 = .ok (.aload_n 0, 1) := by decide +kernel
theorem d2_1 : decode prog_28_method_4_code 1 = .ok (.getfield 41, 3) := by decide +kernel
theorem d2_4 : decode prog_28_method_4_code 4 = .ok (.areturn, 1) := by decide +kernel
theorem pn_2 : plainName "com/example/reticule/reticule/engine/Comparison" = true := by first | (simp [plainName, overriddenIn]; done) | decide +kernel
theorem ef_2 (m : MethodId) (a1 : Addr) : entryFrame m #[(.ref a1)] 1 = mkF m 0 #[.val (.ref a1)] [] := by first | (simp [entryFrame, mkF, argsToLocals, Value.category]; done) | rfl
def Q2 (Z : State) (a1 : Addr) (s1 : Addr) (h0 : Heap) (n0 : Nat) (v : Option Value) (h : Heap) (L : List Loc) : Prop := v = some (.ref s1) ∧ Fr n0 L ∧ (h = h0)
set_option maxRecDepth 65536 in
set_option maxHeartbeats 40000000 in
theorem rm2 (l : Launch) (Z : State) (a0 : Array Value) (hw : ∀ d ∈ tables_1, d.before a0 Z = true) (ws : List Jvm.Cond) (a1 : Addr) (s1 : Addr) (h0 : Heap) (n0 : Nat) (Z0 : n0 ≤ h0.size) (P0 : Fld Z h0 a1 "com/example/reticule/reticule/engine/Comparison" "functionName" "Ljava/lang/String;" (.ref s1)) :
    MetFree l (⟨"com/example/reticule/reticule/engine/Comparison", "functionName", "()Ljava/lang/String;"⟩ : MethodName) (head1 (Jvm.Cond.code (⟨"com/example/reticule/reticule/engine/Comparison", "functionName", "()Ljava/lang/String;"⟩ : MethodName) prog_28_method_4_code 1 (some (.object "java/lang/String")) :: ws) ({ frames := 0, cells := 0, slots := 0, locals := 0 } : Room)) (fun a U => a = #[(.ref a1)] ∧ Z.Warmed39 U.vm ∧ U.heap = h0) (fun _ _ _ _ _ => True) (fun _ U o U' => ∃ v L, o = .returned v ∧ Q2 Z a1 s1 h0 n0 v U'.heap L ∧ FrameEnd U o U' L ({ frames := 0, cells := 0, slots := 0, locals := 0 } : Room).cells ({ frames := 0, cells := 0, slots := 0, locals := 0 } : Room).slots) := by
  refine MetFree.of_bodySF (plainFor_of_name pn_2) hisR ?_
  intro p e s m args below meth c s₁ Bd hml0 hP hK
  obtain ⟨rfl, hZ, hh⟩ := hP
  have hx := Bd.exec
  have hby := Bd.bytes
  have hml : c.maxLocals = 1 := hml0
  have hown : s.vm.findClass "com/example/reticule/reticule/engine/Comparison" = some m.cls := findClass_of_methodNamed Bd.named
  have hnm := (name_of_methodNamed Bd.named Bd.method).1
  have X0 : Stand p l e ({ frames := 0, cells := 0, slots := 0, locals := 0 } : Room) s m #[(.ref a1)] below meth c s₁ [] 0 0 := Stand.of_body Bd
  have e0 : s₁.heap = h0 := by rw [← hh, Bd.state]; rfl
  have N0 := Fr.nil n0
  have hS0 : s.Since s.vm 0 := (State.WarmedH.refl s).since 0
  show Go FrameEnd p e below s ({ frames := 0, cells := 0, slots := 0, locals := 0 } : Room).cells ({ frames := 0, cells := 0, slots := 0, locals := 0 } : Room).slots (Q2 Z a1 s1 h0 n0) (s₁.setTop (entryFrame m #[(.ref a1)] 1))
  refine go (fun _ k => castTop (ef_2 m a1) k) ?_
  show Go _ p e below s _ _ _ (s₁.setTop (mkF m 0 #[.val (.ref a1)] []))
  refine go (fun _ => XS.aloadN X0.here hx rfl (hb hby d2_0) rfl rfl) ?_
  show Go _ p e below s _ _ _ (s₁.setTop (mkF m 1 #[.val (.ref a1)] [(.ref a1)]))
  obtain ⟨T254, X254, e254, st254⟩ := getF X0 hx hZ hown (host := "") (Or.inl (hw _ (List.mem_of_getElem? (i := 13) rfl))) Via.refl e0 P0 (g := (mkF m 1 #[.val (.ref a1)] [(.ref a1)])) rfl rfl (hb hby d2_1)
  refine go st254 ?_
  show Go _ p e below s _ _ _ (T254.setTop (mkF m 4 #[.val (.ref a1)] [(.ref s1)]))
  refine goRet X254 hx Bd.notSynchronized Bd.returns rfl (Or.inr (Or.inr (Or.inr (Or.inr ⟨rfl, rfl, rfl⟩)))) (hb hby d2_4) (by decide) (by decide) (by rw [e254]; refine ⟨rfl, N0, rfl⟩)
theorem d12_0 : decode jdk_37_method_2_code 0 = .ok (.aload_n 0, 1) := by decide +kernel
theorem d12_1 : decode jdk_37_method_2_code 1 = .ok (.getfield 7, 3) := by decide +kernel
theorem d12_4 : decode jdk_37_method_2_code 4 = .ok (.ireturn, 1) := by decide +kernel
theorem pn_12 : plainName "java/lang/Enum" = true := by first | (simp [plainName, overriddenIn]; done) | decide +kernel
theorem ef_12 (m : MethodId) (a1 : Addr) : entryFrame m #[(.ref a1)] 1 = mkF m 0 #[.val (.ref a1)] [] := by first | (simp [entryFrame, mkF, argsToLocals, Value.category]; done) | rfl
def Q12 (Z : State) (a1 : Addr) (o1 : Int32) (h0 : Heap) (n0 : Nat) (v : Option Value) (h : Heap) (L : List Loc) : Prop := v = some (.int o1) ∧ Fr n0 L ∧ (h = h0)
set_option maxRecDepth 65536 in
set_option maxHeartbeats 40000000 in
theorem rm12 (l : Launch) (Z : State) (a0 : Array Value) (hw : ∀ d ∈ tables_1, d.before a0 Z = true) (ws : List Jvm.Cond) (a1 : Addr) (o1 : Int32) (h0 : Heap) (n0 : Nat) (Z0 : n0 ≤ h0.size) (P0 : Fld Z h0 a1 "java/lang/Enum" "ordinal" "I" (.int o1)) :
    MetFree l (⟨"java/lang/Enum", "ordinal", "()I"⟩ : MethodName) (head1 (Jvm.Cond.code (⟨"java/lang/Enum", "ordinal", "()I"⟩ : MethodName) jdk_37_method_2_code 1 (some .int) :: ws) ({ frames := 0, cells := 0, slots := 0, locals := 0 } : Room)) (fun a U => a = #[(.ref a1)] ∧ Z.Warmed39 U.vm ∧ U.heap = h0) (fun _ _ _ _ _ => True) (fun _ U o U' => ∃ v L, o = .returned v ∧ Q12 Z a1 o1 h0 n0 v U'.heap L ∧ FrameEnd U o U' L ({ frames := 0, cells := 0, slots := 0, locals := 0 } : Room).cells ({ frames := 0, cells := 0, slots := 0, locals := 0 } : Room).slots) := by
  refine MetFree.of_bodySF (plainFor_of_name pn_12) hisR ?_
  intro p e s m args below meth c s₁ Bd hml0 hP hK
  obtain ⟨rfl, hZ, hh⟩ := hP
  have hx := Bd.exec
  have hby := Bd.bytes
  have hml : c.maxLocals = 1 := hml0
  have hown : s.vm.findClass "java/lang/Enum" = some m.cls := findClass_of_methodNamed Bd.named
  have hnm := (name_of_methodNamed Bd.named Bd.method).1
  have X0 : Stand p l e ({ frames := 0, cells := 0, slots := 0, locals := 0 } : Room) s m #[(.ref a1)] below meth c s₁ [] 0 0 := Stand.of_body Bd
  have e0 : s₁.heap = h0 := by rw [← hh, Bd.state]; rfl
  have N0 := Fr.nil n0
  have hS0 : s.Since s.vm 0 := (State.WarmedH.refl s).since 0
  show Go FrameEnd p e below s ({ frames := 0, cells := 0, slots := 0, locals := 0 } : Room).cells ({ frames := 0, cells := 0, slots := 0, locals := 0 } : Room).slots (Q12 Z a1 o1 h0 n0) (s₁.setTop (entryFrame m #[(.ref a1)] 1))
  refine go (fun _ k => castTop (ef_12 m a1) k) ?_
  show Go _ p e below s _ _ _ (s₁.setTop (mkF m 0 #[.val (.ref a1)] []))
  refine go (fun _ => XS.aloadN X0.here hx rfl (hb hby d12_0) rfl rfl) ?_
  show Go _ p e below s _ _ _ (s₁.setTop (mkF m 1 #[.val (.ref a1)] [(.ref a1)]))
  obtain ⟨T256, X256, e256, st256⟩ := getF X0 hx hZ hown (host := "") (Or.inl (hw _ (List.mem_of_getElem? (i := 68) rfl))) Via.refl e0 P0 (g := (mkF m 1 #[.val (.ref a1)] [(.ref a1)])) rfl rfl (hb hby d12_1)
  refine go st256 ?_
  show Go _ p e below s _ _ _ (T256.setTop (mkF m 4 #[.val (.ref a1)] [(.int o1)]))
  refine goRet X256 hx Bd.notSynchronized Bd.returns rfl (Or.inl ⟨rfl, Or.inl rfl, _, rfl⟩) (hb hby d12_4) (by decide) (by decide) (by rw [e256]; refine ⟨rfl, N0, rfl⟩)
theorem d1_0 : decode method_2_code 0 = .ok (.iload_n 0, 1) := by decide +kernel
theorem d1_1 : decode method_2_code 1 = .ok (.ifCond .ne 7, 3) := by decide +kernel
theorem d1_4 : decode method_2_code 4 = .ok (.getstatic 7, 3) := by decide +kernel
theorem d1_7 : decode method_2_code 7 = .ok (.areturn, 1) := by decide +kernel
theorem pn_1EQUAL : plainName "com/example/reticule/reticule/engine/ComparisonHoldsPinLaw" = true := by first | (simp [plainName, overriddenIn]; done) | decide +kernel
theorem ef_1EQUAL (m : MethodId)  : entryFrame m #[(.int (0 : Int32))] 1 = mkF m 0 #[.val (.int (0 : Int32))] [] := by first | (simp [entryFrame, mkF, argsToLocals, Value.category]; done) | rfl
def Q1EQUAL (Z : State)  (e1 : Addr) (h0 : Heap) (n0 : Nat) (v : Option Value) (h : Heap) (L : List Loc) : Prop := v = some (.ref e1) ∧ Fr n0 L ∧ (h = h0)
set_option maxRecDepth 65536 in
set_option maxHeartbeats 40000000 in
theorem rm1EQUAL (l : Launch) (Z : State) (a0 : Array Value) (hw : ∀ d ∈ tables_1, d.before a0 Z = true) (ws : List Jvm.Cond)  (e1 : Addr) (h0 : Heap) (n0 : Nat) (Z0 : n0 ≤ h0.size) (P0 : Sta Z h0 "com/example/reticule/reticule/engine/Comparison" "EQUAL" "Lcom/example/reticule/reticule/engine/Comparison;" (.ref e1)) :
    MetFree l (⟨"com/example/reticule/reticule/engine/ComparisonHoldsPinLaw", "pick", "(I)Lcom/example/reticule/reticule/engine/Comparison;"⟩ : MethodName) (head1 (Jvm.Cond.code (⟨"com/example/reticule/reticule/engine/ComparisonHoldsPinLaw", "pick", "(I)Lcom/example/reticule/reticule/engine/Comparison;"⟩ : MethodName) method_2_code 1 (some (.object "com/example/reticule/reticule/engine/Comparison")) :: ws) ({ frames := 0, cells := 0, slots := 0, locals := 0 } : Room)) (fun a U => a = #[(.int (0 : Int32))] ∧ Z.Warmed39 U.vm ∧ U.heap = h0) (fun _ _ _ _ _ => True) (fun _ U o U' => ∃ v L, o = .returned v ∧ Q1EQUAL Z e1 h0 n0 v U'.heap L ∧ FrameEnd U o U' L ({ frames := 0, cells := 0, slots := 0, locals := 0 } : Room).cells ({ frames := 0, cells := 0, slots := 0, locals := 0 } : Room).slots) := by
  refine MetFree.of_bodySF (plainFor_of_name pn_1EQUAL) hisR ?_
  intro p e s m args below meth c s₁ Bd hml0 hP hK
  obtain ⟨rfl, hZ, hh⟩ := hP
  have hx := Bd.exec
  have hby := Bd.bytes
  have hml : c.maxLocals = 1 := hml0
  have hown : s.vm.findClass "com/example/reticule/reticule/engine/ComparisonHoldsPinLaw" = some m.cls := findClass_of_methodNamed Bd.named
  have hnm := (name_of_methodNamed Bd.named Bd.method).1
  have X0 : Stand p l e ({ frames := 0, cells := 0, slots := 0, locals := 0 } : Room) s m #[(.int (0 : Int32))] below meth c s₁ [] 0 0 := Stand.of_body Bd
  have e0 : s₁.heap = h0 := by rw [← hh, Bd.state]; rfl
  have N0 := Fr.nil n0
  have hS0 : s.Since s.vm 0 := (State.WarmedH.refl s).since 0
  show Go FrameEnd p e below s ({ frames := 0, cells := 0, slots := 0, locals := 0 } : Room).cells ({ frames := 0, cells := 0, slots := 0, locals := 0 } : Room).slots (Q1EQUAL Z e1 h0 n0) (s₁.setTop (entryFrame m #[(.int (0 : Int32))] 1))
  refine go (fun _ k => castTop (ef_1EQUAL m ) k) ?_
  show Go _ p e below s _ _ _ (s₁.setTop (mkF m 0 #[.val (.int (0 : Int32))] []))
  refine go (fun _ => XS.iloadN X0.here hx rfl (hb hby d1_0) rfl) ?_
  show Go _ p e below s _ _ _ (s₁.setTop (mkF m 1 #[.val (.int (0 : Int32))] [(.int (0 : Int32))]))
  refine go (fun _ => XS.ifNo X0.here hx rfl (hb hby d1_1) rfl ((if0 _ _).trans (teq (rfl : (0 : Int32) = (0 : Int32))).2)) ?_
  show Go _ p e below s _ _ _ (s₁.setTop (mkF m 4 #[.val (.int (0 : Int32))] []))
  obtain ⟨T258, X258, e258, st258⟩ := getS2 X0 hx hZ hown (host := "") (Or.inl (hw _ (List.mem_of_getElem? (i := 5) rfl))) Via.refl e0 P0 (g := (mkF m 4 #[.val (.int (0 : Int32))] [])) rfl (hb hby d1_4)
  refine go st258 ?_
  show Go _ p e below s _ _ _ (T258.setTop (mkF m 7 #[.val (.int (0 : Int32))] [(.ref e1)]))
  refine goRet X258 hx Bd.notSynchronized Bd.returns rfl (Or.inr (Or.inr (Or.inr (Or.inr ⟨rfl, rfl, rfl⟩)))) (hb hby d1_7) (by decide) (by decide) (by rw [e258]; refine ⟨rfl, N0, rfl⟩)
def own_c0 (p : Int32) : Int32 := if p = 0 then 1 else 0
theorem d11_0 : decode prog_28_method_5_code 0 = .ok (.aload_n 0, 1) := by decide +kernel
theorem d11_1 : decode prog_28_method_5_code 1 = .ok (.invokevirtual 45, 3) := by decide +kernel
theorem d11_4 : decode prog_28_method_5_code 4 = .ok (.tableswitch 40 0 5 #[50, 62, 74, 86, 98, 110], 40) := by decide +kernel
theorem d11_54 : decode prog_28_method_5_code 54 = .ok (.iload_n 1, 1) := by decide +kernel
theorem d11_55 : decode prog_28_method_5_code 55 = .ok (.ifCond .ne 7, 3) := by decide +kernel
theorem d11_58 : decode prog_28_method_5_code 58 = .ok (.iconst 1, 1) := by decide +kernel
theorem d11_59 : decode prog_28_method_5_code 59 = .ok (.goto 64, 3) := by decide +kernel
theorem d11_62 : decode prog_28_method_5_code 62 = .ok (.iconst 0, 1) := by decide +kernel
theorem d11_63 : decode prog_28_method_5_code 63 = .ok (.goto 60, 3) := by decide +kernel
theorem d11_123 : decode prog_28_method_5_code 123 = .ok (.ireturn, 1) := by decide +kernel
theorem pn_11EQUAL : plainName "com/example/reticule/reticule/engine/Comparison" = true := by first | (simp [plainName, overriddenIn]; done) | decide +kernel
theorem pd_11_0 : parseMethodDescriptor "()I" = some ⟨[], some .int⟩ := by decide +kernel
theorem ef_11EQUAL (m : MethodId) (a1 : Addr) (p2 : Int32) : entryFrame m #[(.ref a1), (.int p2)] 2 = mkF m 0 #[.val (.ref a1), .val (.int p2)] [] := by first | (simp [entryFrame, mkF, argsToLocals, Value.category]; done) | rfl
def Q11EQUAL (Z : State) (a1 : Addr) (p2 : Int32) (h0 : Heap) (n0 : Nat) (v : Option Value) (h : Heap) (L : List Loc) : Prop := v = some (.int (own_c0 p2)) ∧ Fr n0 L ∧ (h = h0)
set_option maxRecDepth 65536 in
set_option maxHeartbeats 40000000 in
theorem rm11EQUAL (l : Launch) (Z : State) (a0 : Array Value) (hw : ∀ d ∈ tables_1, d.before a0 Z = true) (ws : List Jvm.Cond) (a1 : Addr) (p2 : Int32) (h0 : Heap) (n0 : Nat) (Z0 : n0 ≤ h0.size) (P0 : Exa Z h0 a1 "com/example/reticule/reticule/engine/Comparison") (P1 : Fld Z h0 a1 "java/lang/Enum" "ordinal" "I" (.int (0 : Int32))) :
    MetFree l (⟨"com/example/reticule/reticule/engine/Comparison", "holds", "(I)Z"⟩ : MethodName) (head1 (Jvm.Cond.code (⟨"com/example/reticule/reticule/engine/Comparison", "holds", "(I)Z"⟩ : MethodName) prog_28_method_5_code 2 (some .boolean) :: ws) ({ frames := 1, cells := 0, slots := 0, locals := 12 } : Room)) (fun a U => a = #[(.ref a1), (.int p2)] ∧ Z.Warmed39 U.vm ∧ U.heap = h0) (fun _ _ _ _ _ => True) (fun _ U o U' => ∃ v L, o = .returned v ∧ Q11EQUAL Z a1 p2 h0 n0 v U'.heap L ∧ FrameEnd U o U' L ({ frames := 1, cells := 0, slots := 0, locals := 12 } : Room).cells ({ frames := 1, cells := 0, slots := 0, locals := 12 } : Room).slots) := by
  refine MetFree.of_bodySF (plainFor_of_name pn_11EQUAL) hisR ?_
  intro p e s m args below meth c s₁ Bd hml0 hP hK
  obtain ⟨rfl, hZ, hh⟩ := hP
  have hx := Bd.exec
  have hby := Bd.bytes
  have hml : c.maxLocals = 2 := hml0
  have hown : s.vm.findClass "com/example/reticule/reticule/engine/Comparison" = some m.cls := findClass_of_methodNamed Bd.named
  have hnm := (name_of_methodNamed Bd.named Bd.method).1
  have X0 : Stand p l e ({ frames := 1, cells := 0, slots := 0, locals := 12 } : Room) s m #[(.ref a1), (.int p2)] below meth c s₁ [] 0 0 := Stand.of_body Bd
  have e0 : s₁.heap = h0 := by rw [← hh, Bd.state]; rfl
  have N0 := Fr.nil n0
  have hS0 : s.Since s.vm 0 := (State.WarmedH.refl s).since 0
  show Go FrameEnd p e below s ({ frames := 1, cells := 0, slots := 0, locals := 12 } : Room).cells ({ frames := 1, cells := 0, slots := 0, locals := 12 } : Room).slots (Q11EQUAL Z a1 p2 h0 n0) (s₁.setTop (entryFrame m #[(.ref a1), (.int p2)] 2))
  refine go (fun _ k => castTop (ef_11EQUAL m a1 p2) k) ?_
  show Go _ p e below s _ _ _ (s₁.setTop (mkF m 0 #[.val (.ref a1), .val (.int p2)] []))
  refine go (fun _ => XS.aloadN X0.here hx rfl (hb hby d11_0) rfl rfl) ?_
  show Go _ p e below s _ _ _ (s₁.setTop (mkF m 1 #[.val (.ref a1), .val (.int p2)] [(.ref a1)]))
  obtain ⟨cq261, kq261, q261a, q261b, q261c⟩ := isOf hZ e0 P0
  obtain ⟨_, _, ⟨T261, L261, k261, n261⟩, -, X261, ⟨Lc261, hQ261, l261, y261, z261⟩, st261⟩ := X0.virtualBackUp hx (x := (⟨"com/example/reticule/reticule/engine/Comparison", "ordinal", "()I"⟩ : MethodName)) (y := (⟨"java/lang/Enum", "ordinal", "()I"⟩ : MethodName)) (owner := "java/lang/Enum") hown (mvT hZ (hw _ (List.mem_of_getElem? (i := 61) rfl))) (mvT hZ (hw _ (List.mem_of_getElem? (i := 62) rfl))) (mvT hZ (hw _ (List.mem_of_getElem? (i := 63) rfl))) (by decide) (mvT hZ (hw _ (List.mem_of_getElem? (i := 65) rfl))) (mvT hZ (hw _ (List.mem_of_getElem? (i := 64) rfl))) (backOf (W := 0) (rm12 l Z a0 hw [] a1 (0 : Int32) h0 n0 Z0 P1) hZ (hw _ (List.mem_of_getElem? (i := 67) rfl)) (hw _ (List.mem_of_getElem? (i := 66) rfl)) (by decide) (by decide)) q261a q261c (g := (mkF m 1 #[.val (.ref a1), .val (.int p2)] [(.ref a1)])) rfl (by rw [hml]; rfl) (Steps.refl _) (argsL := []) (rest := []) (lenOf pd_11_0 rfl) rfl (by show 2 * 0 + _ ≤ _; exact Nat.le_of_eq rfl) (hb hby d11_1) (fun _ _ => ⟨rfl, e0, (by decide : 0 + 0 ≤ _), (by decide : 0 + 0 ≤ _)⟩)
  dsimp only [Pt.U, Pt.locs, Pt.cells, Pt.slots] at X261 l261 y261 z261 st261 hQ261
  subst l261 y261 z261
  obtain ⟨rfl, N261q, e261⟩ := hQ261
  have N261 := Fr.app N0 N261q
  refine goT st261 ?_
  show Go _ p e below s _ _ _ (T261.setTop (mkF m 4 #[.val (.ref a1), .val (.int p2)] [(.int (0 : Int32))]))
  have hin : ¬ (((0 : Int32)).toInt < (0 : Int) ∨ ((0 : Int32)).toInt > (5 : Int)) := by decide
  have hoff : (#[50, 62, 74, 86, 98, 110] : Array Int)[(((0 : Int32)).toInt - (0 : Int)).toNat]? = some (50 : Int) := by decide
  refine go (fun _ hr => XS.tswIn (o := (50 : Int)) (i := (0 : Int32)) X261.here hx rfl (pc0 := 4) (pc' := 54) rfl (hb hby d11_4) rfl hin hoff (by decide) (by decide) hr) ?_
  show Go _ p e below s _ _ _ (T261.setTop (mkF m 54 #[.val (.ref a1), .val (.int p2)] []))
  refine go (fun _ => XS.iloadN X261.here hx rfl (hb hby d11_54) rfl) ?_
  show Go _ p e below s _ _ _ (T261.setTop (mkF m 55 #[.val (.ref a1), .val (.int p2)] [(.int p2)]))
  by_cases hc55_262 : p2 = (0 : Int32)
  · refine go (fun _ => XS.ifNo X261.here hx rfl (hb hby d11_55) rfl ((if0 _ _).trans (teq hc55_262).2)) ?_
    show Go _ p e below s _ _ _ (T261.setTop (mkF m 58 #[.val (.ref a1), .val (.int p2)] []))
    refine go (fun _ => XS.iconst X261.here hx rfl (hb hby d11_58)) ?_
    show Go _ p e below s _ _ _ (T261.setTop (mkF m 59 #[.val (.ref a1), .val (.int p2)] [(.int (1 : Int32))]))
    refine go (fun _ => XS.goto X261.here hx rfl (pc0 := 59) (pc' := 123) rfl (hb hby d11_59) (by decide) (by decide)) ?_
    show Go _ p e below s _ _ _ (T261.setTop (mkF m 123 #[.val (.ref a1), .val (.int p2)] [(.int (1 : Int32))]))
    refine goRet X261 hx Bd.notSynchronized Bd.returns rfl (Or.inl ⟨rfl, Or.inr (Or.inl rfl), _, rfl⟩) (hb hby d11_123) (by decide) (by decide) (by rw [e261]; refine ⟨(by unfold own_c0; simp only [if_pos hc55_262]), N261, rfl⟩)
  · refine go (fun _ => XS.ifYes X261.here hx rfl (pc0 := 55) (pc' := 62) rfl (hb hby d11_55) rfl ((if0 _ _).trans (feq hc55_262).2) (by decide) (by decide)) ?_
    show Go _ p e below s _ _ _ (T261.setTop (mkF m 62 #[.val (.ref a1), .val (.int p2)] []))
    refine go (fun _ => XS.iconst X261.here hx rfl (hb hby d11_62)) ?_
    show Go _ p e below s _ _ _ (T261.setTop (mkF m 63 #[.val (.ref a1), .val (.int p2)] [(.int (0 : Int32))]))
    refine go (fun _ => XS.goto X261.here hx rfl (pc0 := 63) (pc' := 123) rfl (hb hby d11_63) (by decide) (by decide)) ?_
    show Go _ p e below s _ _ _ (T261.setTop (mkF m 123 #[.val (.ref a1), .val (.int p2)] [(.int (0 : Int32))]))
    refine goRet X261 hx Bd.notSynchronized Bd.returns rfl (Or.inl ⟨rfl, Or.inr (Or.inl rfl), _, rfl⟩) (hb hby d11_123) (by decide) (by decide) (by rw [e261]; refine ⟨(by unfold own_c0; simp only [if_neg hc55_262]), N261, rfl⟩)
theorem d1_8 : decode method_2_code 8 = .ok (.iload_n 0, 1) := by decide +kernel
theorem d1_9 : decode method_2_code 9 = .ok (.iconst 1, 1) := by decide +kernel
theorem d1_10 : decode method_2_code 10 = .ok (.if_icmp .ne 7, 3) := by decide +kernel
theorem d1_13 : decode method_2_code 13 = .ok (.getstatic 13, 3) := by decide +kernel
theorem d1_16 : decode method_2_code 16 = .ok (.areturn, 1) := by decide +kernel
theorem pn_1DIFFERENT : plainName "com/example/reticule/reticule/engine/ComparisonHoldsPinLaw" = true := by first | (simp [plainName, overriddenIn]; done) | decide +kernel
theorem ef_1DIFFERENT (m : MethodId)  : entryFrame m #[(.int (1 : Int32))] 1 = mkF m 0 #[.val (.int (1 : Int32))] [] := by first | (simp [entryFrame, mkF, argsToLocals, Value.category]; done) | rfl
def Q1DIFFERENT (Z : State)  (e1 : Addr) (h0 : Heap) (n0 : Nat) (v : Option Value) (h : Heap) (L : List Loc) : Prop := v = some (.ref e1) ∧ Fr n0 L ∧ (h = h0)
set_option maxRecDepth 65536 in
set_option maxHeartbeats 40000000 in
theorem rm1DIFFERENT (l : Launch) (Z : State) (a0 : Array Value) (hw : ∀ d ∈ tables_1, d.before a0 Z = true) (ws : List Jvm.Cond)  (e1 : Addr) (h0 : Heap) (n0 : Nat) (Z0 : n0 ≤ h0.size) (P0 : Sta Z h0 "com/example/reticule/reticule/engine/Comparison" "DIFFERENT" "Lcom/example/reticule/reticule/engine/Comparison;" (.ref e1)) :
    MetFree l (⟨"com/example/reticule/reticule/engine/ComparisonHoldsPinLaw", "pick", "(I)Lcom/example/reticule/reticule/engine/Comparison;"⟩ : MethodName) (head1 (Jvm.Cond.code (⟨"com/example/reticule/reticule/engine/ComparisonHoldsPinLaw", "pick", "(I)Lcom/example/reticule/reticule/engine/Comparison;"⟩ : MethodName) method_2_code 1 (some (.object "com/example/reticule/reticule/engine/Comparison")) :: ws) ({ frames := 0, cells := 0, slots := 0, locals := 0 } : Room)) (fun a U => a = #[(.int (1 : Int32))] ∧ Z.Warmed39 U.vm ∧ U.heap = h0) (fun _ _ _ _ _ => True) (fun _ U o U' => ∃ v L, o = .returned v ∧ Q1DIFFERENT Z e1 h0 n0 v U'.heap L ∧ FrameEnd U o U' L ({ frames := 0, cells := 0, slots := 0, locals := 0 } : Room).cells ({ frames := 0, cells := 0, slots := 0, locals := 0 } : Room).slots) := by
  refine MetFree.of_bodySF (plainFor_of_name pn_1DIFFERENT) hisR ?_
  intro p e s m args below meth c s₁ Bd hml0 hP hK
  obtain ⟨rfl, hZ, hh⟩ := hP
  have hx := Bd.exec
  have hby := Bd.bytes
  have hml : c.maxLocals = 1 := hml0
  have hown : s.vm.findClass "com/example/reticule/reticule/engine/ComparisonHoldsPinLaw" = some m.cls := findClass_of_methodNamed Bd.named
  have hnm := (name_of_methodNamed Bd.named Bd.method).1
  have X0 : Stand p l e ({ frames := 0, cells := 0, slots := 0, locals := 0 } : Room) s m #[(.int (1 : Int32))] below meth c s₁ [] 0 0 := Stand.of_body Bd
  have e0 : s₁.heap = h0 := by rw [← hh, Bd.state]; rfl
  have N0 := Fr.nil n0
  have hS0 : s.Since s.vm 0 := (State.WarmedH.refl s).since 0
  show Go FrameEnd p e below s ({ frames := 0, cells := 0, slots := 0, locals := 0 } : Room).cells ({ frames := 0, cells := 0, slots := 0, locals := 0 } : Room).slots (Q1DIFFERENT Z e1 h0 n0) (s₁.setTop (entryFrame m #[(.int (1 : Int32))] 1))
  refine go (fun _ k => castTop (ef_1DIFFERENT m ) k) ?_
  show Go _ p e below s _ _ _ (s₁.setTop (mkF m 0 #[.val (.int (1 : Int32))] []))
  refine go (fun _ => XS.iloadN X0.here hx rfl (hb hby d1_0) rfl) ?_
  show Go _ p e below s _ _ _ (s₁.setTop (mkF m 1 #[.val (.int (1 : Int32))] [(.int (1 : Int32))]))
  refine go (fun _ => XS.ifYes X0.here hx rfl (pc0 := 1) (pc' := 8) rfl (hb hby d1_1) rfl ((if0 _ _).trans (feq (by decide : ¬ ((1 : Int32) = (0 : Int32)))).2) (by decide) (by decide)) ?_
  show Go _ p e below s _ _ _ (s₁.setTop (mkF m 8 #[.val (.int (1 : Int32))] []))
  refine go (fun _ => XS.iloadN X0.here hx rfl (hb hby d1_8) rfl) ?_
  show Go _ p e below s _ _ _ (s₁.setTop (mkF m 9 #[.val (.int (1 : Int32))] [(.int (1 : Int32))]))
  refine go (fun _ => XS.iconst X0.here hx rfl (hb hby d1_9)) ?_
  show Go _ p e below s _ _ _ (s₁.setTop (mkF m 10 #[.val (.int (1 : Int32))] [(.int (1 : Int32)), (.int (1 : Int32))]))
  refine go (fun _ => XS.icmpNo X0.here hx rfl (hb hby d1_10) rfl (teq (rfl : (1 : Int32) = (1 : Int32))).2) ?_
  show Go _ p e below s _ _ _ (s₁.setTop (mkF m 13 #[.val (.int (1 : Int32))] []))
  obtain ⟨T264, X264, e264, st264⟩ := getS2 X0 hx hZ hown (host := "") (Or.inl (hw _ (List.mem_of_getElem? (i := 74) rfl))) Via.refl e0 P0 (g := (mkF m 13 #[.val (.int (1 : Int32))] [])) rfl (hb hby d1_13)
  refine go st264 ?_
  show Go _ p e below s _ _ _ (T264.setTop (mkF m 16 #[.val (.int (1 : Int32))] [(.ref e1)]))
  refine goRet X264 hx Bd.notSynchronized Bd.returns rfl (Or.inr (Or.inr (Or.inr (Or.inr ⟨rfl, rfl, rfl⟩)))) (hb hby d1_16) (by decide) (by decide) (by rw [e264]; refine ⟨rfl, N0, rfl⟩)
def own_c1 (p : Int32) : Int32 := if p = 0 then 0 else 1
theorem d11_66 : decode prog_28_method_5_code 66 = .ok (.iload_n 1, 1) := by decide +kernel
theorem d11_67 : decode prog_28_method_5_code 67 = .ok (.ifCond .eq 7, 3) := by decide +kernel
theorem d11_70 : decode prog_28_method_5_code 70 = .ok (.iconst 1, 1) := by decide +kernel
theorem d11_71 : decode prog_28_method_5_code 71 = .ok (.goto 52, 3) := by decide +kernel
theorem d11_74 : decode prog_28_method_5_code 74 = .ok (.iconst 0, 1) := by decide +kernel
theorem d11_75 : decode prog_28_method_5_code 75 = .ok (.goto 48, 3) := by decide +kernel
theorem pn_11DIFFERENT : plainName "com/example/reticule/reticule/engine/Comparison" = true := by first | (simp [plainName, overriddenIn]; done) | decide +kernel
theorem ef_11DIFFERENT (m : MethodId) (a1 : Addr) (p2 : Int32) : entryFrame m #[(.ref a1), (.int p2)] 2 = mkF m 0 #[.val (.ref a1), .val (.int p2)] [] := by first | (simp [entryFrame, mkF, argsToLocals, Value.category]; done) | rfl
def Q11DIFFERENT (Z : State) (a1 : Addr) (p2 : Int32) (h0 : Heap) (n0 : Nat) (v : Option Value) (h : Heap) (L : List Loc) : Prop := v = some (.int (own_c1 p2)) ∧ Fr n0 L ∧ (h = h0)
set_option maxRecDepth 65536 in
set_option maxHeartbeats 40000000 in
theorem rm11DIFFERENT (l : Launch) (Z : State) (a0 : Array Value) (hw : ∀ d ∈ tables_1, d.before a0 Z = true) (ws : List Jvm.Cond) (a1 : Addr) (p2 : Int32) (h0 : Heap) (n0 : Nat) (Z0 : n0 ≤ h0.size) (P0 : Exa Z h0 a1 "com/example/reticule/reticule/engine/Comparison") (P1 : Fld Z h0 a1 "java/lang/Enum" "ordinal" "I" (.int (1 : Int32))) :
    MetFree l (⟨"com/example/reticule/reticule/engine/Comparison", "holds", "(I)Z"⟩ : MethodName) (head1 (Jvm.Cond.code (⟨"com/example/reticule/reticule/engine/Comparison", "holds", "(I)Z"⟩ : MethodName) prog_28_method_5_code 2 (some .boolean) :: ws) ({ frames := 1, cells := 0, slots := 0, locals := 12 } : Room)) (fun a U => a = #[(.ref a1), (.int p2)] ∧ Z.Warmed39 U.vm ∧ U.heap = h0) (fun _ _ _ _ _ => True) (fun _ U o U' => ∃ v L, o = .returned v ∧ Q11DIFFERENT Z a1 p2 h0 n0 v U'.heap L ∧ FrameEnd U o U' L ({ frames := 1, cells := 0, slots := 0, locals := 12 } : Room).cells ({ frames := 1, cells := 0, slots := 0, locals := 12 } : Room).slots) := by
  refine MetFree.of_bodySF (plainFor_of_name pn_11DIFFERENT) hisR ?_
  intro p e s m args below meth c s₁ Bd hml0 hP hK
  obtain ⟨rfl, hZ, hh⟩ := hP
  have hx := Bd.exec
  have hby := Bd.bytes
  have hml : c.maxLocals = 2 := hml0
  have hown : s.vm.findClass "com/example/reticule/reticule/engine/Comparison" = some m.cls := findClass_of_methodNamed Bd.named
  have hnm := (name_of_methodNamed Bd.named Bd.method).1
  have X0 : Stand p l e ({ frames := 1, cells := 0, slots := 0, locals := 12 } : Room) s m #[(.ref a1), (.int p2)] below meth c s₁ [] 0 0 := Stand.of_body Bd
  have e0 : s₁.heap = h0 := by rw [← hh, Bd.state]; rfl
  have N0 := Fr.nil n0
  have hS0 : s.Since s.vm 0 := (State.WarmedH.refl s).since 0
  show Go FrameEnd p e below s ({ frames := 1, cells := 0, slots := 0, locals := 12 } : Room).cells ({ frames := 1, cells := 0, slots := 0, locals := 12 } : Room).slots (Q11DIFFERENT Z a1 p2 h0 n0) (s₁.setTop (entryFrame m #[(.ref a1), (.int p2)] 2))
  refine go (fun _ k => castTop (ef_11DIFFERENT m a1 p2) k) ?_
  show Go _ p e below s _ _ _ (s₁.setTop (mkF m 0 #[.val (.ref a1), .val (.int p2)] []))
  refine go (fun _ => XS.aloadN X0.here hx rfl (hb hby d11_0) rfl rfl) ?_
  show Go _ p e below s _ _ _ (s₁.setTop (mkF m 1 #[.val (.ref a1), .val (.int p2)] [(.ref a1)]))
  obtain ⟨cq267, kq267, q267a, q267b, q267c⟩ := isOf hZ e0 P0
  obtain ⟨_, _, ⟨T267, L267, k267, n267⟩, -, X267, ⟨Lc267, hQ267, l267, y267, z267⟩, st267⟩ := X0.virtualBackUp hx (x := (⟨"com/example/reticule/reticule/engine/Comparison", "ordinal", "()I"⟩ : MethodName)) (y := (⟨"java/lang/Enum", "ordinal", "()I"⟩ : MethodName)) (owner := "java/lang/Enum") hown (mvT hZ (hw _ (List.mem_of_getElem? (i := 61) rfl))) (mvT hZ (hw _ (List.mem_of_getElem? (i := 62) rfl))) (mvT hZ (hw _ (List.mem_of_getElem? (i := 63) rfl))) (by decide) (mvT hZ (hw _ (List.mem_of_getElem? (i := 65) rfl))) (mvT hZ (hw _ (List.mem_of_getElem? (i := 64) rfl))) (backOf (W := 0) (rm12 l Z a0 hw [] a1 (1 : Int32) h0 n0 Z0 P1) hZ (hw _ (List.mem_of_getElem? (i := 67) rfl)) (hw _ (List.mem_of_getElem? (i := 66) rfl)) (by decide) (by decide)) q267a q267c (g := (mkF m 1 #[.val (.ref a1), .val (.int p2)] [(.ref a1)])) rfl (by rw [hml]; rfl) (Steps.refl _) (argsL := []) (rest := []) (lenOf pd_11_0 rfl) rfl (by show 2 * 0 + _ ≤ _; exact Nat.le_of_eq rfl) (hb hby d11_1) (fun _ _ => ⟨rfl, e0, (by decide : 0 + 0 ≤ _), (by decide : 0 + 0 ≤ _)⟩)
  dsimp only [Pt.U, Pt.locs, Pt.cells, Pt.slots] at X267 l267 y267 z267 st267 hQ267
  subst l267 y267 z267
  obtain ⟨rfl, N267q, e267⟩ := hQ267
  have N267 := Fr.app N0 N267q
  refine goT st267 ?_
  show Go _ p e below s _ _ _ (T267.setTop (mkF m 4 #[.val (.ref a1), .val (.int p2)] [(.int (1 : Int32))]))
  have hin : ¬ (((1 : Int32)).toInt < (0 : Int) ∨ ((1 : Int32)).toInt > (5 : Int)) := by decide
  have hoff : (#[50, 62, 74, 86, 98, 110] : Array Int)[(((1 : Int32)).toInt - (0 : Int)).toNat]? = some (62 : Int) := by decide
  refine go (fun _ hr => XS.tswIn (o := (62 : Int)) (i := (1 : Int32)) X267.here hx rfl (pc0 := 4) (pc' := 66) rfl (hb hby d11_4) rfl hin hoff (by decide) (by decide) hr) ?_
  show Go _ p e below s _ _ _ (T267.setTop (mkF m 66 #[.val (.ref a1), .val (.int p2)] []))
  refine go (fun _ => XS.iloadN X267.here hx rfl (hb hby d11_66) rfl) ?_
  show Go _ p e below s _ _ _ (T267.setTop (mkF m 67 #[.val (.ref a1), .val (.int p2)] [(.int p2)]))
  by_cases hc67_268 : p2 = (0 : Int32)
  · refine go (fun _ => XS.ifYes X267.here hx rfl (pc0 := 67) (pc' := 74) rfl (hb hby d11_67) rfl ((if0 _ _).trans (teq hc67_268).1) (by decide) (by decide)) ?_
    show Go _ p e below s _ _ _ (T267.setTop (mkF m 74 #[.val (.ref a1), .val (.int p2)] []))
    refine go (fun _ => XS.iconst X267.here hx rfl (hb hby d11_74)) ?_
    show Go _ p e below s _ _ _ (T267.setTop (mkF m 75 #[.val (.ref a1), .val (.int p2)] [(.int (0 : Int32))]))
    refine go (fun _ => XS.goto X267.here hx rfl (pc0 := 75) (pc' := 123) rfl (hb hby d11_75) (by decide) (by decide)) ?_
    show Go _ p e below s _ _ _ (T267.setTop (mkF m 123 #[.val (.ref a1), .val (.int p2)] [(.int (0 : Int32))]))
    refine goRet X267 hx Bd.notSynchronized Bd.returns rfl (Or.inl ⟨rfl, Or.inr (Or.inl rfl), _, rfl⟩) (hb hby d11_123) (by decide) (by decide) (by rw [e267]; refine ⟨(by unfold own_c1; simp only [if_pos hc67_268]), N267, rfl⟩)
  · refine go (fun _ => XS.ifNo X267.here hx rfl (hb hby d11_67) rfl ((if0 _ _).trans (feq hc67_268).1)) ?_
    show Go _ p e below s _ _ _ (T267.setTop (mkF m 70 #[.val (.ref a1), .val (.int p2)] []))
    refine go (fun _ => XS.iconst X267.here hx rfl (hb hby d11_70)) ?_
    show Go _ p e below s _ _ _ (T267.setTop (mkF m 71 #[.val (.ref a1), .val (.int p2)] [(.int (1 : Int32))]))
    refine go (fun _ => XS.goto X267.here hx rfl (pc0 := 71) (pc' := 123) rfl (hb hby d11_71) (by decide) (by decide)) ?_
    show Go _ p e below s _ _ _ (T267.setTop (mkF m 123 #[.val (.ref a1), .val (.int p2)] [(.int (1 : Int32))]))
    refine goRet X267 hx Bd.notSynchronized Bd.returns rfl (Or.inl ⟨rfl, Or.inr (Or.inl rfl), _, rfl⟩) (hb hby d11_123) (by decide) (by decide) (by rw [e267]; refine ⟨(by unfold own_c1; simp only [if_neg hc67_268]), N267, rfl⟩)
theorem d1_17 : decode method_2_code 17 = .ok (.iload_n 0, 1) := by decide +kernel
theorem d1_18 : decode method_2_code 18 = .ok (.iconst 2, 1) := by decide +kernel
theorem d1_19 : decode method_2_code 19 = .ok (.if_icmp .ne 7, 3) := by decide +kernel
theorem d1_22 : decode method_2_code 22 = .ok (.getstatic 16, 3) := by decide +kernel
theorem d1_25 : decode method_2_code 25 = .ok (.areturn, 1) := by decide +kernel
theorem pn_1LESS : plainName "com/example/reticule/reticule/engine/ComparisonHoldsPinLaw" = true := by first | (simp [plainName, overriddenIn]; done) | decide +kernel
theorem ef_1LESS (m : MethodId)  : entryFrame m #[(.int (2 : Int32))] 1 = mkF m 0 #[.val (.int (2 : Int32))] [] := by first | (simp [entryFrame, mkF, argsToLocals, Value.category]; done) | rfl
def Q1LESS (Z : State)  (e1 : Addr) (h0 : Heap) (n0 : Nat) (v : Option Value) (h : Heap) (L : List Loc) : Prop := v = some (.ref e1) ∧ Fr n0 L ∧ (h = h0)
set_option maxRecDepth 65536 in
set_option maxHeartbeats 40000000 in
theorem rm1LESS (l : Launch) (Z : State) (a0 : Array Value) (hw : ∀ d ∈ tables_1, d.before a0 Z = true) (ws : List Jvm.Cond)  (e1 : Addr) (h0 : Heap) (n0 : Nat) (Z0 : n0 ≤ h0.size) (P0 : Sta Z h0 "com/example/reticule/reticule/engine/Comparison" "LESS" "Lcom/example/reticule/reticule/engine/Comparison;" (.ref e1)) :
    MetFree l (⟨"com/example/reticule/reticule/engine/ComparisonHoldsPinLaw", "pick", "(I)Lcom/example/reticule/reticule/engine/Comparison;"⟩ : MethodName) (head1 (Jvm.Cond.code (⟨"com/example/reticule/reticule/engine/ComparisonHoldsPinLaw", "pick", "(I)Lcom/example/reticule/reticule/engine/Comparison;"⟩ : MethodName) method_2_code 1 (some (.object "com/example/reticule/reticule/engine/Comparison")) :: ws) ({ frames := 0, cells := 0, slots := 0, locals := 0 } : Room)) (fun a U => a = #[(.int (2 : Int32))] ∧ Z.Warmed39 U.vm ∧ U.heap = h0) (fun _ _ _ _ _ => True) (fun _ U o U' => ∃ v L, o = .returned v ∧ Q1LESS Z e1 h0 n0 v U'.heap L ∧ FrameEnd U o U' L ({ frames := 0, cells := 0, slots := 0, locals := 0 } : Room).cells ({ frames := 0, cells := 0, slots := 0, locals := 0 } : Room).slots) := by
  refine MetFree.of_bodySF (plainFor_of_name pn_1LESS) hisR ?_
  intro p e s m args below meth c s₁ Bd hml0 hP hK
  obtain ⟨rfl, hZ, hh⟩ := hP
  have hx := Bd.exec
  have hby := Bd.bytes
  have hml : c.maxLocals = 1 := hml0
  have hown : s.vm.findClass "com/example/reticule/reticule/engine/ComparisonHoldsPinLaw" = some m.cls := findClass_of_methodNamed Bd.named
  have hnm := (name_of_methodNamed Bd.named Bd.method).1
  have X0 : Stand p l e ({ frames := 0, cells := 0, slots := 0, locals := 0 } : Room) s m #[(.int (2 : Int32))] below meth c s₁ [] 0 0 := Stand.of_body Bd
  have e0 : s₁.heap = h0 := by rw [← hh, Bd.state]; rfl
  have N0 := Fr.nil n0
  have hS0 : s.Since s.vm 0 := (State.WarmedH.refl s).since 0
  show Go FrameEnd p e below s ({ frames := 0, cells := 0, slots := 0, locals := 0 } : Room).cells ({ frames := 0, cells := 0, slots := 0, locals := 0 } : Room).slots (Q1LESS Z e1 h0 n0) (s₁.setTop (entryFrame m #[(.int (2 : Int32))] 1))
  refine go (fun _ k => castTop (ef_1LESS m ) k) ?_
  show Go _ p e below s _ _ _ (s₁.setTop (mkF m 0 #[.val (.int (2 : Int32))] []))
  refine go (fun _ => XS.iloadN X0.here hx rfl (hb hby d1_0) rfl) ?_
  show Go _ p e below s _ _ _ (s₁.setTop (mkF m 1 #[.val (.int (2 : Int32))] [(.int (2 : Int32))]))
  refine go (fun _ => XS.ifYes X0.here hx rfl (pc0 := 1) (pc' := 8) rfl (hb hby d1_1) rfl ((if0 _ _).trans (feq (by decide : ¬ ((2 : Int32) = (0 : Int32)))).2) (by decide) (by decide)) ?_
  show Go _ p e below s _ _ _ (s₁.setTop (mkF m 8 #[.val (.int (2 : Int32))] []))
  refine go (fun _ => XS.iloadN X0.here hx rfl (hb hby d1_8) rfl) ?_
  show Go _ p e below s _ _ _ (s₁.setTop (mkF m 9 #[.val (.int (2 : Int32))] [(.int (2 : Int32))]))
  refine go (fun _ => XS.iconst X0.here hx rfl (hb hby d1_9)) ?_
  show Go _ p e below s _ _ _ (s₁.setTop (mkF m 10 #[.val (.int (2 : Int32))] [(.int (1 : Int32)), (.int (2 : Int32))]))
  refine go (fun _ => XS.icmpYes X0.here hx rfl (pc0 := 10) (pc' := 17) rfl (hb hby d1_10) rfl (feq (by decide : ¬ ((2 : Int32) = (1 : Int32)))).2 (by decide) (by decide)) ?_
  show Go _ p e below s _ _ _ (s₁.setTop (mkF m 17 #[.val (.int (2 : Int32))] []))
  refine go (fun _ => XS.iloadN X0.here hx rfl (hb hby d1_17) rfl) ?_
  show Go _ p e below s _ _ _ (s₁.setTop (mkF m 18 #[.val (.int (2 : Int32))] [(.int (2 : Int32))]))
  refine go (fun _ => XS.iconst X0.here hx rfl (hb hby d1_18)) ?_
  show Go _ p e below s _ _ _ (s₁.setTop (mkF m 19 #[.val (.int (2 : Int32))] [(.int (2 : Int32)), (.int (2 : Int32))]))
  refine go (fun _ => XS.icmpNo X0.here hx rfl (hb hby d1_19) rfl (teq (rfl : (2 : Int32) = (2 : Int32))).2) ?_
  show Go _ p e below s _ _ _ (s₁.setTop (mkF m 22 #[.val (.int (2 : Int32))] []))
  obtain ⟨T270, X270, e270, st270⟩ := getS2 X0 hx hZ hown (host := "") (Or.inl (hw _ (List.mem_of_getElem? (i := 70) rfl))) Via.refl e0 P0 (g := (mkF m 22 #[.val (.int (2 : Int32))] [])) rfl (hb hby d1_22)
  refine go st270 ?_
  show Go _ p e below s _ _ _ (T270.setTop (mkF m 25 #[.val (.int (2 : Int32))] [(.ref e1)]))
  refine goRet X270 hx Bd.notSynchronized Bd.returns rfl (Or.inr (Or.inr (Or.inr (Or.inr ⟨rfl, rfl, rfl⟩)))) (hb hby d1_25) (by decide) (by decide) (by rw [e270]; refine ⟨rfl, N0, rfl⟩)
def own_c2 (p : Int32) : Int32 := if p < 0 then 1 else 0
theorem d11_78 : decode prog_28_method_5_code 78 = .ok (.iload_n 1, 1) := by decide +kernel
theorem d11_79 : decode prog_28_method_5_code 79 = .ok (.ifCond .ge 7, 3) := by decide +kernel
theorem d11_82 : decode prog_28_method_5_code 82 = .ok (.iconst 1, 1) := by decide +kernel
theorem d11_83 : decode prog_28_method_5_code 83 = .ok (.goto 40, 3) := by decide +kernel
theorem d11_86 : decode prog_28_method_5_code 86 = .ok (.iconst 0, 1) := by decide +kernel
theorem d11_87 : decode prog_28_method_5_code 87 = .ok (.goto 36, 3) := by decide +kernel
theorem pn_11LESS : plainName "com/example/reticule/reticule/engine/Comparison" = true := by first | (simp [plainName, overriddenIn]; done) | decide +kernel
theorem ef_11LESS (m : MethodId) (a1 : Addr) (p2 : Int32) : entryFrame m #[(.ref a1), (.int p2)] 2 = mkF m 0 #[.val (.ref a1), .val (.int p2)] [] := by first | (simp [entryFrame, mkF, argsToLocals, Value.category]; done) | rfl
def Q11LESS (Z : State) (a1 : Addr) (p2 : Int32) (h0 : Heap) (n0 : Nat) (v : Option Value) (h : Heap) (L : List Loc) : Prop := v = some (.int (own_c2 p2)) ∧ Fr n0 L ∧ (h = h0)
set_option maxRecDepth 65536 in
set_option maxHeartbeats 40000000 in
theorem rm11LESS (l : Launch) (Z : State) (a0 : Array Value) (hw : ∀ d ∈ tables_1, d.before a0 Z = true) (ws : List Jvm.Cond) (a1 : Addr) (p2 : Int32) (h0 : Heap) (n0 : Nat) (Z0 : n0 ≤ h0.size) (P0 : Exa Z h0 a1 "com/example/reticule/reticule/engine/Comparison") (P1 : Fld Z h0 a1 "java/lang/Enum" "ordinal" "I" (.int (2 : Int32))) :
    MetFree l (⟨"com/example/reticule/reticule/engine/Comparison", "holds", "(I)Z"⟩ : MethodName) (head1 (Jvm.Cond.code (⟨"com/example/reticule/reticule/engine/Comparison", "holds", "(I)Z"⟩ : MethodName) prog_28_method_5_code 2 (some .boolean) :: ws) ({ frames := 1, cells := 0, slots := 0, locals := 12 } : Room)) (fun a U => a = #[(.ref a1), (.int p2)] ∧ Z.Warmed39 U.vm ∧ U.heap = h0) (fun _ _ _ _ _ => True) (fun _ U o U' => ∃ v L, o = .returned v ∧ Q11LESS Z a1 p2 h0 n0 v U'.heap L ∧ FrameEnd U o U' L ({ frames := 1, cells := 0, slots := 0, locals := 12 } : Room).cells ({ frames := 1, cells := 0, slots := 0, locals := 12 } : Room).slots) := by
  refine MetFree.of_bodySF (plainFor_of_name pn_11LESS) hisR ?_
  intro p e s m args below meth c s₁ Bd hml0 hP hK
  obtain ⟨rfl, hZ, hh⟩ := hP
  have hx := Bd.exec
  have hby := Bd.bytes
  have hml : c.maxLocals = 2 := hml0
  have hown : s.vm.findClass "com/example/reticule/reticule/engine/Comparison" = some m.cls := findClass_of_methodNamed Bd.named
  have hnm := (name_of_methodNamed Bd.named Bd.method).1
  have X0 : Stand p l e ({ frames := 1, cells := 0, slots := 0, locals := 12 } : Room) s m #[(.ref a1), (.int p2)] below meth c s₁ [] 0 0 := Stand.of_body Bd
  have e0 : s₁.heap = h0 := by rw [← hh, Bd.state]; rfl
  have N0 := Fr.nil n0
  have hS0 : s.Since s.vm 0 := (State.WarmedH.refl s).since 0
  show Go FrameEnd p e below s ({ frames := 1, cells := 0, slots := 0, locals := 12 } : Room).cells ({ frames := 1, cells := 0, slots := 0, locals := 12 } : Room).slots (Q11LESS Z a1 p2 h0 n0) (s₁.setTop (entryFrame m #[(.ref a1), (.int p2)] 2))
  refine go (fun _ k => castTop (ef_11LESS m a1 p2) k) ?_
  show Go _ p e below s _ _ _ (s₁.setTop (mkF m 0 #[.val (.ref a1), .val (.int p2)] []))
  refine go (fun _ => XS.aloadN X0.here hx rfl (hb hby d11_0) rfl rfl) ?_
  show Go _ p e below s _ _ _ (s₁.setTop (mkF m 1 #[.val (.ref a1), .val (.int p2)] [(.ref a1)]))
  obtain ⟨cq273, kq273, q273a, q273b, q273c⟩ := isOf hZ e0 P0
  obtain ⟨_, _, ⟨T273, L273, k273, n273⟩, -, X273, ⟨Lc273, hQ273, l273, y273, z273⟩, st273⟩ := X0.virtualBackUp hx (x := (⟨"com/example/reticule/reticule/engine/Comparison", "ordinal", "()I"⟩ : MethodName)) (y := (⟨"java/lang/Enum", "ordinal", "()I"⟩ : MethodName)) (owner := "java/lang/Enum") hown (mvT hZ (hw _ (List.mem_of_getElem? (i := 61) rfl))) (mvT hZ (hw _ (List.mem_of_getElem? (i := 62) rfl))) (mvT hZ (hw _ (List.mem_of_getElem? (i := 63) rfl))) (by decide) (mvT hZ (hw _ (List.mem_of_getElem? (i := 65) rfl))) (mvT hZ (hw _ (List.mem_of_getElem? (i := 64) rfl))) (backOf (W := 0) (rm12 l Z a0 hw [] a1 (2 : Int32) h0 n0 Z0 P1) hZ (hw _ (List.mem_of_getElem? (i := 67) rfl)) (hw _ (List.mem_of_getElem? (i := 66) rfl)) (by decide) (by decide)) q273a q273c (g := (mkF m 1 #[.val (.ref a1), .val (.int p2)] [(.ref a1)])) rfl (by rw [hml]; rfl) (Steps.refl _) (argsL := []) (rest := []) (lenOf pd_11_0 rfl) rfl (by show 2 * 0 + _ ≤ _; exact Nat.le_of_eq rfl) (hb hby d11_1) (fun _ _ => ⟨rfl, e0, (by decide : 0 + 0 ≤ _), (by decide : 0 + 0 ≤ _)⟩)
  dsimp only [Pt.U, Pt.locs, Pt.cells, Pt.slots] at X273 l273 y273 z273 st273 hQ273
  subst l273 y273 z273
  obtain ⟨rfl, N273q, e273⟩ := hQ273
  have N273 := Fr.app N0 N273q
  refine goT st273 ?_
  show Go _ p e below s _ _ _ (T273.setTop (mkF m 4 #[.val (.ref a1), .val (.int p2)] [(.int (2 : Int32))]))
  have hin : ¬ (((2 : Int32)).toInt < (0 : Int) ∨ ((2 : Int32)).toInt > (5 : Int)) := by decide
  have hoff : (#[50, 62, 74, 86, 98, 110] : Array Int)[(((2 : Int32)).toInt - (0 : Int)).toNat]? = some (74 : Int) := by decide
  refine go (fun _ hr => XS.tswIn (o := (74 : Int)) (i := (2 : Int32)) X273.here hx rfl (pc0 := 4) (pc' := 78) rfl (hb hby d11_4) rfl hin hoff (by decide) (by decide) hr) ?_
  show Go _ p e below s _ _ _ (T273.setTop (mkF m 78 #[.val (.ref a1), .val (.int p2)] []))
  refine go (fun _ => XS.iloadN X273.here hx rfl (hb hby d11_78) rfl) ?_
  show Go _ p e below s _ _ _ (T273.setTop (mkF m 79 #[.val (.ref a1), .val (.int p2)] [(.int p2)]))
  by_cases hc79_274 : p2 < (0 : Int32)
  · refine go (fun _ => XS.ifNo X273.here hx rfl (hb hby d11_79) rfl ((if0 _ _).trans (tlt hc79_274).2.1)) ?_
    show Go _ p e below s _ _ _ (T273.setTop (mkF m 82 #[.val (.ref a1), .val (.int p2)] []))
    refine go (fun _ => XS.iconst X273.here hx rfl (hb hby d11_82)) ?_
    show Go _ p e below s _ _ _ (T273.setTop (mkF m 83 #[.val (.ref a1), .val (.int p2)] [(.int (1 : Int32))]))
    refine go (fun _ => XS.goto X273.here hx rfl (pc0 := 83) (pc' := 123) rfl (hb hby d11_83) (by decide) (by decide)) ?_
    show Go _ p e below s _ _ _ (T273.setTop (mkF m 123 #[.val (.ref a1), .val (.int p2)] [(.int (1 : Int32))]))
    refine goRet X273 hx Bd.notSynchronized Bd.returns rfl (Or.inl ⟨rfl, Or.inr (Or.inl rfl), _, rfl⟩) (hb hby d11_123) (by decide) (by decide) (by rw [e273]; refine ⟨(by unfold own_c2; simp only [if_pos hc79_274]), N273, rfl⟩)
  · refine go (fun _ => XS.ifYes X273.here hx rfl (pc0 := 79) (pc' := 86) rfl (hb hby d11_79) rfl ((if0 _ _).trans (flt hc79_274).2.1) (by decide) (by decide)) ?_
    show Go _ p e below s _ _ _ (T273.setTop (mkF m 86 #[.val (.ref a1), .val (.int p2)] []))
    refine go (fun _ => XS.iconst X273.here hx rfl (hb hby d11_86)) ?_
    show Go _ p e below s _ _ _ (T273.setTop (mkF m 87 #[.val (.ref a1), .val (.int p2)] [(.int (0 : Int32))]))
    refine go (fun _ => XS.goto X273.here hx rfl (pc0 := 87) (pc' := 123) rfl (hb hby d11_87) (by decide) (by decide)) ?_
    show Go _ p e below s _ _ _ (T273.setTop (mkF m 123 #[.val (.ref a1), .val (.int p2)] [(.int (0 : Int32))]))
    refine goRet X273 hx Bd.notSynchronized Bd.returns rfl (Or.inl ⟨rfl, Or.inr (Or.inl rfl), _, rfl⟩) (hb hby d11_123) (by decide) (by decide) (by rw [e273]; refine ⟨(by unfold own_c2; simp only [if_neg hc79_274]), N273, rfl⟩)
theorem d1_26 : decode method_2_code 26 = .ok (.iload_n 0, 1) := by decide +kernel
theorem d1_27 : decode method_2_code 27 = .ok (.iconst 3, 1) := by decide +kernel
theorem d1_28 : decode method_2_code 28 = .ok (.if_icmp .ne 7, 3) := by decide +kernel
theorem d1_31 : decode method_2_code 31 = .ok (.getstatic 19, 3) := by decide +kernel
theorem d1_34 : decode method_2_code 34 = .ok (.areturn, 1) := by decide +kernel
theorem pn_1AT_MOST : plainName "com/example/reticule/reticule/engine/ComparisonHoldsPinLaw" = true := by first | (simp [plainName, overriddenIn]; done) | decide +kernel
theorem ef_1AT_MOST (m : MethodId)  : entryFrame m #[(.int (3 : Int32))] 1 = mkF m 0 #[.val (.int (3 : Int32))] [] := by first | (simp [entryFrame, mkF, argsToLocals, Value.category]; done) | rfl
def Q1AT_MOST (Z : State)  (e1 : Addr) (h0 : Heap) (n0 : Nat) (v : Option Value) (h : Heap) (L : List Loc) : Prop := v = some (.ref e1) ∧ Fr n0 L ∧ (h = h0)
set_option maxRecDepth 65536 in
set_option maxHeartbeats 40000000 in
theorem rm1AT_MOST (l : Launch) (Z : State) (a0 : Array Value) (hw : ∀ d ∈ tables_1, d.before a0 Z = true) (ws : List Jvm.Cond)  (e1 : Addr) (h0 : Heap) (n0 : Nat) (Z0 : n0 ≤ h0.size) (P0 : Sta Z h0 "com/example/reticule/reticule/engine/Comparison" "AT_MOST" "Lcom/example/reticule/reticule/engine/Comparison;" (.ref e1)) :
    MetFree l (⟨"com/example/reticule/reticule/engine/ComparisonHoldsPinLaw", "pick", "(I)Lcom/example/reticule/reticule/engine/Comparison;"⟩ : MethodName) (head1 (Jvm.Cond.code (⟨"com/example/reticule/reticule/engine/ComparisonHoldsPinLaw", "pick", "(I)Lcom/example/reticule/reticule/engine/Comparison;"⟩ : MethodName) method_2_code 1 (some (.object "com/example/reticule/reticule/engine/Comparison")) :: ws) ({ frames := 0, cells := 0, slots := 0, locals := 0 } : Room)) (fun a U => a = #[(.int (3 : Int32))] ∧ Z.Warmed39 U.vm ∧ U.heap = h0) (fun _ _ _ _ _ => True) (fun _ U o U' => ∃ v L, o = .returned v ∧ Q1AT_MOST Z e1 h0 n0 v U'.heap L ∧ FrameEnd U o U' L ({ frames := 0, cells := 0, slots := 0, locals := 0 } : Room).cells ({ frames := 0, cells := 0, slots := 0, locals := 0 } : Room).slots) := by
  refine MetFree.of_bodySF (plainFor_of_name pn_1AT_MOST) hisR ?_
  intro p e s m args below meth c s₁ Bd hml0 hP hK
  obtain ⟨rfl, hZ, hh⟩ := hP
  have hx := Bd.exec
  have hby := Bd.bytes
  have hml : c.maxLocals = 1 := hml0
  have hown : s.vm.findClass "com/example/reticule/reticule/engine/ComparisonHoldsPinLaw" = some m.cls := findClass_of_methodNamed Bd.named
  have hnm := (name_of_methodNamed Bd.named Bd.method).1
  have X0 : Stand p l e ({ frames := 0, cells := 0, slots := 0, locals := 0 } : Room) s m #[(.int (3 : Int32))] below meth c s₁ [] 0 0 := Stand.of_body Bd
  have e0 : s₁.heap = h0 := by rw [← hh, Bd.state]; rfl
  have N0 := Fr.nil n0
  have hS0 : s.Since s.vm 0 := (State.WarmedH.refl s).since 0
  show Go FrameEnd p e below s ({ frames := 0, cells := 0, slots := 0, locals := 0 } : Room).cells ({ frames := 0, cells := 0, slots := 0, locals := 0 } : Room).slots (Q1AT_MOST Z e1 h0 n0) (s₁.setTop (entryFrame m #[(.int (3 : Int32))] 1))
  refine go (fun _ k => castTop (ef_1AT_MOST m ) k) ?_
  show Go _ p e below s _ _ _ (s₁.setTop (mkF m 0 #[.val (.int (3 : Int32))] []))
  refine go (fun _ => XS.iloadN X0.here hx rfl (hb hby d1_0) rfl) ?_
  show Go _ p e below s _ _ _ (s₁.setTop (mkF m 1 #[.val (.int (3 : Int32))] [(.int (3 : Int32))]))
  refine go (fun _ => XS.ifYes X0.here hx rfl (pc0 := 1) (pc' := 8) rfl (hb hby d1_1) rfl ((if0 _ _).trans (feq (by decide : ¬ ((3 : Int32) = (0 : Int32)))).2) (by decide) (by decide)) ?_
  show Go _ p e below s _ _ _ (s₁.setTop (mkF m 8 #[.val (.int (3 : Int32))] []))
  refine go (fun _ => XS.iloadN X0.here hx rfl (hb hby d1_8) rfl) ?_
  show Go _ p e below s _ _ _ (s₁.setTop (mkF m 9 #[.val (.int (3 : Int32))] [(.int (3 : Int32))]))
  refine go (fun _ => XS.iconst X0.here hx rfl (hb hby d1_9)) ?_
  show Go _ p e below s _ _ _ (s₁.setTop (mkF m 10 #[.val (.int (3 : Int32))] [(.int (1 : Int32)), (.int (3 : Int32))]))
  refine go (fun _ => XS.icmpYes X0.here hx rfl (pc0 := 10) (pc' := 17) rfl (hb hby d1_10) rfl (feq (by decide : ¬ ((3 : Int32) = (1 : Int32)))).2 (by decide) (by decide)) ?_
  show Go _ p e below s _ _ _ (s₁.setTop (mkF m 17 #[.val (.int (3 : Int32))] []))
  refine go (fun _ => XS.iloadN X0.here hx rfl (hb hby d1_17) rfl) ?_
  show Go _ p e below s _ _ _ (s₁.setTop (mkF m 18 #[.val (.int (3 : Int32))] [(.int (3 : Int32))]))
  refine go (fun _ => XS.iconst X0.here hx rfl (hb hby d1_18)) ?_
  show Go _ p e below s _ _ _ (s₁.setTop (mkF m 19 #[.val (.int (3 : Int32))] [(.int (2 : Int32)), (.int (3 : Int32))]))
  refine go (fun _ => XS.icmpYes X0.here hx rfl (pc0 := 19) (pc' := 26) rfl (hb hby d1_19) rfl (feq (by decide : ¬ ((3 : Int32) = (2 : Int32)))).2 (by decide) (by decide)) ?_
  show Go _ p e below s _ _ _ (s₁.setTop (mkF m 26 #[.val (.int (3 : Int32))] []))
  refine go (fun _ => XS.iloadN X0.here hx rfl (hb hby d1_26) rfl) ?_
  show Go _ p e below s _ _ _ (s₁.setTop (mkF m 27 #[.val (.int (3 : Int32))] [(.int (3 : Int32))]))
  refine go (fun _ => XS.iconst X0.here hx rfl (hb hby d1_27)) ?_
  show Go _ p e below s _ _ _ (s₁.setTop (mkF m 28 #[.val (.int (3 : Int32))] [(.int (3 : Int32)), (.int (3 : Int32))]))
  refine go (fun _ => XS.icmpNo X0.here hx rfl (hb hby d1_28) rfl (teq (rfl : (3 : Int32) = (3 : Int32))).2) ?_
  show Go _ p e below s _ _ _ (s₁.setTop (mkF m 31 #[.val (.int (3 : Int32))] []))
  obtain ⟨T276, X276, e276, st276⟩ := getS2 X0 hx hZ hown (host := "") (Or.inl (hw _ (List.mem_of_getElem? (i := 78) rfl))) Via.refl e0 P0 (g := (mkF m 31 #[.val (.int (3 : Int32))] [])) rfl (hb hby d1_31)
  refine go st276 ?_
  show Go _ p e below s _ _ _ (T276.setTop (mkF m 34 #[.val (.int (3 : Int32))] [(.ref e1)]))
  refine goRet X276 hx Bd.notSynchronized Bd.returns rfl (Or.inr (Or.inr (Or.inr (Or.inr ⟨rfl, rfl, rfl⟩)))) (hb hby d1_34) (by decide) (by decide) (by rw [e276]; refine ⟨rfl, N0, rfl⟩)
def own_c3 (p : Int32) : Int32 := if 0 < p then 0 else 1
theorem d11_90 : decode prog_28_method_5_code 90 = .ok (.iload_n 1, 1) := by decide +kernel
theorem d11_91 : decode prog_28_method_5_code 91 = .ok (.ifCond .gt 7, 3) := by decide +kernel
theorem d11_94 : decode prog_28_method_5_code 94 = .ok (.iconst 1, 1) := by decide +kernel
theorem d11_95 : decode prog_28_method_5_code 95 = .ok (.goto 28, 3) := by decide +kernel
theorem d11_98 : decode prog_28_method_5_code 98 = .ok (.iconst 0, 1) := by decide +kernel
theorem d11_99 : decode prog_28_method_5_code 99 = .ok (.goto 24, 3) := by decide +kernel
theorem pn_11AT_MOST : plainName "com/example/reticule/reticule/engine/Comparison" = true := by first | (simp [plainName, overriddenIn]; done) | decide +kernel
theorem ef_11AT_MOST (m : MethodId) (a1 : Addr) (p2 : Int32) : entryFrame m #[(.ref a1), (.int p2)] 2 = mkF m 0 #[.val (.ref a1), .val (.int p2)] [] := by first | (simp [entryFrame, mkF, argsToLocals, Value.category]; done) | rfl
def Q11AT_MOST (Z : State) (a1 : Addr) (p2 : Int32) (h0 : Heap) (n0 : Nat) (v : Option Value) (h : Heap) (L : List Loc) : Prop := v = some (.int (own_c3 p2)) ∧ Fr n0 L ∧ (h = h0)
set_option maxRecDepth 65536 in
set_option maxHeartbeats 40000000 in
theorem rm11AT_MOST (l : Launch) (Z : State) (a0 : Array Value) (hw : ∀ d ∈ tables_1, d.before a0 Z = true) (ws : List Jvm.Cond) (a1 : Addr) (p2 : Int32) (h0 : Heap) (n0 : Nat) (Z0 : n0 ≤ h0.size) (P0 : Exa Z h0 a1 "com/example/reticule/reticule/engine/Comparison") (P1 : Fld Z h0 a1 "java/lang/Enum" "ordinal" "I" (.int (3 : Int32))) :
    MetFree l (⟨"com/example/reticule/reticule/engine/Comparison", "holds", "(I)Z"⟩ : MethodName) (head1 (Jvm.Cond.code (⟨"com/example/reticule/reticule/engine/Comparison", "holds", "(I)Z"⟩ : MethodName) prog_28_method_5_code 2 (some .boolean) :: ws) ({ frames := 1, cells := 0, slots := 0, locals := 12 } : Room)) (fun a U => a = #[(.ref a1), (.int p2)] ∧ Z.Warmed39 U.vm ∧ U.heap = h0) (fun _ _ _ _ _ => True) (fun _ U o U' => ∃ v L, o = .returned v ∧ Q11AT_MOST Z a1 p2 h0 n0 v U'.heap L ∧ FrameEnd U o U' L ({ frames := 1, cells := 0, slots := 0, locals := 12 } : Room).cells ({ frames := 1, cells := 0, slots := 0, locals := 12 } : Room).slots) := by
  refine MetFree.of_bodySF (plainFor_of_name pn_11AT_MOST) hisR ?_
  intro p e s m args below meth c s₁ Bd hml0 hP hK
  obtain ⟨rfl, hZ, hh⟩ := hP
  have hx := Bd.exec
  have hby := Bd.bytes
  have hml : c.maxLocals = 2 := hml0
  have hown : s.vm.findClass "com/example/reticule/reticule/engine/Comparison" = some m.cls := findClass_of_methodNamed Bd.named
  have hnm := (name_of_methodNamed Bd.named Bd.method).1
  have X0 : Stand p l e ({ frames := 1, cells := 0, slots := 0, locals := 12 } : Room) s m #[(.ref a1), (.int p2)] below meth c s₁ [] 0 0 := Stand.of_body Bd
  have e0 : s₁.heap = h0 := by rw [← hh, Bd.state]; rfl
  have N0 := Fr.nil n0
  have hS0 : s.Since s.vm 0 := (State.WarmedH.refl s).since 0
  show Go FrameEnd p e below s ({ frames := 1, cells := 0, slots := 0, locals := 12 } : Room).cells ({ frames := 1, cells := 0, slots := 0, locals := 12 } : Room).slots (Q11AT_MOST Z a1 p2 h0 n0) (s₁.setTop (entryFrame m #[(.ref a1), (.int p2)] 2))
  refine go (fun _ k => castTop (ef_11AT_MOST m a1 p2) k) ?_
  show Go _ p e below s _ _ _ (s₁.setTop (mkF m 0 #[.val (.ref a1), .val (.int p2)] []))
  refine go (fun _ => XS.aloadN X0.here hx rfl (hb hby d11_0) rfl rfl) ?_
  show Go _ p e below s _ _ _ (s₁.setTop (mkF m 1 #[.val (.ref a1), .val (.int p2)] [(.ref a1)]))
  obtain ⟨cq279, kq279, q279a, q279b, q279c⟩ := isOf hZ e0 P0
  obtain ⟨_, _, ⟨T279, L279, k279, n279⟩, -, X279, ⟨Lc279, hQ279, l279, y279, z279⟩, st279⟩ := X0.virtualBackUp hx (x := (⟨"com/example/reticule/reticule/engine/Comparison", "ordinal", "()I"⟩ : MethodName)) (y := (⟨"java/lang/Enum", "ordinal", "()I"⟩ : MethodName)) (owner := "java/lang/Enum") hown (mvT hZ (hw _ (List.mem_of_getElem? (i := 61) rfl))) (mvT hZ (hw _ (List.mem_of_getElem? (i := 62) rfl))) (mvT hZ (hw _ (List.mem_of_getElem? (i := 63) rfl))) (by decide) (mvT hZ (hw _ (List.mem_of_getElem? (i := 65) rfl))) (mvT hZ (hw _ (List.mem_of_getElem? (i := 64) rfl))) (backOf (W := 0) (rm12 l Z a0 hw [] a1 (3 : Int32) h0 n0 Z0 P1) hZ (hw _ (List.mem_of_getElem? (i := 67) rfl)) (hw _ (List.mem_of_getElem? (i := 66) rfl)) (by decide) (by decide)) q279a q279c (g := (mkF m 1 #[.val (.ref a1), .val (.int p2)] [(.ref a1)])) rfl (by rw [hml]; rfl) (Steps.refl _) (argsL := []) (rest := []) (lenOf pd_11_0 rfl) rfl (by show 2 * 0 + _ ≤ _; exact Nat.le_of_eq rfl) (hb hby d11_1) (fun _ _ => ⟨rfl, e0, (by decide : 0 + 0 ≤ _), (by decide : 0 + 0 ≤ _)⟩)
  dsimp only [Pt.U, Pt.locs, Pt.cells, Pt.slots] at X279 l279 y279 z279 st279 hQ279
  subst l279 y279 z279
  obtain ⟨rfl, N279q, e279⟩ := hQ279
  have N279 := Fr.app N0 N279q
  refine goT st279 ?_
  show Go _ p e below s _ _ _ (T279.setTop (mkF m 4 #[.val (.ref a1), .val (.int p2)] [(.int (3 : Int32))]))
  have hin : ¬ (((3 : Int32)).toInt < (0 : Int) ∨ ((3 : Int32)).toInt > (5 : Int)) := by decide
  have hoff : (#[50, 62, 74, 86, 98, 110] : Array Int)[(((3 : Int32)).toInt - (0 : Int)).toNat]? = some (86 : Int) := by decide
  refine go (fun _ hr => XS.tswIn (o := (86 : Int)) (i := (3 : Int32)) X279.here hx rfl (pc0 := 4) (pc' := 90) rfl (hb hby d11_4) rfl hin hoff (by decide) (by decide) hr) ?_
  show Go _ p e below s _ _ _ (T279.setTop (mkF m 90 #[.val (.ref a1), .val (.int p2)] []))
  refine go (fun _ => XS.iloadN X279.here hx rfl (hb hby d11_90) rfl) ?_
  show Go _ p e below s _ _ _ (T279.setTop (mkF m 91 #[.val (.ref a1), .val (.int p2)] [(.int p2)]))
  by_cases hc91_280 : (0 : Int32) < p2
  · refine go (fun _ => XS.ifYes X279.here hx rfl (pc0 := 91) (pc' := 98) rfl (hb hby d11_91) rfl ((if0 _ _).trans (tlt hc91_280).2.2.1) (by decide) (by decide)) ?_
    show Go _ p e below s _ _ _ (T279.setTop (mkF m 98 #[.val (.ref a1), .val (.int p2)] []))
    refine go (fun _ => XS.iconst X279.here hx rfl (hb hby d11_98)) ?_
    show Go _ p e below s _ _ _ (T279.setTop (mkF m 99 #[.val (.ref a1), .val (.int p2)] [(.int (0 : Int32))]))
    refine go (fun _ => XS.goto X279.here hx rfl (pc0 := 99) (pc' := 123) rfl (hb hby d11_99) (by decide) (by decide)) ?_
    show Go _ p e below s _ _ _ (T279.setTop (mkF m 123 #[.val (.ref a1), .val (.int p2)] [(.int (0 : Int32))]))
    refine goRet X279 hx Bd.notSynchronized Bd.returns rfl (Or.inl ⟨rfl, Or.inr (Or.inl rfl), _, rfl⟩) (hb hby d11_123) (by decide) (by decide) (by rw [e279]; refine ⟨(by unfold own_c3; simp only [if_pos hc91_280]), N279, rfl⟩)
  · refine go (fun _ => XS.ifNo X279.here hx rfl (hb hby d11_91) rfl ((if0 _ _).trans (flt hc91_280).2.2.1)) ?_
    show Go _ p e below s _ _ _ (T279.setTop (mkF m 94 #[.val (.ref a1), .val (.int p2)] []))
    refine go (fun _ => XS.iconst X279.here hx rfl (hb hby d11_94)) ?_
    show Go _ p e below s _ _ _ (T279.setTop (mkF m 95 #[.val (.ref a1), .val (.int p2)] [(.int (1 : Int32))]))
    refine go (fun _ => XS.goto X279.here hx rfl (pc0 := 95) (pc' := 123) rfl (hb hby d11_95) (by decide) (by decide)) ?_
    show Go _ p e below s _ _ _ (T279.setTop (mkF m 123 #[.val (.ref a1), .val (.int p2)] [(.int (1 : Int32))]))
    refine goRet X279 hx Bd.notSynchronized Bd.returns rfl (Or.inl ⟨rfl, Or.inr (Or.inl rfl), _, rfl⟩) (hb hby d11_123) (by decide) (by decide) (by rw [e279]; refine ⟨(by unfold own_c3; simp only [if_neg hc91_280]), N279, rfl⟩)
theorem d1_35 : decode method_2_code 35 = .ok (.iload_n 0, 1) := by decide +kernel
theorem d1_36 : decode method_2_code 36 = .ok (.iconst 4, 1) := by decide +kernel
theorem d1_37 : decode method_2_code 37 = .ok (.if_icmp .ne 7, 3) := by decide +kernel
theorem d1_40 : decode method_2_code 40 = .ok (.getstatic 22, 3) := by decide +kernel
theorem d1_43 : decode method_2_code 43 = .ok (.areturn, 1) := by decide +kernel
theorem pn_1GREATER : plainName "com/example/reticule/reticule/engine/ComparisonHoldsPinLaw" = true := by first | (simp [plainName, overriddenIn]; done) | decide +kernel
theorem ef_1GREATER (m : MethodId)  : entryFrame m #[(.int (4 : Int32))] 1 = mkF m 0 #[.val (.int (4 : Int32))] [] := by first | (simp [entryFrame, mkF, argsToLocals, Value.category]; done) | rfl
def Q1GREATER (Z : State)  (e1 : Addr) (h0 : Heap) (n0 : Nat) (v : Option Value) (h : Heap) (L : List Loc) : Prop := v = some (.ref e1) ∧ Fr n0 L ∧ (h = h0)
set_option maxRecDepth 65536 in
set_option maxHeartbeats 40000000 in
theorem rm1GREATER (l : Launch) (Z : State) (a0 : Array Value) (hw : ∀ d ∈ tables_1, d.before a0 Z = true) (ws : List Jvm.Cond)  (e1 : Addr) (h0 : Heap) (n0 : Nat) (Z0 : n0 ≤ h0.size) (P0 : Sta Z h0 "com/example/reticule/reticule/engine/Comparison" "GREATER" "Lcom/example/reticule/reticule/engine/Comparison;" (.ref e1)) :
    MetFree l (⟨"com/example/reticule/reticule/engine/ComparisonHoldsPinLaw", "pick", "(I)Lcom/example/reticule/reticule/engine/Comparison;"⟩ : MethodName) (head1 (Jvm.Cond.code (⟨"com/example/reticule/reticule/engine/ComparisonHoldsPinLaw", "pick", "(I)Lcom/example/reticule/reticule/engine/Comparison;"⟩ : MethodName) method_2_code 1 (some (.object "com/example/reticule/reticule/engine/Comparison")) :: ws) ({ frames := 0, cells := 0, slots := 0, locals := 0 } : Room)) (fun a U => a = #[(.int (4 : Int32))] ∧ Z.Warmed39 U.vm ∧ U.heap = h0) (fun _ _ _ _ _ => True) (fun _ U o U' => ∃ v L, o = .returned v ∧ Q1GREATER Z e1 h0 n0 v U'.heap L ∧ FrameEnd U o U' L ({ frames := 0, cells := 0, slots := 0, locals := 0 } : Room).cells ({ frames := 0, cells := 0, slots := 0, locals := 0 } : Room).slots) := by
  refine MetFree.of_bodySF (plainFor_of_name pn_1GREATER) hisR ?_
  intro p e s m args below meth c s₁ Bd hml0 hP hK
  obtain ⟨rfl, hZ, hh⟩ := hP
  have hx := Bd.exec
  have hby := Bd.bytes
  have hml : c.maxLocals = 1 := hml0
  have hown : s.vm.findClass "com/example/reticule/reticule/engine/ComparisonHoldsPinLaw" = some m.cls := findClass_of_methodNamed Bd.named
  have hnm := (name_of_methodNamed Bd.named Bd.method).1
  have X0 : Stand p l e ({ frames := 0, cells := 0, slots := 0, locals := 0 } : Room) s m #[(.int (4 : Int32))] below meth c s₁ [] 0 0 := Stand.of_body Bd
  have e0 : s₁.heap = h0 := by rw [← hh, Bd.state]; rfl
  have N0 := Fr.nil n0
  have hS0 : s.Since s.vm 0 := (State.WarmedH.refl s).since 0
  show Go FrameEnd p e below s ({ frames := 0, cells := 0, slots := 0, locals := 0 } : Room).cells ({ frames := 0, cells := 0, slots := 0, locals := 0 } : Room).slots (Q1GREATER Z e1 h0 n0) (s₁.setTop (entryFrame m #[(.int (4 : Int32))] 1))
  refine go (fun _ k => castTop (ef_1GREATER m ) k) ?_
  show Go _ p e below s _ _ _ (s₁.setTop (mkF m 0 #[.val (.int (4 : Int32))] []))
  refine go (fun _ => XS.iloadN X0.here hx rfl (hb hby d1_0) rfl) ?_
  show Go _ p e below s _ _ _ (s₁.setTop (mkF m 1 #[.val (.int (4 : Int32))] [(.int (4 : Int32))]))
  refine go (fun _ => XS.ifYes X0.here hx rfl (pc0 := 1) (pc' := 8) rfl (hb hby d1_1) rfl ((if0 _ _).trans (feq (by decide : ¬ ((4 : Int32) = (0 : Int32)))).2) (by decide) (by decide)) ?_
  show Go _ p e below s _ _ _ (s₁.setTop (mkF m 8 #[.val (.int (4 : Int32))] []))
  refine go (fun _ => XS.iloadN X0.here hx rfl (hb hby d1_8) rfl) ?_
  show Go _ p e below s _ _ _ (s₁.setTop (mkF m 9 #[.val (.int (4 : Int32))] [(.int (4 : Int32))]))
  refine go (fun _ => XS.iconst X0.here hx rfl (hb hby d1_9)) ?_
  show Go _ p e below s _ _ _ (s₁.setTop (mkF m 10 #[.val (.int (4 : Int32))] [(.int (1 : Int32)), (.int (4 : Int32))]))
  refine go (fun _ => XS.icmpYes X0.here hx rfl (pc0 := 10) (pc' := 17) rfl (hb hby d1_10) rfl (feq (by decide : ¬ ((4 : Int32) = (1 : Int32)))).2 (by decide) (by decide)) ?_
  show Go _ p e below s _ _ _ (s₁.setTop (mkF m 17 #[.val (.int (4 : Int32))] []))
  refine go (fun _ => XS.iloadN X0.here hx rfl (hb hby d1_17) rfl) ?_
  show Go _ p e below s _ _ _ (s₁.setTop (mkF m 18 #[.val (.int (4 : Int32))] [(.int (4 : Int32))]))
  refine go (fun _ => XS.iconst X0.here hx rfl (hb hby d1_18)) ?_
  show Go _ p e below s _ _ _ (s₁.setTop (mkF m 19 #[.val (.int (4 : Int32))] [(.int (2 : Int32)), (.int (4 : Int32))]))
  refine go (fun _ => XS.icmpYes X0.here hx rfl (pc0 := 19) (pc' := 26) rfl (hb hby d1_19) rfl (feq (by decide : ¬ ((4 : Int32) = (2 : Int32)))).2 (by decide) (by decide)) ?_
  show Go _ p e below s _ _ _ (s₁.setTop (mkF m 26 #[.val (.int (4 : Int32))] []))
  refine go (fun _ => XS.iloadN X0.here hx rfl (hb hby d1_26) rfl) ?_
  show Go _ p e below s _ _ _ (s₁.setTop (mkF m 27 #[.val (.int (4 : Int32))] [(.int (4 : Int32))]))
  refine go (fun _ => XS.iconst X0.here hx rfl (hb hby d1_27)) ?_
  show Go _ p e below s _ _ _ (s₁.setTop (mkF m 28 #[.val (.int (4 : Int32))] [(.int (3 : Int32)), (.int (4 : Int32))]))
  refine go (fun _ => XS.icmpYes X0.here hx rfl (pc0 := 28) (pc' := 35) rfl (hb hby d1_28) rfl (feq (by decide : ¬ ((4 : Int32) = (3 : Int32)))).2 (by decide) (by decide)) ?_
  show Go _ p e below s _ _ _ (s₁.setTop (mkF m 35 #[.val (.int (4 : Int32))] []))
  refine go (fun _ => XS.iloadN X0.here hx rfl (hb hby d1_35) rfl) ?_
  show Go _ p e below s _ _ _ (s₁.setTop (mkF m 36 #[.val (.int (4 : Int32))] [(.int (4 : Int32))]))
  refine go (fun _ => XS.iconst X0.here hx rfl (hb hby d1_36)) ?_
  show Go _ p e below s _ _ _ (s₁.setTop (mkF m 37 #[.val (.int (4 : Int32))] [(.int (4 : Int32)), (.int (4 : Int32))]))
  refine go (fun _ => XS.icmpNo X0.here hx rfl (hb hby d1_37) rfl (teq (rfl : (4 : Int32) = (4 : Int32))).2) ?_
  show Go _ p e below s _ _ _ (s₁.setTop (mkF m 40 #[.val (.int (4 : Int32))] []))
  obtain ⟨T282, X282, e282, st282⟩ := getS2 X0 hx hZ hown (host := "") (Or.inl (hw _ (List.mem_of_getElem? (i := 72) rfl))) Via.refl e0 P0 (g := (mkF m 40 #[.val (.int (4 : Int32))] [])) rfl (hb hby d1_40)
  refine go st282 ?_
  show Go _ p e below s _ _ _ (T282.setTop (mkF m 43 #[.val (.int (4 : Int32))] [(.ref e1)]))
  refine goRet X282 hx Bd.notSynchronized Bd.returns rfl (Or.inr (Or.inr (Or.inr (Or.inr ⟨rfl, rfl, rfl⟩)))) (hb hby d1_43) (by decide) (by decide) (by rw [e282]; refine ⟨rfl, N0, rfl⟩)
def own_c4 (p : Int32) : Int32 := if 0 < p then 1 else 0
theorem d11_102 : decode prog_28_method_5_code 102 = .ok (.iload_n 1, 1) := by decide +kernel
theorem d11_103 : decode prog_28_method_5_code 103 = .ok (.ifCond .le 7, 3) := by decide +kernel
theorem d11_106 : decode prog_28_method_5_code 106 = .ok (.iconst 1, 1) := by decide +kernel
theorem d11_107 : decode prog_28_method_5_code 107 = .ok (.goto 16, 3) := by decide +kernel
theorem d11_110 : decode prog_28_method_5_code 110 = .ok (.iconst 0, 1) := by decide +kernel
theorem d11_111 : decode prog_28_method_5_code 111 = .ok (.goto 12, 3) := by decide +kernel
theorem pn_11GREATER : plainName "com/example/reticule/reticule/engine/Comparison" = true := by first | (simp [plainName, overriddenIn]; done) | decide +kernel
theorem ef_11GREATER (m : MethodId) (a1 : Addr) (p2 : Int32) : entryFrame m #[(.ref a1), (.int p2)] 2 = mkF m 0 #[.val (.ref a1), .val (.int p2)] [] := by first | (simp [entryFrame, mkF, argsToLocals, Value.category]; done) | rfl
def Q11GREATER (Z : State) (a1 : Addr) (p2 : Int32) (h0 : Heap) (n0 : Nat) (v : Option Value) (h : Heap) (L : List Loc) : Prop := v = some (.int (own_c4 p2)) ∧ Fr n0 L ∧ (h = h0)
set_option maxRecDepth 65536 in
set_option maxHeartbeats 40000000 in
theorem rm11GREATER (l : Launch) (Z : State) (a0 : Array Value) (hw : ∀ d ∈ tables_1, d.before a0 Z = true) (ws : List Jvm.Cond) (a1 : Addr) (p2 : Int32) (h0 : Heap) (n0 : Nat) (Z0 : n0 ≤ h0.size) (P0 : Exa Z h0 a1 "com/example/reticule/reticule/engine/Comparison") (P1 : Fld Z h0 a1 "java/lang/Enum" "ordinal" "I" (.int (4 : Int32))) :
    MetFree l (⟨"com/example/reticule/reticule/engine/Comparison", "holds", "(I)Z"⟩ : MethodName) (head1 (Jvm.Cond.code (⟨"com/example/reticule/reticule/engine/Comparison", "holds", "(I)Z"⟩ : MethodName) prog_28_method_5_code 2 (some .boolean) :: ws) ({ frames := 1, cells := 0, slots := 0, locals := 12 } : Room)) (fun a U => a = #[(.ref a1), (.int p2)] ∧ Z.Warmed39 U.vm ∧ U.heap = h0) (fun _ _ _ _ _ => True) (fun _ U o U' => ∃ v L, o = .returned v ∧ Q11GREATER Z a1 p2 h0 n0 v U'.heap L ∧ FrameEnd U o U' L ({ frames := 1, cells := 0, slots := 0, locals := 12 } : Room).cells ({ frames := 1, cells := 0, slots := 0, locals := 12 } : Room).slots) := by
  refine MetFree.of_bodySF (plainFor_of_name pn_11GREATER) hisR ?_
  intro p e s m args below meth c s₁ Bd hml0 hP hK
  obtain ⟨rfl, hZ, hh⟩ := hP
  have hx := Bd.exec
  have hby := Bd.bytes
  have hml : c.maxLocals = 2 := hml0
  have hown : s.vm.findClass "com/example/reticule/reticule/engine/Comparison" = some m.cls := findClass_of_methodNamed Bd.named
  have hnm := (name_of_methodNamed Bd.named Bd.method).1
  have X0 : Stand p l e ({ frames := 1, cells := 0, slots := 0, locals := 12 } : Room) s m #[(.ref a1), (.int p2)] below meth c s₁ [] 0 0 := Stand.of_body Bd
  have e0 : s₁.heap = h0 := by rw [← hh, Bd.state]; rfl
  have N0 := Fr.nil n0
  have hS0 : s.Since s.vm 0 := (State.WarmedH.refl s).since 0
  show Go FrameEnd p e below s ({ frames := 1, cells := 0, slots := 0, locals := 12 } : Room).cells ({ frames := 1, cells := 0, slots := 0, locals := 12 } : Room).slots (Q11GREATER Z a1 p2 h0 n0) (s₁.setTop (entryFrame m #[(.ref a1), (.int p2)] 2))
  refine go (fun _ k => castTop (ef_11GREATER m a1 p2) k) ?_
  show Go _ p e below s _ _ _ (s₁.setTop (mkF m 0 #[.val (.ref a1), .val (.int p2)] []))
  refine go (fun _ => XS.aloadN X0.here hx rfl (hb hby d11_0) rfl rfl) ?_
  show Go _ p e below s _ _ _ (s₁.setTop (mkF m 1 #[.val (.ref a1), .val (.int p2)] [(.ref a1)]))
  obtain ⟨cq285, kq285, q285a, q285b, q285c⟩ := isOf hZ e0 P0
  obtain ⟨_, _, ⟨T285, L285, k285, n285⟩, -, X285, ⟨Lc285, hQ285, l285, y285, z285⟩, st285⟩ := X0.virtualBackUp hx (x := (⟨"com/example/reticule/reticule/engine/Comparison", "ordinal", "()I"⟩ : MethodName)) (y := (⟨"java/lang/Enum", "ordinal", "()I"⟩ : MethodName)) (owner := "java/lang/Enum") hown (mvT hZ (hw _ (List.mem_of_getElem? (i := 61) rfl))) (mvT hZ (hw _ (List.mem_of_getElem? (i := 62) rfl))) (mvT hZ (hw _ (List.mem_of_getElem? (i := 63) rfl))) (by decide) (mvT hZ (hw _ (List.mem_of_getElem? (i := 65) rfl))) (mvT hZ (hw _ (List.mem_of_getElem? (i := 64) rfl))) (backOf (W := 0) (rm12 l Z a0 hw [] a1 (4 : Int32) h0 n0 Z0 P1) hZ (hw _ (List.mem_of_getElem? (i := 67) rfl)) (hw _ (List.mem_of_getElem? (i := 66) rfl)) (by decide) (by decide)) q285a q285c (g := (mkF m 1 #[.val (.ref a1), .val (.int p2)] [(.ref a1)])) rfl (by rw [hml]; rfl) (Steps.refl _) (argsL := []) (rest := []) (lenOf pd_11_0 rfl) rfl (by show 2 * 0 + _ ≤ _; exact Nat.le_of_eq rfl) (hb hby d11_1) (fun _ _ => ⟨rfl, e0, (by decide : 0 + 0 ≤ _), (by decide : 0 + 0 ≤ _)⟩)
  dsimp only [Pt.U, Pt.locs, Pt.cells, Pt.slots] at X285 l285 y285 z285 st285 hQ285
  subst l285 y285 z285
  obtain ⟨rfl, N285q, e285⟩ := hQ285
  have N285 := Fr.app N0 N285q
  refine goT st285 ?_
  show Go _ p e below s _ _ _ (T285.setTop (mkF m 4 #[.val (.ref a1), .val (.int p2)] [(.int (4 : Int32))]))
  have hin : ¬ (((4 : Int32)).toInt < (0 : Int) ∨ ((4 : Int32)).toInt > (5 : Int)) := by decide
  have hoff : (#[50, 62, 74, 86, 98, 110] : Array Int)[(((4 : Int32)).toInt - (0 : Int)).toNat]? = some (98 : Int) := by decide
  refine go (fun _ hr => XS.tswIn (o := (98 : Int)) (i := (4 : Int32)) X285.here hx rfl (pc0 := 4) (pc' := 102) rfl (hb hby d11_4) rfl hin hoff (by decide) (by decide) hr) ?_
  show Go _ p e below s _ _ _ (T285.setTop (mkF m 102 #[.val (.ref a1), .val (.int p2)] []))
  refine go (fun _ => XS.iloadN X285.here hx rfl (hb hby d11_102) rfl) ?_
  show Go _ p e below s _ _ _ (T285.setTop (mkF m 103 #[.val (.ref a1), .val (.int p2)] [(.int p2)]))
  by_cases hc103_286 : (0 : Int32) < p2
  · refine go (fun _ => XS.ifNo X285.here hx rfl (hb hby d11_103) rfl ((if0 _ _).trans (tlt hc103_286).2.2.2)) ?_
    show Go _ p e below s _ _ _ (T285.setTop (mkF m 106 #[.val (.ref a1), .val (.int p2)] []))
    refine go (fun _ => XS.iconst X285.here hx rfl (hb hby d11_106)) ?_
    show Go _ p e below s _ _ _ (T285.setTop (mkF m 107 #[.val (.ref a1), .val (.int p2)] [(.int (1 : Int32))]))
    refine go (fun _ => XS.goto X285.here hx rfl (pc0 := 107) (pc' := 123) rfl (hb hby d11_107) (by decide) (by decide)) ?_
    show Go _ p e below s _ _ _ (T285.setTop (mkF m 123 #[.val (.ref a1), .val (.int p2)] [(.int (1 : Int32))]))
    refine goRet X285 hx Bd.notSynchronized Bd.returns rfl (Or.inl ⟨rfl, Or.inr (Or.inl rfl), _, rfl⟩) (hb hby d11_123) (by decide) (by decide) (by rw [e285]; refine ⟨(by unfold own_c4; simp only [if_pos hc103_286]), N285, rfl⟩)
  · refine go (fun _ => XS.ifYes X285.here hx rfl (pc0 := 103) (pc' := 110) rfl (hb hby d11_103) rfl ((if0 _ _).trans (flt hc103_286).2.2.2) (by decide) (by decide)) ?_
    show Go _ p e below s _ _ _ (T285.setTop (mkF m 110 #[.val (.ref a1), .val (.int p2)] []))
    refine go (fun _ => XS.iconst X285.here hx rfl (hb hby d11_110)) ?_
    show Go _ p e below s _ _ _ (T285.setTop (mkF m 111 #[.val (.ref a1), .val (.int p2)] [(.int (0 : Int32))]))
    refine go (fun _ => XS.goto X285.here hx rfl (pc0 := 111) (pc' := 123) rfl (hb hby d11_111) (by decide) (by decide)) ?_
    show Go _ p e below s _ _ _ (T285.setTop (mkF m 123 #[.val (.ref a1), .val (.int p2)] [(.int (0 : Int32))]))
    refine goRet X285 hx Bd.notSynchronized Bd.returns rfl (Or.inl ⟨rfl, Or.inr (Or.inl rfl), _, rfl⟩) (hb hby d11_123) (by decide) (by decide) (by rw [e285]; refine ⟨(by unfold own_c4; simp only [if_neg hc103_286]), N285, rfl⟩)
theorem d1_44 : decode method_2_code 44 = .ok (.getstatic 25, 3) := by decide +kernel
theorem d1_47 : decode method_2_code 47 = .ok (.areturn, 1) := by decide +kernel
theorem pn_1AT_LEAST : plainName "com/example/reticule/reticule/engine/ComparisonHoldsPinLaw" = true := by first | (simp [plainName, overriddenIn]; done) | decide +kernel
theorem ef_1AT_LEAST (m : MethodId)  : entryFrame m #[(.int (5 : Int32))] 1 = mkF m 0 #[.val (.int (5 : Int32))] [] := by first | (simp [entryFrame, mkF, argsToLocals, Value.category]; done) | rfl
def Q1AT_LEAST (Z : State)  (e1 : Addr) (h0 : Heap) (n0 : Nat) (v : Option Value) (h : Heap) (L : List Loc) : Prop := v = some (.ref e1) ∧ Fr n0 L ∧ (h = h0)
set_option maxRecDepth 65536 in
set_option maxHeartbeats 40000000 in
theorem rm1AT_LEAST (l : Launch) (Z : State) (a0 : Array Value) (hw : ∀ d ∈ tables_1, d.before a0 Z = true) (ws : List Jvm.Cond)  (e1 : Addr) (h0 : Heap) (n0 : Nat) (Z0 : n0 ≤ h0.size) (P0 : Sta Z h0 "com/example/reticule/reticule/engine/Comparison" "AT_LEAST" "Lcom/example/reticule/reticule/engine/Comparison;" (.ref e1)) :
    MetFree l (⟨"com/example/reticule/reticule/engine/ComparisonHoldsPinLaw", "pick", "(I)Lcom/example/reticule/reticule/engine/Comparison;"⟩ : MethodName) (head1 (Jvm.Cond.code (⟨"com/example/reticule/reticule/engine/ComparisonHoldsPinLaw", "pick", "(I)Lcom/example/reticule/reticule/engine/Comparison;"⟩ : MethodName) method_2_code 1 (some (.object "com/example/reticule/reticule/engine/Comparison")) :: ws) ({ frames := 0, cells := 0, slots := 0, locals := 0 } : Room)) (fun a U => a = #[(.int (5 : Int32))] ∧ Z.Warmed39 U.vm ∧ U.heap = h0) (fun _ _ _ _ _ => True) (fun _ U o U' => ∃ v L, o = .returned v ∧ Q1AT_LEAST Z e1 h0 n0 v U'.heap L ∧ FrameEnd U o U' L ({ frames := 0, cells := 0, slots := 0, locals := 0 } : Room).cells ({ frames := 0, cells := 0, slots := 0, locals := 0 } : Room).slots) := by
  refine MetFree.of_bodySF (plainFor_of_name pn_1AT_LEAST) hisR ?_
  intro p e s m args below meth c s₁ Bd hml0 hP hK
  obtain ⟨rfl, hZ, hh⟩ := hP
  have hx := Bd.exec
  have hby := Bd.bytes
  have hml : c.maxLocals = 1 := hml0
  have hown : s.vm.findClass "com/example/reticule/reticule/engine/ComparisonHoldsPinLaw" = some m.cls := findClass_of_methodNamed Bd.named
  have hnm := (name_of_methodNamed Bd.named Bd.method).1
  have X0 : Stand p l e ({ frames := 0, cells := 0, slots := 0, locals := 0 } : Room) s m #[(.int (5 : Int32))] below meth c s₁ [] 0 0 := Stand.of_body Bd
  have e0 : s₁.heap = h0 := by rw [← hh, Bd.state]; rfl
  have N0 := Fr.nil n0
  have hS0 : s.Since s.vm 0 := (State.WarmedH.refl s).since 0
  show Go FrameEnd p e below s ({ frames := 0, cells := 0, slots := 0, locals := 0 } : Room).cells ({ frames := 0, cells := 0, slots := 0, locals := 0 } : Room).slots (Q1AT_LEAST Z e1 h0 n0) (s₁.setTop (entryFrame m #[(.int (5 : Int32))] 1))
  refine go (fun _ k => castTop (ef_1AT_LEAST m ) k) ?_
  show Go _ p e below s _ _ _ (s₁.setTop (mkF m 0 #[.val (.int (5 : Int32))] []))
  refine go (fun _ => XS.iloadN X0.here hx rfl (hb hby d1_0) rfl) ?_
  show Go _ p e below s _ _ _ (s₁.setTop (mkF m 1 #[.val (.int (5 : Int32))] [(.int (5 : Int32))]))
  refine go (fun _ => XS.ifYes X0.here hx rfl (pc0 := 1) (pc' := 8) rfl (hb hby d1_1) rfl ((if0 _ _).trans (feq (by decide : ¬ ((5 : Int32) = (0 : Int32)))).2) (by decide) (by decide)) ?_
  show Go _ p e below s _ _ _ (s₁.setTop (mkF m 8 #[.val (.int (5 : Int32))] []))
  refine go (fun _ => XS.iloadN X0.here hx rfl (hb hby d1_8) rfl) ?_
  show Go _ p e below s _ _ _ (s₁.setTop (mkF m 9 #[.val (.int (5 : Int32))] [(.int (5 : Int32))]))
  refine go (fun _ => XS.iconst X0.here hx rfl (hb hby d1_9)) ?_
  show Go _ p e below s _ _ _ (s₁.setTop (mkF m 10 #[.val (.int (5 : Int32))] [(.int (1 : Int32)), (.int (5 : Int32))]))
  refine go (fun _ => XS.icmpYes X0.here hx rfl (pc0 := 10) (pc' := 17) rfl (hb hby d1_10) rfl (feq (by decide : ¬ ((5 : Int32) = (1 : Int32)))).2 (by decide) (by decide)) ?_
  show Go _ p e below s _ _ _ (s₁.setTop (mkF m 17 #[.val (.int (5 : Int32))] []))
  refine go (fun _ => XS.iloadN X0.here hx rfl (hb hby d1_17) rfl) ?_
  show Go _ p e below s _ _ _ (s₁.setTop (mkF m 18 #[.val (.int (5 : Int32))] [(.int (5 : Int32))]))
  refine go (fun _ => XS.iconst X0.here hx rfl (hb hby d1_18)) ?_
  show Go _ p e below s _ _ _ (s₁.setTop (mkF m 19 #[.val (.int (5 : Int32))] [(.int (2 : Int32)), (.int (5 : Int32))]))
  refine go (fun _ => XS.icmpYes X0.here hx rfl (pc0 := 19) (pc' := 26) rfl (hb hby d1_19) rfl (feq (by decide : ¬ ((5 : Int32) = (2 : Int32)))).2 (by decide) (by decide)) ?_
  show Go _ p e below s _ _ _ (s₁.setTop (mkF m 26 #[.val (.int (5 : Int32))] []))
  refine go (fun _ => XS.iloadN X0.here hx rfl (hb hby d1_26) rfl) ?_
  show Go _ p e below s _ _ _ (s₁.setTop (mkF m 27 #[.val (.int (5 : Int32))] [(.int (5 : Int32))]))
  refine go (fun _ => XS.iconst X0.here hx rfl (hb hby d1_27)) ?_
  show Go _ p e below s _ _ _ (s₁.setTop (mkF m 28 #[.val (.int (5 : Int32))] [(.int (3 : Int32)), (.int (5 : Int32))]))
  refine go (fun _ => XS.icmpYes X0.here hx rfl (pc0 := 28) (pc' := 35) rfl (hb hby d1_28) rfl (feq (by decide : ¬ ((5 : Int32) = (3 : Int32)))).2 (by decide) (by decide)) ?_
  show Go _ p e below s _ _ _ (s₁.setTop (mkF m 35 #[.val (.int (5 : Int32))] []))
  refine go (fun _ => XS.iloadN X0.here hx rfl (hb hby d1_35) rfl) ?_
  show Go _ p e below s _ _ _ (s₁.setTop (mkF m 36 #[.val (.int (5 : Int32))] [(.int (5 : Int32))]))
  refine go (fun _ => XS.iconst X0.here hx rfl (hb hby d1_36)) ?_
  show Go _ p e below s _ _ _ (s₁.setTop (mkF m 37 #[.val (.int (5 : Int32))] [(.int (4 : Int32)), (.int (5 : Int32))]))
  refine go (fun _ => XS.icmpYes X0.here hx rfl (pc0 := 37) (pc' := 44) rfl (hb hby d1_37) rfl (feq (by decide : ¬ ((5 : Int32) = (4 : Int32)))).2 (by decide) (by decide)) ?_
  show Go _ p e below s _ _ _ (s₁.setTop (mkF m 44 #[.val (.int (5 : Int32))] []))
  obtain ⟨T288, X288, e288, st288⟩ := getS2 X0 hx hZ hown (host := "") (Or.inl (hw _ (List.mem_of_getElem? (i := 76) rfl))) Via.refl e0 P0 (g := (mkF m 44 #[.val (.int (5 : Int32))] [])) rfl (hb hby d1_44)
  refine go st288 ?_
  show Go _ p e below s _ _ _ (T288.setTop (mkF m 47 #[.val (.int (5 : Int32))] [(.ref e1)]))
  refine goRet X288 hx Bd.notSynchronized Bd.returns rfl (Or.inr (Or.inr (Or.inr (Or.inr ⟨rfl, rfl, rfl⟩)))) (hb hby d1_47) (by decide) (by decide) (by rw [e288]; refine ⟨rfl, N0, rfl⟩)
def own_c5 (p : Int32) : Int32 := if p < 0 then 0 else 1
theorem d11_114 : decode prog_28_method_5_code 114 = .ok (.iload_n 1, 1) := by decide +kernel
theorem d11_115 : decode prog_28_method_5_code 115 = .ok (.ifCond .lt 7, 3) := by decide +kernel
theorem d11_118 : decode prog_28_method_5_code 118 = .ok (.iconst 1, 1) := by decide +kernel
theorem d11_119 : decode prog_28_method_5_code 119 = .ok (.goto 4, 3) := by decide +kernel
theorem d11_122 : decode prog_28_method_5_code 122 = .ok (.iconst 0, 1) := by decide +kernel
theorem pn_11AT_LEAST : plainName "com/example/reticule/reticule/engine/Comparison" = true := by first | (simp [plainName, overriddenIn]; done) | decide +kernel
theorem ef_11AT_LEAST (m : MethodId) (a1 : Addr) (p2 : Int32) : entryFrame m #[(.ref a1), (.int p2)] 2 = mkF m 0 #[.val (.ref a1), .val (.int p2)] [] := by first | (simp [entryFrame, mkF, argsToLocals, Value.category]; done) | rfl
def Q11AT_LEAST (Z : State) (a1 : Addr) (p2 : Int32) (h0 : Heap) (n0 : Nat) (v : Option Value) (h : Heap) (L : List Loc) : Prop := v = some (.int (own_c5 p2)) ∧ Fr n0 L ∧ (h = h0)
set_option maxRecDepth 65536 in
set_option maxHeartbeats 40000000 in
theorem rm11AT_LEAST (l : Launch) (Z : State) (a0 : Array Value) (hw : ∀ d ∈ tables_1, d.before a0 Z = true) (ws : List Jvm.Cond) (a1 : Addr) (p2 : Int32) (h0 : Heap) (n0 : Nat) (Z0 : n0 ≤ h0.size) (P0 : Exa Z h0 a1 "com/example/reticule/reticule/engine/Comparison") (P1 : Fld Z h0 a1 "java/lang/Enum" "ordinal" "I" (.int (5 : Int32))) :
    MetFree l (⟨"com/example/reticule/reticule/engine/Comparison", "holds", "(I)Z"⟩ : MethodName) (head1 (Jvm.Cond.code (⟨"com/example/reticule/reticule/engine/Comparison", "holds", "(I)Z"⟩ : MethodName) prog_28_method_5_code 2 (some .boolean) :: ws) ({ frames := 1, cells := 0, slots := 0, locals := 12 } : Room)) (fun a U => a = #[(.ref a1), (.int p2)] ∧ Z.Warmed39 U.vm ∧ U.heap = h0) (fun _ _ _ _ _ => True) (fun _ U o U' => ∃ v L, o = .returned v ∧ Q11AT_LEAST Z a1 p2 h0 n0 v U'.heap L ∧ FrameEnd U o U' L ({ frames := 1, cells := 0, slots := 0, locals := 12 } : Room).cells ({ frames := 1, cells := 0, slots := 0, locals := 12 } : Room).slots) := by
  refine MetFree.of_bodySF (plainFor_of_name pn_11AT_LEAST) hisR ?_
  intro p e s m args below meth c s₁ Bd hml0 hP hK
  obtain ⟨rfl, hZ, hh⟩ := hP
  have hx := Bd.exec
  have hby := Bd.bytes
  have hml : c.maxLocals = 2 := hml0
  have hown : s.vm.findClass "com/example/reticule/reticule/engine/Comparison" = some m.cls := findClass_of_methodNamed Bd.named
  have hnm := (name_of_methodNamed Bd.named Bd.method).1
  have X0 : Stand p l e ({ frames := 1, cells := 0, slots := 0, locals := 12 } : Room) s m #[(.ref a1), (.int p2)] below meth c s₁ [] 0 0 := Stand.of_body Bd
  have e0 : s₁.heap = h0 := by rw [← hh, Bd.state]; rfl
  have N0 := Fr.nil n0
  have hS0 : s.Since s.vm 0 := (State.WarmedH.refl s).since 0
  show Go FrameEnd p e below s ({ frames := 1, cells := 0, slots := 0, locals := 12 } : Room).cells ({ frames := 1, cells := 0, slots := 0, locals := 12 } : Room).slots (Q11AT_LEAST Z a1 p2 h0 n0) (s₁.setTop (entryFrame m #[(.ref a1), (.int p2)] 2))
  refine go (fun _ k => castTop (ef_11AT_LEAST m a1 p2) k) ?_
  show Go _ p e below s _ _ _ (s₁.setTop (mkF m 0 #[.val (.ref a1), .val (.int p2)] []))
  refine go (fun _ => XS.aloadN X0.here hx rfl (hb hby d11_0) rfl rfl) ?_
  show Go _ p e below s _ _ _ (s₁.setTop (mkF m 1 #[.val (.ref a1), .val (.int p2)] [(.ref a1)]))
  obtain ⟨cq291, kq291, q291a, q291b, q291c⟩ := isOf hZ e0 P0
  obtain ⟨_, _, ⟨T291, L291, k291, n291⟩, -, X291, ⟨Lc291, hQ291, l291, y291, z291⟩, st291⟩ := X0.virtualBackUp hx (x := (⟨"com/example/reticule/reticule/engine/Comparison", "ordinal", "()I"⟩ : MethodName)) (y := (⟨"java/lang/Enum", "ordinal", "()I"⟩ : MethodName)) (owner := "java/lang/Enum") hown (mvT hZ (hw _ (List.mem_of_getElem? (i := 61) rfl))) (mvT hZ (hw _ (List.mem_of_getElem? (i := 62) rfl))) (mvT hZ (hw _ (List.mem_of_getElem? (i := 63) rfl))) (by decide) (mvT hZ (hw _ (List.mem_of_getElem? (i := 65) rfl))) (mvT hZ (hw _ (List.mem_of_getElem? (i := 64) rfl))) (backOf (W := 0) (rm12 l Z a0 hw [] a1 (5 : Int32) h0 n0 Z0 P1) hZ (hw _ (List.mem_of_getElem? (i := 67) rfl)) (hw _ (List.mem_of_getElem? (i := 66) rfl)) (by decide) (by decide)) q291a q291c (g := (mkF m 1 #[.val (.ref a1), .val (.int p2)] [(.ref a1)])) rfl (by rw [hml]; rfl) (Steps.refl _) (argsL := []) (rest := []) (lenOf pd_11_0 rfl) rfl (by show 2 * 0 + _ ≤ _; exact Nat.le_of_eq rfl) (hb hby d11_1) (fun _ _ => ⟨rfl, e0, (by decide : 0 + 0 ≤ _), (by decide : 0 + 0 ≤ _)⟩)
  dsimp only [Pt.U, Pt.locs, Pt.cells, Pt.slots] at X291 l291 y291 z291 st291 hQ291
  subst l291 y291 z291
  obtain ⟨rfl, N291q, e291⟩ := hQ291
  have N291 := Fr.app N0 N291q
  refine goT st291 ?_
  show Go _ p e below s _ _ _ (T291.setTop (mkF m 4 #[.val (.ref a1), .val (.int p2)] [(.int (5 : Int32))]))
  have hin : ¬ (((5 : Int32)).toInt < (0 : Int) ∨ ((5 : Int32)).toInt > (5 : Int)) := by decide
  have hoff : (#[50, 62, 74, 86, 98, 110] : Array Int)[(((5 : Int32)).toInt - (0 : Int)).toNat]? = some (110 : Int) := by decide
  refine go (fun _ hr => XS.tswIn (o := (110 : Int)) (i := (5 : Int32)) X291.here hx rfl (pc0 := 4) (pc' := 114) rfl (hb hby d11_4) rfl hin hoff (by decide) (by decide) hr) ?_
  show Go _ p e below s _ _ _ (T291.setTop (mkF m 114 #[.val (.ref a1), .val (.int p2)] []))
  refine go (fun _ => XS.iloadN X291.here hx rfl (hb hby d11_114) rfl) ?_
  show Go _ p e below s _ _ _ (T291.setTop (mkF m 115 #[.val (.ref a1), .val (.int p2)] [(.int p2)]))
  by_cases hc115_292 : p2 < (0 : Int32)
  · refine go (fun _ => XS.ifYes X291.here hx rfl (pc0 := 115) (pc' := 122) rfl (hb hby d11_115) rfl ((if0 _ _).trans (tlt hc115_292).1) (by decide) (by decide)) ?_
    show Go _ p e below s _ _ _ (T291.setTop (mkF m 122 #[.val (.ref a1), .val (.int p2)] []))
    refine go (fun _ => XS.iconst X291.here hx rfl (hb hby d11_122)) ?_
    show Go _ p e below s _ _ _ (T291.setTop (mkF m 123 #[.val (.ref a1), .val (.int p2)] [(.int (0 : Int32))]))
    refine goRet X291 hx Bd.notSynchronized Bd.returns rfl (Or.inl ⟨rfl, Or.inr (Or.inl rfl), _, rfl⟩) (hb hby d11_123) (by decide) (by decide) (by rw [e291]; refine ⟨(by unfold own_c5; simp only [if_pos hc115_292]), N291, rfl⟩)
  · refine go (fun _ => XS.ifNo X291.here hx rfl (hb hby d11_115) rfl ((if0 _ _).trans (flt hc115_292).1)) ?_
    show Go _ p e below s _ _ _ (T291.setTop (mkF m 118 #[.val (.ref a1), .val (.int p2)] []))
    refine go (fun _ => XS.iconst X291.here hx rfl (hb hby d11_118)) ?_
    show Go _ p e below s _ _ _ (T291.setTop (mkF m 119 #[.val (.ref a1), .val (.int p2)] [(.int (1 : Int32))]))
    refine go (fun _ => XS.goto X291.here hx rfl (pc0 := 119) (pc' := 123) rfl (hb hby d11_119) (by decide) (by decide)) ?_
    show Go _ p e below s _ _ _ (T291.setTop (mkF m 123 #[.val (.ref a1), .val (.int p2)] [(.int (1 : Int32))]))
    refine goRet X291 hx Bd.notSynchronized Bd.returns rfl (Or.inl ⟨rfl, Or.inr (Or.inl rfl), _, rfl⟩) (hb hby d11_123) (by decide) (by decide) (by rw [e291]; refine ⟨(by unfold own_c5; simp only [if_neg hc115_292]), N291, rfl⟩)
theorem own_neg {p : Int32} (h : p < 0) : ¬ p = 0 ∧ ¬ 0 < p := ⟨fun q => by subst q; exact absurd h (by decide), fun q => Int32.lt_irrefl (Int32.lt_trans h q)⟩
theorem own_zer {p : Int32} (h : p = 0) : ¬ p < 0 ∧ ¬ 0 < p := by subst h; decide
theorem own_pos {p : Int32} (h1 : ¬ p < 0) (h2 : ¬ p = 0) : 0 < p := by
  rw [Int32.lt_iff_toInt_lt] at h1 ⊢
  rw [← Int32.toInt_inj] at h2
  have e : (0 : Int32).toInt = 0 := by decide
  rw [e] at h1 h2 ⊢; omega
theorem own_six (x : Int32) : (x &&& 2147483647) % 6 = 0 ∨ (x &&& 2147483647) % 6 = 1 ∨ (x &&& 2147483647) % 6 = 2 ∨ (x &&& 2147483647) % 6 = 3 ∨ (x &&& 2147483647) % 6 = 4 ∨ (x &&& 2147483647) % 6 = 5 := by
  have h := Jvm.Kit.i32_mask x 2147483647 (k := 31) (by decide) (by decide)
  have e6 : (6 : Int32).toInt = 6 := by decide
  have e : ((x &&& 2147483647) % 6).toInt = (x &&& 2147483647).toInt % 6 := by rw [Jvm.Kit.i32_rem_nonneg (by omega), e6]
  simp only [← Int32.toInt_inj, e, show (0 : Int32).toInt = 0 from by decide, show (1 : Int32).toInt = 1 from by decide, show (2 : Int32).toInt = 2 from by decide, show (3 : Int32).toInt = 3 from by decide, show (4 : Int32).toInt = 4 from by decide, show (5 : Int32).toInt = 5 from by decide]
  omega
def own_K (Z : State) (h : Heap) (X : String) (o : Int32) (z : Int32) (vs : List Value) : Prop := ∃ (e1 s1 v1 : Addr) (k1 : ClassId), Sta Z h "com/example/reticule/reticule/engine/Comparison" X "Lcom/example/reticule/reticule/engine/Comparison;" (.ref e1) ∧ Exa Z h e1 "com/example/reticule/reticule/engine/Comparison" ∧ Fld Z h e1 "com/example/reticule/reticule/engine/Comparison" "functionName" "Ljava/lang/String;" (.ref s1) ∧ Exa Z h s1 "java/lang/String" ∧ Fld Z h s1 "java/lang/String" "value" "[B" (.ref v1) ∧ Arv Z h v1 k1 .byte z vs (.int 0) ∧ Fld Z h s1 "java/lang/String" "coder" "B" (.int 0) ∧ Fld Z h e1 "java/lang/Enum" "ordinal" "I" (.int o)
theorem pn_0 : plainName "com/example/reticule/reticule/engine/ComparisonHoldsPinLaw" = true := by first | (simp [plainName, overriddenIn]; done) | decide +kernel
theorem pd_0_0 : parseMethodDescriptor "(I)Lcom/example/reticule/reticule/engine/Comparison;" = some ⟨[.int], some (.object "com/example/reticule/reticule/engine/Comparison")⟩ := by decide +kernel
theorem pd_0_1 : parseMethodDescriptor "()Ljava/lang/String;" = some ⟨[], some (.object "java/lang/String")⟩ := by decide +kernel
theorem pd_0_2 : parseMethodDescriptor "(Ljava/lang/String;C)Z" = some ⟨[(.object "java/lang/String"), .char], some .boolean⟩ := by decide +kernel
theorem pd_0_3 : parseMethodDescriptor "(I)Z" = some ⟨[.int], some .boolean⟩ := by decide +kernel
theorem ef_0 (m : MethodId) (p1 : Int32) (p2 : Int32) : entryFrame m #[(.int p1), (.int p2)] maxLocals = mkF m 0 #[.val (.int p1), .val (.int p2), .unset, .unset, .unset] [] := by first | (simp [entryFrame, mkF, argsToLocals, Value.category, maxLocals]; done) | rfl
def Q0 (Z : State) (p1 : Int32) (p2 : Int32) (w0 : Int32) (f0 : Value) (h0 : Heap) (n0 : Nat) (v : Option Value) (h : Heap) (L : List Loc) : Prop := v = some (.int (1 : Int32)) ∧ Fr n0 L
set_option maxRecDepth 65536 in
set_option maxHeartbeats 40000000 in
theorem rm0 (l : Launch) (Z : State) (a0 : Array Value) (hw : ∀ d ∈ tables_1, d.before a0 Z = true) (ws : List Jvm.Cond) (p1 : Int32) (p2 : Int32) (w0 : Int32) (f0 : Value) (h0 : Heap) (n0 : Nat) (Z0 : n0 ≤ h0.size) (P0 : Sta Z h0 "java/lang/String" "COMPACT_STRINGS" "Z" (.int w0)) (P1 : Sta Z h0 "jdk/internal/util/Preconditions" "SIOOBE_FORMATTER" "Ljava/util/function/BiFunction;" f0) (hw0 : ¬ w0 = 0) (hf : f0.isRef = true) (K0 : own_K Z h0 "EQUAL" (0 : Int32) (1 : Int32) [(.int (61 : Int32))]) (K1 : own_K Z h0 "DIFFERENT" (1 : Int32) (2 : Int32) [(.int (60 : Int32)), (.int (62 : Int32))]) (K2 : own_K Z h0 "LESS" (2 : Int32) (1 : Int32) [(.int (60 : Int32))]) (K3 : own_K Z h0 "AT_MOST" (3 : Int32) (2 : Int32) [(.int (60 : Int32)), (.int (61 : Int32))]) (K4 : own_K Z h0 "GREATER" (4 : Int32) (1 : Int32) [(.int (62 : Int32))]) (K5 : own_K Z h0 "AT_LEAST" (5 : Int32) (2 : Int32) [(.int (62 : Int32)), (.int (61 : Int32))]) :
    MetFree l x (head1 (Jvm.Cond.code x code maxLocals ret :: ws) room_1) (fun a U => a = #[(.int p1), (.int p2)] ∧ Z.Warmed39 U.vm ∧ U.heap = h0) (fun _ _ _ _ _ => True) (fun _ U o U' => ∃ v L, o = .returned v ∧ Q0 Z p1 p2 w0 f0 h0 n0 v U'.heap L ∧ FrameEnd U o U' L room_1.cells room_1.slots) := by
  refine MetFree.of_bodySF (plainFor_of_name pn_0) hisR ?_
  intro p e s m args below meth c s₁ Bd hml0 hP hK
  obtain ⟨rfl, hZ, hh⟩ := hP
  have hx := Bd.exec
  have hby := Bd.bytes
  have hml : c.maxLocals = 5 := hml0
  have hown : s.vm.findClass "com/example/reticule/reticule/engine/ComparisonHoldsPinLaw" = some m.cls := findClass_of_methodNamed Bd.named
  have hnm := (name_of_methodNamed Bd.named Bd.method).1
  have X0 : Stand p l e room_1 s m #[(.int p1), (.int p2)] below meth c s₁ [] 0 0 := Stand.of_body Bd
  have e0 : s₁.heap = h0 := by rw [← hh, Bd.state]; rfl
  have N0 := Fr.nil n0
  have hS0 : s.Since s.vm 0 := (State.WarmedH.refl s).since 0
  show Go FrameEnd p e below s room_1.cells room_1.slots (Q0 Z p1 p2 w0 f0 h0 n0) (s₁.setTop (entryFrame m #[(.int p1), (.int p2)] maxLocals))
  refine go (fun _ k => castTop (ef_0 m p1 p2) k) ?_
  show Go _ p e below s _ _ _ (s₁.setTop (mkF m 0 #[.val (.int p1), .val (.int p2), .unset, .unset, .unset] []))
  refine go (fun _ => XS.iloadN X0.here hx rfl (hb hby at_0) rfl) ?_
  show Go _ p e below s _ _ _ (s₁.setTop (mkF m 1 #[.val (.int p1), .val (.int p2), .unset, .unset, .unset] [(.int p1)]))
  refine go (X0.ldcInt hx hown (mvT hZ (hw _ (List.mem_of_getElem? (i := 0) rfl))) (g := (mkF m 1 #[.val (.int p1), .val (.int p2), .unset, .unset, .unset] [(.int p1)])) rfl (hb hby at_1)) ?_
  show Go _ p e below s _ _ _ (s₁.setTop (mkF m 3 #[.val (.int p1), .val (.int p2), .unset, .unset, .unset] [(.int (2147483647 : Int32)), (.int p1)]))
  refine go (fun _ => XS.iand X0.here hx rfl (hb hby at_3) rfl) ?_
  show Go _ p e below s _ _ _ (s₁.setTop (mkF m 4 #[.val (.int p1), .val (.int p2), .unset, .unset, .unset] [(.int (p1 &&& (2147483647 : Int32)))]))
  refine go (fun _ => XS.bipush X0.here hx rfl (hb hby at_4)) ?_
  show Go _ p e below s _ _ _ (s₁.setTop (mkF m 6 #[.val (.int p1), .val (.int p2), .unset, .unset, .unset] [(.int (6 : Int32)), (.int (p1 &&& (2147483647 : Int32)))]))
  refine go (fun _ => iremM X0 hx rfl (hb hby at_6) rfl (by decide)) ?_
  show Go _ p e below s _ _ _ (s₁.setTop (mkF m 7 #[.val (.int p1), .val (.int p2), .unset, .unset, .unset] [(.int ((p1 &&& (2147483647 : Int32)) % (6 : Int32)))]))
  have h6 := own_six p1
  generalize ((p1 &&& (2147483647 : Int32)) % (6 : Int32)) = k at h6 ⊢
  rcases h6 with rfl | rfl | rfl | rfl | rfl | rfl
  · obtain ⟨e1, s1, v1, k1, g1, g2, g3, g4, g5, g6, g7, g8⟩ := K0
    show Go _ p e below s _ _ _ (s₁.setTop (mkF m 7 #[.val (.int p1), .val (.int p2), .unset, .unset, .unset] [(.int (0 : Int32))]))
    obtain ⟨_, _, ⟨T293, L293, k293, n293⟩, -, X293, ⟨Lc293, hQ293, l293, y293, z293⟩, st293⟩ := Jvm.LawKit.callS X0 hx (y := (⟨"com/example/reticule/reticule/engine/ComparisonHoldsPinLaw", "pick", "(I)Lcom/example/reticule/reticule/engine/Comparison;"⟩ : MethodName)) hown (mvT hZ (hw _ (List.mem_of_getElem? (i := 1) rfl))) (mvT hZ (hw _ (List.mem_of_getElem? (i := 2) rfl))) (mvT hZ (hw _ (List.mem_of_getElem? (i := 3) rfl))) (mvT hZ (hw _ (List.mem_of_getElem? (i := 4) rfl))) (by decide) (backOf (W := 0) (rm1EQUAL l Z a0 hw [] e1 h0 n0 Z0 g1) hZ (hw _ (List.mem_of_getElem? (i := 4) rfl)) (hw _ (List.mem_of_getElem? (i := 3) rfl)) (by decide) (by decide)) (g := (mkF m 7 #[.val (.int p1), .val (.int p2), .unset, .unset, .unset] [(.int (0 : Int32))])) rfl (by rw [hml]; rfl) (argsL := [(.int (0 : Int32))]) (rest := []) (lenOf pd_0_0 rfl) rfl (by show 2 * 0 + _ ≤ _; exact Nat.le_of_eq rfl) (hb hby at_7) (fun _ _ => ⟨rfl, e0, (by decide : 0 + 0 ≤ _), (by decide : 0 + 0 ≤ _)⟩)
    dsimp only [Pt.U, Pt.locs, Pt.cells, Pt.slots] at X293 l293 y293 z293 st293 hQ293
    subst l293 y293 z293
    obtain ⟨rfl, N293q, e293⟩ := hQ293
    have N293 := Fr.app N0 N293q
    refine go st293 ?_
    show Go _ p e below s _ _ _ (T293.setTop (mkF m 10 #[.val (.int p1), .val (.int p2), .unset, .unset, .unset] [(.ref e1)]))
    refine go (fun _ => XS.astoreN X293.here hx rfl (hb hby at_10) rfl rfl (l' := #[.val (.int p1), .val (.int p2), .val (.ref e1), .unset, .unset]) rfl) ?_
    show Go _ p e below s _ _ _ (T293.setTop (mkF m 11 #[.val (.int p1), .val (.int p2), .val (.ref e1), .unset, .unset] []))
    refine go (fun _ => XS.aloadN X293.here hx rfl (hb hby at_11) rfl rfl) ?_
    show Go _ p e below s _ _ _ (T293.setTop (mkF m 12 #[.val (.int p1), .val (.int p2), .val (.ref e1), .unset, .unset] [(.ref e1)]))
    obtain ⟨cq294, kq294, q294a, q294b, q294c⟩ := isOf hZ e293 g2
    obtain ⟨_, _, ⟨T294, L294, k294, n294⟩, -, X294, ⟨Lc294, hQ294, l294, y294, z294⟩, st294⟩ := X293.virtualBack hx (y := (⟨"com/example/reticule/reticule/engine/Comparison", "functionName", "()Ljava/lang/String;"⟩ : MethodName)) (z := (⟨"com/example/reticule/reticule/engine/Comparison", "functionName", "()Ljava/lang/String;"⟩ : MethodName)) hown (mvT hZ (hw _ (List.mem_of_getElem? (i := 8) rfl))) (mvT hZ (hw _ (List.mem_of_getElem? (i := 9) rfl))) (notFace_of_selects (args := #[]) (mvT hZ (hw _ (List.mem_of_getElem? (i := 11) rfl)))) (mvT hZ (hw _ (List.mem_of_getElem? (i := 11) rfl))) (mvT hZ (hw _ (List.mem_of_getElem? (i := 10) rfl))) (by decide) (backOf (W := 0) (rm2 l Z a0 hw [] e1 s1 h0 n0 Z0 g3) hZ (hw _ (List.mem_of_getElem? (i := 12) rfl)) (hw _ (List.mem_of_getElem? (i := 6) rfl)) (by decide) (by decide)) q294a q294c (g := (mkF m 12 #[.val (.int p1), .val (.int p2), .val (.ref e1), .unset, .unset] [(.ref e1)])) rfl (by rw [hml]; rfl) (Steps.refl _) (argsL := []) (rest := []) (lenOf pd_0_1 rfl) rfl (by show 2 * 0 + _ ≤ _; exact Nat.le_of_eq rfl) (hb hby at_12) (fun _ _ => ⟨rfl, e293, (by decide : 0 + 0 ≤ _), (by decide : 0 + 0 ≤ _)⟩)
    dsimp only [Pt.U, Pt.locs, Pt.cells, Pt.slots] at X294 l294 y294 z294 st294 hQ294
    subst l294 y294 z294
    obtain ⟨rfl, N294q, e294⟩ := hQ294
    have N294 := Fr.app N293 N294q
    refine goT st294 ?_
    show Go _ p e below s _ _ _ (T294.setTop (mkF m 15 #[.val (.int p1), .val (.int p2), .val (.ref e1), .unset, .unset] [(.ref s1)]))
    refine go (fun _ => XS.astoreN X294.here hx rfl (hb hby at_15) rfl rfl (l' := #[.val (.int p1), .val (.int p2), .val (.ref e1), .val (.ref s1), .unset]) rfl) ?_
    show Go _ p e below s _ _ _ (T294.setTop (mkF m 16 #[.val (.int p1), .val (.int p2), .val (.ref e1), .val (.ref s1), .unset] []))
    refine go (fun _ => XS.iloadN X294.here hx rfl (hb hby at_16) rfl) ?_
    show Go _ p e below s _ _ _ (T294.setTop (mkF m 17 #[.val (.int p1), .val (.int p2), .val (.ref e1), .val (.ref s1), .unset] [(.int p2)]))
    by_cases hc17_295 : p2 < (0 : Int32)
    · refine go (fun _ => XS.ifNo X294.here hx rfl (hb hby at_17) rfl ((if0 _ _).trans (tlt hc17_295).2.1)) ?_
      show Go _ p e below s _ _ _ (T294.setTop (mkF m 20 #[.val (.int p1), .val (.int p2), .val (.ref e1), .val (.ref s1), .unset] []))
      refine go (fun _ => XS.aloadN X294.here hx rfl (hb hby at_20) rfl rfl) ?_
      show Go _ p e below s _ _ _ (T294.setTop (mkF m 21 #[.val (.int p1), .val (.int p2), .val (.ref e1), .val (.ref s1), .unset] [(.ref s1)]))
      refine go (fun _ => XS.bipush X294.here hx rfl (hb hby at_21)) ?_
      show Go _ p e below s _ _ _ (T294.setTop (mkF m 23 #[.val (.int p1), .val (.int p2), .val (.ref e1), .val (.ref s1), .unset] [(.int (60 : Int32)), (.ref s1)]))
      obtain ⟨_, _, ⟨T296, L296, k296, n296⟩, -, X296, ⟨Lc296, hQ296, l296, y296, z296⟩, st296⟩ := Jvm.LawKit.callS X294 hx (y := (⟨"com/example/reticule/reticule/engine/ComparisonHoldsPinLaw", "has", "(Ljava/lang/String;C)Z"⟩ : MethodName)) hown (mvT hZ (hw _ (List.mem_of_getElem? (i := 15) rfl))) (mvT hZ (hw _ (List.mem_of_getElem? (i := 16) rfl))) (mvT hZ (hw _ (List.mem_of_getElem? (i := 3) rfl))) (mvT hZ (hw _ (List.mem_of_getElem? (i := 17) rfl))) (by decide) (backOf (W := 0) (rm3EQUAL60 l Z a0 hw [] s1 w0 f0 v1 k1 (.int 0) h0 n0 Z0 P0 P1 g4 g7 g5 g6 hw0 hf) hZ (hw _ (List.mem_of_getElem? (i := 17) rfl)) (hw _ (List.mem_of_getElem? (i := 3) rfl)) (by decide) (by decide)) (g := (mkF m 23 #[.val (.int p1), .val (.int p2), .val (.ref e1), .val (.ref s1), .unset] [(.int (60 : Int32)), (.ref s1)])) rfl (by rw [hml]; rfl) (argsL := [(.ref s1), (.int (60 : Int32))]) (rest := []) (lenOf pd_0_2 rfl) rfl (by show 2 * 0 + _ ≤ _; exact Nat.le_of_eq rfl) (hb hby at_23) (fun _ _ => ⟨rfl, e294, (by decide : 0 + 0 ≤ _), (by decide : 0 + 0 ≤ _)⟩)
      dsimp only [Pt.U, Pt.locs, Pt.cells, Pt.slots] at X296 l296 y296 z296 st296 hQ296
      subst l296 y296 z296
      obtain ⟨rfl, N296q, e296⟩ := hQ296
      have N296 := Fr.app N294 N296q
      refine go st296 ?_
      show Go _ p e below s _ _ _ (T296.setTop (mkF m 26 #[.val (.int p1), .val (.int p2), .val (.ref e1), .val (.ref s1), .unset] [(.int (0 : Int32))]))
      refine go (fun _ => XS.istore X296.here hx rfl (hb hby at_26) rfl (l' := #[.val (.int p1), .val (.int p2), .val (.ref e1), .val (.ref s1), .val (.int (0 : Int32))]) rfl) ?_
      show Go _ p e below s _ _ _ (T296.setTop (mkF m 28 #[.val (.int p1), .val (.int p2), .val (.ref e1), .val (.ref s1), .val (.int (0 : Int32))] []))
      refine go (fun _ => XS.goto X296.here hx rfl (pc0 := 28) (pc' := 54) rfl (hb hby at_28) (by decide) (by decide)) ?_
      show Go _ p e below s _ _ _ (T296.setTop (mkF m 54 #[.val (.int p1), .val (.int p2), .val (.ref e1), .val (.ref s1), .val (.int (0 : Int32))] []))
      refine go (fun _ => XS.aloadN X296.here hx rfl (hb hby at_54) rfl rfl) ?_
      show Go _ p e below s _ _ _ (T296.setTop (mkF m 55 #[.val (.int p1), .val (.int p2), .val (.ref e1), .val (.ref s1), .val (.int (0 : Int32))] [(.ref e1)]))
      refine go (fun _ => XS.iloadN X296.here hx rfl (hb hby at_55) rfl) ?_
      show Go _ p e below s _ _ _ (T296.setTop (mkF m 56 #[.val (.int p1), .val (.int p2), .val (.ref e1), .val (.ref s1), .val (.int (0 : Int32))] [(.int p2), (.ref e1)]))
      obtain ⟨cq297, kq297, q297a, q297b, q297c⟩ := isOf hZ e296 g2
      obtain ⟨_, _, ⟨T297, L297, k297, n297⟩, -, X297, ⟨Lc297, hQ297, l297, y297, z297⟩, st297⟩ := X296.virtualBack hx (y := (⟨"com/example/reticule/reticule/engine/Comparison", "holds", "(I)Z"⟩ : MethodName)) (z := (⟨"com/example/reticule/reticule/engine/Comparison", "holds", "(I)Z"⟩ : MethodName)) hown (mvT hZ (hw _ (List.mem_of_getElem? (i := 56) rfl))) (mvT hZ (hw _ (List.mem_of_getElem? (i := 57) rfl))) (notFace_of_selects (args := #[]) (mvT hZ (hw _ (List.mem_of_getElem? (i := 59) rfl)))) (mvT hZ (hw _ (List.mem_of_getElem? (i := 59) rfl))) (mvT hZ (hw _ (List.mem_of_getElem? (i := 58) rfl))) (by decide) (backOf (W := 0) (rm11EQUAL l Z a0 hw [] e1 p2 h0 n0 Z0 g2 g8) hZ (hw _ (List.mem_of_getElem? (i := 60) rfl)) (hw _ (List.mem_of_getElem? (i := 6) rfl)) (by decide) (by decide)) q297a q297c (g := (mkF m 56 #[.val (.int p1), .val (.int p2), .val (.ref e1), .val (.ref s1), .val (.int (0 : Int32))] [(.int p2), (.ref e1)])) rfl (by rw [hml]; rfl) (Steps.refl _) (argsL := [(.int p2)]) (rest := []) (lenOf pd_0_3 rfl) rfl (by show 2 * 0 + _ ≤ _; exact Nat.le_of_eq rfl) (hb hby at_56) (fun _ _ => ⟨rfl, e296, (by decide : 0 + 0 ≤ _), (by decide : 0 + 0 ≤ _)⟩)
      dsimp only [Pt.U, Pt.locs, Pt.cells, Pt.slots] at X297 l297 y297 z297 st297 hQ297
      subst l297 y297 z297
      obtain ⟨rfl, N297q, e297⟩ := hQ297
      have N297 := Fr.app N296 N297q
      refine goT st297 ?_
      show Go _ p e below s _ _ _ (T297.setTop (mkF m 59 #[.val (.int p1), .val (.int p2), .val (.ref e1), .val (.ref s1), .val (.int (0 : Int32))] [(.int (own_c0 p2))]))
      refine go (fun _ => XS.iload X297.here hx rfl (hb hby at_59) rfl) ?_
      show Go _ p e below s _ _ _ (T297.setTop (mkF m 61 #[.val (.int p1), .val (.int p2), .val (.ref e1), .val (.ref s1), .val (.int (0 : Int32))] [(.int (0 : Int32)), (.int (own_c0 p2))]))
      refine go (fun _ => XS.icmpNo X297.here hx rfl (hb hby at_61) rfl (teq (by unfold own_c0; rw [if_neg (own_neg hc17_295).1])).2) ?_
      show Go _ p e below s _ _ _ (T297.setTop (mkF m 64 #[.val (.int p1), .val (.int p2), .val (.ref e1), .val (.ref s1), .val (.int (0 : Int32))] []))
      refine go (fun _ => XS.iconst X297.here hx rfl (hb hby at_64)) ?_
      show Go _ p e below s _ _ _ (T297.setTop (mkF m 65 #[.val (.int p1), .val (.int p2), .val (.ref e1), .val (.ref s1), .val (.int (0 : Int32))] [(.int (1 : Int32))]))
      refine go (fun _ => XS.goto X297.here hx rfl (pc0 := 65) (pc' := 69) rfl (hb hby at_65) (by decide) (by decide)) ?_
      show Go _ p e below s _ _ _ (T297.setTop (mkF m 69 #[.val (.int p1), .val (.int p2), .val (.ref e1), .val (.ref s1), .val (.int (0 : Int32))] [(.int (1 : Int32))]))
      refine goRet X297 hx Bd.notSynchronized Bd.returns rfl (Or.inl ⟨rfl, Or.inr (Or.inl rfl), _, rfl⟩) (hb hby at_69) (by decide) (by decide) (by rw [e297]; refine ⟨rfl, N297⟩)
    · refine go (fun _ => XS.ifYes X294.here hx rfl (pc0 := 17) (pc' := 31) rfl (hb hby at_17) rfl ((if0 _ _).trans (flt hc17_295).2.1) (by decide) (by decide)) ?_
      show Go _ p e below s _ _ _ (T294.setTop (mkF m 31 #[.val (.int p1), .val (.int p2), .val (.ref e1), .val (.ref s1), .unset] []))
      refine go (fun _ => XS.iloadN X294.here hx rfl (hb hby at_31) rfl) ?_
      show Go _ p e below s _ _ _ (T294.setTop (mkF m 32 #[.val (.int p1), .val (.int p2), .val (.ref e1), .val (.ref s1), .unset] [(.int p2)]))
      by_cases hc32_298 : p2 = (0 : Int32)
      · refine go (fun _ => XS.ifNo X294.here hx rfl (hb hby at_32) rfl ((if0 _ _).trans (teq hc32_298).2)) ?_
        show Go _ p e below s _ _ _ (T294.setTop (mkF m 35 #[.val (.int p1), .val (.int p2), .val (.ref e1), .val (.ref s1), .unset] []))
        refine go (fun _ => XS.aloadN X294.here hx rfl (hb hby at_35) rfl rfl) ?_
        show Go _ p e below s _ _ _ (T294.setTop (mkF m 36 #[.val (.int p1), .val (.int p2), .val (.ref e1), .val (.ref s1), .unset] [(.ref s1)]))
        refine go (fun _ => XS.bipush X294.here hx rfl (hb hby at_36)) ?_
        show Go _ p e below s _ _ _ (T294.setTop (mkF m 38 #[.val (.int p1), .val (.int p2), .val (.ref e1), .val (.ref s1), .unset] [(.int (61 : Int32)), (.ref s1)]))
        obtain ⟨_, _, ⟨T299, L299, k299, n299⟩, -, X299, ⟨Lc299, hQ299, l299, y299, z299⟩, st299⟩ := Jvm.LawKit.callS X294 hx (y := (⟨"com/example/reticule/reticule/engine/ComparisonHoldsPinLaw", "has", "(Ljava/lang/String;C)Z"⟩ : MethodName)) hown (mvT hZ (hw _ (List.mem_of_getElem? (i := 15) rfl))) (mvT hZ (hw _ (List.mem_of_getElem? (i := 16) rfl))) (mvT hZ (hw _ (List.mem_of_getElem? (i := 3) rfl))) (mvT hZ (hw _ (List.mem_of_getElem? (i := 17) rfl))) (by decide) (backOf (W := 0) (rm3EQUAL61 l Z a0 hw [] s1 w0 f0 v1 k1 (.int 0) h0 n0 Z0 P0 P1 g4 g7 g5 g6 hw0 hf) hZ (hw _ (List.mem_of_getElem? (i := 17) rfl)) (hw _ (List.mem_of_getElem? (i := 3) rfl)) (by decide) (by decide)) (g := (mkF m 38 #[.val (.int p1), .val (.int p2), .val (.ref e1), .val (.ref s1), .unset] [(.int (61 : Int32)), (.ref s1)])) rfl (by rw [hml]; rfl) (argsL := [(.ref s1), (.int (61 : Int32))]) (rest := []) (lenOf pd_0_2 rfl) rfl (by show 2 * 0 + _ ≤ _; exact Nat.le_of_eq rfl) (hb hby at_38) (fun _ _ => ⟨rfl, e294, (by decide : 0 + 0 ≤ _), (by decide : 0 + 0 ≤ _)⟩)
        dsimp only [Pt.U, Pt.locs, Pt.cells, Pt.slots] at X299 l299 y299 z299 st299 hQ299
        subst l299 y299 z299
        obtain ⟨rfl, N299q, e299⟩ := hQ299
        have N299 := Fr.app N294 N299q
        refine go st299 ?_
        show Go _ p e below s _ _ _ (T299.setTop (mkF m 41 #[.val (.int p1), .val (.int p2), .val (.ref e1), .val (.ref s1), .unset] [(.int (1 : Int32))]))
        refine go (fun _ => XS.istore X299.here hx rfl (hb hby at_41) rfl (l' := #[.val (.int p1), .val (.int p2), .val (.ref e1), .val (.ref s1), .val (.int (1 : Int32))]) rfl) ?_
        show Go _ p e below s _ _ _ (T299.setTop (mkF m 43 #[.val (.int p1), .val (.int p2), .val (.ref e1), .val (.ref s1), .val (.int (1 : Int32))] []))
        refine go (fun _ => XS.goto X299.here hx rfl (pc0 := 43) (pc' := 54) rfl (hb hby at_43) (by decide) (by decide)) ?_
        show Go _ p e below s _ _ _ (T299.setTop (mkF m 54 #[.val (.int p1), .val (.int p2), .val (.ref e1), .val (.ref s1), .val (.int (1 : Int32))] []))
        refine go (fun _ => XS.aloadN X299.here hx rfl (hb hby at_54) rfl rfl) ?_
        show Go _ p e below s _ _ _ (T299.setTop (mkF m 55 #[.val (.int p1), .val (.int p2), .val (.ref e1), .val (.ref s1), .val (.int (1 : Int32))] [(.ref e1)]))
        refine go (fun _ => XS.iloadN X299.here hx rfl (hb hby at_55) rfl) ?_
        show Go _ p e below s _ _ _ (T299.setTop (mkF m 56 #[.val (.int p1), .val (.int p2), .val (.ref e1), .val (.ref s1), .val (.int (1 : Int32))] [(.int p2), (.ref e1)]))
        obtain ⟨cq300, kq300, q300a, q300b, q300c⟩ := isOf hZ e299 g2
        obtain ⟨_, _, ⟨T300, L300, k300, n300⟩, -, X300, ⟨Lc300, hQ300, l300, y300, z300⟩, st300⟩ := X299.virtualBack hx (y := (⟨"com/example/reticule/reticule/engine/Comparison", "holds", "(I)Z"⟩ : MethodName)) (z := (⟨"com/example/reticule/reticule/engine/Comparison", "holds", "(I)Z"⟩ : MethodName)) hown (mvT hZ (hw _ (List.mem_of_getElem? (i := 56) rfl))) (mvT hZ (hw _ (List.mem_of_getElem? (i := 57) rfl))) (notFace_of_selects (args := #[]) (mvT hZ (hw _ (List.mem_of_getElem? (i := 59) rfl)))) (mvT hZ (hw _ (List.mem_of_getElem? (i := 59) rfl))) (mvT hZ (hw _ (List.mem_of_getElem? (i := 58) rfl))) (by decide) (backOf (W := 0) (rm11EQUAL l Z a0 hw [] e1 p2 h0 n0 Z0 g2 g8) hZ (hw _ (List.mem_of_getElem? (i := 60) rfl)) (hw _ (List.mem_of_getElem? (i := 6) rfl)) (by decide) (by decide)) q300a q300c (g := (mkF m 56 #[.val (.int p1), .val (.int p2), .val (.ref e1), .val (.ref s1), .val (.int (1 : Int32))] [(.int p2), (.ref e1)])) rfl (by rw [hml]; rfl) (Steps.refl _) (argsL := [(.int p2)]) (rest := []) (lenOf pd_0_3 rfl) rfl (by show 2 * 0 + _ ≤ _; exact Nat.le_of_eq rfl) (hb hby at_56) (fun _ _ => ⟨rfl, e299, (by decide : 0 + 0 ≤ _), (by decide : 0 + 0 ≤ _)⟩)
        dsimp only [Pt.U, Pt.locs, Pt.cells, Pt.slots] at X300 l300 y300 z300 st300 hQ300
        subst l300 y300 z300
        obtain ⟨rfl, N300q, e300⟩ := hQ300
        have N300 := Fr.app N299 N300q
        refine goT st300 ?_
        show Go _ p e below s _ _ _ (T300.setTop (mkF m 59 #[.val (.int p1), .val (.int p2), .val (.ref e1), .val (.ref s1), .val (.int (1 : Int32))] [(.int (own_c0 p2))]))
        refine go (fun _ => XS.iload X300.here hx rfl (hb hby at_59) rfl) ?_
        show Go _ p e below s _ _ _ (T300.setTop (mkF m 61 #[.val (.int p1), .val (.int p2), .val (.ref e1), .val (.ref s1), .val (.int (1 : Int32))] [(.int (1 : Int32)), (.int (own_c0 p2))]))
        refine go (fun _ => XS.icmpNo X300.here hx rfl (hb hby at_61) rfl (teq (by unfold own_c0; rw [if_pos hc32_298])).2) ?_
        show Go _ p e below s _ _ _ (T300.setTop (mkF m 64 #[.val (.int p1), .val (.int p2), .val (.ref e1), .val (.ref s1), .val (.int (1 : Int32))] []))
        refine go (fun _ => XS.iconst X300.here hx rfl (hb hby at_64)) ?_
        show Go _ p e below s _ _ _ (T300.setTop (mkF m 65 #[.val (.int p1), .val (.int p2), .val (.ref e1), .val (.ref s1), .val (.int (1 : Int32))] [(.int (1 : Int32))]))
        refine go (fun _ => XS.goto X300.here hx rfl (pc0 := 65) (pc' := 69) rfl (hb hby at_65) (by decide) (by decide)) ?_
        show Go _ p e below s _ _ _ (T300.setTop (mkF m 69 #[.val (.int p1), .val (.int p2), .val (.ref e1), .val (.ref s1), .val (.int (1 : Int32))] [(.int (1 : Int32))]))
        refine goRet X300 hx Bd.notSynchronized Bd.returns rfl (Or.inl ⟨rfl, Or.inr (Or.inl rfl), _, rfl⟩) (hb hby at_69) (by decide) (by decide) (by rw [e300]; refine ⟨rfl, N300⟩)
      · refine go (fun _ => XS.ifYes X294.here hx rfl (pc0 := 32) (pc' := 46) rfl (hb hby at_32) rfl ((if0 _ _).trans (feq hc32_298).2) (by decide) (by decide)) ?_
        show Go _ p e below s _ _ _ (T294.setTop (mkF m 46 #[.val (.int p1), .val (.int p2), .val (.ref e1), .val (.ref s1), .unset] []))
        refine go (fun _ => XS.aloadN X294.here hx rfl (hb hby at_46) rfl rfl) ?_
        show Go _ p e below s _ _ _ (T294.setTop (mkF m 47 #[.val (.int p1), .val (.int p2), .val (.ref e1), .val (.ref s1), .unset] [(.ref s1)]))
        refine go (fun _ => XS.bipush X294.here hx rfl (hb hby at_47)) ?_
        show Go _ p e below s _ _ _ (T294.setTop (mkF m 49 #[.val (.int p1), .val (.int p2), .val (.ref e1), .val (.ref s1), .unset] [(.int (62 : Int32)), (.ref s1)]))
        obtain ⟨_, _, ⟨T301, L301, k301, n301⟩, -, X301, ⟨Lc301, hQ301, l301, y301, z301⟩, st301⟩ := Jvm.LawKit.callS X294 hx (y := (⟨"com/example/reticule/reticule/engine/ComparisonHoldsPinLaw", "has", "(Ljava/lang/String;C)Z"⟩ : MethodName)) hown (mvT hZ (hw _ (List.mem_of_getElem? (i := 15) rfl))) (mvT hZ (hw _ (List.mem_of_getElem? (i := 16) rfl))) (mvT hZ (hw _ (List.mem_of_getElem? (i := 3) rfl))) (mvT hZ (hw _ (List.mem_of_getElem? (i := 17) rfl))) (by decide) (backOf (W := 0) (rm3EQUAL62 l Z a0 hw [] s1 w0 f0 v1 k1 (.int 0) h0 n0 Z0 P0 P1 g4 g7 g5 g6 hw0 hf) hZ (hw _ (List.mem_of_getElem? (i := 17) rfl)) (hw _ (List.mem_of_getElem? (i := 3) rfl)) (by decide) (by decide)) (g := (mkF m 49 #[.val (.int p1), .val (.int p2), .val (.ref e1), .val (.ref s1), .unset] [(.int (62 : Int32)), (.ref s1)])) rfl (by rw [hml]; rfl) (argsL := [(.ref s1), (.int (62 : Int32))]) (rest := []) (lenOf pd_0_2 rfl) rfl (by show 2 * 0 + _ ≤ _; exact Nat.le_of_eq rfl) (hb hby at_49) (fun _ _ => ⟨rfl, e294, (by decide : 0 + 0 ≤ _), (by decide : 0 + 0 ≤ _)⟩)
        dsimp only [Pt.U, Pt.locs, Pt.cells, Pt.slots] at X301 l301 y301 z301 st301 hQ301
        subst l301 y301 z301
        obtain ⟨rfl, N301q, e301⟩ := hQ301
        have N301 := Fr.app N294 N301q
        refine go st301 ?_
        show Go _ p e below s _ _ _ (T301.setTop (mkF m 52 #[.val (.int p1), .val (.int p2), .val (.ref e1), .val (.ref s1), .unset] [(.int (0 : Int32))]))
        refine go (fun _ => XS.istore X301.here hx rfl (hb hby at_52) rfl (l' := #[.val (.int p1), .val (.int p2), .val (.ref e1), .val (.ref s1), .val (.int (0 : Int32))]) rfl) ?_
        show Go _ p e below s _ _ _ (T301.setTop (mkF m 54 #[.val (.int p1), .val (.int p2), .val (.ref e1), .val (.ref s1), .val (.int (0 : Int32))] []))
        refine go (fun _ => XS.aloadN X301.here hx rfl (hb hby at_54) rfl rfl) ?_
        show Go _ p e below s _ _ _ (T301.setTop (mkF m 55 #[.val (.int p1), .val (.int p2), .val (.ref e1), .val (.ref s1), .val (.int (0 : Int32))] [(.ref e1)]))
        refine go (fun _ => XS.iloadN X301.here hx rfl (hb hby at_55) rfl) ?_
        show Go _ p e below s _ _ _ (T301.setTop (mkF m 56 #[.val (.int p1), .val (.int p2), .val (.ref e1), .val (.ref s1), .val (.int (0 : Int32))] [(.int p2), (.ref e1)]))
        obtain ⟨cq302, kq302, q302a, q302b, q302c⟩ := isOf hZ e301 g2
        obtain ⟨_, _, ⟨T302, L302, k302, n302⟩, -, X302, ⟨Lc302, hQ302, l302, y302, z302⟩, st302⟩ := X301.virtualBack hx (y := (⟨"com/example/reticule/reticule/engine/Comparison", "holds", "(I)Z"⟩ : MethodName)) (z := (⟨"com/example/reticule/reticule/engine/Comparison", "holds", "(I)Z"⟩ : MethodName)) hown (mvT hZ (hw _ (List.mem_of_getElem? (i := 56) rfl))) (mvT hZ (hw _ (List.mem_of_getElem? (i := 57) rfl))) (notFace_of_selects (args := #[]) (mvT hZ (hw _ (List.mem_of_getElem? (i := 59) rfl)))) (mvT hZ (hw _ (List.mem_of_getElem? (i := 59) rfl))) (mvT hZ (hw _ (List.mem_of_getElem? (i := 58) rfl))) (by decide) (backOf (W := 0) (rm11EQUAL l Z a0 hw [] e1 p2 h0 n0 Z0 g2 g8) hZ (hw _ (List.mem_of_getElem? (i := 60) rfl)) (hw _ (List.mem_of_getElem? (i := 6) rfl)) (by decide) (by decide)) q302a q302c (g := (mkF m 56 #[.val (.int p1), .val (.int p2), .val (.ref e1), .val (.ref s1), .val (.int (0 : Int32))] [(.int p2), (.ref e1)])) rfl (by rw [hml]; rfl) (Steps.refl _) (argsL := [(.int p2)]) (rest := []) (lenOf pd_0_3 rfl) rfl (by show 2 * 0 + _ ≤ _; exact Nat.le_of_eq rfl) (hb hby at_56) (fun _ _ => ⟨rfl, e301, (by decide : 0 + 0 ≤ _), (by decide : 0 + 0 ≤ _)⟩)
        dsimp only [Pt.U, Pt.locs, Pt.cells, Pt.slots] at X302 l302 y302 z302 st302 hQ302
        subst l302 y302 z302
        obtain ⟨rfl, N302q, e302⟩ := hQ302
        have N302 := Fr.app N301 N302q
        refine goT st302 ?_
        show Go _ p e below s _ _ _ (T302.setTop (mkF m 59 #[.val (.int p1), .val (.int p2), .val (.ref e1), .val (.ref s1), .val (.int (0 : Int32))] [(.int (own_c0 p2))]))
        refine go (fun _ => XS.iload X302.here hx rfl (hb hby at_59) rfl) ?_
        show Go _ p e below s _ _ _ (T302.setTop (mkF m 61 #[.val (.int p1), .val (.int p2), .val (.ref e1), .val (.ref s1), .val (.int (0 : Int32))] [(.int (0 : Int32)), (.int (own_c0 p2))]))
        refine go (fun _ => XS.icmpNo X302.here hx rfl (hb hby at_61) rfl (teq (by unfold own_c0; rw [if_neg hc32_298])).2) ?_
        show Go _ p e below s _ _ _ (T302.setTop (mkF m 64 #[.val (.int p1), .val (.int p2), .val (.ref e1), .val (.ref s1), .val (.int (0 : Int32))] []))
        refine go (fun _ => XS.iconst X302.here hx rfl (hb hby at_64)) ?_
        show Go _ p e below s _ _ _ (T302.setTop (mkF m 65 #[.val (.int p1), .val (.int p2), .val (.ref e1), .val (.ref s1), .val (.int (0 : Int32))] [(.int (1 : Int32))]))
        refine go (fun _ => XS.goto X302.here hx rfl (pc0 := 65) (pc' := 69) rfl (hb hby at_65) (by decide) (by decide)) ?_
        show Go _ p e below s _ _ _ (T302.setTop (mkF m 69 #[.val (.int p1), .val (.int p2), .val (.ref e1), .val (.ref s1), .val (.int (0 : Int32))] [(.int (1 : Int32))]))
        refine goRet X302 hx Bd.notSynchronized Bd.returns rfl (Or.inl ⟨rfl, Or.inr (Or.inl rfl), _, rfl⟩) (hb hby at_69) (by decide) (by decide) (by rw [e302]; refine ⟨rfl, N302⟩)
  · obtain ⟨e1, s1, v1, k1, g1, g2, g3, g4, g5, g6, g7, g8⟩ := K1
    show Go _ p e below s _ _ _ (s₁.setTop (mkF m 7 #[.val (.int p1), .val (.int p2), .unset, .unset, .unset] [(.int (1 : Int32))]))
    obtain ⟨_, _, ⟨T303, L303, k303, n303⟩, -, X303, ⟨Lc303, hQ303, l303, y303, z303⟩, st303⟩ := Jvm.LawKit.callS X0 hx (y := (⟨"com/example/reticule/reticule/engine/ComparisonHoldsPinLaw", "pick", "(I)Lcom/example/reticule/reticule/engine/Comparison;"⟩ : MethodName)) hown (mvT hZ (hw _ (List.mem_of_getElem? (i := 1) rfl))) (mvT hZ (hw _ (List.mem_of_getElem? (i := 2) rfl))) (mvT hZ (hw _ (List.mem_of_getElem? (i := 3) rfl))) (mvT hZ (hw _ (List.mem_of_getElem? (i := 4) rfl))) (by decide) (backOf (W := 0) (rm1DIFFERENT l Z a0 hw [] e1 h0 n0 Z0 g1) hZ (hw _ (List.mem_of_getElem? (i := 4) rfl)) (hw _ (List.mem_of_getElem? (i := 3) rfl)) (by decide) (by decide)) (g := (mkF m 7 #[.val (.int p1), .val (.int p2), .unset, .unset, .unset] [(.int (1 : Int32))])) rfl (by rw [hml]; rfl) (argsL := [(.int (1 : Int32))]) (rest := []) (lenOf pd_0_0 rfl) rfl (by show 2 * 0 + _ ≤ _; exact Nat.le_of_eq rfl) (hb hby at_7) (fun _ _ => ⟨rfl, e0, (by decide : 0 + 0 ≤ _), (by decide : 0 + 0 ≤ _)⟩)
    dsimp only [Pt.U, Pt.locs, Pt.cells, Pt.slots] at X303 l303 y303 z303 st303 hQ303
    subst l303 y303 z303
    obtain ⟨rfl, N303q, e303⟩ := hQ303
    have N303 := Fr.app N0 N303q
    refine go st303 ?_
    show Go _ p e below s _ _ _ (T303.setTop (mkF m 10 #[.val (.int p1), .val (.int p2), .unset, .unset, .unset] [(.ref e1)]))
    refine go (fun _ => XS.astoreN X303.here hx rfl (hb hby at_10) rfl rfl (l' := #[.val (.int p1), .val (.int p2), .val (.ref e1), .unset, .unset]) rfl) ?_
    show Go _ p e below s _ _ _ (T303.setTop (mkF m 11 #[.val (.int p1), .val (.int p2), .val (.ref e1), .unset, .unset] []))
    refine go (fun _ => XS.aloadN X303.here hx rfl (hb hby at_11) rfl rfl) ?_
    show Go _ p e below s _ _ _ (T303.setTop (mkF m 12 #[.val (.int p1), .val (.int p2), .val (.ref e1), .unset, .unset] [(.ref e1)]))
    obtain ⟨cq304, kq304, q304a, q304b, q304c⟩ := isOf hZ e303 g2
    obtain ⟨_, _, ⟨T304, L304, k304, n304⟩, -, X304, ⟨Lc304, hQ304, l304, y304, z304⟩, st304⟩ := X303.virtualBack hx (y := (⟨"com/example/reticule/reticule/engine/Comparison", "functionName", "()Ljava/lang/String;"⟩ : MethodName)) (z := (⟨"com/example/reticule/reticule/engine/Comparison", "functionName", "()Ljava/lang/String;"⟩ : MethodName)) hown (mvT hZ (hw _ (List.mem_of_getElem? (i := 8) rfl))) (mvT hZ (hw _ (List.mem_of_getElem? (i := 9) rfl))) (notFace_of_selects (args := #[]) (mvT hZ (hw _ (List.mem_of_getElem? (i := 11) rfl)))) (mvT hZ (hw _ (List.mem_of_getElem? (i := 11) rfl))) (mvT hZ (hw _ (List.mem_of_getElem? (i := 10) rfl))) (by decide) (backOf (W := 0) (rm2 l Z a0 hw [] e1 s1 h0 n0 Z0 g3) hZ (hw _ (List.mem_of_getElem? (i := 12) rfl)) (hw _ (List.mem_of_getElem? (i := 6) rfl)) (by decide) (by decide)) q304a q304c (g := (mkF m 12 #[.val (.int p1), .val (.int p2), .val (.ref e1), .unset, .unset] [(.ref e1)])) rfl (by rw [hml]; rfl) (Steps.refl _) (argsL := []) (rest := []) (lenOf pd_0_1 rfl) rfl (by show 2 * 0 + _ ≤ _; exact Nat.le_of_eq rfl) (hb hby at_12) (fun _ _ => ⟨rfl, e303, (by decide : 0 + 0 ≤ _), (by decide : 0 + 0 ≤ _)⟩)
    dsimp only [Pt.U, Pt.locs, Pt.cells, Pt.slots] at X304 l304 y304 z304 st304 hQ304
    subst l304 y304 z304
    obtain ⟨rfl, N304q, e304⟩ := hQ304
    have N304 := Fr.app N303 N304q
    refine goT st304 ?_
    show Go _ p e below s _ _ _ (T304.setTop (mkF m 15 #[.val (.int p1), .val (.int p2), .val (.ref e1), .unset, .unset] [(.ref s1)]))
    refine go (fun _ => XS.astoreN X304.here hx rfl (hb hby at_15) rfl rfl (l' := #[.val (.int p1), .val (.int p2), .val (.ref e1), .val (.ref s1), .unset]) rfl) ?_
    show Go _ p e below s _ _ _ (T304.setTop (mkF m 16 #[.val (.int p1), .val (.int p2), .val (.ref e1), .val (.ref s1), .unset] []))
    refine go (fun _ => XS.iloadN X304.here hx rfl (hb hby at_16) rfl) ?_
    show Go _ p e below s _ _ _ (T304.setTop (mkF m 17 #[.val (.int p1), .val (.int p2), .val (.ref e1), .val (.ref s1), .unset] [(.int p2)]))
    by_cases hc17_305 : p2 < (0 : Int32)
    · refine go (fun _ => XS.ifNo X304.here hx rfl (hb hby at_17) rfl ((if0 _ _).trans (tlt hc17_305).2.1)) ?_
      show Go _ p e below s _ _ _ (T304.setTop (mkF m 20 #[.val (.int p1), .val (.int p2), .val (.ref e1), .val (.ref s1), .unset] []))
      refine go (fun _ => XS.aloadN X304.here hx rfl (hb hby at_20) rfl rfl) ?_
      show Go _ p e below s _ _ _ (T304.setTop (mkF m 21 #[.val (.int p1), .val (.int p2), .val (.ref e1), .val (.ref s1), .unset] [(.ref s1)]))
      refine go (fun _ => XS.bipush X304.here hx rfl (hb hby at_21)) ?_
      show Go _ p e below s _ _ _ (T304.setTop (mkF m 23 #[.val (.int p1), .val (.int p2), .val (.ref e1), .val (.ref s1), .unset] [(.int (60 : Int32)), (.ref s1)]))
      obtain ⟨_, _, ⟨T306, L306, k306, n306⟩, -, X306, ⟨Lc306, hQ306, l306, y306, z306⟩, st306⟩ := Jvm.LawKit.callS X304 hx (y := (⟨"com/example/reticule/reticule/engine/ComparisonHoldsPinLaw", "has", "(Ljava/lang/String;C)Z"⟩ : MethodName)) hown (mvT hZ (hw _ (List.mem_of_getElem? (i := 15) rfl))) (mvT hZ (hw _ (List.mem_of_getElem? (i := 16) rfl))) (mvT hZ (hw _ (List.mem_of_getElem? (i := 3) rfl))) (mvT hZ (hw _ (List.mem_of_getElem? (i := 17) rfl))) (by decide) (backOf (W := 0) (rm3DIFFERENT60 l Z a0 hw [] s1 w0 f0 v1 k1 (.int 0) h0 n0 Z0 P0 P1 g4 g7 g5 g6 hw0 hf) hZ (hw _ (List.mem_of_getElem? (i := 17) rfl)) (hw _ (List.mem_of_getElem? (i := 3) rfl)) (by decide) (by decide)) (g := (mkF m 23 #[.val (.int p1), .val (.int p2), .val (.ref e1), .val (.ref s1), .unset] [(.int (60 : Int32)), (.ref s1)])) rfl (by rw [hml]; rfl) (argsL := [(.ref s1), (.int (60 : Int32))]) (rest := []) (lenOf pd_0_2 rfl) rfl (by show 2 * 0 + _ ≤ _; exact Nat.le_of_eq rfl) (hb hby at_23) (fun _ _ => ⟨rfl, e304, (by decide : 0 + 0 ≤ _), (by decide : 0 + 0 ≤ _)⟩)
      dsimp only [Pt.U, Pt.locs, Pt.cells, Pt.slots] at X306 l306 y306 z306 st306 hQ306
      subst l306 y306 z306
      obtain ⟨rfl, N306q, e306⟩ := hQ306
      have N306 := Fr.app N304 N306q
      refine go st306 ?_
      show Go _ p e below s _ _ _ (T306.setTop (mkF m 26 #[.val (.int p1), .val (.int p2), .val (.ref e1), .val (.ref s1), .unset] [(.int (1 : Int32))]))
      refine go (fun _ => XS.istore X306.here hx rfl (hb hby at_26) rfl (l' := #[.val (.int p1), .val (.int p2), .val (.ref e1), .val (.ref s1), .val (.int (1 : Int32))]) rfl) ?_
      show Go _ p e below s _ _ _ (T306.setTop (mkF m 28 #[.val (.int p1), .val (.int p2), .val (.ref e1), .val (.ref s1), .val (.int (1 : Int32))] []))
      refine go (fun _ => XS.goto X306.here hx rfl (pc0 := 28) (pc' := 54) rfl (hb hby at_28) (by decide) (by decide)) ?_
      show Go _ p e below s _ _ _ (T306.setTop (mkF m 54 #[.val (.int p1), .val (.int p2), .val (.ref e1), .val (.ref s1), .val (.int (1 : Int32))] []))
      refine go (fun _ => XS.aloadN X306.here hx rfl (hb hby at_54) rfl rfl) ?_
      show Go _ p e below s _ _ _ (T306.setTop (mkF m 55 #[.val (.int p1), .val (.int p2), .val (.ref e1), .val (.ref s1), .val (.int (1 : Int32))] [(.ref e1)]))
      refine go (fun _ => XS.iloadN X306.here hx rfl (hb hby at_55) rfl) ?_
      show Go _ p e below s _ _ _ (T306.setTop (mkF m 56 #[.val (.int p1), .val (.int p2), .val (.ref e1), .val (.ref s1), .val (.int (1 : Int32))] [(.int p2), (.ref e1)]))
      obtain ⟨cq307, kq307, q307a, q307b, q307c⟩ := isOf hZ e306 g2
      obtain ⟨_, _, ⟨T307, L307, k307, n307⟩, -, X307, ⟨Lc307, hQ307, l307, y307, z307⟩, st307⟩ := X306.virtualBack hx (y := (⟨"com/example/reticule/reticule/engine/Comparison", "holds", "(I)Z"⟩ : MethodName)) (z := (⟨"com/example/reticule/reticule/engine/Comparison", "holds", "(I)Z"⟩ : MethodName)) hown (mvT hZ (hw _ (List.mem_of_getElem? (i := 56) rfl))) (mvT hZ (hw _ (List.mem_of_getElem? (i := 57) rfl))) (notFace_of_selects (args := #[]) (mvT hZ (hw _ (List.mem_of_getElem? (i := 59) rfl)))) (mvT hZ (hw _ (List.mem_of_getElem? (i := 59) rfl))) (mvT hZ (hw _ (List.mem_of_getElem? (i := 58) rfl))) (by decide) (backOf (W := 0) (rm11DIFFERENT l Z a0 hw [] e1 p2 h0 n0 Z0 g2 g8) hZ (hw _ (List.mem_of_getElem? (i := 60) rfl)) (hw _ (List.mem_of_getElem? (i := 6) rfl)) (by decide) (by decide)) q307a q307c (g := (mkF m 56 #[.val (.int p1), .val (.int p2), .val (.ref e1), .val (.ref s1), .val (.int (1 : Int32))] [(.int p2), (.ref e1)])) rfl (by rw [hml]; rfl) (Steps.refl _) (argsL := [(.int p2)]) (rest := []) (lenOf pd_0_3 rfl) rfl (by show 2 * 0 + _ ≤ _; exact Nat.le_of_eq rfl) (hb hby at_56) (fun _ _ => ⟨rfl, e306, (by decide : 0 + 0 ≤ _), (by decide : 0 + 0 ≤ _)⟩)
      dsimp only [Pt.U, Pt.locs, Pt.cells, Pt.slots] at X307 l307 y307 z307 st307 hQ307
      subst l307 y307 z307
      obtain ⟨rfl, N307q, e307⟩ := hQ307
      have N307 := Fr.app N306 N307q
      refine goT st307 ?_
      show Go _ p e below s _ _ _ (T307.setTop (mkF m 59 #[.val (.int p1), .val (.int p2), .val (.ref e1), .val (.ref s1), .val (.int (1 : Int32))] [(.int (own_c1 p2))]))
      refine go (fun _ => XS.iload X307.here hx rfl (hb hby at_59) rfl) ?_
      show Go _ p e below s _ _ _ (T307.setTop (mkF m 61 #[.val (.int p1), .val (.int p2), .val (.ref e1), .val (.ref s1), .val (.int (1 : Int32))] [(.int (1 : Int32)), (.int (own_c1 p2))]))
      refine go (fun _ => XS.icmpNo X307.here hx rfl (hb hby at_61) rfl (teq (by unfold own_c1; rw [if_neg (own_neg hc17_305).1])).2) ?_
      show Go _ p e below s _ _ _ (T307.setTop (mkF m 64 #[.val (.int p1), .val (.int p2), .val (.ref e1), .val (.ref s1), .val (.int (1 : Int32))] []))
      refine go (fun _ => XS.iconst X307.here hx rfl (hb hby at_64)) ?_
      show Go _ p e below s _ _ _ (T307.setTop (mkF m 65 #[.val (.int p1), .val (.int p2), .val (.ref e1), .val (.ref s1), .val (.int (1 : Int32))] [(.int (1 : Int32))]))
      refine go (fun _ => XS.goto X307.here hx rfl (pc0 := 65) (pc' := 69) rfl (hb hby at_65) (by decide) (by decide)) ?_
      show Go _ p e below s _ _ _ (T307.setTop (mkF m 69 #[.val (.int p1), .val (.int p2), .val (.ref e1), .val (.ref s1), .val (.int (1 : Int32))] [(.int (1 : Int32))]))
      refine goRet X307 hx Bd.notSynchronized Bd.returns rfl (Or.inl ⟨rfl, Or.inr (Or.inl rfl), _, rfl⟩) (hb hby at_69) (by decide) (by decide) (by rw [e307]; refine ⟨rfl, N307⟩)
    · refine go (fun _ => XS.ifYes X304.here hx rfl (pc0 := 17) (pc' := 31) rfl (hb hby at_17) rfl ((if0 _ _).trans (flt hc17_305).2.1) (by decide) (by decide)) ?_
      show Go _ p e below s _ _ _ (T304.setTop (mkF m 31 #[.val (.int p1), .val (.int p2), .val (.ref e1), .val (.ref s1), .unset] []))
      refine go (fun _ => XS.iloadN X304.here hx rfl (hb hby at_31) rfl) ?_
      show Go _ p e below s _ _ _ (T304.setTop (mkF m 32 #[.val (.int p1), .val (.int p2), .val (.ref e1), .val (.ref s1), .unset] [(.int p2)]))
      by_cases hc32_308 : p2 = (0 : Int32)
      · refine go (fun _ => XS.ifNo X304.here hx rfl (hb hby at_32) rfl ((if0 _ _).trans (teq hc32_308).2)) ?_
        show Go _ p e below s _ _ _ (T304.setTop (mkF m 35 #[.val (.int p1), .val (.int p2), .val (.ref e1), .val (.ref s1), .unset] []))
        refine go (fun _ => XS.aloadN X304.here hx rfl (hb hby at_35) rfl rfl) ?_
        show Go _ p e below s _ _ _ (T304.setTop (mkF m 36 #[.val (.int p1), .val (.int p2), .val (.ref e1), .val (.ref s1), .unset] [(.ref s1)]))
        refine go (fun _ => XS.bipush X304.here hx rfl (hb hby at_36)) ?_
        show Go _ p e below s _ _ _ (T304.setTop (mkF m 38 #[.val (.int p1), .val (.int p2), .val (.ref e1), .val (.ref s1), .unset] [(.int (61 : Int32)), (.ref s1)]))
        obtain ⟨_, _, ⟨T309, L309, k309, n309⟩, -, X309, ⟨Lc309, hQ309, l309, y309, z309⟩, st309⟩ := Jvm.LawKit.callS X304 hx (y := (⟨"com/example/reticule/reticule/engine/ComparisonHoldsPinLaw", "has", "(Ljava/lang/String;C)Z"⟩ : MethodName)) hown (mvT hZ (hw _ (List.mem_of_getElem? (i := 15) rfl))) (mvT hZ (hw _ (List.mem_of_getElem? (i := 16) rfl))) (mvT hZ (hw _ (List.mem_of_getElem? (i := 3) rfl))) (mvT hZ (hw _ (List.mem_of_getElem? (i := 17) rfl))) (by decide) (backOf (W := 0) (rm3DIFFERENT61 l Z a0 hw [] s1 w0 f0 v1 k1 (.int 0) h0 n0 Z0 P0 P1 g4 g7 g5 g6 hw0 hf) hZ (hw _ (List.mem_of_getElem? (i := 17) rfl)) (hw _ (List.mem_of_getElem? (i := 3) rfl)) (by decide) (by decide)) (g := (mkF m 38 #[.val (.int p1), .val (.int p2), .val (.ref e1), .val (.ref s1), .unset] [(.int (61 : Int32)), (.ref s1)])) rfl (by rw [hml]; rfl) (argsL := [(.ref s1), (.int (61 : Int32))]) (rest := []) (lenOf pd_0_2 rfl) rfl (by show 2 * 0 + _ ≤ _; exact Nat.le_of_eq rfl) (hb hby at_38) (fun _ _ => ⟨rfl, e304, (by decide : 0 + 0 ≤ _), (by decide : 0 + 0 ≤ _)⟩)
        dsimp only [Pt.U, Pt.locs, Pt.cells, Pt.slots] at X309 l309 y309 z309 st309 hQ309
        subst l309 y309 z309
        obtain ⟨rfl, N309q, e309⟩ := hQ309
        have N309 := Fr.app N304 N309q
        refine go st309 ?_
        show Go _ p e below s _ _ _ (T309.setTop (mkF m 41 #[.val (.int p1), .val (.int p2), .val (.ref e1), .val (.ref s1), .unset] [(.int (0 : Int32))]))
        refine go (fun _ => XS.istore X309.here hx rfl (hb hby at_41) rfl (l' := #[.val (.int p1), .val (.int p2), .val (.ref e1), .val (.ref s1), .val (.int (0 : Int32))]) rfl) ?_
        show Go _ p e below s _ _ _ (T309.setTop (mkF m 43 #[.val (.int p1), .val (.int p2), .val (.ref e1), .val (.ref s1), .val (.int (0 : Int32))] []))
        refine go (fun _ => XS.goto X309.here hx rfl (pc0 := 43) (pc' := 54) rfl (hb hby at_43) (by decide) (by decide)) ?_
        show Go _ p e below s _ _ _ (T309.setTop (mkF m 54 #[.val (.int p1), .val (.int p2), .val (.ref e1), .val (.ref s1), .val (.int (0 : Int32))] []))
        refine go (fun _ => XS.aloadN X309.here hx rfl (hb hby at_54) rfl rfl) ?_
        show Go _ p e below s _ _ _ (T309.setTop (mkF m 55 #[.val (.int p1), .val (.int p2), .val (.ref e1), .val (.ref s1), .val (.int (0 : Int32))] [(.ref e1)]))
        refine go (fun _ => XS.iloadN X309.here hx rfl (hb hby at_55) rfl) ?_
        show Go _ p e below s _ _ _ (T309.setTop (mkF m 56 #[.val (.int p1), .val (.int p2), .val (.ref e1), .val (.ref s1), .val (.int (0 : Int32))] [(.int p2), (.ref e1)]))
        obtain ⟨cq310, kq310, q310a, q310b, q310c⟩ := isOf hZ e309 g2
        obtain ⟨_, _, ⟨T310, L310, k310, n310⟩, -, X310, ⟨Lc310, hQ310, l310, y310, z310⟩, st310⟩ := X309.virtualBack hx (y := (⟨"com/example/reticule/reticule/engine/Comparison", "holds", "(I)Z"⟩ : MethodName)) (z := (⟨"com/example/reticule/reticule/engine/Comparison", "holds", "(I)Z"⟩ : MethodName)) hown (mvT hZ (hw _ (List.mem_of_getElem? (i := 56) rfl))) (mvT hZ (hw _ (List.mem_of_getElem? (i := 57) rfl))) (notFace_of_selects (args := #[]) (mvT hZ (hw _ (List.mem_of_getElem? (i := 59) rfl)))) (mvT hZ (hw _ (List.mem_of_getElem? (i := 59) rfl))) (mvT hZ (hw _ (List.mem_of_getElem? (i := 58) rfl))) (by decide) (backOf (W := 0) (rm11DIFFERENT l Z a0 hw [] e1 p2 h0 n0 Z0 g2 g8) hZ (hw _ (List.mem_of_getElem? (i := 60) rfl)) (hw _ (List.mem_of_getElem? (i := 6) rfl)) (by decide) (by decide)) q310a q310c (g := (mkF m 56 #[.val (.int p1), .val (.int p2), .val (.ref e1), .val (.ref s1), .val (.int (0 : Int32))] [(.int p2), (.ref e1)])) rfl (by rw [hml]; rfl) (Steps.refl _) (argsL := [(.int p2)]) (rest := []) (lenOf pd_0_3 rfl) rfl (by show 2 * 0 + _ ≤ _; exact Nat.le_of_eq rfl) (hb hby at_56) (fun _ _ => ⟨rfl, e309, (by decide : 0 + 0 ≤ _), (by decide : 0 + 0 ≤ _)⟩)
        dsimp only [Pt.U, Pt.locs, Pt.cells, Pt.slots] at X310 l310 y310 z310 st310 hQ310
        subst l310 y310 z310
        obtain ⟨rfl, N310q, e310⟩ := hQ310
        have N310 := Fr.app N309 N310q
        refine goT st310 ?_
        show Go _ p e below s _ _ _ (T310.setTop (mkF m 59 #[.val (.int p1), .val (.int p2), .val (.ref e1), .val (.ref s1), .val (.int (0 : Int32))] [(.int (own_c1 p2))]))
        refine go (fun _ => XS.iload X310.here hx rfl (hb hby at_59) rfl) ?_
        show Go _ p e below s _ _ _ (T310.setTop (mkF m 61 #[.val (.int p1), .val (.int p2), .val (.ref e1), .val (.ref s1), .val (.int (0 : Int32))] [(.int (0 : Int32)), (.int (own_c1 p2))]))
        refine go (fun _ => XS.icmpNo X310.here hx rfl (hb hby at_61) rfl (teq (by unfold own_c1; rw [if_pos hc32_308])).2) ?_
        show Go _ p e below s _ _ _ (T310.setTop (mkF m 64 #[.val (.int p1), .val (.int p2), .val (.ref e1), .val (.ref s1), .val (.int (0 : Int32))] []))
        refine go (fun _ => XS.iconst X310.here hx rfl (hb hby at_64)) ?_
        show Go _ p e below s _ _ _ (T310.setTop (mkF m 65 #[.val (.int p1), .val (.int p2), .val (.ref e1), .val (.ref s1), .val (.int (0 : Int32))] [(.int (1 : Int32))]))
        refine go (fun _ => XS.goto X310.here hx rfl (pc0 := 65) (pc' := 69) rfl (hb hby at_65) (by decide) (by decide)) ?_
        show Go _ p e below s _ _ _ (T310.setTop (mkF m 69 #[.val (.int p1), .val (.int p2), .val (.ref e1), .val (.ref s1), .val (.int (0 : Int32))] [(.int (1 : Int32))]))
        refine goRet X310 hx Bd.notSynchronized Bd.returns rfl (Or.inl ⟨rfl, Or.inr (Or.inl rfl), _, rfl⟩) (hb hby at_69) (by decide) (by decide) (by rw [e310]; refine ⟨rfl, N310⟩)
      · refine go (fun _ => XS.ifYes X304.here hx rfl (pc0 := 32) (pc' := 46) rfl (hb hby at_32) rfl ((if0 _ _).trans (feq hc32_308).2) (by decide) (by decide)) ?_
        show Go _ p e below s _ _ _ (T304.setTop (mkF m 46 #[.val (.int p1), .val (.int p2), .val (.ref e1), .val (.ref s1), .unset] []))
        refine go (fun _ => XS.aloadN X304.here hx rfl (hb hby at_46) rfl rfl) ?_
        show Go _ p e below s _ _ _ (T304.setTop (mkF m 47 #[.val (.int p1), .val (.int p2), .val (.ref e1), .val (.ref s1), .unset] [(.ref s1)]))
        refine go (fun _ => XS.bipush X304.here hx rfl (hb hby at_47)) ?_
        show Go _ p e below s _ _ _ (T304.setTop (mkF m 49 #[.val (.int p1), .val (.int p2), .val (.ref e1), .val (.ref s1), .unset] [(.int (62 : Int32)), (.ref s1)]))
        obtain ⟨_, _, ⟨T311, L311, k311, n311⟩, -, X311, ⟨Lc311, hQ311, l311, y311, z311⟩, st311⟩ := Jvm.LawKit.callS X304 hx (y := (⟨"com/example/reticule/reticule/engine/ComparisonHoldsPinLaw", "has", "(Ljava/lang/String;C)Z"⟩ : MethodName)) hown (mvT hZ (hw _ (List.mem_of_getElem? (i := 15) rfl))) (mvT hZ (hw _ (List.mem_of_getElem? (i := 16) rfl))) (mvT hZ (hw _ (List.mem_of_getElem? (i := 3) rfl))) (mvT hZ (hw _ (List.mem_of_getElem? (i := 17) rfl))) (by decide) (backOf (W := 0) (rm3DIFFERENT62 l Z a0 hw [] s1 w0 f0 v1 k1 (.int 0) h0 n0 Z0 P0 P1 g4 g7 g5 g6 hw0 hf) hZ (hw _ (List.mem_of_getElem? (i := 17) rfl)) (hw _ (List.mem_of_getElem? (i := 3) rfl)) (by decide) (by decide)) (g := (mkF m 49 #[.val (.int p1), .val (.int p2), .val (.ref e1), .val (.ref s1), .unset] [(.int (62 : Int32)), (.ref s1)])) rfl (by rw [hml]; rfl) (argsL := [(.ref s1), (.int (62 : Int32))]) (rest := []) (lenOf pd_0_2 rfl) rfl (by show 2 * 0 + _ ≤ _; exact Nat.le_of_eq rfl) (hb hby at_49) (fun _ _ => ⟨rfl, e304, (by decide : 0 + 0 ≤ _), (by decide : 0 + 0 ≤ _)⟩)
        dsimp only [Pt.U, Pt.locs, Pt.cells, Pt.slots] at X311 l311 y311 z311 st311 hQ311
        subst l311 y311 z311
        obtain ⟨rfl, N311q, e311⟩ := hQ311
        have N311 := Fr.app N304 N311q
        refine go st311 ?_
        show Go _ p e below s _ _ _ (T311.setTop (mkF m 52 #[.val (.int p1), .val (.int p2), .val (.ref e1), .val (.ref s1), .unset] [(.int (1 : Int32))]))
        refine go (fun _ => XS.istore X311.here hx rfl (hb hby at_52) rfl (l' := #[.val (.int p1), .val (.int p2), .val (.ref e1), .val (.ref s1), .val (.int (1 : Int32))]) rfl) ?_
        show Go _ p e below s _ _ _ (T311.setTop (mkF m 54 #[.val (.int p1), .val (.int p2), .val (.ref e1), .val (.ref s1), .val (.int (1 : Int32))] []))
        refine go (fun _ => XS.aloadN X311.here hx rfl (hb hby at_54) rfl rfl) ?_
        show Go _ p e below s _ _ _ (T311.setTop (mkF m 55 #[.val (.int p1), .val (.int p2), .val (.ref e1), .val (.ref s1), .val (.int (1 : Int32))] [(.ref e1)]))
        refine go (fun _ => XS.iloadN X311.here hx rfl (hb hby at_55) rfl) ?_
        show Go _ p e below s _ _ _ (T311.setTop (mkF m 56 #[.val (.int p1), .val (.int p2), .val (.ref e1), .val (.ref s1), .val (.int (1 : Int32))] [(.int p2), (.ref e1)]))
        obtain ⟨cq312, kq312, q312a, q312b, q312c⟩ := isOf hZ e311 g2
        obtain ⟨_, _, ⟨T312, L312, k312, n312⟩, -, X312, ⟨Lc312, hQ312, l312, y312, z312⟩, st312⟩ := X311.virtualBack hx (y := (⟨"com/example/reticule/reticule/engine/Comparison", "holds", "(I)Z"⟩ : MethodName)) (z := (⟨"com/example/reticule/reticule/engine/Comparison", "holds", "(I)Z"⟩ : MethodName)) hown (mvT hZ (hw _ (List.mem_of_getElem? (i := 56) rfl))) (mvT hZ (hw _ (List.mem_of_getElem? (i := 57) rfl))) (notFace_of_selects (args := #[]) (mvT hZ (hw _ (List.mem_of_getElem? (i := 59) rfl)))) (mvT hZ (hw _ (List.mem_of_getElem? (i := 59) rfl))) (mvT hZ (hw _ (List.mem_of_getElem? (i := 58) rfl))) (by decide) (backOf (W := 0) (rm11DIFFERENT l Z a0 hw [] e1 p2 h0 n0 Z0 g2 g8) hZ (hw _ (List.mem_of_getElem? (i := 60) rfl)) (hw _ (List.mem_of_getElem? (i := 6) rfl)) (by decide) (by decide)) q312a q312c (g := (mkF m 56 #[.val (.int p1), .val (.int p2), .val (.ref e1), .val (.ref s1), .val (.int (1 : Int32))] [(.int p2), (.ref e1)])) rfl (by rw [hml]; rfl) (Steps.refl _) (argsL := [(.int p2)]) (rest := []) (lenOf pd_0_3 rfl) rfl (by show 2 * 0 + _ ≤ _; exact Nat.le_of_eq rfl) (hb hby at_56) (fun _ _ => ⟨rfl, e311, (by decide : 0 + 0 ≤ _), (by decide : 0 + 0 ≤ _)⟩)
        dsimp only [Pt.U, Pt.locs, Pt.cells, Pt.slots] at X312 l312 y312 z312 st312 hQ312
        subst l312 y312 z312
        obtain ⟨rfl, N312q, e312⟩ := hQ312
        have N312 := Fr.app N311 N312q
        refine goT st312 ?_
        show Go _ p e below s _ _ _ (T312.setTop (mkF m 59 #[.val (.int p1), .val (.int p2), .val (.ref e1), .val (.ref s1), .val (.int (1 : Int32))] [(.int (own_c1 p2))]))
        refine go (fun _ => XS.iload X312.here hx rfl (hb hby at_59) rfl) ?_
        show Go _ p e below s _ _ _ (T312.setTop (mkF m 61 #[.val (.int p1), .val (.int p2), .val (.ref e1), .val (.ref s1), .val (.int (1 : Int32))] [(.int (1 : Int32)), (.int (own_c1 p2))]))
        refine go (fun _ => XS.icmpNo X312.here hx rfl (hb hby at_61) rfl (teq (by unfold own_c1; rw [if_neg hc32_308])).2) ?_
        show Go _ p e below s _ _ _ (T312.setTop (mkF m 64 #[.val (.int p1), .val (.int p2), .val (.ref e1), .val (.ref s1), .val (.int (1 : Int32))] []))
        refine go (fun _ => XS.iconst X312.here hx rfl (hb hby at_64)) ?_
        show Go _ p e below s _ _ _ (T312.setTop (mkF m 65 #[.val (.int p1), .val (.int p2), .val (.ref e1), .val (.ref s1), .val (.int (1 : Int32))] [(.int (1 : Int32))]))
        refine go (fun _ => XS.goto X312.here hx rfl (pc0 := 65) (pc' := 69) rfl (hb hby at_65) (by decide) (by decide)) ?_
        show Go _ p e below s _ _ _ (T312.setTop (mkF m 69 #[.val (.int p1), .val (.int p2), .val (.ref e1), .val (.ref s1), .val (.int (1 : Int32))] [(.int (1 : Int32))]))
        refine goRet X312 hx Bd.notSynchronized Bd.returns rfl (Or.inl ⟨rfl, Or.inr (Or.inl rfl), _, rfl⟩) (hb hby at_69) (by decide) (by decide) (by rw [e312]; refine ⟨rfl, N312⟩)
  · obtain ⟨e1, s1, v1, k1, g1, g2, g3, g4, g5, g6, g7, g8⟩ := K2
    show Go _ p e below s _ _ _ (s₁.setTop (mkF m 7 #[.val (.int p1), .val (.int p2), .unset, .unset, .unset] [(.int (2 : Int32))]))
    obtain ⟨_, _, ⟨T313, L313, k313, n313⟩, -, X313, ⟨Lc313, hQ313, l313, y313, z313⟩, st313⟩ := Jvm.LawKit.callS X0 hx (y := (⟨"com/example/reticule/reticule/engine/ComparisonHoldsPinLaw", "pick", "(I)Lcom/example/reticule/reticule/engine/Comparison;"⟩ : MethodName)) hown (mvT hZ (hw _ (List.mem_of_getElem? (i := 1) rfl))) (mvT hZ (hw _ (List.mem_of_getElem? (i := 2) rfl))) (mvT hZ (hw _ (List.mem_of_getElem? (i := 3) rfl))) (mvT hZ (hw _ (List.mem_of_getElem? (i := 4) rfl))) (by decide) (backOf (W := 0) (rm1LESS l Z a0 hw [] e1 h0 n0 Z0 g1) hZ (hw _ (List.mem_of_getElem? (i := 4) rfl)) (hw _ (List.mem_of_getElem? (i := 3) rfl)) (by decide) (by decide)) (g := (mkF m 7 #[.val (.int p1), .val (.int p2), .unset, .unset, .unset] [(.int (2 : Int32))])) rfl (by rw [hml]; rfl) (argsL := [(.int (2 : Int32))]) (rest := []) (lenOf pd_0_0 rfl) rfl (by show 2 * 0 + _ ≤ _; exact Nat.le_of_eq rfl) (hb hby at_7) (fun _ _ => ⟨rfl, e0, (by decide : 0 + 0 ≤ _), (by decide : 0 + 0 ≤ _)⟩)
    dsimp only [Pt.U, Pt.locs, Pt.cells, Pt.slots] at X313 l313 y313 z313 st313 hQ313
    subst l313 y313 z313
    obtain ⟨rfl, N313q, e313⟩ := hQ313
    have N313 := Fr.app N0 N313q
    refine go st313 ?_
    show Go _ p e below s _ _ _ (T313.setTop (mkF m 10 #[.val (.int p1), .val (.int p2), .unset, .unset, .unset] [(.ref e1)]))
    refine go (fun _ => XS.astoreN X313.here hx rfl (hb hby at_10) rfl rfl (l' := #[.val (.int p1), .val (.int p2), .val (.ref e1), .unset, .unset]) rfl) ?_
    show Go _ p e below s _ _ _ (T313.setTop (mkF m 11 #[.val (.int p1), .val (.int p2), .val (.ref e1), .unset, .unset] []))
    refine go (fun _ => XS.aloadN X313.here hx rfl (hb hby at_11) rfl rfl) ?_
    show Go _ p e below s _ _ _ (T313.setTop (mkF m 12 #[.val (.int p1), .val (.int p2), .val (.ref e1), .unset, .unset] [(.ref e1)]))
    obtain ⟨cq314, kq314, q314a, q314b, q314c⟩ := isOf hZ e313 g2
    obtain ⟨_, _, ⟨T314, L314, k314, n314⟩, -, X314, ⟨Lc314, hQ314, l314, y314, z314⟩, st314⟩ := X313.virtualBack hx (y := (⟨"com/example/reticule/reticule/engine/Comparison", "functionName", "()Ljava/lang/String;"⟩ : MethodName)) (z := (⟨"com/example/reticule/reticule/engine/Comparison", "functionName", "()Ljava/lang/String;"⟩ : MethodName)) hown (mvT hZ (hw _ (List.mem_of_getElem? (i := 8) rfl))) (mvT hZ (hw _ (List.mem_of_getElem? (i := 9) rfl))) (notFace_of_selects (args := #[]) (mvT hZ (hw _ (List.mem_of_getElem? (i := 11) rfl)))) (mvT hZ (hw _ (List.mem_of_getElem? (i := 11) rfl))) (mvT hZ (hw _ (List.mem_of_getElem? (i := 10) rfl))) (by decide) (backOf (W := 0) (rm2 l Z a0 hw [] e1 s1 h0 n0 Z0 g3) hZ (hw _ (List.mem_of_getElem? (i := 12) rfl)) (hw _ (List.mem_of_getElem? (i := 6) rfl)) (by decide) (by decide)) q314a q314c (g := (mkF m 12 #[.val (.int p1), .val (.int p2), .val (.ref e1), .unset, .unset] [(.ref e1)])) rfl (by rw [hml]; rfl) (Steps.refl _) (argsL := []) (rest := []) (lenOf pd_0_1 rfl) rfl (by show 2 * 0 + _ ≤ _; exact Nat.le_of_eq rfl) (hb hby at_12) (fun _ _ => ⟨rfl, e313, (by decide : 0 + 0 ≤ _), (by decide : 0 + 0 ≤ _)⟩)
    dsimp only [Pt.U, Pt.locs, Pt.cells, Pt.slots] at X314 l314 y314 z314 st314 hQ314
    subst l314 y314 z314
    obtain ⟨rfl, N314q, e314⟩ := hQ314
    have N314 := Fr.app N313 N314q
    refine goT st314 ?_
    show Go _ p e below s _ _ _ (T314.setTop (mkF m 15 #[.val (.int p1), .val (.int p2), .val (.ref e1), .unset, .unset] [(.ref s1)]))
    refine go (fun _ => XS.astoreN X314.here hx rfl (hb hby at_15) rfl rfl (l' := #[.val (.int p1), .val (.int p2), .val (.ref e1), .val (.ref s1), .unset]) rfl) ?_
    show Go _ p e below s _ _ _ (T314.setTop (mkF m 16 #[.val (.int p1), .val (.int p2), .val (.ref e1), .val (.ref s1), .unset] []))
    refine go (fun _ => XS.iloadN X314.here hx rfl (hb hby at_16) rfl) ?_
    show Go _ p e below s _ _ _ (T314.setTop (mkF m 17 #[.val (.int p1), .val (.int p2), .val (.ref e1), .val (.ref s1), .unset] [(.int p2)]))
    by_cases hc17_315 : p2 < (0 : Int32)
    · refine go (fun _ => XS.ifNo X314.here hx rfl (hb hby at_17) rfl ((if0 _ _).trans (tlt hc17_315).2.1)) ?_
      show Go _ p e below s _ _ _ (T314.setTop (mkF m 20 #[.val (.int p1), .val (.int p2), .val (.ref e1), .val (.ref s1), .unset] []))
      refine go (fun _ => XS.aloadN X314.here hx rfl (hb hby at_20) rfl rfl) ?_
      show Go _ p e below s _ _ _ (T314.setTop (mkF m 21 #[.val (.int p1), .val (.int p2), .val (.ref e1), .val (.ref s1), .unset] [(.ref s1)]))
      refine go (fun _ => XS.bipush X314.here hx rfl (hb hby at_21)) ?_
      show Go _ p e below s _ _ _ (T314.setTop (mkF m 23 #[.val (.int p1), .val (.int p2), .val (.ref e1), .val (.ref s1), .unset] [(.int (60 : Int32)), (.ref s1)]))
      obtain ⟨_, _, ⟨T316, L316, k316, n316⟩, -, X316, ⟨Lc316, hQ316, l316, y316, z316⟩, st316⟩ := Jvm.LawKit.callS X314 hx (y := (⟨"com/example/reticule/reticule/engine/ComparisonHoldsPinLaw", "has", "(Ljava/lang/String;C)Z"⟩ : MethodName)) hown (mvT hZ (hw _ (List.mem_of_getElem? (i := 15) rfl))) (mvT hZ (hw _ (List.mem_of_getElem? (i := 16) rfl))) (mvT hZ (hw _ (List.mem_of_getElem? (i := 3) rfl))) (mvT hZ (hw _ (List.mem_of_getElem? (i := 17) rfl))) (by decide) (backOf (W := 0) (rm3LESS60 l Z a0 hw [] s1 w0 f0 v1 k1 (.int 0) h0 n0 Z0 P0 P1 g4 g7 g5 g6 hw0 hf) hZ (hw _ (List.mem_of_getElem? (i := 17) rfl)) (hw _ (List.mem_of_getElem? (i := 3) rfl)) (by decide) (by decide)) (g := (mkF m 23 #[.val (.int p1), .val (.int p2), .val (.ref e1), .val (.ref s1), .unset] [(.int (60 : Int32)), (.ref s1)])) rfl (by rw [hml]; rfl) (argsL := [(.ref s1), (.int (60 : Int32))]) (rest := []) (lenOf pd_0_2 rfl) rfl (by show 2 * 0 + _ ≤ _; exact Nat.le_of_eq rfl) (hb hby at_23) (fun _ _ => ⟨rfl, e314, (by decide : 0 + 0 ≤ _), (by decide : 0 + 0 ≤ _)⟩)
      dsimp only [Pt.U, Pt.locs, Pt.cells, Pt.slots] at X316 l316 y316 z316 st316 hQ316
      subst l316 y316 z316
      obtain ⟨rfl, N316q, e316⟩ := hQ316
      have N316 := Fr.app N314 N316q
      refine go st316 ?_
      show Go _ p e below s _ _ _ (T316.setTop (mkF m 26 #[.val (.int p1), .val (.int p2), .val (.ref e1), .val (.ref s1), .unset] [(.int (1 : Int32))]))
      refine go (fun _ => XS.istore X316.here hx rfl (hb hby at_26) rfl (l' := #[.val (.int p1), .val (.int p2), .val (.ref e1), .val (.ref s1), .val (.int (1 : Int32))]) rfl) ?_
      show Go _ p e below s _ _ _ (T316.setTop (mkF m 28 #[.val (.int p1), .val (.int p2), .val (.ref e1), .val (.ref s1), .val (.int (1 : Int32))] []))
      refine go (fun _ => XS.goto X316.here hx rfl (pc0 := 28) (pc' := 54) rfl (hb hby at_28) (by decide) (by decide)) ?_
      show Go _ p e below s _ _ _ (T316.setTop (mkF m 54 #[.val (.int p1), .val (.int p2), .val (.ref e1), .val (.ref s1), .val (.int (1 : Int32))] []))
      refine go (fun _ => XS.aloadN X316.here hx rfl (hb hby at_54) rfl rfl) ?_
      show Go _ p e below s _ _ _ (T316.setTop (mkF m 55 #[.val (.int p1), .val (.int p2), .val (.ref e1), .val (.ref s1), .val (.int (1 : Int32))] [(.ref e1)]))
      refine go (fun _ => XS.iloadN X316.here hx rfl (hb hby at_55) rfl) ?_
      show Go _ p e below s _ _ _ (T316.setTop (mkF m 56 #[.val (.int p1), .val (.int p2), .val (.ref e1), .val (.ref s1), .val (.int (1 : Int32))] [(.int p2), (.ref e1)]))
      obtain ⟨cq317, kq317, q317a, q317b, q317c⟩ := isOf hZ e316 g2
      obtain ⟨_, _, ⟨T317, L317, k317, n317⟩, -, X317, ⟨Lc317, hQ317, l317, y317, z317⟩, st317⟩ := X316.virtualBack hx (y := (⟨"com/example/reticule/reticule/engine/Comparison", "holds", "(I)Z"⟩ : MethodName)) (z := (⟨"com/example/reticule/reticule/engine/Comparison", "holds", "(I)Z"⟩ : MethodName)) hown (mvT hZ (hw _ (List.mem_of_getElem? (i := 56) rfl))) (mvT hZ (hw _ (List.mem_of_getElem? (i := 57) rfl))) (notFace_of_selects (args := #[]) (mvT hZ (hw _ (List.mem_of_getElem? (i := 59) rfl)))) (mvT hZ (hw _ (List.mem_of_getElem? (i := 59) rfl))) (mvT hZ (hw _ (List.mem_of_getElem? (i := 58) rfl))) (by decide) (backOf (W := 0) (rm11LESS l Z a0 hw [] e1 p2 h0 n0 Z0 g2 g8) hZ (hw _ (List.mem_of_getElem? (i := 60) rfl)) (hw _ (List.mem_of_getElem? (i := 6) rfl)) (by decide) (by decide)) q317a q317c (g := (mkF m 56 #[.val (.int p1), .val (.int p2), .val (.ref e1), .val (.ref s1), .val (.int (1 : Int32))] [(.int p2), (.ref e1)])) rfl (by rw [hml]; rfl) (Steps.refl _) (argsL := [(.int p2)]) (rest := []) (lenOf pd_0_3 rfl) rfl (by show 2 * 0 + _ ≤ _; exact Nat.le_of_eq rfl) (hb hby at_56) (fun _ _ => ⟨rfl, e316, (by decide : 0 + 0 ≤ _), (by decide : 0 + 0 ≤ _)⟩)
      dsimp only [Pt.U, Pt.locs, Pt.cells, Pt.slots] at X317 l317 y317 z317 st317 hQ317
      subst l317 y317 z317
      obtain ⟨rfl, N317q, e317⟩ := hQ317
      have N317 := Fr.app N316 N317q
      refine goT st317 ?_
      show Go _ p e below s _ _ _ (T317.setTop (mkF m 59 #[.val (.int p1), .val (.int p2), .val (.ref e1), .val (.ref s1), .val (.int (1 : Int32))] [(.int (own_c2 p2))]))
      refine go (fun _ => XS.iload X317.here hx rfl (hb hby at_59) rfl) ?_
      show Go _ p e below s _ _ _ (T317.setTop (mkF m 61 #[.val (.int p1), .val (.int p2), .val (.ref e1), .val (.ref s1), .val (.int (1 : Int32))] [(.int (1 : Int32)), (.int (own_c2 p2))]))
      refine go (fun _ => XS.icmpNo X317.here hx rfl (hb hby at_61) rfl (teq (by unfold own_c2; rw [if_pos hc17_315])).2) ?_
      show Go _ p e below s _ _ _ (T317.setTop (mkF m 64 #[.val (.int p1), .val (.int p2), .val (.ref e1), .val (.ref s1), .val (.int (1 : Int32))] []))
      refine go (fun _ => XS.iconst X317.here hx rfl (hb hby at_64)) ?_
      show Go _ p e below s _ _ _ (T317.setTop (mkF m 65 #[.val (.int p1), .val (.int p2), .val (.ref e1), .val (.ref s1), .val (.int (1 : Int32))] [(.int (1 : Int32))]))
      refine go (fun _ => XS.goto X317.here hx rfl (pc0 := 65) (pc' := 69) rfl (hb hby at_65) (by decide) (by decide)) ?_
      show Go _ p e below s _ _ _ (T317.setTop (mkF m 69 #[.val (.int p1), .val (.int p2), .val (.ref e1), .val (.ref s1), .val (.int (1 : Int32))] [(.int (1 : Int32))]))
      refine goRet X317 hx Bd.notSynchronized Bd.returns rfl (Or.inl ⟨rfl, Or.inr (Or.inl rfl), _, rfl⟩) (hb hby at_69) (by decide) (by decide) (by rw [e317]; refine ⟨rfl, N317⟩)
    · refine go (fun _ => XS.ifYes X314.here hx rfl (pc0 := 17) (pc' := 31) rfl (hb hby at_17) rfl ((if0 _ _).trans (flt hc17_315).2.1) (by decide) (by decide)) ?_
      show Go _ p e below s _ _ _ (T314.setTop (mkF m 31 #[.val (.int p1), .val (.int p2), .val (.ref e1), .val (.ref s1), .unset] []))
      refine go (fun _ => XS.iloadN X314.here hx rfl (hb hby at_31) rfl) ?_
      show Go _ p e below s _ _ _ (T314.setTop (mkF m 32 #[.val (.int p1), .val (.int p2), .val (.ref e1), .val (.ref s1), .unset] [(.int p2)]))
      by_cases hc32_318 : p2 = (0 : Int32)
      · refine go (fun _ => XS.ifNo X314.here hx rfl (hb hby at_32) rfl ((if0 _ _).trans (teq hc32_318).2)) ?_
        show Go _ p e below s _ _ _ (T314.setTop (mkF m 35 #[.val (.int p1), .val (.int p2), .val (.ref e1), .val (.ref s1), .unset] []))
        refine go (fun _ => XS.aloadN X314.here hx rfl (hb hby at_35) rfl rfl) ?_
        show Go _ p e below s _ _ _ (T314.setTop (mkF m 36 #[.val (.int p1), .val (.int p2), .val (.ref e1), .val (.ref s1), .unset] [(.ref s1)]))
        refine go (fun _ => XS.bipush X314.here hx rfl (hb hby at_36)) ?_
        show Go _ p e below s _ _ _ (T314.setTop (mkF m 38 #[.val (.int p1), .val (.int p2), .val (.ref e1), .val (.ref s1), .unset] [(.int (61 : Int32)), (.ref s1)]))
        obtain ⟨_, _, ⟨T319, L319, k319, n319⟩, -, X319, ⟨Lc319, hQ319, l319, y319, z319⟩, st319⟩ := Jvm.LawKit.callS X314 hx (y := (⟨"com/example/reticule/reticule/engine/ComparisonHoldsPinLaw", "has", "(Ljava/lang/String;C)Z"⟩ : MethodName)) hown (mvT hZ (hw _ (List.mem_of_getElem? (i := 15) rfl))) (mvT hZ (hw _ (List.mem_of_getElem? (i := 16) rfl))) (mvT hZ (hw _ (List.mem_of_getElem? (i := 3) rfl))) (mvT hZ (hw _ (List.mem_of_getElem? (i := 17) rfl))) (by decide) (backOf (W := 0) (rm3LESS61 l Z a0 hw [] s1 w0 f0 v1 k1 (.int 0) h0 n0 Z0 P0 P1 g4 g7 g5 g6 hw0 hf) hZ (hw _ (List.mem_of_getElem? (i := 17) rfl)) (hw _ (List.mem_of_getElem? (i := 3) rfl)) (by decide) (by decide)) (g := (mkF m 38 #[.val (.int p1), .val (.int p2), .val (.ref e1), .val (.ref s1), .unset] [(.int (61 : Int32)), (.ref s1)])) rfl (by rw [hml]; rfl) (argsL := [(.ref s1), (.int (61 : Int32))]) (rest := []) (lenOf pd_0_2 rfl) rfl (by show 2 * 0 + _ ≤ _; exact Nat.le_of_eq rfl) (hb hby at_38) (fun _ _ => ⟨rfl, e314, (by decide : 0 + 0 ≤ _), (by decide : 0 + 0 ≤ _)⟩)
        dsimp only [Pt.U, Pt.locs, Pt.cells, Pt.slots] at X319 l319 y319 z319 st319 hQ319
        subst l319 y319 z319
        obtain ⟨rfl, N319q, e319⟩ := hQ319
        have N319 := Fr.app N314 N319q
        refine go st319 ?_
        show Go _ p e below s _ _ _ (T319.setTop (mkF m 41 #[.val (.int p1), .val (.int p2), .val (.ref e1), .val (.ref s1), .unset] [(.int (0 : Int32))]))
        refine go (fun _ => XS.istore X319.here hx rfl (hb hby at_41) rfl (l' := #[.val (.int p1), .val (.int p2), .val (.ref e1), .val (.ref s1), .val (.int (0 : Int32))]) rfl) ?_
        show Go _ p e below s _ _ _ (T319.setTop (mkF m 43 #[.val (.int p1), .val (.int p2), .val (.ref e1), .val (.ref s1), .val (.int (0 : Int32))] []))
        refine go (fun _ => XS.goto X319.here hx rfl (pc0 := 43) (pc' := 54) rfl (hb hby at_43) (by decide) (by decide)) ?_
        show Go _ p e below s _ _ _ (T319.setTop (mkF m 54 #[.val (.int p1), .val (.int p2), .val (.ref e1), .val (.ref s1), .val (.int (0 : Int32))] []))
        refine go (fun _ => XS.aloadN X319.here hx rfl (hb hby at_54) rfl rfl) ?_
        show Go _ p e below s _ _ _ (T319.setTop (mkF m 55 #[.val (.int p1), .val (.int p2), .val (.ref e1), .val (.ref s1), .val (.int (0 : Int32))] [(.ref e1)]))
        refine go (fun _ => XS.iloadN X319.here hx rfl (hb hby at_55) rfl) ?_
        show Go _ p e below s _ _ _ (T319.setTop (mkF m 56 #[.val (.int p1), .val (.int p2), .val (.ref e1), .val (.ref s1), .val (.int (0 : Int32))] [(.int p2), (.ref e1)]))
        obtain ⟨cq320, kq320, q320a, q320b, q320c⟩ := isOf hZ e319 g2
        obtain ⟨_, _, ⟨T320, L320, k320, n320⟩, -, X320, ⟨Lc320, hQ320, l320, y320, z320⟩, st320⟩ := X319.virtualBack hx (y := (⟨"com/example/reticule/reticule/engine/Comparison", "holds", "(I)Z"⟩ : MethodName)) (z := (⟨"com/example/reticule/reticule/engine/Comparison", "holds", "(I)Z"⟩ : MethodName)) hown (mvT hZ (hw _ (List.mem_of_getElem? (i := 56) rfl))) (mvT hZ (hw _ (List.mem_of_getElem? (i := 57) rfl))) (notFace_of_selects (args := #[]) (mvT hZ (hw _ (List.mem_of_getElem? (i := 59) rfl)))) (mvT hZ (hw _ (List.mem_of_getElem? (i := 59) rfl))) (mvT hZ (hw _ (List.mem_of_getElem? (i := 58) rfl))) (by decide) (backOf (W := 0) (rm11LESS l Z a0 hw [] e1 p2 h0 n0 Z0 g2 g8) hZ (hw _ (List.mem_of_getElem? (i := 60) rfl)) (hw _ (List.mem_of_getElem? (i := 6) rfl)) (by decide) (by decide)) q320a q320c (g := (mkF m 56 #[.val (.int p1), .val (.int p2), .val (.ref e1), .val (.ref s1), .val (.int (0 : Int32))] [(.int p2), (.ref e1)])) rfl (by rw [hml]; rfl) (Steps.refl _) (argsL := [(.int p2)]) (rest := []) (lenOf pd_0_3 rfl) rfl (by show 2 * 0 + _ ≤ _; exact Nat.le_of_eq rfl) (hb hby at_56) (fun _ _ => ⟨rfl, e319, (by decide : 0 + 0 ≤ _), (by decide : 0 + 0 ≤ _)⟩)
        dsimp only [Pt.U, Pt.locs, Pt.cells, Pt.slots] at X320 l320 y320 z320 st320 hQ320
        subst l320 y320 z320
        obtain ⟨rfl, N320q, e320⟩ := hQ320
        have N320 := Fr.app N319 N320q
        refine goT st320 ?_
        show Go _ p e below s _ _ _ (T320.setTop (mkF m 59 #[.val (.int p1), .val (.int p2), .val (.ref e1), .val (.ref s1), .val (.int (0 : Int32))] [(.int (own_c2 p2))]))
        refine go (fun _ => XS.iload X320.here hx rfl (hb hby at_59) rfl) ?_
        show Go _ p e below s _ _ _ (T320.setTop (mkF m 61 #[.val (.int p1), .val (.int p2), .val (.ref e1), .val (.ref s1), .val (.int (0 : Int32))] [(.int (0 : Int32)), (.int (own_c2 p2))]))
        refine go (fun _ => XS.icmpNo X320.here hx rfl (hb hby at_61) rfl (teq (by unfold own_c2; rw [if_neg hc17_315])).2) ?_
        show Go _ p e below s _ _ _ (T320.setTop (mkF m 64 #[.val (.int p1), .val (.int p2), .val (.ref e1), .val (.ref s1), .val (.int (0 : Int32))] []))
        refine go (fun _ => XS.iconst X320.here hx rfl (hb hby at_64)) ?_
        show Go _ p e below s _ _ _ (T320.setTop (mkF m 65 #[.val (.int p1), .val (.int p2), .val (.ref e1), .val (.ref s1), .val (.int (0 : Int32))] [(.int (1 : Int32))]))
        refine go (fun _ => XS.goto X320.here hx rfl (pc0 := 65) (pc' := 69) rfl (hb hby at_65) (by decide) (by decide)) ?_
        show Go _ p e below s _ _ _ (T320.setTop (mkF m 69 #[.val (.int p1), .val (.int p2), .val (.ref e1), .val (.ref s1), .val (.int (0 : Int32))] [(.int (1 : Int32))]))
        refine goRet X320 hx Bd.notSynchronized Bd.returns rfl (Or.inl ⟨rfl, Or.inr (Or.inl rfl), _, rfl⟩) (hb hby at_69) (by decide) (by decide) (by rw [e320]; refine ⟨rfl, N320⟩)
      · refine go (fun _ => XS.ifYes X314.here hx rfl (pc0 := 32) (pc' := 46) rfl (hb hby at_32) rfl ((if0 _ _).trans (feq hc32_318).2) (by decide) (by decide)) ?_
        show Go _ p e below s _ _ _ (T314.setTop (mkF m 46 #[.val (.int p1), .val (.int p2), .val (.ref e1), .val (.ref s1), .unset] []))
        refine go (fun _ => XS.aloadN X314.here hx rfl (hb hby at_46) rfl rfl) ?_
        show Go _ p e below s _ _ _ (T314.setTop (mkF m 47 #[.val (.int p1), .val (.int p2), .val (.ref e1), .val (.ref s1), .unset] [(.ref s1)]))
        refine go (fun _ => XS.bipush X314.here hx rfl (hb hby at_47)) ?_
        show Go _ p e below s _ _ _ (T314.setTop (mkF m 49 #[.val (.int p1), .val (.int p2), .val (.ref e1), .val (.ref s1), .unset] [(.int (62 : Int32)), (.ref s1)]))
        obtain ⟨_, _, ⟨T321, L321, k321, n321⟩, -, X321, ⟨Lc321, hQ321, l321, y321, z321⟩, st321⟩ := Jvm.LawKit.callS X314 hx (y := (⟨"com/example/reticule/reticule/engine/ComparisonHoldsPinLaw", "has", "(Ljava/lang/String;C)Z"⟩ : MethodName)) hown (mvT hZ (hw _ (List.mem_of_getElem? (i := 15) rfl))) (mvT hZ (hw _ (List.mem_of_getElem? (i := 16) rfl))) (mvT hZ (hw _ (List.mem_of_getElem? (i := 3) rfl))) (mvT hZ (hw _ (List.mem_of_getElem? (i := 17) rfl))) (by decide) (backOf (W := 0) (rm3LESS62 l Z a0 hw [] s1 w0 f0 v1 k1 (.int 0) h0 n0 Z0 P0 P1 g4 g7 g5 g6 hw0 hf) hZ (hw _ (List.mem_of_getElem? (i := 17) rfl)) (hw _ (List.mem_of_getElem? (i := 3) rfl)) (by decide) (by decide)) (g := (mkF m 49 #[.val (.int p1), .val (.int p2), .val (.ref e1), .val (.ref s1), .unset] [(.int (62 : Int32)), (.ref s1)])) rfl (by rw [hml]; rfl) (argsL := [(.ref s1), (.int (62 : Int32))]) (rest := []) (lenOf pd_0_2 rfl) rfl (by show 2 * 0 + _ ≤ _; exact Nat.le_of_eq rfl) (hb hby at_49) (fun _ _ => ⟨rfl, e314, (by decide : 0 + 0 ≤ _), (by decide : 0 + 0 ≤ _)⟩)
        dsimp only [Pt.U, Pt.locs, Pt.cells, Pt.slots] at X321 l321 y321 z321 st321 hQ321
        subst l321 y321 z321
        obtain ⟨rfl, N321q, e321⟩ := hQ321
        have N321 := Fr.app N314 N321q
        refine go st321 ?_
        show Go _ p e below s _ _ _ (T321.setTop (mkF m 52 #[.val (.int p1), .val (.int p2), .val (.ref e1), .val (.ref s1), .unset] [(.int (0 : Int32))]))
        refine go (fun _ => XS.istore X321.here hx rfl (hb hby at_52) rfl (l' := #[.val (.int p1), .val (.int p2), .val (.ref e1), .val (.ref s1), .val (.int (0 : Int32))]) rfl) ?_
        show Go _ p e below s _ _ _ (T321.setTop (mkF m 54 #[.val (.int p1), .val (.int p2), .val (.ref e1), .val (.ref s1), .val (.int (0 : Int32))] []))
        refine go (fun _ => XS.aloadN X321.here hx rfl (hb hby at_54) rfl rfl) ?_
        show Go _ p e below s _ _ _ (T321.setTop (mkF m 55 #[.val (.int p1), .val (.int p2), .val (.ref e1), .val (.ref s1), .val (.int (0 : Int32))] [(.ref e1)]))
        refine go (fun _ => XS.iloadN X321.here hx rfl (hb hby at_55) rfl) ?_
        show Go _ p e below s _ _ _ (T321.setTop (mkF m 56 #[.val (.int p1), .val (.int p2), .val (.ref e1), .val (.ref s1), .val (.int (0 : Int32))] [(.int p2), (.ref e1)]))
        obtain ⟨cq322, kq322, q322a, q322b, q322c⟩ := isOf hZ e321 g2
        obtain ⟨_, _, ⟨T322, L322, k322, n322⟩, -, X322, ⟨Lc322, hQ322, l322, y322, z322⟩, st322⟩ := X321.virtualBack hx (y := (⟨"com/example/reticule/reticule/engine/Comparison", "holds", "(I)Z"⟩ : MethodName)) (z := (⟨"com/example/reticule/reticule/engine/Comparison", "holds", "(I)Z"⟩ : MethodName)) hown (mvT hZ (hw _ (List.mem_of_getElem? (i := 56) rfl))) (mvT hZ (hw _ (List.mem_of_getElem? (i := 57) rfl))) (notFace_of_selects (args := #[]) (mvT hZ (hw _ (List.mem_of_getElem? (i := 59) rfl)))) (mvT hZ (hw _ (List.mem_of_getElem? (i := 59) rfl))) (mvT hZ (hw _ (List.mem_of_getElem? (i := 58) rfl))) (by decide) (backOf (W := 0) (rm11LESS l Z a0 hw [] e1 p2 h0 n0 Z0 g2 g8) hZ (hw _ (List.mem_of_getElem? (i := 60) rfl)) (hw _ (List.mem_of_getElem? (i := 6) rfl)) (by decide) (by decide)) q322a q322c (g := (mkF m 56 #[.val (.int p1), .val (.int p2), .val (.ref e1), .val (.ref s1), .val (.int (0 : Int32))] [(.int p2), (.ref e1)])) rfl (by rw [hml]; rfl) (Steps.refl _) (argsL := [(.int p2)]) (rest := []) (lenOf pd_0_3 rfl) rfl (by show 2 * 0 + _ ≤ _; exact Nat.le_of_eq rfl) (hb hby at_56) (fun _ _ => ⟨rfl, e321, (by decide : 0 + 0 ≤ _), (by decide : 0 + 0 ≤ _)⟩)
        dsimp only [Pt.U, Pt.locs, Pt.cells, Pt.slots] at X322 l322 y322 z322 st322 hQ322
        subst l322 y322 z322
        obtain ⟨rfl, N322q, e322⟩ := hQ322
        have N322 := Fr.app N321 N322q
        refine goT st322 ?_
        show Go _ p e below s _ _ _ (T322.setTop (mkF m 59 #[.val (.int p1), .val (.int p2), .val (.ref e1), .val (.ref s1), .val (.int (0 : Int32))] [(.int (own_c2 p2))]))
        refine go (fun _ => XS.iload X322.here hx rfl (hb hby at_59) rfl) ?_
        show Go _ p e below s _ _ _ (T322.setTop (mkF m 61 #[.val (.int p1), .val (.int p2), .val (.ref e1), .val (.ref s1), .val (.int (0 : Int32))] [(.int (0 : Int32)), (.int (own_c2 p2))]))
        refine go (fun _ => XS.icmpNo X322.here hx rfl (hb hby at_61) rfl (teq (by unfold own_c2; rw [if_neg hc17_315])).2) ?_
        show Go _ p e below s _ _ _ (T322.setTop (mkF m 64 #[.val (.int p1), .val (.int p2), .val (.ref e1), .val (.ref s1), .val (.int (0 : Int32))] []))
        refine go (fun _ => XS.iconst X322.here hx rfl (hb hby at_64)) ?_
        show Go _ p e below s _ _ _ (T322.setTop (mkF m 65 #[.val (.int p1), .val (.int p2), .val (.ref e1), .val (.ref s1), .val (.int (0 : Int32))] [(.int (1 : Int32))]))
        refine go (fun _ => XS.goto X322.here hx rfl (pc0 := 65) (pc' := 69) rfl (hb hby at_65) (by decide) (by decide)) ?_
        show Go _ p e below s _ _ _ (T322.setTop (mkF m 69 #[.val (.int p1), .val (.int p2), .val (.ref e1), .val (.ref s1), .val (.int (0 : Int32))] [(.int (1 : Int32))]))
        refine goRet X322 hx Bd.notSynchronized Bd.returns rfl (Or.inl ⟨rfl, Or.inr (Or.inl rfl), _, rfl⟩) (hb hby at_69) (by decide) (by decide) (by rw [e322]; refine ⟨rfl, N322⟩)
  · obtain ⟨e1, s1, v1, k1, g1, g2, g3, g4, g5, g6, g7, g8⟩ := K3
    show Go _ p e below s _ _ _ (s₁.setTop (mkF m 7 #[.val (.int p1), .val (.int p2), .unset, .unset, .unset] [(.int (3 : Int32))]))
    obtain ⟨_, _, ⟨T323, L323, k323, n323⟩, -, X323, ⟨Lc323, hQ323, l323, y323, z323⟩, st323⟩ := Jvm.LawKit.callS X0 hx (y := (⟨"com/example/reticule/reticule/engine/ComparisonHoldsPinLaw", "pick", "(I)Lcom/example/reticule/reticule/engine/Comparison;"⟩ : MethodName)) hown (mvT hZ (hw _ (List.mem_of_getElem? (i := 1) rfl))) (mvT hZ (hw _ (List.mem_of_getElem? (i := 2) rfl))) (mvT hZ (hw _ (List.mem_of_getElem? (i := 3) rfl))) (mvT hZ (hw _ (List.mem_of_getElem? (i := 4) rfl))) (by decide) (backOf (W := 0) (rm1AT_MOST l Z a0 hw [] e1 h0 n0 Z0 g1) hZ (hw _ (List.mem_of_getElem? (i := 4) rfl)) (hw _ (List.mem_of_getElem? (i := 3) rfl)) (by decide) (by decide)) (g := (mkF m 7 #[.val (.int p1), .val (.int p2), .unset, .unset, .unset] [(.int (3 : Int32))])) rfl (by rw [hml]; rfl) (argsL := [(.int (3 : Int32))]) (rest := []) (lenOf pd_0_0 rfl) rfl (by show 2 * 0 + _ ≤ _; exact Nat.le_of_eq rfl) (hb hby at_7) (fun _ _ => ⟨rfl, e0, (by decide : 0 + 0 ≤ _), (by decide : 0 + 0 ≤ _)⟩)
    dsimp only [Pt.U, Pt.locs, Pt.cells, Pt.slots] at X323 l323 y323 z323 st323 hQ323
    subst l323 y323 z323
    obtain ⟨rfl, N323q, e323⟩ := hQ323
    have N323 := Fr.app N0 N323q
    refine go st323 ?_
    show Go _ p e below s _ _ _ (T323.setTop (mkF m 10 #[.val (.int p1), .val (.int p2), .unset, .unset, .unset] [(.ref e1)]))
    refine go (fun _ => XS.astoreN X323.here hx rfl (hb hby at_10) rfl rfl (l' := #[.val (.int p1), .val (.int p2), .val (.ref e1), .unset, .unset]) rfl) ?_
    show Go _ p e below s _ _ _ (T323.setTop (mkF m 11 #[.val (.int p1), .val (.int p2), .val (.ref e1), .unset, .unset] []))
    refine go (fun _ => XS.aloadN X323.here hx rfl (hb hby at_11) rfl rfl) ?_
    show Go _ p e below s _ _ _ (T323.setTop (mkF m 12 #[.val (.int p1), .val (.int p2), .val (.ref e1), .unset, .unset] [(.ref e1)]))
    obtain ⟨cq324, kq324, q324a, q324b, q324c⟩ := isOf hZ e323 g2
    obtain ⟨_, _, ⟨T324, L324, k324, n324⟩, -, X324, ⟨Lc324, hQ324, l324, y324, z324⟩, st324⟩ := X323.virtualBack hx (y := (⟨"com/example/reticule/reticule/engine/Comparison", "functionName", "()Ljava/lang/String;"⟩ : MethodName)) (z := (⟨"com/example/reticule/reticule/engine/Comparison", "functionName", "()Ljava/lang/String;"⟩ : MethodName)) hown (mvT hZ (hw _ (List.mem_of_getElem? (i := 8) rfl))) (mvT hZ (hw _ (List.mem_of_getElem? (i := 9) rfl))) (notFace_of_selects (args := #[]) (mvT hZ (hw _ (List.mem_of_getElem? (i := 11) rfl)))) (mvT hZ (hw _ (List.mem_of_getElem? (i := 11) rfl))) (mvT hZ (hw _ (List.mem_of_getElem? (i := 10) rfl))) (by decide) (backOf (W := 0) (rm2 l Z a0 hw [] e1 s1 h0 n0 Z0 g3) hZ (hw _ (List.mem_of_getElem? (i := 12) rfl)) (hw _ (List.mem_of_getElem? (i := 6) rfl)) (by decide) (by decide)) q324a q324c (g := (mkF m 12 #[.val (.int p1), .val (.int p2), .val (.ref e1), .unset, .unset] [(.ref e1)])) rfl (by rw [hml]; rfl) (Steps.refl _) (argsL := []) (rest := []) (lenOf pd_0_1 rfl) rfl (by show 2 * 0 + _ ≤ _; exact Nat.le_of_eq rfl) (hb hby at_12) (fun _ _ => ⟨rfl, e323, (by decide : 0 + 0 ≤ _), (by decide : 0 + 0 ≤ _)⟩)
    dsimp only [Pt.U, Pt.locs, Pt.cells, Pt.slots] at X324 l324 y324 z324 st324 hQ324
    subst l324 y324 z324
    obtain ⟨rfl, N324q, e324⟩ := hQ324
    have N324 := Fr.app N323 N324q
    refine goT st324 ?_
    show Go _ p e below s _ _ _ (T324.setTop (mkF m 15 #[.val (.int p1), .val (.int p2), .val (.ref e1), .unset, .unset] [(.ref s1)]))
    refine go (fun _ => XS.astoreN X324.here hx rfl (hb hby at_15) rfl rfl (l' := #[.val (.int p1), .val (.int p2), .val (.ref e1), .val (.ref s1), .unset]) rfl) ?_
    show Go _ p e below s _ _ _ (T324.setTop (mkF m 16 #[.val (.int p1), .val (.int p2), .val (.ref e1), .val (.ref s1), .unset] []))
    refine go (fun _ => XS.iloadN X324.here hx rfl (hb hby at_16) rfl) ?_
    show Go _ p e below s _ _ _ (T324.setTop (mkF m 17 #[.val (.int p1), .val (.int p2), .val (.ref e1), .val (.ref s1), .unset] [(.int p2)]))
    by_cases hc17_325 : p2 < (0 : Int32)
    · refine go (fun _ => XS.ifNo X324.here hx rfl (hb hby at_17) rfl ((if0 _ _).trans (tlt hc17_325).2.1)) ?_
      show Go _ p e below s _ _ _ (T324.setTop (mkF m 20 #[.val (.int p1), .val (.int p2), .val (.ref e1), .val (.ref s1), .unset] []))
      refine go (fun _ => XS.aloadN X324.here hx rfl (hb hby at_20) rfl rfl) ?_
      show Go _ p e below s _ _ _ (T324.setTop (mkF m 21 #[.val (.int p1), .val (.int p2), .val (.ref e1), .val (.ref s1), .unset] [(.ref s1)]))
      refine go (fun _ => XS.bipush X324.here hx rfl (hb hby at_21)) ?_
      show Go _ p e below s _ _ _ (T324.setTop (mkF m 23 #[.val (.int p1), .val (.int p2), .val (.ref e1), .val (.ref s1), .unset] [(.int (60 : Int32)), (.ref s1)]))
      obtain ⟨_, _, ⟨T326, L326, k326, n326⟩, -, X326, ⟨Lc326, hQ326, l326, y326, z326⟩, st326⟩ := Jvm.LawKit.callS X324 hx (y := (⟨"com/example/reticule/reticule/engine/ComparisonHoldsPinLaw", "has", "(Ljava/lang/String;C)Z"⟩ : MethodName)) hown (mvT hZ (hw _ (List.mem_of_getElem? (i := 15) rfl))) (mvT hZ (hw _ (List.mem_of_getElem? (i := 16) rfl))) (mvT hZ (hw _ (List.mem_of_getElem? (i := 3) rfl))) (mvT hZ (hw _ (List.mem_of_getElem? (i := 17) rfl))) (by decide) (backOf (W := 0) (rm3AT_MOST60 l Z a0 hw [] s1 w0 f0 v1 k1 (.int 0) h0 n0 Z0 P0 P1 g4 g7 g5 g6 hw0 hf) hZ (hw _ (List.mem_of_getElem? (i := 17) rfl)) (hw _ (List.mem_of_getElem? (i := 3) rfl)) (by decide) (by decide)) (g := (mkF m 23 #[.val (.int p1), .val (.int p2), .val (.ref e1), .val (.ref s1), .unset] [(.int (60 : Int32)), (.ref s1)])) rfl (by rw [hml]; rfl) (argsL := [(.ref s1), (.int (60 : Int32))]) (rest := []) (lenOf pd_0_2 rfl) rfl (by show 2 * 0 + _ ≤ _; exact Nat.le_of_eq rfl) (hb hby at_23) (fun _ _ => ⟨rfl, e324, (by decide : 0 + 0 ≤ _), (by decide : 0 + 0 ≤ _)⟩)
      dsimp only [Pt.U, Pt.locs, Pt.cells, Pt.slots] at X326 l326 y326 z326 st326 hQ326
      subst l326 y326 z326
      obtain ⟨rfl, N326q, e326⟩ := hQ326
      have N326 := Fr.app N324 N326q
      refine go st326 ?_
      show Go _ p e below s _ _ _ (T326.setTop (mkF m 26 #[.val (.int p1), .val (.int p2), .val (.ref e1), .val (.ref s1), .unset] [(.int (1 : Int32))]))
      refine go (fun _ => XS.istore X326.here hx rfl (hb hby at_26) rfl (l' := #[.val (.int p1), .val (.int p2), .val (.ref e1), .val (.ref s1), .val (.int (1 : Int32))]) rfl) ?_
      show Go _ p e below s _ _ _ (T326.setTop (mkF m 28 #[.val (.int p1), .val (.int p2), .val (.ref e1), .val (.ref s1), .val (.int (1 : Int32))] []))
      refine go (fun _ => XS.goto X326.here hx rfl (pc0 := 28) (pc' := 54) rfl (hb hby at_28) (by decide) (by decide)) ?_
      show Go _ p e below s _ _ _ (T326.setTop (mkF m 54 #[.val (.int p1), .val (.int p2), .val (.ref e1), .val (.ref s1), .val (.int (1 : Int32))] []))
      refine go (fun _ => XS.aloadN X326.here hx rfl (hb hby at_54) rfl rfl) ?_
      show Go _ p e below s _ _ _ (T326.setTop (mkF m 55 #[.val (.int p1), .val (.int p2), .val (.ref e1), .val (.ref s1), .val (.int (1 : Int32))] [(.ref e1)]))
      refine go (fun _ => XS.iloadN X326.here hx rfl (hb hby at_55) rfl) ?_
      show Go _ p e below s _ _ _ (T326.setTop (mkF m 56 #[.val (.int p1), .val (.int p2), .val (.ref e1), .val (.ref s1), .val (.int (1 : Int32))] [(.int p2), (.ref e1)]))
      obtain ⟨cq327, kq327, q327a, q327b, q327c⟩ := isOf hZ e326 g2
      obtain ⟨_, _, ⟨T327, L327, k327, n327⟩, -, X327, ⟨Lc327, hQ327, l327, y327, z327⟩, st327⟩ := X326.virtualBack hx (y := (⟨"com/example/reticule/reticule/engine/Comparison", "holds", "(I)Z"⟩ : MethodName)) (z := (⟨"com/example/reticule/reticule/engine/Comparison", "holds", "(I)Z"⟩ : MethodName)) hown (mvT hZ (hw _ (List.mem_of_getElem? (i := 56) rfl))) (mvT hZ (hw _ (List.mem_of_getElem? (i := 57) rfl))) (notFace_of_selects (args := #[]) (mvT hZ (hw _ (List.mem_of_getElem? (i := 59) rfl)))) (mvT hZ (hw _ (List.mem_of_getElem? (i := 59) rfl))) (mvT hZ (hw _ (List.mem_of_getElem? (i := 58) rfl))) (by decide) (backOf (W := 0) (rm11AT_MOST l Z a0 hw [] e1 p2 h0 n0 Z0 g2 g8) hZ (hw _ (List.mem_of_getElem? (i := 60) rfl)) (hw _ (List.mem_of_getElem? (i := 6) rfl)) (by decide) (by decide)) q327a q327c (g := (mkF m 56 #[.val (.int p1), .val (.int p2), .val (.ref e1), .val (.ref s1), .val (.int (1 : Int32))] [(.int p2), (.ref e1)])) rfl (by rw [hml]; rfl) (Steps.refl _) (argsL := [(.int p2)]) (rest := []) (lenOf pd_0_3 rfl) rfl (by show 2 * 0 + _ ≤ _; exact Nat.le_of_eq rfl) (hb hby at_56) (fun _ _ => ⟨rfl, e326, (by decide : 0 + 0 ≤ _), (by decide : 0 + 0 ≤ _)⟩)
      dsimp only [Pt.U, Pt.locs, Pt.cells, Pt.slots] at X327 l327 y327 z327 st327 hQ327
      subst l327 y327 z327
      obtain ⟨rfl, N327q, e327⟩ := hQ327
      have N327 := Fr.app N326 N327q
      refine goT st327 ?_
      show Go _ p e below s _ _ _ (T327.setTop (mkF m 59 #[.val (.int p1), .val (.int p2), .val (.ref e1), .val (.ref s1), .val (.int (1 : Int32))] [(.int (own_c3 p2))]))
      refine go (fun _ => XS.iload X327.here hx rfl (hb hby at_59) rfl) ?_
      show Go _ p e below s _ _ _ (T327.setTop (mkF m 61 #[.val (.int p1), .val (.int p2), .val (.ref e1), .val (.ref s1), .val (.int (1 : Int32))] [(.int (1 : Int32)), (.int (own_c3 p2))]))
      refine go (fun _ => XS.icmpNo X327.here hx rfl (hb hby at_61) rfl (teq (by unfold own_c3; rw [if_neg (own_neg hc17_325).2])).2) ?_
      show Go _ p e below s _ _ _ (T327.setTop (mkF m 64 #[.val (.int p1), .val (.int p2), .val (.ref e1), .val (.ref s1), .val (.int (1 : Int32))] []))
      refine go (fun _ => XS.iconst X327.here hx rfl (hb hby at_64)) ?_
      show Go _ p e below s _ _ _ (T327.setTop (mkF m 65 #[.val (.int p1), .val (.int p2), .val (.ref e1), .val (.ref s1), .val (.int (1 : Int32))] [(.int (1 : Int32))]))
      refine go (fun _ => XS.goto X327.here hx rfl (pc0 := 65) (pc' := 69) rfl (hb hby at_65) (by decide) (by decide)) ?_
      show Go _ p e below s _ _ _ (T327.setTop (mkF m 69 #[.val (.int p1), .val (.int p2), .val (.ref e1), .val (.ref s1), .val (.int (1 : Int32))] [(.int (1 : Int32))]))
      refine goRet X327 hx Bd.notSynchronized Bd.returns rfl (Or.inl ⟨rfl, Or.inr (Or.inl rfl), _, rfl⟩) (hb hby at_69) (by decide) (by decide) (by rw [e327]; refine ⟨rfl, N327⟩)
    · refine go (fun _ => XS.ifYes X324.here hx rfl (pc0 := 17) (pc' := 31) rfl (hb hby at_17) rfl ((if0 _ _).trans (flt hc17_325).2.1) (by decide) (by decide)) ?_
      show Go _ p e below s _ _ _ (T324.setTop (mkF m 31 #[.val (.int p1), .val (.int p2), .val (.ref e1), .val (.ref s1), .unset] []))
      refine go (fun _ => XS.iloadN X324.here hx rfl (hb hby at_31) rfl) ?_
      show Go _ p e below s _ _ _ (T324.setTop (mkF m 32 #[.val (.int p1), .val (.int p2), .val (.ref e1), .val (.ref s1), .unset] [(.int p2)]))
      by_cases hc32_328 : p2 = (0 : Int32)
      · refine go (fun _ => XS.ifNo X324.here hx rfl (hb hby at_32) rfl ((if0 _ _).trans (teq hc32_328).2)) ?_
        show Go _ p e below s _ _ _ (T324.setTop (mkF m 35 #[.val (.int p1), .val (.int p2), .val (.ref e1), .val (.ref s1), .unset] []))
        refine go (fun _ => XS.aloadN X324.here hx rfl (hb hby at_35) rfl rfl) ?_
        show Go _ p e below s _ _ _ (T324.setTop (mkF m 36 #[.val (.int p1), .val (.int p2), .val (.ref e1), .val (.ref s1), .unset] [(.ref s1)]))
        refine go (fun _ => XS.bipush X324.here hx rfl (hb hby at_36)) ?_
        show Go _ p e below s _ _ _ (T324.setTop (mkF m 38 #[.val (.int p1), .val (.int p2), .val (.ref e1), .val (.ref s1), .unset] [(.int (61 : Int32)), (.ref s1)]))
        obtain ⟨_, _, ⟨T329, L329, k329, n329⟩, -, X329, ⟨Lc329, hQ329, l329, y329, z329⟩, st329⟩ := Jvm.LawKit.callS X324 hx (y := (⟨"com/example/reticule/reticule/engine/ComparisonHoldsPinLaw", "has", "(Ljava/lang/String;C)Z"⟩ : MethodName)) hown (mvT hZ (hw _ (List.mem_of_getElem? (i := 15) rfl))) (mvT hZ (hw _ (List.mem_of_getElem? (i := 16) rfl))) (mvT hZ (hw _ (List.mem_of_getElem? (i := 3) rfl))) (mvT hZ (hw _ (List.mem_of_getElem? (i := 17) rfl))) (by decide) (backOf (W := 0) (rm3AT_MOST61 l Z a0 hw [] s1 w0 f0 v1 k1 (.int 0) h0 n0 Z0 P0 P1 g4 g7 g5 g6 hw0 hf) hZ (hw _ (List.mem_of_getElem? (i := 17) rfl)) (hw _ (List.mem_of_getElem? (i := 3) rfl)) (by decide) (by decide)) (g := (mkF m 38 #[.val (.int p1), .val (.int p2), .val (.ref e1), .val (.ref s1), .unset] [(.int (61 : Int32)), (.ref s1)])) rfl (by rw [hml]; rfl) (argsL := [(.ref s1), (.int (61 : Int32))]) (rest := []) (lenOf pd_0_2 rfl) rfl (by show 2 * 0 + _ ≤ _; exact Nat.le_of_eq rfl) (hb hby at_38) (fun _ _ => ⟨rfl, e324, (by decide : 0 + 0 ≤ _), (by decide : 0 + 0 ≤ _)⟩)
        dsimp only [Pt.U, Pt.locs, Pt.cells, Pt.slots] at X329 l329 y329 z329 st329 hQ329
        subst l329 y329 z329
        obtain ⟨rfl, N329q, e329⟩ := hQ329
        have N329 := Fr.app N324 N329q
        refine go st329 ?_
        show Go _ p e below s _ _ _ (T329.setTop (mkF m 41 #[.val (.int p1), .val (.int p2), .val (.ref e1), .val (.ref s1), .unset] [(.int (1 : Int32))]))
        refine go (fun _ => XS.istore X329.here hx rfl (hb hby at_41) rfl (l' := #[.val (.int p1), .val (.int p2), .val (.ref e1), .val (.ref s1), .val (.int (1 : Int32))]) rfl) ?_
        show Go _ p e below s _ _ _ (T329.setTop (mkF m 43 #[.val (.int p1), .val (.int p2), .val (.ref e1), .val (.ref s1), .val (.int (1 : Int32))] []))
        refine go (fun _ => XS.goto X329.here hx rfl (pc0 := 43) (pc' := 54) rfl (hb hby at_43) (by decide) (by decide)) ?_
        show Go _ p e below s _ _ _ (T329.setTop (mkF m 54 #[.val (.int p1), .val (.int p2), .val (.ref e1), .val (.ref s1), .val (.int (1 : Int32))] []))
        refine go (fun _ => XS.aloadN X329.here hx rfl (hb hby at_54) rfl rfl) ?_
        show Go _ p e below s _ _ _ (T329.setTop (mkF m 55 #[.val (.int p1), .val (.int p2), .val (.ref e1), .val (.ref s1), .val (.int (1 : Int32))] [(.ref e1)]))
        refine go (fun _ => XS.iloadN X329.here hx rfl (hb hby at_55) rfl) ?_
        show Go _ p e below s _ _ _ (T329.setTop (mkF m 56 #[.val (.int p1), .val (.int p2), .val (.ref e1), .val (.ref s1), .val (.int (1 : Int32))] [(.int p2), (.ref e1)]))
        obtain ⟨cq330, kq330, q330a, q330b, q330c⟩ := isOf hZ e329 g2
        obtain ⟨_, _, ⟨T330, L330, k330, n330⟩, -, X330, ⟨Lc330, hQ330, l330, y330, z330⟩, st330⟩ := X329.virtualBack hx (y := (⟨"com/example/reticule/reticule/engine/Comparison", "holds", "(I)Z"⟩ : MethodName)) (z := (⟨"com/example/reticule/reticule/engine/Comparison", "holds", "(I)Z"⟩ : MethodName)) hown (mvT hZ (hw _ (List.mem_of_getElem? (i := 56) rfl))) (mvT hZ (hw _ (List.mem_of_getElem? (i := 57) rfl))) (notFace_of_selects (args := #[]) (mvT hZ (hw _ (List.mem_of_getElem? (i := 59) rfl)))) (mvT hZ (hw _ (List.mem_of_getElem? (i := 59) rfl))) (mvT hZ (hw _ (List.mem_of_getElem? (i := 58) rfl))) (by decide) (backOf (W := 0) (rm11AT_MOST l Z a0 hw [] e1 p2 h0 n0 Z0 g2 g8) hZ (hw _ (List.mem_of_getElem? (i := 60) rfl)) (hw _ (List.mem_of_getElem? (i := 6) rfl)) (by decide) (by decide)) q330a q330c (g := (mkF m 56 #[.val (.int p1), .val (.int p2), .val (.ref e1), .val (.ref s1), .val (.int (1 : Int32))] [(.int p2), (.ref e1)])) rfl (by rw [hml]; rfl) (Steps.refl _) (argsL := [(.int p2)]) (rest := []) (lenOf pd_0_3 rfl) rfl (by show 2 * 0 + _ ≤ _; exact Nat.le_of_eq rfl) (hb hby at_56) (fun _ _ => ⟨rfl, e329, (by decide : 0 + 0 ≤ _), (by decide : 0 + 0 ≤ _)⟩)
        dsimp only [Pt.U, Pt.locs, Pt.cells, Pt.slots] at X330 l330 y330 z330 st330 hQ330
        subst l330 y330 z330
        obtain ⟨rfl, N330q, e330⟩ := hQ330
        have N330 := Fr.app N329 N330q
        refine goT st330 ?_
        show Go _ p e below s _ _ _ (T330.setTop (mkF m 59 #[.val (.int p1), .val (.int p2), .val (.ref e1), .val (.ref s1), .val (.int (1 : Int32))] [(.int (own_c3 p2))]))
        refine go (fun _ => XS.iload X330.here hx rfl (hb hby at_59) rfl) ?_
        show Go _ p e below s _ _ _ (T330.setTop (mkF m 61 #[.val (.int p1), .val (.int p2), .val (.ref e1), .val (.ref s1), .val (.int (1 : Int32))] [(.int (1 : Int32)), (.int (own_c3 p2))]))
        refine go (fun _ => XS.icmpNo X330.here hx rfl (hb hby at_61) rfl (teq (by unfold own_c3; rw [if_neg (own_zer hc32_328).2])).2) ?_
        show Go _ p e below s _ _ _ (T330.setTop (mkF m 64 #[.val (.int p1), .val (.int p2), .val (.ref e1), .val (.ref s1), .val (.int (1 : Int32))] []))
        refine go (fun _ => XS.iconst X330.here hx rfl (hb hby at_64)) ?_
        show Go _ p e below s _ _ _ (T330.setTop (mkF m 65 #[.val (.int p1), .val (.int p2), .val (.ref e1), .val (.ref s1), .val (.int (1 : Int32))] [(.int (1 : Int32))]))
        refine go (fun _ => XS.goto X330.here hx rfl (pc0 := 65) (pc' := 69) rfl (hb hby at_65) (by decide) (by decide)) ?_
        show Go _ p e below s _ _ _ (T330.setTop (mkF m 69 #[.val (.int p1), .val (.int p2), .val (.ref e1), .val (.ref s1), .val (.int (1 : Int32))] [(.int (1 : Int32))]))
        refine goRet X330 hx Bd.notSynchronized Bd.returns rfl (Or.inl ⟨rfl, Or.inr (Or.inl rfl), _, rfl⟩) (hb hby at_69) (by decide) (by decide) (by rw [e330]; refine ⟨rfl, N330⟩)
      · refine go (fun _ => XS.ifYes X324.here hx rfl (pc0 := 32) (pc' := 46) rfl (hb hby at_32) rfl ((if0 _ _).trans (feq hc32_328).2) (by decide) (by decide)) ?_
        show Go _ p e below s _ _ _ (T324.setTop (mkF m 46 #[.val (.int p1), .val (.int p2), .val (.ref e1), .val (.ref s1), .unset] []))
        refine go (fun _ => XS.aloadN X324.here hx rfl (hb hby at_46) rfl rfl) ?_
        show Go _ p e below s _ _ _ (T324.setTop (mkF m 47 #[.val (.int p1), .val (.int p2), .val (.ref e1), .val (.ref s1), .unset] [(.ref s1)]))
        refine go (fun _ => XS.bipush X324.here hx rfl (hb hby at_47)) ?_
        show Go _ p e below s _ _ _ (T324.setTop (mkF m 49 #[.val (.int p1), .val (.int p2), .val (.ref e1), .val (.ref s1), .unset] [(.int (62 : Int32)), (.ref s1)]))
        obtain ⟨_, _, ⟨T331, L331, k331, n331⟩, -, X331, ⟨Lc331, hQ331, l331, y331, z331⟩, st331⟩ := Jvm.LawKit.callS X324 hx (y := (⟨"com/example/reticule/reticule/engine/ComparisonHoldsPinLaw", "has", "(Ljava/lang/String;C)Z"⟩ : MethodName)) hown (mvT hZ (hw _ (List.mem_of_getElem? (i := 15) rfl))) (mvT hZ (hw _ (List.mem_of_getElem? (i := 16) rfl))) (mvT hZ (hw _ (List.mem_of_getElem? (i := 3) rfl))) (mvT hZ (hw _ (List.mem_of_getElem? (i := 17) rfl))) (by decide) (backOf (W := 0) (rm3AT_MOST62 l Z a0 hw [] s1 w0 f0 v1 k1 (.int 0) h0 n0 Z0 P0 P1 g4 g7 g5 g6 hw0 hf) hZ (hw _ (List.mem_of_getElem? (i := 17) rfl)) (hw _ (List.mem_of_getElem? (i := 3) rfl)) (by decide) (by decide)) (g := (mkF m 49 #[.val (.int p1), .val (.int p2), .val (.ref e1), .val (.ref s1), .unset] [(.int (62 : Int32)), (.ref s1)])) rfl (by rw [hml]; rfl) (argsL := [(.ref s1), (.int (62 : Int32))]) (rest := []) (lenOf pd_0_2 rfl) rfl (by show 2 * 0 + _ ≤ _; exact Nat.le_of_eq rfl) (hb hby at_49) (fun _ _ => ⟨rfl, e324, (by decide : 0 + 0 ≤ _), (by decide : 0 + 0 ≤ _)⟩)
        dsimp only [Pt.U, Pt.locs, Pt.cells, Pt.slots] at X331 l331 y331 z331 st331 hQ331
        subst l331 y331 z331
        obtain ⟨rfl, N331q, e331⟩ := hQ331
        have N331 := Fr.app N324 N331q
        refine go st331 ?_
        show Go _ p e below s _ _ _ (T331.setTop (mkF m 52 #[.val (.int p1), .val (.int p2), .val (.ref e1), .val (.ref s1), .unset] [(.int (0 : Int32))]))
        refine go (fun _ => XS.istore X331.here hx rfl (hb hby at_52) rfl (l' := #[.val (.int p1), .val (.int p2), .val (.ref e1), .val (.ref s1), .val (.int (0 : Int32))]) rfl) ?_
        show Go _ p e below s _ _ _ (T331.setTop (mkF m 54 #[.val (.int p1), .val (.int p2), .val (.ref e1), .val (.ref s1), .val (.int (0 : Int32))] []))
        refine go (fun _ => XS.aloadN X331.here hx rfl (hb hby at_54) rfl rfl) ?_
        show Go _ p e below s _ _ _ (T331.setTop (mkF m 55 #[.val (.int p1), .val (.int p2), .val (.ref e1), .val (.ref s1), .val (.int (0 : Int32))] [(.ref e1)]))
        refine go (fun _ => XS.iloadN X331.here hx rfl (hb hby at_55) rfl) ?_
        show Go _ p e below s _ _ _ (T331.setTop (mkF m 56 #[.val (.int p1), .val (.int p2), .val (.ref e1), .val (.ref s1), .val (.int (0 : Int32))] [(.int p2), (.ref e1)]))
        obtain ⟨cq332, kq332, q332a, q332b, q332c⟩ := isOf hZ e331 g2
        obtain ⟨_, _, ⟨T332, L332, k332, n332⟩, -, X332, ⟨Lc332, hQ332, l332, y332, z332⟩, st332⟩ := X331.virtualBack hx (y := (⟨"com/example/reticule/reticule/engine/Comparison", "holds", "(I)Z"⟩ : MethodName)) (z := (⟨"com/example/reticule/reticule/engine/Comparison", "holds", "(I)Z"⟩ : MethodName)) hown (mvT hZ (hw _ (List.mem_of_getElem? (i := 56) rfl))) (mvT hZ (hw _ (List.mem_of_getElem? (i := 57) rfl))) (notFace_of_selects (args := #[]) (mvT hZ (hw _ (List.mem_of_getElem? (i := 59) rfl)))) (mvT hZ (hw _ (List.mem_of_getElem? (i := 59) rfl))) (mvT hZ (hw _ (List.mem_of_getElem? (i := 58) rfl))) (by decide) (backOf (W := 0) (rm11AT_MOST l Z a0 hw [] e1 p2 h0 n0 Z0 g2 g8) hZ (hw _ (List.mem_of_getElem? (i := 60) rfl)) (hw _ (List.mem_of_getElem? (i := 6) rfl)) (by decide) (by decide)) q332a q332c (g := (mkF m 56 #[.val (.int p1), .val (.int p2), .val (.ref e1), .val (.ref s1), .val (.int (0 : Int32))] [(.int p2), (.ref e1)])) rfl (by rw [hml]; rfl) (Steps.refl _) (argsL := [(.int p2)]) (rest := []) (lenOf pd_0_3 rfl) rfl (by show 2 * 0 + _ ≤ _; exact Nat.le_of_eq rfl) (hb hby at_56) (fun _ _ => ⟨rfl, e331, (by decide : 0 + 0 ≤ _), (by decide : 0 + 0 ≤ _)⟩)
        dsimp only [Pt.U, Pt.locs, Pt.cells, Pt.slots] at X332 l332 y332 z332 st332 hQ332
        subst l332 y332 z332
        obtain ⟨rfl, N332q, e332⟩ := hQ332
        have N332 := Fr.app N331 N332q
        refine goT st332 ?_
        show Go _ p e below s _ _ _ (T332.setTop (mkF m 59 #[.val (.int p1), .val (.int p2), .val (.ref e1), .val (.ref s1), .val (.int (0 : Int32))] [(.int (own_c3 p2))]))
        refine go (fun _ => XS.iload X332.here hx rfl (hb hby at_59) rfl) ?_
        show Go _ p e below s _ _ _ (T332.setTop (mkF m 61 #[.val (.int p1), .val (.int p2), .val (.ref e1), .val (.ref s1), .val (.int (0 : Int32))] [(.int (0 : Int32)), (.int (own_c3 p2))]))
        refine go (fun _ => XS.icmpNo X332.here hx rfl (hb hby at_61) rfl (teq (by unfold own_c3; rw [if_pos (own_pos hc17_325 hc32_328)])).2) ?_
        show Go _ p e below s _ _ _ (T332.setTop (mkF m 64 #[.val (.int p1), .val (.int p2), .val (.ref e1), .val (.ref s1), .val (.int (0 : Int32))] []))
        refine go (fun _ => XS.iconst X332.here hx rfl (hb hby at_64)) ?_
        show Go _ p e below s _ _ _ (T332.setTop (mkF m 65 #[.val (.int p1), .val (.int p2), .val (.ref e1), .val (.ref s1), .val (.int (0 : Int32))] [(.int (1 : Int32))]))
        refine go (fun _ => XS.goto X332.here hx rfl (pc0 := 65) (pc' := 69) rfl (hb hby at_65) (by decide) (by decide)) ?_
        show Go _ p e below s _ _ _ (T332.setTop (mkF m 69 #[.val (.int p1), .val (.int p2), .val (.ref e1), .val (.ref s1), .val (.int (0 : Int32))] [(.int (1 : Int32))]))
        refine goRet X332 hx Bd.notSynchronized Bd.returns rfl (Or.inl ⟨rfl, Or.inr (Or.inl rfl), _, rfl⟩) (hb hby at_69) (by decide) (by decide) (by rw [e332]; refine ⟨rfl, N332⟩)
  · obtain ⟨e1, s1, v1, k1, g1, g2, g3, g4, g5, g6, g7, g8⟩ := K4
    show Go _ p e below s _ _ _ (s₁.setTop (mkF m 7 #[.val (.int p1), .val (.int p2), .unset, .unset, .unset] [(.int (4 : Int32))]))
    obtain ⟨_, _, ⟨T333, L333, k333, n333⟩, -, X333, ⟨Lc333, hQ333, l333, y333, z333⟩, st333⟩ := Jvm.LawKit.callS X0 hx (y := (⟨"com/example/reticule/reticule/engine/ComparisonHoldsPinLaw", "pick", "(I)Lcom/example/reticule/reticule/engine/Comparison;"⟩ : MethodName)) hown (mvT hZ (hw _ (List.mem_of_getElem? (i := 1) rfl))) (mvT hZ (hw _ (List.mem_of_getElem? (i := 2) rfl))) (mvT hZ (hw _ (List.mem_of_getElem? (i := 3) rfl))) (mvT hZ (hw _ (List.mem_of_getElem? (i := 4) rfl))) (by decide) (backOf (W := 0) (rm1GREATER l Z a0 hw [] e1 h0 n0 Z0 g1) hZ (hw _ (List.mem_of_getElem? (i := 4) rfl)) (hw _ (List.mem_of_getElem? (i := 3) rfl)) (by decide) (by decide)) (g := (mkF m 7 #[.val (.int p1), .val (.int p2), .unset, .unset, .unset] [(.int (4 : Int32))])) rfl (by rw [hml]; rfl) (argsL := [(.int (4 : Int32))]) (rest := []) (lenOf pd_0_0 rfl) rfl (by show 2 * 0 + _ ≤ _; exact Nat.le_of_eq rfl) (hb hby at_7) (fun _ _ => ⟨rfl, e0, (by decide : 0 + 0 ≤ _), (by decide : 0 + 0 ≤ _)⟩)
    dsimp only [Pt.U, Pt.locs, Pt.cells, Pt.slots] at X333 l333 y333 z333 st333 hQ333
    subst l333 y333 z333
    obtain ⟨rfl, N333q, e333⟩ := hQ333
    have N333 := Fr.app N0 N333q
    refine go st333 ?_
    show Go _ p e below s _ _ _ (T333.setTop (mkF m 10 #[.val (.int p1), .val (.int p2), .unset, .unset, .unset] [(.ref e1)]))
    refine go (fun _ => XS.astoreN X333.here hx rfl (hb hby at_10) rfl rfl (l' := #[.val (.int p1), .val (.int p2), .val (.ref e1), .unset, .unset]) rfl) ?_
    show Go _ p e below s _ _ _ (T333.setTop (mkF m 11 #[.val (.int p1), .val (.int p2), .val (.ref e1), .unset, .unset] []))
    refine go (fun _ => XS.aloadN X333.here hx rfl (hb hby at_11) rfl rfl) ?_
    show Go _ p e below s _ _ _ (T333.setTop (mkF m 12 #[.val (.int p1), .val (.int p2), .val (.ref e1), .unset, .unset] [(.ref e1)]))
    obtain ⟨cq334, kq334, q334a, q334b, q334c⟩ := isOf hZ e333 g2
    obtain ⟨_, _, ⟨T334, L334, k334, n334⟩, -, X334, ⟨Lc334, hQ334, l334, y334, z334⟩, st334⟩ := X333.virtualBack hx (y := (⟨"com/example/reticule/reticule/engine/Comparison", "functionName", "()Ljava/lang/String;"⟩ : MethodName)) (z := (⟨"com/example/reticule/reticule/engine/Comparison", "functionName", "()Ljava/lang/String;"⟩ : MethodName)) hown (mvT hZ (hw _ (List.mem_of_getElem? (i := 8) rfl))) (mvT hZ (hw _ (List.mem_of_getElem? (i := 9) rfl))) (notFace_of_selects (args := #[]) (mvT hZ (hw _ (List.mem_of_getElem? (i := 11) rfl)))) (mvT hZ (hw _ (List.mem_of_getElem? (i := 11) rfl))) (mvT hZ (hw _ (List.mem_of_getElem? (i := 10) rfl))) (by decide) (backOf (W := 0) (rm2 l Z a0 hw [] e1 s1 h0 n0 Z0 g3) hZ (hw _ (List.mem_of_getElem? (i := 12) rfl)) (hw _ (List.mem_of_getElem? (i := 6) rfl)) (by decide) (by decide)) q334a q334c (g := (mkF m 12 #[.val (.int p1), .val (.int p2), .val (.ref e1), .unset, .unset] [(.ref e1)])) rfl (by rw [hml]; rfl) (Steps.refl _) (argsL := []) (rest := []) (lenOf pd_0_1 rfl) rfl (by show 2 * 0 + _ ≤ _; exact Nat.le_of_eq rfl) (hb hby at_12) (fun _ _ => ⟨rfl, e333, (by decide : 0 + 0 ≤ _), (by decide : 0 + 0 ≤ _)⟩)
    dsimp only [Pt.U, Pt.locs, Pt.cells, Pt.slots] at X334 l334 y334 z334 st334 hQ334
    subst l334 y334 z334
    obtain ⟨rfl, N334q, e334⟩ := hQ334
    have N334 := Fr.app N333 N334q
    refine goT st334 ?_
    show Go _ p e below s _ _ _ (T334.setTop (mkF m 15 #[.val (.int p1), .val (.int p2), .val (.ref e1), .unset, .unset] [(.ref s1)]))
    refine go (fun _ => XS.astoreN X334.here hx rfl (hb hby at_15) rfl rfl (l' := #[.val (.int p1), .val (.int p2), .val (.ref e1), .val (.ref s1), .unset]) rfl) ?_
    show Go _ p e below s _ _ _ (T334.setTop (mkF m 16 #[.val (.int p1), .val (.int p2), .val (.ref e1), .val (.ref s1), .unset] []))
    refine go (fun _ => XS.iloadN X334.here hx rfl (hb hby at_16) rfl) ?_
    show Go _ p e below s _ _ _ (T334.setTop (mkF m 17 #[.val (.int p1), .val (.int p2), .val (.ref e1), .val (.ref s1), .unset] [(.int p2)]))
    by_cases hc17_335 : p2 < (0 : Int32)
    · refine go (fun _ => XS.ifNo X334.here hx rfl (hb hby at_17) rfl ((if0 _ _).trans (tlt hc17_335).2.1)) ?_
      show Go _ p e below s _ _ _ (T334.setTop (mkF m 20 #[.val (.int p1), .val (.int p2), .val (.ref e1), .val (.ref s1), .unset] []))
      refine go (fun _ => XS.aloadN X334.here hx rfl (hb hby at_20) rfl rfl) ?_
      show Go _ p e below s _ _ _ (T334.setTop (mkF m 21 #[.val (.int p1), .val (.int p2), .val (.ref e1), .val (.ref s1), .unset] [(.ref s1)]))
      refine go (fun _ => XS.bipush X334.here hx rfl (hb hby at_21)) ?_
      show Go _ p e below s _ _ _ (T334.setTop (mkF m 23 #[.val (.int p1), .val (.int p2), .val (.ref e1), .val (.ref s1), .unset] [(.int (60 : Int32)), (.ref s1)]))
      obtain ⟨_, _, ⟨T336, L336, k336, n336⟩, -, X336, ⟨Lc336, hQ336, l336, y336, z336⟩, st336⟩ := Jvm.LawKit.callS X334 hx (y := (⟨"com/example/reticule/reticule/engine/ComparisonHoldsPinLaw", "has", "(Ljava/lang/String;C)Z"⟩ : MethodName)) hown (mvT hZ (hw _ (List.mem_of_getElem? (i := 15) rfl))) (mvT hZ (hw _ (List.mem_of_getElem? (i := 16) rfl))) (mvT hZ (hw _ (List.mem_of_getElem? (i := 3) rfl))) (mvT hZ (hw _ (List.mem_of_getElem? (i := 17) rfl))) (by decide) (backOf (W := 0) (rm3GREATER60 l Z a0 hw [] s1 w0 f0 v1 k1 (.int 0) h0 n0 Z0 P0 P1 g4 g7 g5 g6 hw0 hf) hZ (hw _ (List.mem_of_getElem? (i := 17) rfl)) (hw _ (List.mem_of_getElem? (i := 3) rfl)) (by decide) (by decide)) (g := (mkF m 23 #[.val (.int p1), .val (.int p2), .val (.ref e1), .val (.ref s1), .unset] [(.int (60 : Int32)), (.ref s1)])) rfl (by rw [hml]; rfl) (argsL := [(.ref s1), (.int (60 : Int32))]) (rest := []) (lenOf pd_0_2 rfl) rfl (by show 2 * 0 + _ ≤ _; exact Nat.le_of_eq rfl) (hb hby at_23) (fun _ _ => ⟨rfl, e334, (by decide : 0 + 0 ≤ _), (by decide : 0 + 0 ≤ _)⟩)
      dsimp only [Pt.U, Pt.locs, Pt.cells, Pt.slots] at X336 l336 y336 z336 st336 hQ336
      subst l336 y336 z336
      obtain ⟨rfl, N336q, e336⟩ := hQ336
      have N336 := Fr.app N334 N336q
      refine go st336 ?_
      show Go _ p e below s _ _ _ (T336.setTop (mkF m 26 #[.val (.int p1), .val (.int p2), .val (.ref e1), .val (.ref s1), .unset] [(.int (0 : Int32))]))
      refine go (fun _ => XS.istore X336.here hx rfl (hb hby at_26) rfl (l' := #[.val (.int p1), .val (.int p2), .val (.ref e1), .val (.ref s1), .val (.int (0 : Int32))]) rfl) ?_
      show Go _ p e below s _ _ _ (T336.setTop (mkF m 28 #[.val (.int p1), .val (.int p2), .val (.ref e1), .val (.ref s1), .val (.int (0 : Int32))] []))
      refine go (fun _ => XS.goto X336.here hx rfl (pc0 := 28) (pc' := 54) rfl (hb hby at_28) (by decide) (by decide)) ?_
      show Go _ p e below s _ _ _ (T336.setTop (mkF m 54 #[.val (.int p1), .val (.int p2), .val (.ref e1), .val (.ref s1), .val (.int (0 : Int32))] []))
      refine go (fun _ => XS.aloadN X336.here hx rfl (hb hby at_54) rfl rfl) ?_
      show Go _ p e below s _ _ _ (T336.setTop (mkF m 55 #[.val (.int p1), .val (.int p2), .val (.ref e1), .val (.ref s1), .val (.int (0 : Int32))] [(.ref e1)]))
      refine go (fun _ => XS.iloadN X336.here hx rfl (hb hby at_55) rfl) ?_
      show Go _ p e below s _ _ _ (T336.setTop (mkF m 56 #[.val (.int p1), .val (.int p2), .val (.ref e1), .val (.ref s1), .val (.int (0 : Int32))] [(.int p2), (.ref e1)]))
      obtain ⟨cq337, kq337, q337a, q337b, q337c⟩ := isOf hZ e336 g2
      obtain ⟨_, _, ⟨T337, L337, k337, n337⟩, -, X337, ⟨Lc337, hQ337, l337, y337, z337⟩, st337⟩ := X336.virtualBack hx (y := (⟨"com/example/reticule/reticule/engine/Comparison", "holds", "(I)Z"⟩ : MethodName)) (z := (⟨"com/example/reticule/reticule/engine/Comparison", "holds", "(I)Z"⟩ : MethodName)) hown (mvT hZ (hw _ (List.mem_of_getElem? (i := 56) rfl))) (mvT hZ (hw _ (List.mem_of_getElem? (i := 57) rfl))) (notFace_of_selects (args := #[]) (mvT hZ (hw _ (List.mem_of_getElem? (i := 59) rfl)))) (mvT hZ (hw _ (List.mem_of_getElem? (i := 59) rfl))) (mvT hZ (hw _ (List.mem_of_getElem? (i := 58) rfl))) (by decide) (backOf (W := 0) (rm11GREATER l Z a0 hw [] e1 p2 h0 n0 Z0 g2 g8) hZ (hw _ (List.mem_of_getElem? (i := 60) rfl)) (hw _ (List.mem_of_getElem? (i := 6) rfl)) (by decide) (by decide)) q337a q337c (g := (mkF m 56 #[.val (.int p1), .val (.int p2), .val (.ref e1), .val (.ref s1), .val (.int (0 : Int32))] [(.int p2), (.ref e1)])) rfl (by rw [hml]; rfl) (Steps.refl _) (argsL := [(.int p2)]) (rest := []) (lenOf pd_0_3 rfl) rfl (by show 2 * 0 + _ ≤ _; exact Nat.le_of_eq rfl) (hb hby at_56) (fun _ _ => ⟨rfl, e336, (by decide : 0 + 0 ≤ _), (by decide : 0 + 0 ≤ _)⟩)
      dsimp only [Pt.U, Pt.locs, Pt.cells, Pt.slots] at X337 l337 y337 z337 st337 hQ337
      subst l337 y337 z337
      obtain ⟨rfl, N337q, e337⟩ := hQ337
      have N337 := Fr.app N336 N337q
      refine goT st337 ?_
      show Go _ p e below s _ _ _ (T337.setTop (mkF m 59 #[.val (.int p1), .val (.int p2), .val (.ref e1), .val (.ref s1), .val (.int (0 : Int32))] [(.int (own_c4 p2))]))
      refine go (fun _ => XS.iload X337.here hx rfl (hb hby at_59) rfl) ?_
      show Go _ p e below s _ _ _ (T337.setTop (mkF m 61 #[.val (.int p1), .val (.int p2), .val (.ref e1), .val (.ref s1), .val (.int (0 : Int32))] [(.int (0 : Int32)), (.int (own_c4 p2))]))
      refine go (fun _ => XS.icmpNo X337.here hx rfl (hb hby at_61) rfl (teq (by unfold own_c4; rw [if_neg (own_neg hc17_335).2])).2) ?_
      show Go _ p e below s _ _ _ (T337.setTop (mkF m 64 #[.val (.int p1), .val (.int p2), .val (.ref e1), .val (.ref s1), .val (.int (0 : Int32))] []))
      refine go (fun _ => XS.iconst X337.here hx rfl (hb hby at_64)) ?_
      show Go _ p e below s _ _ _ (T337.setTop (mkF m 65 #[.val (.int p1), .val (.int p2), .val (.ref e1), .val (.ref s1), .val (.int (0 : Int32))] [(.int (1 : Int32))]))
      refine go (fun _ => XS.goto X337.here hx rfl (pc0 := 65) (pc' := 69) rfl (hb hby at_65) (by decide) (by decide)) ?_
      show Go _ p e below s _ _ _ (T337.setTop (mkF m 69 #[.val (.int p1), .val (.int p2), .val (.ref e1), .val (.ref s1), .val (.int (0 : Int32))] [(.int (1 : Int32))]))
      refine goRet X337 hx Bd.notSynchronized Bd.returns rfl (Or.inl ⟨rfl, Or.inr (Or.inl rfl), _, rfl⟩) (hb hby at_69) (by decide) (by decide) (by rw [e337]; refine ⟨rfl, N337⟩)
    · refine go (fun _ => XS.ifYes X334.here hx rfl (pc0 := 17) (pc' := 31) rfl (hb hby at_17) rfl ((if0 _ _).trans (flt hc17_335).2.1) (by decide) (by decide)) ?_
      show Go _ p e below s _ _ _ (T334.setTop (mkF m 31 #[.val (.int p1), .val (.int p2), .val (.ref e1), .val (.ref s1), .unset] []))
      refine go (fun _ => XS.iloadN X334.here hx rfl (hb hby at_31) rfl) ?_
      show Go _ p e below s _ _ _ (T334.setTop (mkF m 32 #[.val (.int p1), .val (.int p2), .val (.ref e1), .val (.ref s1), .unset] [(.int p2)]))
      by_cases hc32_338 : p2 = (0 : Int32)
      · refine go (fun _ => XS.ifNo X334.here hx rfl (hb hby at_32) rfl ((if0 _ _).trans (teq hc32_338).2)) ?_
        show Go _ p e below s _ _ _ (T334.setTop (mkF m 35 #[.val (.int p1), .val (.int p2), .val (.ref e1), .val (.ref s1), .unset] []))
        refine go (fun _ => XS.aloadN X334.here hx rfl (hb hby at_35) rfl rfl) ?_
        show Go _ p e below s _ _ _ (T334.setTop (mkF m 36 #[.val (.int p1), .val (.int p2), .val (.ref e1), .val (.ref s1), .unset] [(.ref s1)]))
        refine go (fun _ => XS.bipush X334.here hx rfl (hb hby at_36)) ?_
        show Go _ p e below s _ _ _ (T334.setTop (mkF m 38 #[.val (.int p1), .val (.int p2), .val (.ref e1), .val (.ref s1), .unset] [(.int (61 : Int32)), (.ref s1)]))
        obtain ⟨_, _, ⟨T339, L339, k339, n339⟩, -, X339, ⟨Lc339, hQ339, l339, y339, z339⟩, st339⟩ := Jvm.LawKit.callS X334 hx (y := (⟨"com/example/reticule/reticule/engine/ComparisonHoldsPinLaw", "has", "(Ljava/lang/String;C)Z"⟩ : MethodName)) hown (mvT hZ (hw _ (List.mem_of_getElem? (i := 15) rfl))) (mvT hZ (hw _ (List.mem_of_getElem? (i := 16) rfl))) (mvT hZ (hw _ (List.mem_of_getElem? (i := 3) rfl))) (mvT hZ (hw _ (List.mem_of_getElem? (i := 17) rfl))) (by decide) (backOf (W := 0) (rm3GREATER61 l Z a0 hw [] s1 w0 f0 v1 k1 (.int 0) h0 n0 Z0 P0 P1 g4 g7 g5 g6 hw0 hf) hZ (hw _ (List.mem_of_getElem? (i := 17) rfl)) (hw _ (List.mem_of_getElem? (i := 3) rfl)) (by decide) (by decide)) (g := (mkF m 38 #[.val (.int p1), .val (.int p2), .val (.ref e1), .val (.ref s1), .unset] [(.int (61 : Int32)), (.ref s1)])) rfl (by rw [hml]; rfl) (argsL := [(.ref s1), (.int (61 : Int32))]) (rest := []) (lenOf pd_0_2 rfl) rfl (by show 2 * 0 + _ ≤ _; exact Nat.le_of_eq rfl) (hb hby at_38) (fun _ _ => ⟨rfl, e334, (by decide : 0 + 0 ≤ _), (by decide : 0 + 0 ≤ _)⟩)
        dsimp only [Pt.U, Pt.locs, Pt.cells, Pt.slots] at X339 l339 y339 z339 st339 hQ339
        subst l339 y339 z339
        obtain ⟨rfl, N339q, e339⟩ := hQ339
        have N339 := Fr.app N334 N339q
        refine go st339 ?_
        show Go _ p e below s _ _ _ (T339.setTop (mkF m 41 #[.val (.int p1), .val (.int p2), .val (.ref e1), .val (.ref s1), .unset] [(.int (0 : Int32))]))
        refine go (fun _ => XS.istore X339.here hx rfl (hb hby at_41) rfl (l' := #[.val (.int p1), .val (.int p2), .val (.ref e1), .val (.ref s1), .val (.int (0 : Int32))]) rfl) ?_
        show Go _ p e below s _ _ _ (T339.setTop (mkF m 43 #[.val (.int p1), .val (.int p2), .val (.ref e1), .val (.ref s1), .val (.int (0 : Int32))] []))
        refine go (fun _ => XS.goto X339.here hx rfl (pc0 := 43) (pc' := 54) rfl (hb hby at_43) (by decide) (by decide)) ?_
        show Go _ p e below s _ _ _ (T339.setTop (mkF m 54 #[.val (.int p1), .val (.int p2), .val (.ref e1), .val (.ref s1), .val (.int (0 : Int32))] []))
        refine go (fun _ => XS.aloadN X339.here hx rfl (hb hby at_54) rfl rfl) ?_
        show Go _ p e below s _ _ _ (T339.setTop (mkF m 55 #[.val (.int p1), .val (.int p2), .val (.ref e1), .val (.ref s1), .val (.int (0 : Int32))] [(.ref e1)]))
        refine go (fun _ => XS.iloadN X339.here hx rfl (hb hby at_55) rfl) ?_
        show Go _ p e below s _ _ _ (T339.setTop (mkF m 56 #[.val (.int p1), .val (.int p2), .val (.ref e1), .val (.ref s1), .val (.int (0 : Int32))] [(.int p2), (.ref e1)]))
        obtain ⟨cq340, kq340, q340a, q340b, q340c⟩ := isOf hZ e339 g2
        obtain ⟨_, _, ⟨T340, L340, k340, n340⟩, -, X340, ⟨Lc340, hQ340, l340, y340, z340⟩, st340⟩ := X339.virtualBack hx (y := (⟨"com/example/reticule/reticule/engine/Comparison", "holds", "(I)Z"⟩ : MethodName)) (z := (⟨"com/example/reticule/reticule/engine/Comparison", "holds", "(I)Z"⟩ : MethodName)) hown (mvT hZ (hw _ (List.mem_of_getElem? (i := 56) rfl))) (mvT hZ (hw _ (List.mem_of_getElem? (i := 57) rfl))) (notFace_of_selects (args := #[]) (mvT hZ (hw _ (List.mem_of_getElem? (i := 59) rfl)))) (mvT hZ (hw _ (List.mem_of_getElem? (i := 59) rfl))) (mvT hZ (hw _ (List.mem_of_getElem? (i := 58) rfl))) (by decide) (backOf (W := 0) (rm11GREATER l Z a0 hw [] e1 p2 h0 n0 Z0 g2 g8) hZ (hw _ (List.mem_of_getElem? (i := 60) rfl)) (hw _ (List.mem_of_getElem? (i := 6) rfl)) (by decide) (by decide)) q340a q340c (g := (mkF m 56 #[.val (.int p1), .val (.int p2), .val (.ref e1), .val (.ref s1), .val (.int (0 : Int32))] [(.int p2), (.ref e1)])) rfl (by rw [hml]; rfl) (Steps.refl _) (argsL := [(.int p2)]) (rest := []) (lenOf pd_0_3 rfl) rfl (by show 2 * 0 + _ ≤ _; exact Nat.le_of_eq rfl) (hb hby at_56) (fun _ _ => ⟨rfl, e339, (by decide : 0 + 0 ≤ _), (by decide : 0 + 0 ≤ _)⟩)
        dsimp only [Pt.U, Pt.locs, Pt.cells, Pt.slots] at X340 l340 y340 z340 st340 hQ340
        subst l340 y340 z340
        obtain ⟨rfl, N340q, e340⟩ := hQ340
        have N340 := Fr.app N339 N340q
        refine goT st340 ?_
        show Go _ p e below s _ _ _ (T340.setTop (mkF m 59 #[.val (.int p1), .val (.int p2), .val (.ref e1), .val (.ref s1), .val (.int (0 : Int32))] [(.int (own_c4 p2))]))
        refine go (fun _ => XS.iload X340.here hx rfl (hb hby at_59) rfl) ?_
        show Go _ p e below s _ _ _ (T340.setTop (mkF m 61 #[.val (.int p1), .val (.int p2), .val (.ref e1), .val (.ref s1), .val (.int (0 : Int32))] [(.int (0 : Int32)), (.int (own_c4 p2))]))
        refine go (fun _ => XS.icmpNo X340.here hx rfl (hb hby at_61) rfl (teq (by unfold own_c4; rw [if_neg (own_zer hc32_338).2])).2) ?_
        show Go _ p e below s _ _ _ (T340.setTop (mkF m 64 #[.val (.int p1), .val (.int p2), .val (.ref e1), .val (.ref s1), .val (.int (0 : Int32))] []))
        refine go (fun _ => XS.iconst X340.here hx rfl (hb hby at_64)) ?_
        show Go _ p e below s _ _ _ (T340.setTop (mkF m 65 #[.val (.int p1), .val (.int p2), .val (.ref e1), .val (.ref s1), .val (.int (0 : Int32))] [(.int (1 : Int32))]))
        refine go (fun _ => XS.goto X340.here hx rfl (pc0 := 65) (pc' := 69) rfl (hb hby at_65) (by decide) (by decide)) ?_
        show Go _ p e below s _ _ _ (T340.setTop (mkF m 69 #[.val (.int p1), .val (.int p2), .val (.ref e1), .val (.ref s1), .val (.int (0 : Int32))] [(.int (1 : Int32))]))
        refine goRet X340 hx Bd.notSynchronized Bd.returns rfl (Or.inl ⟨rfl, Or.inr (Or.inl rfl), _, rfl⟩) (hb hby at_69) (by decide) (by decide) (by rw [e340]; refine ⟨rfl, N340⟩)
      · refine go (fun _ => XS.ifYes X334.here hx rfl (pc0 := 32) (pc' := 46) rfl (hb hby at_32) rfl ((if0 _ _).trans (feq hc32_338).2) (by decide) (by decide)) ?_
        show Go _ p e below s _ _ _ (T334.setTop (mkF m 46 #[.val (.int p1), .val (.int p2), .val (.ref e1), .val (.ref s1), .unset] []))
        refine go (fun _ => XS.aloadN X334.here hx rfl (hb hby at_46) rfl rfl) ?_
        show Go _ p e below s _ _ _ (T334.setTop (mkF m 47 #[.val (.int p1), .val (.int p2), .val (.ref e1), .val (.ref s1), .unset] [(.ref s1)]))
        refine go (fun _ => XS.bipush X334.here hx rfl (hb hby at_47)) ?_
        show Go _ p e below s _ _ _ (T334.setTop (mkF m 49 #[.val (.int p1), .val (.int p2), .val (.ref e1), .val (.ref s1), .unset] [(.int (62 : Int32)), (.ref s1)]))
        obtain ⟨_, _, ⟨T341, L341, k341, n341⟩, -, X341, ⟨Lc341, hQ341, l341, y341, z341⟩, st341⟩ := Jvm.LawKit.callS X334 hx (y := (⟨"com/example/reticule/reticule/engine/ComparisonHoldsPinLaw", "has", "(Ljava/lang/String;C)Z"⟩ : MethodName)) hown (mvT hZ (hw _ (List.mem_of_getElem? (i := 15) rfl))) (mvT hZ (hw _ (List.mem_of_getElem? (i := 16) rfl))) (mvT hZ (hw _ (List.mem_of_getElem? (i := 3) rfl))) (mvT hZ (hw _ (List.mem_of_getElem? (i := 17) rfl))) (by decide) (backOf (W := 0) (rm3GREATER62 l Z a0 hw [] s1 w0 f0 v1 k1 (.int 0) h0 n0 Z0 P0 P1 g4 g7 g5 g6 hw0 hf) hZ (hw _ (List.mem_of_getElem? (i := 17) rfl)) (hw _ (List.mem_of_getElem? (i := 3) rfl)) (by decide) (by decide)) (g := (mkF m 49 #[.val (.int p1), .val (.int p2), .val (.ref e1), .val (.ref s1), .unset] [(.int (62 : Int32)), (.ref s1)])) rfl (by rw [hml]; rfl) (argsL := [(.ref s1), (.int (62 : Int32))]) (rest := []) (lenOf pd_0_2 rfl) rfl (by show 2 * 0 + _ ≤ _; exact Nat.le_of_eq rfl) (hb hby at_49) (fun _ _ => ⟨rfl, e334, (by decide : 0 + 0 ≤ _), (by decide : 0 + 0 ≤ _)⟩)
        dsimp only [Pt.U, Pt.locs, Pt.cells, Pt.slots] at X341 l341 y341 z341 st341 hQ341
        subst l341 y341 z341
        obtain ⟨rfl, N341q, e341⟩ := hQ341
        have N341 := Fr.app N334 N341q
        refine go st341 ?_
        show Go _ p e below s _ _ _ (T341.setTop (mkF m 52 #[.val (.int p1), .val (.int p2), .val (.ref e1), .val (.ref s1), .unset] [(.int (1 : Int32))]))
        refine go (fun _ => XS.istore X341.here hx rfl (hb hby at_52) rfl (l' := #[.val (.int p1), .val (.int p2), .val (.ref e1), .val (.ref s1), .val (.int (1 : Int32))]) rfl) ?_
        show Go _ p e below s _ _ _ (T341.setTop (mkF m 54 #[.val (.int p1), .val (.int p2), .val (.ref e1), .val (.ref s1), .val (.int (1 : Int32))] []))
        refine go (fun _ => XS.aloadN X341.here hx rfl (hb hby at_54) rfl rfl) ?_
        show Go _ p e below s _ _ _ (T341.setTop (mkF m 55 #[.val (.int p1), .val (.int p2), .val (.ref e1), .val (.ref s1), .val (.int (1 : Int32))] [(.ref e1)]))
        refine go (fun _ => XS.iloadN X341.here hx rfl (hb hby at_55) rfl) ?_
        show Go _ p e below s _ _ _ (T341.setTop (mkF m 56 #[.val (.int p1), .val (.int p2), .val (.ref e1), .val (.ref s1), .val (.int (1 : Int32))] [(.int p2), (.ref e1)]))
        obtain ⟨cq342, kq342, q342a, q342b, q342c⟩ := isOf hZ e341 g2
        obtain ⟨_, _, ⟨T342, L342, k342, n342⟩, -, X342, ⟨Lc342, hQ342, l342, y342, z342⟩, st342⟩ := X341.virtualBack hx (y := (⟨"com/example/reticule/reticule/engine/Comparison", "holds", "(I)Z"⟩ : MethodName)) (z := (⟨"com/example/reticule/reticule/engine/Comparison", "holds", "(I)Z"⟩ : MethodName)) hown (mvT hZ (hw _ (List.mem_of_getElem? (i := 56) rfl))) (mvT hZ (hw _ (List.mem_of_getElem? (i := 57) rfl))) (notFace_of_selects (args := #[]) (mvT hZ (hw _ (List.mem_of_getElem? (i := 59) rfl)))) (mvT hZ (hw _ (List.mem_of_getElem? (i := 59) rfl))) (mvT hZ (hw _ (List.mem_of_getElem? (i := 58) rfl))) (by decide) (backOf (W := 0) (rm11GREATER l Z a0 hw [] e1 p2 h0 n0 Z0 g2 g8) hZ (hw _ (List.mem_of_getElem? (i := 60) rfl)) (hw _ (List.mem_of_getElem? (i := 6) rfl)) (by decide) (by decide)) q342a q342c (g := (mkF m 56 #[.val (.int p1), .val (.int p2), .val (.ref e1), .val (.ref s1), .val (.int (1 : Int32))] [(.int p2), (.ref e1)])) rfl (by rw [hml]; rfl) (Steps.refl _) (argsL := [(.int p2)]) (rest := []) (lenOf pd_0_3 rfl) rfl (by show 2 * 0 + _ ≤ _; exact Nat.le_of_eq rfl) (hb hby at_56) (fun _ _ => ⟨rfl, e341, (by decide : 0 + 0 ≤ _), (by decide : 0 + 0 ≤ _)⟩)
        dsimp only [Pt.U, Pt.locs, Pt.cells, Pt.slots] at X342 l342 y342 z342 st342 hQ342
        subst l342 y342 z342
        obtain ⟨rfl, N342q, e342⟩ := hQ342
        have N342 := Fr.app N341 N342q
        refine goT st342 ?_
        show Go _ p e below s _ _ _ (T342.setTop (mkF m 59 #[.val (.int p1), .val (.int p2), .val (.ref e1), .val (.ref s1), .val (.int (1 : Int32))] [(.int (own_c4 p2))]))
        refine go (fun _ => XS.iload X342.here hx rfl (hb hby at_59) rfl) ?_
        show Go _ p e below s _ _ _ (T342.setTop (mkF m 61 #[.val (.int p1), .val (.int p2), .val (.ref e1), .val (.ref s1), .val (.int (1 : Int32))] [(.int (1 : Int32)), (.int (own_c4 p2))]))
        refine go (fun _ => XS.icmpNo X342.here hx rfl (hb hby at_61) rfl (teq (by unfold own_c4; rw [if_pos (own_pos hc17_335 hc32_338)])).2) ?_
        show Go _ p e below s _ _ _ (T342.setTop (mkF m 64 #[.val (.int p1), .val (.int p2), .val (.ref e1), .val (.ref s1), .val (.int (1 : Int32))] []))
        refine go (fun _ => XS.iconst X342.here hx rfl (hb hby at_64)) ?_
        show Go _ p e below s _ _ _ (T342.setTop (mkF m 65 #[.val (.int p1), .val (.int p2), .val (.ref e1), .val (.ref s1), .val (.int (1 : Int32))] [(.int (1 : Int32))]))
        refine go (fun _ => XS.goto X342.here hx rfl (pc0 := 65) (pc' := 69) rfl (hb hby at_65) (by decide) (by decide)) ?_
        show Go _ p e below s _ _ _ (T342.setTop (mkF m 69 #[.val (.int p1), .val (.int p2), .val (.ref e1), .val (.ref s1), .val (.int (1 : Int32))] [(.int (1 : Int32))]))
        refine goRet X342 hx Bd.notSynchronized Bd.returns rfl (Or.inl ⟨rfl, Or.inr (Or.inl rfl), _, rfl⟩) (hb hby at_69) (by decide) (by decide) (by rw [e342]; refine ⟨rfl, N342⟩)
  · obtain ⟨e1, s1, v1, k1, g1, g2, g3, g4, g5, g6, g7, g8⟩ := K5
    show Go _ p e below s _ _ _ (s₁.setTop (mkF m 7 #[.val (.int p1), .val (.int p2), .unset, .unset, .unset] [(.int (5 : Int32))]))
    obtain ⟨_, _, ⟨T343, L343, k343, n343⟩, -, X343, ⟨Lc343, hQ343, l343, y343, z343⟩, st343⟩ := Jvm.LawKit.callS X0 hx (y := (⟨"com/example/reticule/reticule/engine/ComparisonHoldsPinLaw", "pick", "(I)Lcom/example/reticule/reticule/engine/Comparison;"⟩ : MethodName)) hown (mvT hZ (hw _ (List.mem_of_getElem? (i := 1) rfl))) (mvT hZ (hw _ (List.mem_of_getElem? (i := 2) rfl))) (mvT hZ (hw _ (List.mem_of_getElem? (i := 3) rfl))) (mvT hZ (hw _ (List.mem_of_getElem? (i := 4) rfl))) (by decide) (backOf (W := 0) (rm1AT_LEAST l Z a0 hw [] e1 h0 n0 Z0 g1) hZ (hw _ (List.mem_of_getElem? (i := 4) rfl)) (hw _ (List.mem_of_getElem? (i := 3) rfl)) (by decide) (by decide)) (g := (mkF m 7 #[.val (.int p1), .val (.int p2), .unset, .unset, .unset] [(.int (5 : Int32))])) rfl (by rw [hml]; rfl) (argsL := [(.int (5 : Int32))]) (rest := []) (lenOf pd_0_0 rfl) rfl (by show 2 * 0 + _ ≤ _; exact Nat.le_of_eq rfl) (hb hby at_7) (fun _ _ => ⟨rfl, e0, (by decide : 0 + 0 ≤ _), (by decide : 0 + 0 ≤ _)⟩)
    dsimp only [Pt.U, Pt.locs, Pt.cells, Pt.slots] at X343 l343 y343 z343 st343 hQ343
    subst l343 y343 z343
    obtain ⟨rfl, N343q, e343⟩ := hQ343
    have N343 := Fr.app N0 N343q
    refine go st343 ?_
    show Go _ p e below s _ _ _ (T343.setTop (mkF m 10 #[.val (.int p1), .val (.int p2), .unset, .unset, .unset] [(.ref e1)]))
    refine go (fun _ => XS.astoreN X343.here hx rfl (hb hby at_10) rfl rfl (l' := #[.val (.int p1), .val (.int p2), .val (.ref e1), .unset, .unset]) rfl) ?_
    show Go _ p e below s _ _ _ (T343.setTop (mkF m 11 #[.val (.int p1), .val (.int p2), .val (.ref e1), .unset, .unset] []))
    refine go (fun _ => XS.aloadN X343.here hx rfl (hb hby at_11) rfl rfl) ?_
    show Go _ p e below s _ _ _ (T343.setTop (mkF m 12 #[.val (.int p1), .val (.int p2), .val (.ref e1), .unset, .unset] [(.ref e1)]))
    obtain ⟨cq344, kq344, q344a, q344b, q344c⟩ := isOf hZ e343 g2
    obtain ⟨_, _, ⟨T344, L344, k344, n344⟩, -, X344, ⟨Lc344, hQ344, l344, y344, z344⟩, st344⟩ := X343.virtualBack hx (y := (⟨"com/example/reticule/reticule/engine/Comparison", "functionName", "()Ljava/lang/String;"⟩ : MethodName)) (z := (⟨"com/example/reticule/reticule/engine/Comparison", "functionName", "()Ljava/lang/String;"⟩ : MethodName)) hown (mvT hZ (hw _ (List.mem_of_getElem? (i := 8) rfl))) (mvT hZ (hw _ (List.mem_of_getElem? (i := 9) rfl))) (notFace_of_selects (args := #[]) (mvT hZ (hw _ (List.mem_of_getElem? (i := 11) rfl)))) (mvT hZ (hw _ (List.mem_of_getElem? (i := 11) rfl))) (mvT hZ (hw _ (List.mem_of_getElem? (i := 10) rfl))) (by decide) (backOf (W := 0) (rm2 l Z a0 hw [] e1 s1 h0 n0 Z0 g3) hZ (hw _ (List.mem_of_getElem? (i := 12) rfl)) (hw _ (List.mem_of_getElem? (i := 6) rfl)) (by decide) (by decide)) q344a q344c (g := (mkF m 12 #[.val (.int p1), .val (.int p2), .val (.ref e1), .unset, .unset] [(.ref e1)])) rfl (by rw [hml]; rfl) (Steps.refl _) (argsL := []) (rest := []) (lenOf pd_0_1 rfl) rfl (by show 2 * 0 + _ ≤ _; exact Nat.le_of_eq rfl) (hb hby at_12) (fun _ _ => ⟨rfl, e343, (by decide : 0 + 0 ≤ _), (by decide : 0 + 0 ≤ _)⟩)
    dsimp only [Pt.U, Pt.locs, Pt.cells, Pt.slots] at X344 l344 y344 z344 st344 hQ344
    subst l344 y344 z344
    obtain ⟨rfl, N344q, e344⟩ := hQ344
    have N344 := Fr.app N343 N344q
    refine goT st344 ?_
    show Go _ p e below s _ _ _ (T344.setTop (mkF m 15 #[.val (.int p1), .val (.int p2), .val (.ref e1), .unset, .unset] [(.ref s1)]))
    refine go (fun _ => XS.astoreN X344.here hx rfl (hb hby at_15) rfl rfl (l' := #[.val (.int p1), .val (.int p2), .val (.ref e1), .val (.ref s1), .unset]) rfl) ?_
    show Go _ p e below s _ _ _ (T344.setTop (mkF m 16 #[.val (.int p1), .val (.int p2), .val (.ref e1), .val (.ref s1), .unset] []))
    refine go (fun _ => XS.iloadN X344.here hx rfl (hb hby at_16) rfl) ?_
    show Go _ p e below s _ _ _ (T344.setTop (mkF m 17 #[.val (.int p1), .val (.int p2), .val (.ref e1), .val (.ref s1), .unset] [(.int p2)]))
    by_cases hc17_345 : p2 < (0 : Int32)
    · refine go (fun _ => XS.ifNo X344.here hx rfl (hb hby at_17) rfl ((if0 _ _).trans (tlt hc17_345).2.1)) ?_
      show Go _ p e below s _ _ _ (T344.setTop (mkF m 20 #[.val (.int p1), .val (.int p2), .val (.ref e1), .val (.ref s1), .unset] []))
      refine go (fun _ => XS.aloadN X344.here hx rfl (hb hby at_20) rfl rfl) ?_
      show Go _ p e below s _ _ _ (T344.setTop (mkF m 21 #[.val (.int p1), .val (.int p2), .val (.ref e1), .val (.ref s1), .unset] [(.ref s1)]))
      refine go (fun _ => XS.bipush X344.here hx rfl (hb hby at_21)) ?_
      show Go _ p e below s _ _ _ (T344.setTop (mkF m 23 #[.val (.int p1), .val (.int p2), .val (.ref e1), .val (.ref s1), .unset] [(.int (60 : Int32)), (.ref s1)]))
      obtain ⟨_, _, ⟨T346, L346, k346, n346⟩, -, X346, ⟨Lc346, hQ346, l346, y346, z346⟩, st346⟩ := Jvm.LawKit.callS X344 hx (y := (⟨"com/example/reticule/reticule/engine/ComparisonHoldsPinLaw", "has", "(Ljava/lang/String;C)Z"⟩ : MethodName)) hown (mvT hZ (hw _ (List.mem_of_getElem? (i := 15) rfl))) (mvT hZ (hw _ (List.mem_of_getElem? (i := 16) rfl))) (mvT hZ (hw _ (List.mem_of_getElem? (i := 3) rfl))) (mvT hZ (hw _ (List.mem_of_getElem? (i := 17) rfl))) (by decide) (backOf (W := 0) (rm3AT_LEAST60 l Z a0 hw [] s1 w0 f0 v1 k1 (.int 0) h0 n0 Z0 P0 P1 g4 g7 g5 g6 hw0 hf) hZ (hw _ (List.mem_of_getElem? (i := 17) rfl)) (hw _ (List.mem_of_getElem? (i := 3) rfl)) (by decide) (by decide)) (g := (mkF m 23 #[.val (.int p1), .val (.int p2), .val (.ref e1), .val (.ref s1), .unset] [(.int (60 : Int32)), (.ref s1)])) rfl (by rw [hml]; rfl) (argsL := [(.ref s1), (.int (60 : Int32))]) (rest := []) (lenOf pd_0_2 rfl) rfl (by show 2 * 0 + _ ≤ _; exact Nat.le_of_eq rfl) (hb hby at_23) (fun _ _ => ⟨rfl, e344, (by decide : 0 + 0 ≤ _), (by decide : 0 + 0 ≤ _)⟩)
      dsimp only [Pt.U, Pt.locs, Pt.cells, Pt.slots] at X346 l346 y346 z346 st346 hQ346
      subst l346 y346 z346
      obtain ⟨rfl, N346q, e346⟩ := hQ346
      have N346 := Fr.app N344 N346q
      refine go st346 ?_
      show Go _ p e below s _ _ _ (T346.setTop (mkF m 26 #[.val (.int p1), .val (.int p2), .val (.ref e1), .val (.ref s1), .unset] [(.int (0 : Int32))]))
      refine go (fun _ => XS.istore X346.here hx rfl (hb hby at_26) rfl (l' := #[.val (.int p1), .val (.int p2), .val (.ref e1), .val (.ref s1), .val (.int (0 : Int32))]) rfl) ?_
      show Go _ p e below s _ _ _ (T346.setTop (mkF m 28 #[.val (.int p1), .val (.int p2), .val (.ref e1), .val (.ref s1), .val (.int (0 : Int32))] []))
      refine go (fun _ => XS.goto X346.here hx rfl (pc0 := 28) (pc' := 54) rfl (hb hby at_28) (by decide) (by decide)) ?_
      show Go _ p e below s _ _ _ (T346.setTop (mkF m 54 #[.val (.int p1), .val (.int p2), .val (.ref e1), .val (.ref s1), .val (.int (0 : Int32))] []))
      refine go (fun _ => XS.aloadN X346.here hx rfl (hb hby at_54) rfl rfl) ?_
      show Go _ p e below s _ _ _ (T346.setTop (mkF m 55 #[.val (.int p1), .val (.int p2), .val (.ref e1), .val (.ref s1), .val (.int (0 : Int32))] [(.ref e1)]))
      refine go (fun _ => XS.iloadN X346.here hx rfl (hb hby at_55) rfl) ?_
      show Go _ p e below s _ _ _ (T346.setTop (mkF m 56 #[.val (.int p1), .val (.int p2), .val (.ref e1), .val (.ref s1), .val (.int (0 : Int32))] [(.int p2), (.ref e1)]))
      obtain ⟨cq347, kq347, q347a, q347b, q347c⟩ := isOf hZ e346 g2
      obtain ⟨_, _, ⟨T347, L347, k347, n347⟩, -, X347, ⟨Lc347, hQ347, l347, y347, z347⟩, st347⟩ := X346.virtualBack hx (y := (⟨"com/example/reticule/reticule/engine/Comparison", "holds", "(I)Z"⟩ : MethodName)) (z := (⟨"com/example/reticule/reticule/engine/Comparison", "holds", "(I)Z"⟩ : MethodName)) hown (mvT hZ (hw _ (List.mem_of_getElem? (i := 56) rfl))) (mvT hZ (hw _ (List.mem_of_getElem? (i := 57) rfl))) (notFace_of_selects (args := #[]) (mvT hZ (hw _ (List.mem_of_getElem? (i := 59) rfl)))) (mvT hZ (hw _ (List.mem_of_getElem? (i := 59) rfl))) (mvT hZ (hw _ (List.mem_of_getElem? (i := 58) rfl))) (by decide) (backOf (W := 0) (rm11AT_LEAST l Z a0 hw [] e1 p2 h0 n0 Z0 g2 g8) hZ (hw _ (List.mem_of_getElem? (i := 60) rfl)) (hw _ (List.mem_of_getElem? (i := 6) rfl)) (by decide) (by decide)) q347a q347c (g := (mkF m 56 #[.val (.int p1), .val (.int p2), .val (.ref e1), .val (.ref s1), .val (.int (0 : Int32))] [(.int p2), (.ref e1)])) rfl (by rw [hml]; rfl) (Steps.refl _) (argsL := [(.int p2)]) (rest := []) (lenOf pd_0_3 rfl) rfl (by show 2 * 0 + _ ≤ _; exact Nat.le_of_eq rfl) (hb hby at_56) (fun _ _ => ⟨rfl, e346, (by decide : 0 + 0 ≤ _), (by decide : 0 + 0 ≤ _)⟩)
      dsimp only [Pt.U, Pt.locs, Pt.cells, Pt.slots] at X347 l347 y347 z347 st347 hQ347
      subst l347 y347 z347
      obtain ⟨rfl, N347q, e347⟩ := hQ347
      have N347 := Fr.app N346 N347q
      refine goT st347 ?_
      show Go _ p e below s _ _ _ (T347.setTop (mkF m 59 #[.val (.int p1), .val (.int p2), .val (.ref e1), .val (.ref s1), .val (.int (0 : Int32))] [(.int (own_c5 p2))]))
      refine go (fun _ => XS.iload X347.here hx rfl (hb hby at_59) rfl) ?_
      show Go _ p e below s _ _ _ (T347.setTop (mkF m 61 #[.val (.int p1), .val (.int p2), .val (.ref e1), .val (.ref s1), .val (.int (0 : Int32))] [(.int (0 : Int32)), (.int (own_c5 p2))]))
      refine go (fun _ => XS.icmpNo X347.here hx rfl (hb hby at_61) rfl (teq (by unfold own_c5; rw [if_pos hc17_345])).2) ?_
      show Go _ p e below s _ _ _ (T347.setTop (mkF m 64 #[.val (.int p1), .val (.int p2), .val (.ref e1), .val (.ref s1), .val (.int (0 : Int32))] []))
      refine go (fun _ => XS.iconst X347.here hx rfl (hb hby at_64)) ?_
      show Go _ p e below s _ _ _ (T347.setTop (mkF m 65 #[.val (.int p1), .val (.int p2), .val (.ref e1), .val (.ref s1), .val (.int (0 : Int32))] [(.int (1 : Int32))]))
      refine go (fun _ => XS.goto X347.here hx rfl (pc0 := 65) (pc' := 69) rfl (hb hby at_65) (by decide) (by decide)) ?_
      show Go _ p e below s _ _ _ (T347.setTop (mkF m 69 #[.val (.int p1), .val (.int p2), .val (.ref e1), .val (.ref s1), .val (.int (0 : Int32))] [(.int (1 : Int32))]))
      refine goRet X347 hx Bd.notSynchronized Bd.returns rfl (Or.inl ⟨rfl, Or.inr (Or.inl rfl), _, rfl⟩) (hb hby at_69) (by decide) (by decide) (by rw [e347]; refine ⟨rfl, N347⟩)
    · refine go (fun _ => XS.ifYes X344.here hx rfl (pc0 := 17) (pc' := 31) rfl (hb hby at_17) rfl ((if0 _ _).trans (flt hc17_345).2.1) (by decide) (by decide)) ?_
      show Go _ p e below s _ _ _ (T344.setTop (mkF m 31 #[.val (.int p1), .val (.int p2), .val (.ref e1), .val (.ref s1), .unset] []))
      refine go (fun _ => XS.iloadN X344.here hx rfl (hb hby at_31) rfl) ?_
      show Go _ p e below s _ _ _ (T344.setTop (mkF m 32 #[.val (.int p1), .val (.int p2), .val (.ref e1), .val (.ref s1), .unset] [(.int p2)]))
      by_cases hc32_348 : p2 = (0 : Int32)
      · refine go (fun _ => XS.ifNo X344.here hx rfl (hb hby at_32) rfl ((if0 _ _).trans (teq hc32_348).2)) ?_
        show Go _ p e below s _ _ _ (T344.setTop (mkF m 35 #[.val (.int p1), .val (.int p2), .val (.ref e1), .val (.ref s1), .unset] []))
        refine go (fun _ => XS.aloadN X344.here hx rfl (hb hby at_35) rfl rfl) ?_
        show Go _ p e below s _ _ _ (T344.setTop (mkF m 36 #[.val (.int p1), .val (.int p2), .val (.ref e1), .val (.ref s1), .unset] [(.ref s1)]))
        refine go (fun _ => XS.bipush X344.here hx rfl (hb hby at_36)) ?_
        show Go _ p e below s _ _ _ (T344.setTop (mkF m 38 #[.val (.int p1), .val (.int p2), .val (.ref e1), .val (.ref s1), .unset] [(.int (61 : Int32)), (.ref s1)]))
        obtain ⟨_, _, ⟨T349, L349, k349, n349⟩, -, X349, ⟨Lc349, hQ349, l349, y349, z349⟩, st349⟩ := Jvm.LawKit.callS X344 hx (y := (⟨"com/example/reticule/reticule/engine/ComparisonHoldsPinLaw", "has", "(Ljava/lang/String;C)Z"⟩ : MethodName)) hown (mvT hZ (hw _ (List.mem_of_getElem? (i := 15) rfl))) (mvT hZ (hw _ (List.mem_of_getElem? (i := 16) rfl))) (mvT hZ (hw _ (List.mem_of_getElem? (i := 3) rfl))) (mvT hZ (hw _ (List.mem_of_getElem? (i := 17) rfl))) (by decide) (backOf (W := 0) (rm3AT_LEAST61 l Z a0 hw [] s1 w0 f0 v1 k1 (.int 0) h0 n0 Z0 P0 P1 g4 g7 g5 g6 hw0 hf) hZ (hw _ (List.mem_of_getElem? (i := 17) rfl)) (hw _ (List.mem_of_getElem? (i := 3) rfl)) (by decide) (by decide)) (g := (mkF m 38 #[.val (.int p1), .val (.int p2), .val (.ref e1), .val (.ref s1), .unset] [(.int (61 : Int32)), (.ref s1)])) rfl (by rw [hml]; rfl) (argsL := [(.ref s1), (.int (61 : Int32))]) (rest := []) (lenOf pd_0_2 rfl) rfl (by show 2 * 0 + _ ≤ _; exact Nat.le_of_eq rfl) (hb hby at_38) (fun _ _ => ⟨rfl, e344, (by decide : 0 + 0 ≤ _), (by decide : 0 + 0 ≤ _)⟩)
        dsimp only [Pt.U, Pt.locs, Pt.cells, Pt.slots] at X349 l349 y349 z349 st349 hQ349
        subst l349 y349 z349
        obtain ⟨rfl, N349q, e349⟩ := hQ349
        have N349 := Fr.app N344 N349q
        refine go st349 ?_
        show Go _ p e below s _ _ _ (T349.setTop (mkF m 41 #[.val (.int p1), .val (.int p2), .val (.ref e1), .val (.ref s1), .unset] [(.int (1 : Int32))]))
        refine go (fun _ => XS.istore X349.here hx rfl (hb hby at_41) rfl (l' := #[.val (.int p1), .val (.int p2), .val (.ref e1), .val (.ref s1), .val (.int (1 : Int32))]) rfl) ?_
        show Go _ p e below s _ _ _ (T349.setTop (mkF m 43 #[.val (.int p1), .val (.int p2), .val (.ref e1), .val (.ref s1), .val (.int (1 : Int32))] []))
        refine go (fun _ => XS.goto X349.here hx rfl (pc0 := 43) (pc' := 54) rfl (hb hby at_43) (by decide) (by decide)) ?_
        show Go _ p e below s _ _ _ (T349.setTop (mkF m 54 #[.val (.int p1), .val (.int p2), .val (.ref e1), .val (.ref s1), .val (.int (1 : Int32))] []))
        refine go (fun _ => XS.aloadN X349.here hx rfl (hb hby at_54) rfl rfl) ?_
        show Go _ p e below s _ _ _ (T349.setTop (mkF m 55 #[.val (.int p1), .val (.int p2), .val (.ref e1), .val (.ref s1), .val (.int (1 : Int32))] [(.ref e1)]))
        refine go (fun _ => XS.iloadN X349.here hx rfl (hb hby at_55) rfl) ?_
        show Go _ p e below s _ _ _ (T349.setTop (mkF m 56 #[.val (.int p1), .val (.int p2), .val (.ref e1), .val (.ref s1), .val (.int (1 : Int32))] [(.int p2), (.ref e1)]))
        obtain ⟨cq350, kq350, q350a, q350b, q350c⟩ := isOf hZ e349 g2
        obtain ⟨_, _, ⟨T350, L350, k350, n350⟩, -, X350, ⟨Lc350, hQ350, l350, y350, z350⟩, st350⟩ := X349.virtualBack hx (y := (⟨"com/example/reticule/reticule/engine/Comparison", "holds", "(I)Z"⟩ : MethodName)) (z := (⟨"com/example/reticule/reticule/engine/Comparison", "holds", "(I)Z"⟩ : MethodName)) hown (mvT hZ (hw _ (List.mem_of_getElem? (i := 56) rfl))) (mvT hZ (hw _ (List.mem_of_getElem? (i := 57) rfl))) (notFace_of_selects (args := #[]) (mvT hZ (hw _ (List.mem_of_getElem? (i := 59) rfl)))) (mvT hZ (hw _ (List.mem_of_getElem? (i := 59) rfl))) (mvT hZ (hw _ (List.mem_of_getElem? (i := 58) rfl))) (by decide) (backOf (W := 0) (rm11AT_LEAST l Z a0 hw [] e1 p2 h0 n0 Z0 g2 g8) hZ (hw _ (List.mem_of_getElem? (i := 60) rfl)) (hw _ (List.mem_of_getElem? (i := 6) rfl)) (by decide) (by decide)) q350a q350c (g := (mkF m 56 #[.val (.int p1), .val (.int p2), .val (.ref e1), .val (.ref s1), .val (.int (1 : Int32))] [(.int p2), (.ref e1)])) rfl (by rw [hml]; rfl) (Steps.refl _) (argsL := [(.int p2)]) (rest := []) (lenOf pd_0_3 rfl) rfl (by show 2 * 0 + _ ≤ _; exact Nat.le_of_eq rfl) (hb hby at_56) (fun _ _ => ⟨rfl, e349, (by decide : 0 + 0 ≤ _), (by decide : 0 + 0 ≤ _)⟩)
        dsimp only [Pt.U, Pt.locs, Pt.cells, Pt.slots] at X350 l350 y350 z350 st350 hQ350
        subst l350 y350 z350
        obtain ⟨rfl, N350q, e350⟩ := hQ350
        have N350 := Fr.app N349 N350q
        refine goT st350 ?_
        show Go _ p e below s _ _ _ (T350.setTop (mkF m 59 #[.val (.int p1), .val (.int p2), .val (.ref e1), .val (.ref s1), .val (.int (1 : Int32))] [(.int (own_c5 p2))]))
        refine go (fun _ => XS.iload X350.here hx rfl (hb hby at_59) rfl) ?_
        show Go _ p e below s _ _ _ (T350.setTop (mkF m 61 #[.val (.int p1), .val (.int p2), .val (.ref e1), .val (.ref s1), .val (.int (1 : Int32))] [(.int (1 : Int32)), (.int (own_c5 p2))]))
        refine go (fun _ => XS.icmpNo X350.here hx rfl (hb hby at_61) rfl (teq (by unfold own_c5; rw [if_neg hc17_345])).2) ?_
        show Go _ p e below s _ _ _ (T350.setTop (mkF m 64 #[.val (.int p1), .val (.int p2), .val (.ref e1), .val (.ref s1), .val (.int (1 : Int32))] []))
        refine go (fun _ => XS.iconst X350.here hx rfl (hb hby at_64)) ?_
        show Go _ p e below s _ _ _ (T350.setTop (mkF m 65 #[.val (.int p1), .val (.int p2), .val (.ref e1), .val (.ref s1), .val (.int (1 : Int32))] [(.int (1 : Int32))]))
        refine go (fun _ => XS.goto X350.here hx rfl (pc0 := 65) (pc' := 69) rfl (hb hby at_65) (by decide) (by decide)) ?_
        show Go _ p e below s _ _ _ (T350.setTop (mkF m 69 #[.val (.int p1), .val (.int p2), .val (.ref e1), .val (.ref s1), .val (.int (1 : Int32))] [(.int (1 : Int32))]))
        refine goRet X350 hx Bd.notSynchronized Bd.returns rfl (Or.inl ⟨rfl, Or.inr (Or.inl rfl), _, rfl⟩) (hb hby at_69) (by decide) (by decide) (by rw [e350]; refine ⟨rfl, N350⟩)
      · refine go (fun _ => XS.ifYes X344.here hx rfl (pc0 := 32) (pc' := 46) rfl (hb hby at_32) rfl ((if0 _ _).trans (feq hc32_348).2) (by decide) (by decide)) ?_
        show Go _ p e below s _ _ _ (T344.setTop (mkF m 46 #[.val (.int p1), .val (.int p2), .val (.ref e1), .val (.ref s1), .unset] []))
        refine go (fun _ => XS.aloadN X344.here hx rfl (hb hby at_46) rfl rfl) ?_
        show Go _ p e below s _ _ _ (T344.setTop (mkF m 47 #[.val (.int p1), .val (.int p2), .val (.ref e1), .val (.ref s1), .unset] [(.ref s1)]))
        refine go (fun _ => XS.bipush X344.here hx rfl (hb hby at_47)) ?_
        show Go _ p e below s _ _ _ (T344.setTop (mkF m 49 #[.val (.int p1), .val (.int p2), .val (.ref e1), .val (.ref s1), .unset] [(.int (62 : Int32)), (.ref s1)]))
        obtain ⟨_, _, ⟨T351, L351, k351, n351⟩, -, X351, ⟨Lc351, hQ351, l351, y351, z351⟩, st351⟩ := Jvm.LawKit.callS X344 hx (y := (⟨"com/example/reticule/reticule/engine/ComparisonHoldsPinLaw", "has", "(Ljava/lang/String;C)Z"⟩ : MethodName)) hown (mvT hZ (hw _ (List.mem_of_getElem? (i := 15) rfl))) (mvT hZ (hw _ (List.mem_of_getElem? (i := 16) rfl))) (mvT hZ (hw _ (List.mem_of_getElem? (i := 3) rfl))) (mvT hZ (hw _ (List.mem_of_getElem? (i := 17) rfl))) (by decide) (backOf (W := 0) (rm3AT_LEAST62 l Z a0 hw [] s1 w0 f0 v1 k1 (.int 0) h0 n0 Z0 P0 P1 g4 g7 g5 g6 hw0 hf) hZ (hw _ (List.mem_of_getElem? (i := 17) rfl)) (hw _ (List.mem_of_getElem? (i := 3) rfl)) (by decide) (by decide)) (g := (mkF m 49 #[.val (.int p1), .val (.int p2), .val (.ref e1), .val (.ref s1), .unset] [(.int (62 : Int32)), (.ref s1)])) rfl (by rw [hml]; rfl) (argsL := [(.ref s1), (.int (62 : Int32))]) (rest := []) (lenOf pd_0_2 rfl) rfl (by show 2 * 0 + _ ≤ _; exact Nat.le_of_eq rfl) (hb hby at_49) (fun _ _ => ⟨rfl, e344, (by decide : 0 + 0 ≤ _), (by decide : 0 + 0 ≤ _)⟩)
        dsimp only [Pt.U, Pt.locs, Pt.cells, Pt.slots] at X351 l351 y351 z351 st351 hQ351
        subst l351 y351 z351
        obtain ⟨rfl, N351q, e351⟩ := hQ351
        have N351 := Fr.app N344 N351q
        refine go st351 ?_
        show Go _ p e below s _ _ _ (T351.setTop (mkF m 52 #[.val (.int p1), .val (.int p2), .val (.ref e1), .val (.ref s1), .unset] [(.int (1 : Int32))]))
        refine go (fun _ => XS.istore X351.here hx rfl (hb hby at_52) rfl (l' := #[.val (.int p1), .val (.int p2), .val (.ref e1), .val (.ref s1), .val (.int (1 : Int32))]) rfl) ?_
        show Go _ p e below s _ _ _ (T351.setTop (mkF m 54 #[.val (.int p1), .val (.int p2), .val (.ref e1), .val (.ref s1), .val (.int (1 : Int32))] []))
        refine go (fun _ => XS.aloadN X351.here hx rfl (hb hby at_54) rfl rfl) ?_
        show Go _ p e below s _ _ _ (T351.setTop (mkF m 55 #[.val (.int p1), .val (.int p2), .val (.ref e1), .val (.ref s1), .val (.int (1 : Int32))] [(.ref e1)]))
        refine go (fun _ => XS.iloadN X351.here hx rfl (hb hby at_55) rfl) ?_
        show Go _ p e below s _ _ _ (T351.setTop (mkF m 56 #[.val (.int p1), .val (.int p2), .val (.ref e1), .val (.ref s1), .val (.int (1 : Int32))] [(.int p2), (.ref e1)]))
        obtain ⟨cq352, kq352, q352a, q352b, q352c⟩ := isOf hZ e351 g2
        obtain ⟨_, _, ⟨T352, L352, k352, n352⟩, -, X352, ⟨Lc352, hQ352, l352, y352, z352⟩, st352⟩ := X351.virtualBack hx (y := (⟨"com/example/reticule/reticule/engine/Comparison", "holds", "(I)Z"⟩ : MethodName)) (z := (⟨"com/example/reticule/reticule/engine/Comparison", "holds", "(I)Z"⟩ : MethodName)) hown (mvT hZ (hw _ (List.mem_of_getElem? (i := 56) rfl))) (mvT hZ (hw _ (List.mem_of_getElem? (i := 57) rfl))) (notFace_of_selects (args := #[]) (mvT hZ (hw _ (List.mem_of_getElem? (i := 59) rfl)))) (mvT hZ (hw _ (List.mem_of_getElem? (i := 59) rfl))) (mvT hZ (hw _ (List.mem_of_getElem? (i := 58) rfl))) (by decide) (backOf (W := 0) (rm11AT_LEAST l Z a0 hw [] e1 p2 h0 n0 Z0 g2 g8) hZ (hw _ (List.mem_of_getElem? (i := 60) rfl)) (hw _ (List.mem_of_getElem? (i := 6) rfl)) (by decide) (by decide)) q352a q352c (g := (mkF m 56 #[.val (.int p1), .val (.int p2), .val (.ref e1), .val (.ref s1), .val (.int (1 : Int32))] [(.int p2), (.ref e1)])) rfl (by rw [hml]; rfl) (Steps.refl _) (argsL := [(.int p2)]) (rest := []) (lenOf pd_0_3 rfl) rfl (by show 2 * 0 + _ ≤ _; exact Nat.le_of_eq rfl) (hb hby at_56) (fun _ _ => ⟨rfl, e351, (by decide : 0 + 0 ≤ _), (by decide : 0 + 0 ≤ _)⟩)
        dsimp only [Pt.U, Pt.locs, Pt.cells, Pt.slots] at X352 l352 y352 z352 st352 hQ352
        subst l352 y352 z352
        obtain ⟨rfl, N352q, e352⟩ := hQ352
        have N352 := Fr.app N351 N352q
        refine goT st352 ?_
        show Go _ p e below s _ _ _ (T352.setTop (mkF m 59 #[.val (.int p1), .val (.int p2), .val (.ref e1), .val (.ref s1), .val (.int (1 : Int32))] [(.int (own_c5 p2))]))
        refine go (fun _ => XS.iload X352.here hx rfl (hb hby at_59) rfl) ?_
        show Go _ p e below s _ _ _ (T352.setTop (mkF m 61 #[.val (.int p1), .val (.int p2), .val (.ref e1), .val (.ref s1), .val (.int (1 : Int32))] [(.int (1 : Int32)), (.int (own_c5 p2))]))
        refine go (fun _ => XS.icmpNo X352.here hx rfl (hb hby at_61) rfl (teq (by unfold own_c5; rw [if_neg hc17_345])).2) ?_
        show Go _ p e below s _ _ _ (T352.setTop (mkF m 64 #[.val (.int p1), .val (.int p2), .val (.ref e1), .val (.ref s1), .val (.int (1 : Int32))] []))
        refine go (fun _ => XS.iconst X352.here hx rfl (hb hby at_64)) ?_
        show Go _ p e below s _ _ _ (T352.setTop (mkF m 65 #[.val (.int p1), .val (.int p2), .val (.ref e1), .val (.ref s1), .val (.int (1 : Int32))] [(.int (1 : Int32))]))
        refine go (fun _ => XS.goto X352.here hx rfl (pc0 := 65) (pc' := 69) rfl (hb hby at_65) (by decide) (by decide)) ?_
        show Go _ p e below s _ _ _ (T352.setTop (mkF m 69 #[.val (.int p1), .val (.int p2), .val (.ref e1), .val (.ref s1), .val (.int (1 : Int32))] [(.int (1 : Int32))]))
        refine goRet X352 hx Bd.notSynchronized Bd.returns rfl (Or.inl ⟨rfl, Or.inr (Or.inl rfl), _, rfl⟩) (hb hby at_69) (by decide) (by decide) (by rw [e352]; refine ⟨rfl, N352⟩)
set_option maxRecDepth 65536 in
set_option maxHeartbeats 40000000 in
theorem comes_1 {Post : Tables → Env → Array Value → State → Outcome → State → Prop} (hpost : ∀ tb e args s v u, (limb_1_1.after args s (.returned v) u = true ∧ limb_1_2.after args s (.returned v) u = true ∧ True) → FrameEnd s (.returned v) u (Jvm.fieldLocs frame_1_writes args s ++ Jvm.arrayLocs frame_1_arrays args s ++ Jvm.staticLocs frame_1_statics s) 0 0 → Post tb e args s (.returned v) u) :
    ArmFor flags0 classFile x code maxLocals ret World_1 tables_1 room_1 Calls_1 rest_1 Pre_1 Post := by
  intro l hfl _ _ p e ha hc hk s m args below hf hA hF happ hP
  obtain ⟨hcalls, hrest, hpre⟩ := hP
  obtain ⟨-, -, -, hnamed, -, -, -, hat⟩ := (Spec.applies_iff hf).mp happ
  obtain ⟨hg, hn⟩ := and_e (Cond.before_iff.mp (show (Jvm.Cond.and given_1 narrow_1).before args s = true from hpre))
  obtain ⟨q0, r0⟩ := and_e hg
  obtain ⟨q1, r1⟩ := and_e r0
  obtain ⟨w0, w1, rfl⟩ : ∃ w0 w1 : Value, args = #[w0, w1] := by
    have hs : args.size = 2 := by simpa [Cond.value, given_1] using q0
    obtain ⟨L⟩ := args
    match L, hs with
    | [w0, w1], _ => exact ⟨w0, w1, rfl⟩
  have hw := fun d (hd : d ∈ tables_1) => atoms_spec (ws := Jvm.Cond.code x code maxLocals ret :: tables_1) hat d (List.mem_cons_of_mem _ hd)
  have hfit : Fit s := fun {y c} hc i hi => by
    obtain ⟨ha, rfl⟩ := Array.getElem?_eq_some_iff.mp hc
    have q := List.all_eq_true.mp ((Array.all_eq_true_iff_forall_mem.mp hF) _ (Array.getElem_mem ha)) i (List.mem_range.mpr hi)
    simpa [Array.getElem?_eq_getElem hi] using q
  obtain ⟨hsets, hown0⟩ := atoms_of _ (rest_1_c_eq ▸ (show rest_1_c.before _ s = true from hrest))
  obtain ⟨i0, ei0⟩ := is_v q1
  obtain rfl : w0 = (.int i0) := Option.some.inj ei0
  obtain ⟨i1, ei1⟩ := is_v r1
  obtain rfl : w1 = (.int i1) := Option.some.inj ei1
  obtain ⟨m0, u0⟩ := and_e hn
  obtain ⟨m1, u1⟩ := and_e u0
  obtain ⟨m2, u2⟩ := and_e u1
  obtain ⟨m3, u3⟩ := and_e u2
  obtain ⟨m4, u4⟩ := and_e u3
  obtain ⟨m5, u5⟩ := and_e u4
  obtain ⟨m6, u6⟩ := and_e u5
  obtain ⟨m7, u7⟩ := and_e u6
  obtain ⟨m8, u8⟩ := and_e u7
  obtain ⟨m9, u9⟩ := and_e u8
  obtain ⟨m10, u10⟩ := and_e u9
  obtain ⟨m11, u11⟩ := and_e u10
  obtain ⟨m12, u12⟩ := and_e u11
  obtain ⟨m13, u13⟩ := and_e u12
  obtain ⟨m14, u14⟩ := and_e u13
  obtain ⟨m15, u15⟩ := and_e u14
  obtain ⟨m16, u16⟩ := and_e u15
  obtain ⟨m17, u17⟩ := and_e u16
  obtain ⟨m18, u18⟩ := and_e u17
  obtain ⟨m19, u19⟩ := and_e u18
  obtain ⟨m20, u20⟩ := and_e u19
  obtain ⟨m21, u21⟩ := and_e u20
  obtain ⟨m22, u22⟩ := and_e u21
  obtain ⟨m23, u23⟩ := and_e u22
  obtain ⟨m24, u24⟩ := and_e u23
  obtain ⟨m25, u25⟩ := and_e u24
  obtain ⟨m26, u26⟩ := and_e u25
  obtain ⟨m27, u27⟩ := and_e u26
  obtain ⟨m28, u28⟩ := and_e u27
  obtain ⟨m29, u29⟩ := and_e u28
  obtain ⟨m30, u30⟩ := and_e u29
  obtain ⟨m31, u31⟩ := and_e u30
  obtain ⟨m32, u32⟩ := and_e u31
  obtain ⟨m33, u33⟩ := and_e u32
  obtain ⟨m34, u34⟩ := and_e u33
  obtain ⟨m35, u35⟩ := and_e u34
  obtain ⟨m36, u36⟩ := and_e u35
  obtain ⟨m37, u37⟩ := and_e u36
  obtain ⟨m38, u38⟩ := and_e u37
  obtain ⟨m39, u39⟩ := and_e u38
  obtain ⟨m40, u40⟩ := and_e u39
  obtain ⟨m41, u41⟩ := and_e u40
  obtain ⟨m42, u42⟩ := and_e u41
  obtain ⟨m43, u43⟩ := and_e u42
  have K0 : own_K s s.heap "EQUAL" (0 : Int32) (1 : Int32) [(.int (61 : Int32))] := by
    obtain ⟨e1, v1⟩ := exa_v m0
    obtain ⟨e2, v2⟩ := exa_v m1
    obtain ⟨e3, v3⟩ := arr_v m2
    obtain ⟨c3, A3⟩ := Arr.start v3 m2
    obtain ⟨l1, l2⟩ := own_len v3 A3 m3
    exact ⟨e1, e2, e3, _, Sta.start v1 (Or.inr ⟨(hw _ (List.mem_of_getElem? (i := 6) rfl)), (hw _ (List.mem_of_getElem? (i := 7) rfl))⟩), Exa.start v1 m0, own_fR v1 v2, Exa.start v2 m1, own_fR v2 v3, Arv.start hfit A3 l1 l2 (by decide) (by decide) ⟨own_el v3 A3 m5, trivial⟩, own_fI v2 m4, own_fI v1 m6⟩
  have K2 : own_K s s.heap "LESS" (2 : Int32) (1 : Int32) [(.int (60 : Int32))] := by
    obtain ⟨e1, v1⟩ := exa_v m7
    obtain ⟨e2, v2⟩ := exa_v m8
    obtain ⟨e3, v3⟩ := arr_v m9
    obtain ⟨c3, A3⟩ := Arr.start v3 m9
    obtain ⟨l1, l2⟩ := own_len v3 A3 m10
    exact ⟨e1, e2, e3, _, Sta.start v1 (Or.inr ⟨(hw _ (List.mem_of_getElem? (i := 6) rfl)), (hw _ (List.mem_of_getElem? (i := 71) rfl))⟩), Exa.start v1 m7, own_fR v1 v2, Exa.start v2 m8, own_fR v2 v3, Arv.start hfit A3 l1 l2 (by decide) (by decide) ⟨own_el v3 A3 m12, trivial⟩, own_fI v2 m11, own_fI v1 m13⟩
  have K4 : own_K s s.heap "GREATER" (4 : Int32) (1 : Int32) [(.int (62 : Int32))] := by
    obtain ⟨e1, v1⟩ := exa_v m14
    obtain ⟨e2, v2⟩ := exa_v m15
    obtain ⟨e3, v3⟩ := arr_v m16
    obtain ⟨c3, A3⟩ := Arr.start v3 m16
    obtain ⟨l1, l2⟩ := own_len v3 A3 m17
    exact ⟨e1, e2, e3, _, Sta.start v1 (Or.inr ⟨(hw _ (List.mem_of_getElem? (i := 6) rfl)), (hw _ (List.mem_of_getElem? (i := 73) rfl))⟩), Exa.start v1 m14, own_fR v1 v2, Exa.start v2 m15, own_fR v2 v3, Arv.start hfit A3 l1 l2 (by decide) (by decide) ⟨own_el v3 A3 m19, trivial⟩, own_fI v2 m18, own_fI v1 m20⟩
  have K1 : own_K s s.heap "DIFFERENT" (1 : Int32) (2 : Int32) [(.int (60 : Int32)), (.int (62 : Int32))] := by
    obtain ⟨e1, v1⟩ := exa_v m21
    obtain ⟨e2, v2⟩ := exa_v m22
    obtain ⟨e3, v3⟩ := arr_v m23
    obtain ⟨c3, A3⟩ := Arr.start v3 m23
    obtain ⟨l1, l2⟩ := own_len v3 A3 m24
    exact ⟨e1, e2, e3, _, Sta.start v1 (Or.inr ⟨(hw _ (List.mem_of_getElem? (i := 6) rfl)), (hw _ (List.mem_of_getElem? (i := 75) rfl))⟩), Exa.start v1 m21, own_fR v1 v2, Exa.start v2 m22, own_fR v2 v3, Arv.start hfit A3 l1 l2 (by decide) (by decide) ⟨own_el v3 A3 m26, own_el v3 A3 m27, trivial⟩, own_fI v2 m25, own_fI v1 m28⟩
  have K5 : own_K s s.heap "AT_LEAST" (5 : Int32) (2 : Int32) [(.int (62 : Int32)), (.int (61 : Int32))] := by
    obtain ⟨e1, v1⟩ := exa_v m29
    obtain ⟨e2, v2⟩ := exa_v m30
    obtain ⟨e3, v3⟩ := arr_v m31
    obtain ⟨c3, A3⟩ := Arr.start v3 m31
    obtain ⟨l1, l2⟩ := own_len v3 A3 m32
    exact ⟨e1, e2, e3, _, Sta.start v1 (Or.inr ⟨(hw _ (List.mem_of_getElem? (i := 6) rfl)), (hw _ (List.mem_of_getElem? (i := 77) rfl))⟩), Exa.start v1 m29, own_fR v1 v2, Exa.start v2 m30, own_fR v2 v3, Arv.start hfit A3 l1 l2 (by decide) (by decide) ⟨own_el v3 A3 m34, own_el v3 A3 m35, trivial⟩, own_fI v2 m33, own_fI v1 m36⟩
  have K3 : own_K s s.heap "AT_MOST" (3 : Int32) (2 : Int32) [(.int (60 : Int32)), (.int (61 : Int32))] := by
    obtain ⟨e1, v1⟩ := exa_v m37
    obtain ⟨e2, v2⟩ := exa_v m38
    obtain ⟨e3, v3⟩ := arr_v m39
    obtain ⟨c3, A3⟩ := Arr.start v3 m39
    obtain ⟨l1, l2⟩ := own_len v3 A3 m40
    exact ⟨e1, e2, e3, _, Sta.start v1 (Or.inr ⟨(hw _ (List.mem_of_getElem? (i := 6) rfl)), (hw _ (List.mem_of_getElem? (i := 79) rfl))⟩), Exa.start v1 m37, own_fR v1 v2, Exa.start v2 m38, own_fR v2 v3, Arv.start hfit A3 l1 l2 (by decide) (by decide) ⟨own_el v3 A3 m42, own_el v3 A3 m43, trivial⟩, own_fI v2 m41, own_fI v1 u43⟩
  obtain ⟨w0, ew0⟩ := is_v (Cond.before_iff.mp (hsets _ (List.mem_of_getElem? (i := 1) rfl)))
  have hw0 : ¬ w0 = 0 := own_neI (Cond.before_iff.mp (hsets _ (List.mem_of_getElem? (i := 2) rfl))) ew0
  have S0 : Sta s s.heap "java/lang/String" "COMPACT_STRINGS" "Z" (.int w0) := Sta.start ew0 (Or.inl (hsets _ (List.mem_of_getElem? (i := 0) rfl)))
  obtain ⟨f0, ef0, hf0⟩ := isR_v (Cond.before_iff.mp (hsets _ (List.mem_of_getElem? (i := 8) rfl)))
  have S1 : Sta s s.heap "jdk/internal/util/Preconditions" "SIOOBE_FORMATTER" "Ljava/util/function/BiFunction;" f0 := Sta.start ef0 (Or.inl (hsets _ (List.mem_of_getElem? (i := 7) rfl)))
  obtain ⟨n, o, h1, h2, h3, _, L, rfl, ⟨rfl, N⟩, hq⟩ := rm0 l s _ hw tables_1 i0 i1 w0 f0 s.heap s.heap.size (Nat.le_refl _) S0 S1 hw0 hf0 K0 K1 K2 K3 K4 K5 p e ha hc hk s m _ below hf ((Spec.applies_iff_loose hf).mp happ).1 ⟨rfl, State.Warmed39.refl s, rfl⟩ trivial
  refine ⟨n, _, h1, h2, h3, hpost _ _ _ _ _ _ ⟨Cond.after_iff.mpr rfl, Cond.after_iff.mpr (eq_i res_at (Term.int_eval (1)) rfl), trivial⟩ ⟨hq.1, hq.2.1, (hq.2.2.sift fun y hy => Or.inr (N y hy)).mono (by decide) (by decide)⟩⟩
theorem main_1_1 : Claimed_1_1 := comes_1 fun _ _ _ _ _ _ h hF => ⟨h.1, hF⟩
theorem main_1_2 : Claimed_1_2 := comes_1 fun _ _ _ _ _ _ h hF => ⟨h.2.1, hF⟩
end Jvm.Pilot.@@N@@
namespace Jvm.Pilot.@@N@@
open Jvm Jvm.ClassFile Sem Op Lib Jvm.Free Jvm.Stand Jvm.Pilot.@@N@@.Jvm.D
/-! MADE BY PROGRAM (witnessworld.py) out of the Statement's table words and the real class files: 18 classes; the members and pool entries that the words name. The judged class is class 1, her method 3. -/
namespace start1
open Jvm.ClassFile
def u (s : String) : CpInfo := .utf8 (stringToUtf16 s)
/-- a pool by its gaps: so many unusable entries, then the entry; so many at the end -/
def gap : Nat → List CpInfo → List CpInfo
  | 0, r => r
  | n + 1, r => .unusable :: gap n r
def poolList (es : List (Nat × CpInfo)) (last : Nat) : List CpInfo := es.foldr (fun e r => gap e.1 (e.2 :: r)) (gap last [])
def pool (es : List (Nat × CpInfo)) (last : Nat) : Array CpInfo := ⟨poolList es last⟩
def fileOf (pool : Array CpInfo) (this : Nat) (attrs : Array Attribute := #[]) (ms : Array MethodInfo := #[]) (fl : Nat := 33) (sup : Nat := 0) (ifs : Array Nat := #[]) (fds : Array FieldInfo := #[]) : ClassFile where
  minorVersion := 0
  majorVersion := 65
  constantPool := pool
  accessFlags := fl
  thisClass := this
  superClass := sup
  interfaces := ifs
  fields := fds
  methods := ms
  attributes := attrs
def plain (name : String) (sup : Option ClassId) : Class where
  name := name
  kind := .ordinary
  loader := none
  accessFlags := 33
  super := sup
  interfaces := #[]
  cf := none
  fields := #[]
  methods := #[]
  instanceTypes := #[]
  staticTypes := #[]
  resolved := #[]
  callSites := []
  init := .initialized
  statics := none
  mirror := none

def pool0 : Array CpInfo := pool [(5, u "<init>"), (0, u "()V"), (1, .class_ 10), (1, u "java/lang/Object")] 113

def k0m0 : Method := { name := "<init>", desc := "()V", sig := { parameters := [], returnType := none }, accessFlags := 1, code := none }
/-- java/lang/Object -/
def k0 : Class := { plain "java/lang/Object" none with
  accessFlags := 33
  interfaces := #[]
  cf := some (fileOf pool0 8 #[] #[{ accessFlags := 1, nameIndex := 5, descriptorIndex := 6, attributes := #[] }] 33 0 #[] #[])
  fields := #[]
  methods := #[k0m0]
  instanceTypes := #[]
  staticTypes := #[]
  resolved := Array.replicate 124 none
  statics := none }

def pool1 : Array CpInfo := pool [(2, .class_ 4), (1, u "java/lang/Object"), (0, u "<init>"), (0, u "()V"), (0, .fieldref 8 9), (0, .class_ 10), (0, .nameAndType 11 12), (0, u "com/example/reticule/reticule/engine/Comparison"), (0, u "EQUAL"), (0, u "Lcom/example/reticule/reticule/engine/Comparison;"), (0, .fieldref 8 14), (0, .nameAndType 15 12), (0, u "DIFFERENT"), (0, .fieldref 8 17), (0, .nameAndType 18 12), (0, u "LESS"), (0, .fieldref 8 20), (0, .nameAndType 21 12), (0, u "AT_MOST"), (0, .fieldref 8 23), (0, .nameAndType 24 12), (0, u "GREATER"), (0, .fieldref 8 26), (0, .nameAndType 27 12), (0, u "AT_LEAST"), (0, .methodref 29 30), (0, .class_ 31), (0, .nameAndType 32 33), (0, u "java/lang/String"), (0, u "length"), (0, u "()I"), (0, .methodref 29 35), (0, .nameAndType 36 37), (0, u "charAt"), (0, u "(I)C"), (0, .integer 2147483647), (0, .methodref 40 41), (0, .class_ 42), (0, .nameAndType 43 44), (0, u "com/example/reticule/reticule/engine/ComparisonHoldsPinLaw"), (0, u "pick"), (0, u "(I)Lcom/example/reticule/reticule/engine/Comparison;"), (0, .methodref 8 46), (0, .nameAndType 47 48), (0, u "functionName"), (0, u "()Ljava/lang/String;"), (0, .methodref 40 50), (0, .nameAndType 51 52), (0, u "has"), (0, u "(Ljava/lang/String;C)Z"), (0, .methodref 8 54), (0, .nameAndType 55 56), (0, u "holds"), (0, u "(I)Z"), (3, u "law"), (0, u "(II)Z")] 2

def k1m0 : Method := { name := "<init>", desc := "()V", sig := { parameters := [], returnType := none }, accessFlags := 2, code := none }
def k1c1 : Code := { maxStack := 2, maxLocals := 1, code := method_2_code, exceptionTable := #[], attributes := #[] }
def k1m1 : Method := { name := "pick", desc := "(I)Lcom/example/reticule/reticule/engine/Comparison;", sig := { parameters := [.int], returnType := some (.object "com/example/reticule/reticule/engine/Comparison") }, accessFlags := 10, code := some k1c1 }
def k1c2 : Code := { maxStack := 2, maxLocals := 4, code := method_3_code, exceptionTable := #[], attributes := #[] }
def k1m2 : Method := { name := "has", desc := "(Ljava/lang/String;C)Z", sig := { parameters := [(.object "java/lang/String"), .char], returnType := some .boolean }, accessFlags := 10, code := some k1c2 }
def k1c3 : Code := { maxStack := 2, maxLocals := 5, code := code, exceptionTable := #[], attributes := #[] }
def k1m3 : Method := { name := "law", desc := "(II)Z", sig := { parameters := [.int, .int], returnType := some .boolean }, accessFlags := 9, code := some k1c3 }
/-- com/example/reticule/reticule/engine/ComparisonHoldsPinLaw -/
def k1 : Class := { plain "com/example/reticule/reticule/engine/ComparisonHoldsPinLaw" (some 0) with
  accessFlags := 49
  interfaces := #[]
  cf := some (fileOf pool1 40 #[] #[{ accessFlags := 2, nameIndex := 5, descriptorIndex := 6, attributes := #[] }, { accessFlags := 10, nameIndex := 43, descriptorIndex := 44, attributes := #[] }, { accessFlags := 10, nameIndex := 51, descriptorIndex := 52, attributes := #[] }, { accessFlags := 9, nameIndex := 60, descriptorIndex := 61, attributes := #[] }] 49 2 #[] #[])
  fields := #[]
  methods := #[k1m0, k1m1, k1m2, k1m3]
  instanceTypes := #[]
  staticTypes := #[]
  resolved := Array.replicate 64 none
  statics := none }

def pool2 : Array CpInfo := pool [(1, .class_ 2), (0, u "java/lang/constant/Constable"), (0, .class_ 4), (0, u "java/lang/Object")] 6

/-- java/lang/constant/Constable -/
def k2 : Class := { plain "java/lang/constant/Constable" (some 0) with
  accessFlags := 1537
  interfaces := #[]
  cf := some (fileOf pool2 1 #[] #[] 1537 3 #[] #[])
  fields := #[]
  methods := #[]
  instanceTypes := #[]
  staticTypes := #[]
  resolved := Array.replicate 11 none
  statics := none }

def pool3 : Array CpInfo := pool [(1, .class_ 2), (0, u "java/lang/Comparable"), (0, .class_ 4), (0, u "java/lang/Object")] 7

/-- java/lang/Comparable -/
def k3 : Class := { plain "java/lang/Comparable" (some 0) with
  accessFlags := 1537
  interfaces := #[]
  cf := some (fileOf pool3 1 #[] #[] 1537 3 #[] #[])
  fields := #[]
  methods := #[]
  instanceTypes := #[]
  staticTypes := #[]
  resolved := Array.replicate 12 none
  statics := none }

def pool4 : Array CpInfo := pool [(1, .class_ 2), (0, u "java/io/Serializable"), (0, .class_ 4), (0, u "java/lang/Object")] 2

/-- java/io/Serializable -/
def k4 : Class := { plain "java/io/Serializable" (some 0) with
  accessFlags := 1537
  interfaces := #[]
  cf := some (fileOf pool4 1 #[] #[] 1537 3 #[] #[])
  fields := #[]
  methods := #[]
  instanceTypes := #[]
  staticTypes := #[]
  resolved := Array.replicate 7 none
  statics := none }

def pool5 : Array CpInfo := pool [(2, .class_ 4), (1, u "java/lang/Enum"), (0, u "name"), (0, u "Ljava/lang/String;"), (0, .fieldref 2 8), (0, .nameAndType 9 10), (0, u "ordinal"), (0, u "I"), (1, .class_ 14), (1, u "java/lang/Object"), (4, u "hash"), (86, .class_ 108), (1, u "java/lang/Enum$EnumDesc"), (2, .class_ 112), (0, u "java/lang/constant/Constable"), (0, .class_ 114), (0, u "java/lang/Comparable"), (0, .class_ 116), (0, u "java/io/Serializable"), (9, u "()I")] 77

def k5c0 : Code := { maxStack := 1, maxLocals := 1, code := jdk_37_method_2_code, exceptionTable := #[], attributes := #[] }
def k5m0 : Method := { name := "ordinal", desc := "()I", sig := { parameters := [], returnType := some .int }, accessFlags := 17, code := some k5c0 }
/-- java/lang/Enum -/
def k5 : Class := { plain "java/lang/Enum" (some 0) with
  accessFlags := 1057
  interfaces := #[2, 3, 4]
  cf := some (fileOf pool5 2 #[.nestMembers #[106]] #[{ accessFlags := 17, nameIndex := 9, descriptorIndex := 126, attributes := #[] }] 1057 12 #[111, 113, 115] #[{ accessFlags := 18, nameIndex := 5, descriptorIndex := 6, attributes := #[] }, { accessFlags := 18, nameIndex := 9, descriptorIndex := 10, attributes := #[] }, { accessFlags := 2, nameIndex := 19, descriptorIndex := 10, attributes := #[] }])
  fields := #[{ name := "name", type := (.object "java/lang/String"), accessFlags := 18, slot := 0, constantValue := 0 }, { name := "ordinal", type := .int, accessFlags := 18, slot := 1, constantValue := 0 }, { name := "hash", type := .int, accessFlags := 2, slot := 2, constantValue := 0 }]
  methods := #[k5m0]
  instanceTypes := #[(.object "java/lang/String"), .int, .int]
  staticTypes := #[]
  resolved := Array.replicate 204 none
  statics := none }

def pool6 : Array CpInfo := pool [(1, .class_ 2), (0, u "com/example/reticule/reticule/engine/Comparison"), (2, u "EQUAL"), (0, u "Lcom/example/reticule/reticule/engine/Comparison;"), (2, u "DIFFERENT"), (2, u "LESS"), (2, u "AT_MOST"), (2, u "GREATER"), (2, u "AT_LEAST"), (2, u "$VALUES"), (0, u "[Lcom/example/reticule/reticule/engine/Comparison;"), (6, .class_ 34), (1, u "java/lang/Enum"), (6, .fieldref 1 42), (0, .nameAndType 43 44), (0, u "functionName"), (0, u "Ljava/lang/String;"), (0, .methodref 1 46), (0, .nameAndType 47 48), (0, u "ordinal"), (0, u "()I"), (7, u "holds"), (0, u "(I)Z"), (32, u "()Ljava/lang/String;")] 12

def k6c0 : Code := { maxStack := 1, maxLocals := 1, code := prog_28_method_4_code, exceptionTable := #[], attributes := #[] }
def k6m0 : Method := { name := "functionName", desc := "()Ljava/lang/String;", sig := { parameters := [], returnType := some (.object "java/lang/String") }, accessFlags := 0, code := some k6c0 }
def k6c1 : Code := { maxStack := 4, maxLocals := 2, code := prog_28_method_5_code, exceptionTable := #[], attributes := #[] }
def k6m1 : Method := { name := "holds", desc := "(I)Z", sig := { parameters := [.int], returnType := some .boolean }, accessFlags := 0, code := some k6c1 }
/-- com/example/reticule/reticule/engine/Comparison -/
def k6 : Class := { plain "com/example/reticule/reticule/engine/Comparison" (some 5) with
  accessFlags := 16432
  interfaces := #[]
  cf := some (fileOf pool6 1 #[] #[{ accessFlags := 0, nameIndex := 43, descriptorIndex := 90, attributes := #[] }, { accessFlags := 0, nameIndex := 56, descriptorIndex := 57, attributes := #[] }] 16432 32 #[] #[{ accessFlags := 16409, nameIndex := 5, descriptorIndex := 6, attributes := #[] }, { accessFlags := 16409, nameIndex := 9, descriptorIndex := 6, attributes := #[] }, { accessFlags := 16409, nameIndex := 12, descriptorIndex := 6, attributes := #[] }, { accessFlags := 16409, nameIndex := 15, descriptorIndex := 6, attributes := #[] }, { accessFlags := 16409, nameIndex := 18, descriptorIndex := 6, attributes := #[] }, { accessFlags := 16409, nameIndex := 21, descriptorIndex := 6, attributes := #[] }, { accessFlags := 18, nameIndex := 43, descriptorIndex := 44, attributes := #[] }, { accessFlags := 4122, nameIndex := 24, descriptorIndex := 25, attributes := #[] }])
  fields := #[{ name := "EQUAL", type := (.object "com/example/reticule/reticule/engine/Comparison"), accessFlags := 16409, slot := 0, constantValue := 0 }, { name := "DIFFERENT", type := (.object "com/example/reticule/reticule/engine/Comparison"), accessFlags := 16409, slot := 1, constantValue := 0 }, { name := "LESS", type := (.object "com/example/reticule/reticule/engine/Comparison"), accessFlags := 16409, slot := 2, constantValue := 0 }, { name := "AT_MOST", type := (.object "com/example/reticule/reticule/engine/Comparison"), accessFlags := 16409, slot := 3, constantValue := 0 }, { name := "GREATER", type := (.object "com/example/reticule/reticule/engine/Comparison"), accessFlags := 16409, slot := 4, constantValue := 0 }, { name := "AT_LEAST", type := (.object "com/example/reticule/reticule/engine/Comparison"), accessFlags := 16409, slot := 5, constantValue := 0 }, { name := "functionName", type := (.object "java/lang/String"), accessFlags := 18, slot := 3, constantValue := 0 }, { name := "$VALUES", type := (.array (.object "com/example/reticule/reticule/engine/Comparison")), accessFlags := 4122, slot := 6, constantValue := 0 }]
  methods := #[k6m0, k6m1]
  instanceTypes := #[(.object "java/lang/String"), .int, .int, (.object "java/lang/String")]
  staticTypes := #[(.object "com/example/reticule/reticule/engine/Comparison"), (.object "com/example/reticule/reticule/engine/Comparison"), (.object "com/example/reticule/reticule/engine/Comparison"), (.object "com/example/reticule/reticule/engine/Comparison"), (.object "com/example/reticule/reticule/engine/Comparison"), (.object "com/example/reticule/reticule/engine/Comparison"), (.array (.object "com/example/reticule/reticule/engine/Comparison"))]
  resolved := Array.replicate 103 none
  statics := some 0 }

def pool7 : Array CpInfo := pool [(2, .class_ 4), (1, u "java/lang/CharSequence"), (42, .class_ 48), (0, u "java/lang/CharSequence$1CodePointIterator"), (10, .class_ 60), (0, u "java/lang/CharSequence$1CharIterator"), (5, .class_ 67), (0, u "java/lang/Object")] 63

/-- java/lang/CharSequence -/
def k7 : Class := { plain "java/lang/CharSequence" (some 0) with
  accessFlags := 1537
  interfaces := #[]
  cf := some (fileOf pool7 2 #[.nestMembers #[47, 59]] #[] 1537 66 #[] #[])
  fields := #[]
  methods := #[]
  instanceTypes := #[]
  staticTypes := #[]
  resolved := Array.replicate 131 none
  statics := none }

def pool8 : Array CpInfo := pool [(1, .class_ 2), (0, u "java/lang/constant/ConstantDesc"), (0, .class_ 4), (0, u "java/lang/Object")] 32

/-- java/lang/constant/ConstantDesc -/
def k8 : Class := { plain "java/lang/constant/ConstantDesc" (some 0) with
  accessFlags := 1537
  interfaces := #[]
  cf := some (fileOf pool8 1 #[] #[] 1537 3 #[] #[])
  fields := #[]
  methods := #[]
  instanceTypes := #[]
  staticTypes := #[]
  resolved := Array.replicate 37 none
  statics := none }

def pool9 : Array CpInfo := pool [(2, .class_ 4), (1, u "java/lang/Object"), (0, u "<init>"), (0, u "()V"), (2, .fieldref 10 11), (0, .class_ 12), (0, .nameAndType 13 14), (0, u "java/lang/String"), (0, u "value"), (0, u "[B"), (0, .fieldref 10 16), (0, .nameAndType 17 18), (0, u "coder"), (0, u "B"), (2, u "hash"), (0, u "I"), (2, u "hashIsZero"), (0, u "Z"), (11, .fieldref 10 39), (0, .nameAndType 40 26), (0, u "COMPACT_STRINGS"), (66, .class_ 109), (1, u "java/lang/StringLatin1"), (32, u "()Z"), (191, u "()I"), (0, .methodref 10 336), (0, .nameAndType 17 337), (0, u "()B"), (25, u "([BI)C"), (27, u "(II)V"), (35, u "(I)C"), (64, .methodref 10 493), (0, .nameAndType 494 142), (0, u "isLatin1"), (0, .methodref 107 496), (0, .nameAndType 497 363), (0, u "charAt"), (3, u "checkIndex"), (5, u "length"), (67, .class_ 576), (0, u "java/lang/CharSequence"), (22, u "CASE_INSENSITIVE_ORDER"), (0, u "Ljava/util/Comparator;"), (452, .fieldref 1054 1055), (0, .class_ 1056), (0, .nameAndType 1057 1058), (0, u "jdk/internal/util/Preconditions"), (0, u "SIOOBE_FORMATTER"), (0, u "Ljava/util/function/BiFunction;"), (0, .methodref 1054 1060), (0, .nameAndType 501 1061), (0, u "(IILjava/util/function/BiFunction;)I"), (39, u "serialPersistentFields"), (0, u "[Ljava/io/ObjectStreamField;"), (0, .class_ 1104), (0, u "java/lang/String$CaseInsensitiveComparator"), (1, .class_ 1107), (0, u "java/io/Serializable"), (0, .class_ 1109), (0, u "java/lang/Comparable"), (0, .class_ 1111), (0, u "java/lang/constant/Constable"), (0, .class_ 1113), (0, u "java/lang/constant/ConstantDesc"), (2, u "serialVersionUID"), (0, u "J"), (3, u "REPL"), (0, u "C"), (2, u "LATIN1"), (1, u "UTF16")] 323

def k9m0 : Method := { name := "<init>", desc := "()V", sig := { parameters := [], returnType := none }, accessFlags := 1, code := none }
def k9c1 : Code := { maxStack := 2, maxLocals := 1, code := jdk_42_method_54_code, exceptionTable := #[], attributes := #[] }
def k9m1 : Method := { name := "length", desc := "()I", sig := { parameters := [], returnType := some .int }, accessFlags := 1, code := some k9c1 }
def k9c2 : Code := { maxStack := 2, maxLocals := 2, code := jdk_42_method_56_code, exceptionTable := #[], attributes := #[] }
def k9m2 : Method := { name := "charAt", desc := "(I)C", sig := { parameters := [.int], returnType := some .char }, accessFlags := 1, code := some k9c2 }
def k9c3 : Code := { maxStack := 1, maxLocals := 1, code := jdk_42_method_152_code, exceptionTable := #[], attributes := #[] }
def k9m3 : Method := { name := "coder", desc := "()B", sig := { parameters := [], returnType := some .byte }, accessFlags := 0, code := some k9c3 }
def k9c4 : Code := { maxStack := 1, maxLocals := 1, code := jdk_42_method_154_code, exceptionTable := #[], attributes := #[] }
def k9m4 : Method := { name := "isLatin1", desc := "()Z", sig := { parameters := [], returnType := some .boolean }, accessFlags := 0, code := some k9c4 }
def k9c5 : Code := { maxStack := 3, maxLocals := 2, code := jdk_42_method_155_code, exceptionTable := #[], attributes := #[] }
def k9m5 : Method := { name := "checkIndex", desc := "(II)V", sig := { parameters := [.int, .int], returnType := none }, accessFlags := 8, code := some k9c5 }
/-- java/lang/String -/
def k9 : Class := { plain "java/lang/String" (some 0) with
  accessFlags := 49
  interfaces := #[4, 3, 7, 2, 8]
  cf := some (fileOf pool9 10 #[.nestMembers #[1103]] #[{ accessFlags := 1, nameIndex := 5, descriptorIndex := 6, attributes := #[] }, { accessFlags := 1, nameIndex := 507, descriptorIndex := 334, attributes := #[] }, { accessFlags := 1, nameIndex := 497, descriptorIndex := 427, attributes := #[] }, { accessFlags := 0, nameIndex := 17, descriptorIndex := 337, attributes := #[] }, { accessFlags := 0, nameIndex := 494, descriptorIndex := 142, attributes := #[] }, { accessFlags := 8, nameIndex := 501, descriptorIndex := 391, attributes := #[] }] 49 2 #[1106, 1108, 575, 1110, 1112] #[{ accessFlags := 18, nameIndex := 13, descriptorIndex := 14, attributes := #[] }, { accessFlags := 18, nameIndex := 17, descriptorIndex := 18, attributes := #[] }, { accessFlags := 2, nameIndex := 21, descriptorIndex := 22, attributes := #[] }, { accessFlags := 2, nameIndex := 25, descriptorIndex := 26, attributes := #[] }, { accessFlags := 26, nameIndex := 1116, descriptorIndex := 1117, attributes := #[] }, { accessFlags := 24, nameIndex := 40, descriptorIndex := 26, attributes := #[] }, { accessFlags := 26, nameIndex := 1101, descriptorIndex := 1102, attributes := #[] }, { accessFlags := 26, nameIndex := 1121, descriptorIndex := 1122, attributes := #[] }, { accessFlags := 25, nameIndex := 599, descriptorIndex := 600, attributes := #[] }, { accessFlags := 24, nameIndex := 1125, descriptorIndex := 18, attributes := #[] }, { accessFlags := 24, nameIndex := 1127, descriptorIndex := 18, attributes := #[] }])
  fields := #[{ name := "value", type := (.array .byte), accessFlags := 18, slot := 0, constantValue := 0 }, { name := "coder", type := .byte, accessFlags := 18, slot := 1, constantValue := 0 }, { name := "hash", type := .int, accessFlags := 2, slot := 2, constantValue := 0 }, { name := "hashIsZero", type := .boolean, accessFlags := 2, slot := 3, constantValue := 0 }, { name := "serialVersionUID", type := .long, accessFlags := 26, slot := 0, constantValue := 0 }, { name := "COMPACT_STRINGS", type := .boolean, accessFlags := 24, slot := 1, constantValue := 0 }, { name := "serialPersistentFields", type := (.array (.object "java/io/ObjectStreamField")), accessFlags := 26, slot := 2, constantValue := 0 }, { name := "REPL", type := .char, accessFlags := 26, slot := 3, constantValue := 0 }, { name := "CASE_INSENSITIVE_ORDER", type := (.object "java/util/Comparator"), accessFlags := 25, slot := 4, constantValue := 0 }, { name := "LATIN1", type := .byte, accessFlags := 24, slot := 5, constantValue := 0 }, { name := "UTF16", type := .byte, accessFlags := 24, slot := 6, constantValue := 0 }]
  methods := #[k9m0, k9m1, k9m2, k9m3, k9m4, k9m5]
  instanceTypes := #[(.array .byte), .byte, .int, .boolean]
  staticTypes := #[.long, .boolean, (.array (.object "java/io/ObjectStreamField")), .char, (.object "java/util/Comparator"), .byte, .byte]
  resolved := Array.replicate 1451 none
  statics := some 1 }

def pool10 : Array CpInfo := pool [(1, .class_ 2), (0, u "java/lang/String"), (1, .class_ 6), (1, u "java/lang/Object"), (0, u "<init>"), (0, u "()V"), (0, .methodref 1 10), (0, .nameAndType 11 12), (0, u "checkIndex"), (0, u "(II)V"), (1, .class_ 16), (1, u "java/lang/StringLatin1"), (36, u "([BI)C"), (67, u "$assertionsDisabled"), (0, u "Z"), (98, .class_ 223), (1, u "java/lang/StringLatin1$LinesSpliterator"), (28, u "charAt"), (137, .class_ 391), (0, u "java/lang/StringLatin1$CharsSpliterator")] 3

def k10m0 : Method := { name := "<init>", desc := "()V", sig := { parameters := [], returnType := none }, accessFlags := 0, code := none }
def k10c1 : Code := { maxStack := 2, maxLocals := 2, code := jdk_43_method_2_code, exceptionTable := #[], attributes := #[] }
def k10m1 : Method := { name := "charAt", desc := "([BI)C", sig := { parameters := [(.array .byte), .int], returnType := some .char }, accessFlags := 9, code := some k10c1 }
/-- java/lang/StringLatin1 -/
def k10 : Class := { plain "java/lang/StringLatin1" (some 0) with
  accessFlags := 48
  interfaces := #[]
  cf := some (fileOf pool10 14 #[.nestMembers #[390, 221]] #[{ accessFlags := 0, nameIndex := 7, descriptorIndex := 8, attributes := #[] }, { accessFlags := 9, nameIndex := 252, descriptorIndex := 53, attributes := #[] }] 48 4 #[] #[{ accessFlags := 4120, nameIndex := 121, descriptorIndex := 122, attributes := #[] }])
  fields := #[{ name := "$assertionsDisabled", type := .boolean, accessFlags := 4120, slot := 0, constantValue := 0 }]
  methods := #[k10m0, k10m1]
  instanceTypes := #[]
  staticTypes := #[.boolean]
  resolved := Array.replicate 395 none
  statics := none }

def pool11 : Array CpInfo := pool [(2, .class_ 4), (1, u "java/lang/Object"), (0, u "<init>"), (0, u "()V"), (17, .class_ 26), (1, u "jdk/internal/util/Preconditions"), (6, u "checkIndex"), (21, .class_ 56), (0, u "jdk/internal/util/Preconditions$4"), (57, .class_ 115), (0, u "jdk/internal/util/Preconditions$1"), (7, u "SIOOBE_FORMATTER"), (0, u "Ljava/util/function/BiFunction;"), (0, .class_ 126), (0, u "jdk/internal/util/Preconditions$2"), (3, u "AIOOBE_FORMATTER"), (0, .class_ 132), (0, u "jdk/internal/util/Preconditions$3"), (3, u "IOOBE_FORMATTER"), (41, u "(IILjava/util/function/BiFunction;)I")] 15

def k11m0 : Method := { name := "<init>", desc := "()V", sig := { parameters := [], returnType := none }, accessFlags := 1, code := none }
def k11c1 : Code := { maxStack := 3, maxLocals := 3, code := jdk_41_method_11_code, exceptionTable := #[], attributes := #[] }
def k11m1 : Method := { name := "checkIndex", desc := "(IILjava/util/function/BiFunction;)I", sig := { parameters := [.int, .int, (.object "java/util/function/BiFunction")], returnType := some .int }, accessFlags := 9, code := some k11c1 }
/-- jdk/internal/util/Preconditions -/
def k11 : Class := { plain "jdk/internal/util/Preconditions" (some 0) with
  accessFlags := 33
  interfaces := #[]
  cf := some (fileOf pool11 24 #[.nestMembers #[55, 131, 125, 114]] #[{ accessFlags := 1, nameIndex := 5, descriptorIndex := 6, attributes := #[] }, { accessFlags := 9, nameIndex := 33, descriptorIndex := 178, attributes := #[] }] 33 2 #[] #[{ accessFlags := 25, nameIndex := 123, descriptorIndex := 124, attributes := #[] }, { accessFlags := 25, nameIndex := 130, descriptorIndex := 124, attributes := #[] }, { accessFlags := 25, nameIndex := 136, descriptorIndex := 124, attributes := #[] }])
  fields := #[{ name := "SIOOBE_FORMATTER", type := (.object "java/util/function/BiFunction"), accessFlags := 25, slot := 0, constantValue := 0 }, { name := "AIOOBE_FORMATTER", type := (.object "java/util/function/BiFunction"), accessFlags := 25, slot := 1, constantValue := 0 }, { name := "IOOBE_FORMATTER", type := (.object "java/util/function/BiFunction"), accessFlags := 25, slot := 2, constantValue := 0 }]
  methods := #[k11m0, k11m1]
  instanceTypes := #[]
  staticTypes := #[(.object "java/util/function/BiFunction"), (.object "java/util/function/BiFunction"), (.object "java/util/function/BiFunction")]
  resolved := Array.replicate 194 none
  statics := some 2 }

def pool12 : Array CpInfo := pool [(9, u "<init>"), (6, .class_ 18), (1, u "java/lang/Object"), (0, u "()V"), (1, .class_ 23), (1, u "jdk/internal/util/ArraysSupport"), (0, u "LOG2_ARRAY_LONG_INDEX_SCALE"), (0, u "I"), (2, u "U"), (0, u "Ljdk/internal/misc/Unsafe;"), (8, u "BIG_ENDIAN"), (0, u "Z"), (8, u "LOG2_BYTE_BIT_SIZE"), (4, u "LOG2_ARRAY_INT_INDEX_SCALE"), (54, u "JLA"), (0, u "Ljdk/internal/access/JavaLangAccess;"), (11, u "LOG2_ARRAY_BOOLEAN_INDEX_SCALE"), (9, u "LOG2_ARRAY_BYTE_INDEX_SCALE"), (5, u "LOG2_ARRAY_CHAR_INDEX_SCALE"), (5, u "LOG2_ARRAY_SHORT_INDEX_SCALE"), (18, u "LOG2_ARRAY_FLOAT_INDEX_SCALE"), (24, u "LOG2_ARRAY_DOUBLE_INDEX_SCALE"), (89, u "T_BOOLEAN"), (2, u "T_CHAR"), (1, u "T_FLOAT"), (1, u "T_DOUBLE"), (1, u "T_BYTE"), (1, u "T_SHORT"), (1, u "T_INT"), (1, u "T_LONG"), (1, u "SOFT_MAX_ARRAY_LENGTH")] 83

def k12m0 : Method := { name := "<init>", desc := "()V", sig := { parameters := [], returnType := none }, accessFlags := 2, code := none }
/-- jdk/internal/util/ArraysSupport -/
def k12 : Class := { plain "jdk/internal/util/ArraysSupport" (some 0) with
  accessFlags := 33
  interfaces := #[]
  cf := some (fileOf pool12 21 #[] #[{ accessFlags := 2, nameIndex := 9, descriptorIndex := 19, attributes := #[] }] 33 16 #[] #[{ accessFlags := 24, nameIndex := 28, descriptorIndex := 29, attributes := #[] }, { accessFlags := 26, nameIndex := 38, descriptorIndex := 39, attributes := #[] }, { accessFlags := 25, nameIndex := 121, descriptorIndex := 25, attributes := #[] }, { accessFlags := 25, nameIndex := 131, descriptorIndex := 25, attributes := #[] }, { accessFlags := 25, nameIndex := 137, descriptorIndex := 25, attributes := #[] }, { accessFlags := 25, nameIndex := 143, descriptorIndex := 25, attributes := #[] }, { accessFlags := 25, nameIndex := 53, descriptorIndex := 25, attributes := #[] }, { accessFlags := 25, nameIndex := 24, descriptorIndex := 25, attributes := #[] }, { accessFlags := 25, nameIndex := 162, descriptorIndex := 25, attributes := #[] }, { accessFlags := 25, nameIndex := 187, descriptorIndex := 25, attributes := #[] }, { accessFlags := 26, nameIndex := 48, descriptorIndex := 25, attributes := #[] }, { accessFlags := 25, nameIndex := 277, descriptorIndex := 25, attributes := #[] }, { accessFlags := 25, nameIndex := 280, descriptorIndex := 25, attributes := #[] }, { accessFlags := 25, nameIndex := 282, descriptorIndex := 25, attributes := #[] }, { accessFlags := 25, nameIndex := 284, descriptorIndex := 25, attributes := #[] }, { accessFlags := 25, nameIndex := 286, descriptorIndex := 25, attributes := #[] }, { accessFlags := 25, nameIndex := 288, descriptorIndex := 25, attributes := #[] }, { accessFlags := 25, nameIndex := 290, descriptorIndex := 25, attributes := #[] }, { accessFlags := 25, nameIndex := 292, descriptorIndex := 25, attributes := #[] }, { accessFlags := 26, nameIndex := 108, descriptorIndex := 109, attributes := #[] }, { accessFlags := 25, nameIndex := 294, descriptorIndex := 25, attributes := #[] }])
  fields := #[{ name := "U", type := (.object "jdk/internal/misc/Unsafe"), accessFlags := 24, slot := 0, constantValue := 0 }, { name := "BIG_ENDIAN", type := .boolean, accessFlags := 26, slot := 1, constantValue := 0 }, { name := "LOG2_ARRAY_BOOLEAN_INDEX_SCALE", type := .int, accessFlags := 25, slot := 2, constantValue := 0 }, { name := "LOG2_ARRAY_BYTE_INDEX_SCALE", type := .int, accessFlags := 25, slot := 3, constantValue := 0 }, { name := "LOG2_ARRAY_CHAR_INDEX_SCALE", type := .int, accessFlags := 25, slot := 4, constantValue := 0 }, { name := "LOG2_ARRAY_SHORT_INDEX_SCALE", type := .int, accessFlags := 25, slot := 5, constantValue := 0 }, { name := "LOG2_ARRAY_INT_INDEX_SCALE", type := .int, accessFlags := 25, slot := 6, constantValue := 0 }, { name := "LOG2_ARRAY_LONG_INDEX_SCALE", type := .int, accessFlags := 25, slot := 7, constantValue := 0 }, { name := "LOG2_ARRAY_FLOAT_INDEX_SCALE", type := .int, accessFlags := 25, slot := 8, constantValue := 0 }, { name := "LOG2_ARRAY_DOUBLE_INDEX_SCALE", type := .int, accessFlags := 25, slot := 9, constantValue := 0 }, { name := "LOG2_BYTE_BIT_SIZE", type := .int, accessFlags := 26, slot := 10, constantValue := 0 }, { name := "T_BOOLEAN", type := .int, accessFlags := 25, slot := 11, constantValue := 0 }, { name := "T_CHAR", type := .int, accessFlags := 25, slot := 12, constantValue := 0 }, { name := "T_FLOAT", type := .int, accessFlags := 25, slot := 13, constantValue := 0 }, { name := "T_DOUBLE", type := .int, accessFlags := 25, slot := 14, constantValue := 0 }, { name := "T_BYTE", type := .int, accessFlags := 25, slot := 15, constantValue := 0 }, { name := "T_SHORT", type := .int, accessFlags := 25, slot := 16, constantValue := 0 }, { name := "T_INT", type := .int, accessFlags := 25, slot := 17, constantValue := 0 }, { name := "T_LONG", type := .int, accessFlags := 25, slot := 18, constantValue := 0 }, { name := "JLA", type := (.object "jdk/internal/access/JavaLangAccess"), accessFlags := 26, slot := 19, constantValue := 0 }, { name := "SOFT_MAX_ARRAY_LENGTH", type := .int, accessFlags := 25, slot := 20, constantValue := 0 }]
  methods := #[k12m0]
  instanceTypes := #[]
  staticTypes := #[(.object "jdk/internal/misc/Unsafe"), .boolean, .int, .int, .int, .int, .int, .int, .int, .int, .int, .int, .int, .int, .int, .int, .int, .int, .int, (.object "jdk/internal/access/JavaLangAccess"), .int]
  resolved := Array.replicate 378 none
  statics := none }

def pool13 : Array CpInfo := pool [(1, u "java/lang/Cloneable"), (0, .class_ 1), (0, u "java/lang/Object"), (0, .class_ 3)] 3

/-- java/lang/Cloneable -/
def k13 : Class := { plain "java/lang/Cloneable" (some 0) with
  accessFlags := 1537
  interfaces := #[]
  cf := some (fileOf pool13 2 #[] #[] 1537 4 #[] #[])
  fields := #[]
  methods := #[]
  instanceTypes := #[]
  staticTypes := #[]
  resolved := Array.replicate 8 none
  statics := none }

/-- the primitive byte -/
def k14 : Class := { plain "byte" none with kind := .primitive 'B', accessFlags := 0x411 }
/-- [B -/
def k15 : Class := { plain "[B" (some 0) with kind := .array 14 .byte, interfaces := #[13, 4], accessFlags := 1041 }

/-- the primitive int -/
def k16 : Class := { plain "int" none with kind := .primitive 'I', accessFlags := 0x411 }
/-- [I -/
def k17 : Class := { plain "[I" (some 0) with kind := .array 16 .int, interfaces := #[13, 4], accessFlags := 1041 }

def heap : Heap := #[{ cls := 6, slots := #[.ref 5, .ref 8, .ref 11, .ref 14, .ref 17, .ref 20, .null], vm := .statics 6 },
  { cls := 9, slots := #[.long 0, .int 1, .null, .int 0, .null, .int 0, .int 0], vm := .statics 9 },
  { cls := 11, slots := #[.null, .null, .null], vm := .statics 11 },
  { cls := 15, slots := #[.int 61], vm := .none },
  { cls := 9, slots := #[.ref 3, .int 0, .int 0, .int 0], vm := .none },
  { cls := 6, slots := #[.null, .int 0, .int 0, .ref 4], vm := .none },
  { cls := 15, slots := #[.int 60, .int 62], vm := .none },
  { cls := 9, slots := #[.ref 6, .int 0, .int 0, .int 0], vm := .none },
  { cls := 6, slots := #[.null, .int 1, .int 0, .ref 7], vm := .none },
  { cls := 15, slots := #[.int 60], vm := .none },
  { cls := 9, slots := #[.ref 9, .int 0, .int 0, .int 0], vm := .none },
  { cls := 6, slots := #[.null, .int 2, .int 0, .ref 10], vm := .none },
  { cls := 15, slots := #[.int 60, .int 61], vm := .none },
  { cls := 9, slots := #[.ref 12, .int 0, .int 0, .int 0], vm := .none },
  { cls := 6, slots := #[.null, .int 3, .int 0, .ref 13], vm := .none },
  { cls := 15, slots := #[.int 62], vm := .none },
  { cls := 9, slots := #[.ref 15, .int 0, .int 0, .int 0], vm := .none },
  { cls := 6, slots := #[.null, .int 4, .int 0, .ref 16], vm := .none },
  { cls := 15, slots := #[.int 62, .int 61], vm := .none },
  { cls := 9, slots := #[.ref 18, .int 0, .int 0, .int 0], vm := .none },
  { cls := 6, slots := #[.null, .int 5, .int 0, .ref 19], vm := .none }]
def classes : Array Class := #[k0, k1, k2, k3, k4, k5, k6, k7, k8, k9, k10, k11, k12, k13, k14, k15, k16, k17]
def interned : List (Array UInt16 × Addr) := []
def slotsUsed : Nat := 74
def theMethod : MethodId := ⟨1, 3⟩
def args0 : Array Value := #[.int 5, .int 7]
def aboutOver (below : List Frame) : State where
  vm := { classes := classes, interned := interned.toArray }
  heap := heap
  slotsUsed := slotsUsed
  threads := #[{ frames := .invoking theMethod args0 :: below }]
def below0 : List Frame := [.native { method := ⟨0, 0⟩, args := #[] }]
def about1 : State := aboutOver below0
def p0 : Program := .bare "" "" ""
def e0 : Env := launch0.env 0 0 0
theorem w_frames : about1.frames = Frame.invoking theMethod args0 :: below0 := rfl
set_option maxRecDepth 65536 in
theorem w_args : argsFit about1.vm theMethod args0 = true := by decide +kernel
set_option maxRecDepth 65536 in
theorem w_heap : heapFits about1 = true := by decide +kernel
set_option maxRecDepth 65536 in
theorem w_runnable : about1.curStatus? = some .runnable := by decide +kernel
set_option maxRecDepth 65536 in
theorem w_alone : about1.alone = true := by decide +kernel
set_option maxRecDepth 65536 in
theorem w_named : about1.methodNamed? x = some theMethod := by decide +kernel
set_option maxRecDepth 65536 in
theorem w_hears : about1.hears theMethod below0 = true := by decide +kernel
set_option maxRecDepth 65536 in
theorem w_ripe : about1.ripe theMethod args0 below0 = true := by decide +kernel
theorem w_running : about1.status = .running := rfl
set_option maxRecDepth 65536 in
theorem w_room : about1.hasRoom e0.platform room_1 = true :=
  launch0.hasRoom_least _ room_1 (by decide +kernel) (by decide +kernel) (by decide +kernel) (by decide +kernel) (by decide +kernel) (by decide +kernel)
theorem allAtoms_all (ts : List Jvm.Cond) (a : Array Jvm.Value) (st : Jvm.State) : (allAtoms ts).before a st = ts.all (fun c => c.before a st) := by
  induction ts with
  | nil => rfl
  | cons c t ih =>
    show (Jvm.Cond.and c (allAtoms t)).before a st = _
    rw [Jvm.Cond.before_and, ih, List.all_cons]
def words1 : List Jvm.Cond := Jvm.Cond.code x code maxLocals ret :: tables_1
/-- a 'code' word, met by the world's own term for the bytes: nothing is compared byte by byte -/
theorem code_word {y : MethodName} {bytes : ByteArray} {mx : Nat} {rt : Option FieldType} {a : Array Value} {s : State} {m : MethodId} {meth : Method} {c : Code} (h1 : s.methodNamed? y = some m) (h2 : s.vm.method? m = some meth) (h3 : meth.code = some c) (h4 : c.code = bytes)
    (h5 : (c.maxLocals == mx && c.exceptionTable.isEmpty && decide (c.maxStack ≤ mostOperands) && decide (meth.sig.returnType = rt) && !meth.locks && decide (parseMethodDescriptor y.desc = some meth.sig)) = true) : (Jvm.Cond.code y bytes mx rt).before a s = true := by
  simp only [Bool.and_eq_true, beq_iff_eq, Bool.not_eq_true', decide_eq_true_eq] at h5
  obtain ⟨⟨⟨⟨⟨g1, g2⟩, g3⟩, g4⟩, g5⟩, g6⟩ := h5
  simp [Cond.before, Cond.holds, Cond.value, h1, h2, h3, h4, g1, g2, g3, g4, g5, g6]
def isCode : Jvm.Cond → Bool
  | .code _ _ _ _ => true
  | _ => false
theorem all_split {L : List Jvm.Cond} {P : Jvm.Cond → Bool} (h1 : L.all (fun c => isCode c || P c) = true) (h2 : ∀ c ∈ L.filter isCode, P c = true) : L.all P = true := by
  refine List.all_eq_true.mpr fun c hc => ?_
  have h := List.all_eq_true.mp h1 c hc
  rcases Bool.eq_false_or_eq_true (isCode c) with hi | hi
  · exact h2 c (List.mem_filter.mpr ⟨hc, hi⟩)
  · simpa [hi] using h
set_option maxRecDepth 65536 in
theorem w_c0 : (Jvm.Cond.code x code maxLocals ret).before args0 about1 = true := code_word (m := ⟨1, 3⟩) (meth := k1m3) (c := k1c3) (by decide +kernel) rfl rfl rfl (by decide +kernel)
set_option maxRecDepth 65536 in
theorem w_c1 : (Jvm.Cond.code ({ cls := "com/example/reticule/reticule/engine/ComparisonHoldsPinLaw", name := "pick", desc := "(I)Lcom/example/reticule/reticule/engine/Comparison;" } : Jvm.MethodName) method_2_code (1 : Nat) (Option.some (Jvm.ClassFile.FieldType.object "com/example/reticule/reticule/engine/Comparison"))).before args0 about1 = true := code_word (m := ⟨1, 1⟩) (meth := k1m1) (c := k1c1) (by decide +kernel) rfl rfl rfl (by decide +kernel)
set_option maxRecDepth 65536 in
theorem w_c2 : (Jvm.Cond.code ({ cls := "com/example/reticule/reticule/engine/Comparison", name := "functionName", desc := "()Ljava/lang/String;" } : Jvm.MethodName) prog_28_method_4_code (1 : Nat) (Option.some (Jvm.ClassFile.FieldType.object "java/lang/String"))).before args0 about1 = true := code_word (m := ⟨6, 0⟩) (meth := k6m0) (c := k6c0) (by decide +kernel) rfl rfl rfl (by decide +kernel)
set_option maxRecDepth 65536 in
theorem w_c3 : (Jvm.Cond.code ({ cls := "com/example/reticule/reticule/engine/ComparisonHoldsPinLaw", name := "has", desc := "(Ljava/lang/String;C)Z" } : Jvm.MethodName) method_3_code (4 : Nat) (Option.some Jvm.ClassFile.FieldType.boolean)).before args0 about1 = true := code_word (m := ⟨1, 2⟩) (meth := k1m2) (c := k1c2) (by decide +kernel) rfl rfl rfl (by decide +kernel)
set_option maxRecDepth 65536 in
theorem w_c4 : (Jvm.Cond.code ({ cls := "java/lang/String", name := "length", desc := "()I" } : Jvm.MethodName) jdk_42_method_54_code (1 : Nat) (Option.some Jvm.ClassFile.FieldType.int)).before args0 about1 = true := code_word (m := ⟨9, 1⟩) (meth := k9m1) (c := k9c1) (by decide +kernel) rfl rfl rfl (by decide +kernel)
set_option maxRecDepth 65536 in
theorem w_c5 : (Jvm.Cond.code ({ cls := "java/lang/String", name := "coder", desc := "()B" } : Jvm.MethodName) jdk_42_method_152_code (1 : Nat) (Option.some Jvm.ClassFile.FieldType.byte)).before args0 about1 = true := code_word (m := ⟨9, 3⟩) (meth := k9m3) (c := k9c3) (by decide +kernel) rfl rfl rfl (by decide +kernel)
set_option maxRecDepth 65536 in
theorem w_c6 : (Jvm.Cond.code ({ cls := "java/lang/String", name := "charAt", desc := "(I)C" } : Jvm.MethodName) jdk_42_method_56_code (2 : Nat) (Option.some Jvm.ClassFile.FieldType.char)).before args0 about1 = true := code_word (m := ⟨9, 2⟩) (meth := k9m2) (c := k9c2) (by decide +kernel) rfl rfl rfl (by decide +kernel)
set_option maxRecDepth 65536 in
theorem w_c7 : (Jvm.Cond.code ({ cls := "java/lang/String", name := "isLatin1", desc := "()Z" } : Jvm.MethodName) jdk_42_method_154_code (1 : Nat) (Option.some Jvm.ClassFile.FieldType.boolean)).before args0 about1 = true := code_word (m := ⟨9, 4⟩) (meth := k9m4) (c := k9c4) (by decide +kernel) rfl rfl rfl (by decide +kernel)
set_option maxRecDepth 65536 in
theorem w_c8 : (Jvm.Cond.code ({ cls := "java/lang/StringLatin1", name := "charAt", desc := "([BI)C" } : Jvm.MethodName) jdk_43_method_2_code (2 : Nat) (Option.some Jvm.ClassFile.FieldType.char)).before args0 about1 = true := code_word (m := ⟨10, 1⟩) (meth := k10m1) (c := k10c1) (by decide +kernel) rfl rfl rfl (by decide +kernel)
set_option maxRecDepth 65536 in
theorem w_c9 : (Jvm.Cond.code ({ cls := "java/lang/String", name := "checkIndex", desc := "(II)V" } : Jvm.MethodName) jdk_42_method_155_code (2 : Nat) (Option.none : Option Jvm.ClassFile.FieldType)).before args0 about1 = true := code_word (m := ⟨9, 5⟩) (meth := k9m5) (c := k9c5) (by decide +kernel) rfl rfl rfl (by decide +kernel)
set_option maxRecDepth 65536 in
theorem w_c10 : (Jvm.Cond.code ({ cls := "jdk/internal/util/Preconditions", name := "checkIndex", desc := "(IILjava/util/function/BiFunction;)I" } : Jvm.MethodName) jdk_41_method_11_code (3 : Nat) (Option.some Jvm.ClassFile.FieldType.int)).before args0 about1 = true := code_word (m := ⟨11, 1⟩) (meth := k11m1) (c := k11c1) (by decide +kernel) rfl rfl rfl (by decide +kernel)
set_option maxRecDepth 65536 in
theorem w_c11 : (Jvm.Cond.code ({ cls := "com/example/reticule/reticule/engine/Comparison", name := "holds", desc := "(I)Z" } : Jvm.MethodName) prog_28_method_5_code (2 : Nat) (Option.some Jvm.ClassFile.FieldType.boolean)).before args0 about1 = true := code_word (m := ⟨6, 1⟩) (meth := k6m1) (c := k6c1) (by decide +kernel) rfl rfl rfl (by decide +kernel)
set_option maxRecDepth 65536 in
theorem w_c12 : (Jvm.Cond.code ({ cls := "java/lang/Enum", name := "ordinal", desc := "()I" } : Jvm.MethodName) jdk_37_method_2_code (1 : Nat) (Option.some Jvm.ClassFile.FieldType.int)).before args0 about1 = true := code_word (m := ⟨5, 0⟩) (meth := k5m0) (c := k5c0) (by decide +kernel) rfl rfl rfl (by decide +kernel)
def codes1 : List Jvm.Cond := [Jvm.Cond.code x code maxLocals ret, Jvm.Cond.code ({ cls := "com/example/reticule/reticule/engine/ComparisonHoldsPinLaw", name := "pick", desc := "(I)Lcom/example/reticule/reticule/engine/Comparison;" } : Jvm.MethodName) method_2_code (1 : Nat) (Option.some (Jvm.ClassFile.FieldType.object "com/example/reticule/reticule/engine/Comparison")), Jvm.Cond.code ({ cls := "com/example/reticule/reticule/engine/Comparison", name := "functionName", desc := "()Ljava/lang/String;" } : Jvm.MethodName) prog_28_method_4_code (1 : Nat) (Option.some (Jvm.ClassFile.FieldType.object "java/lang/String")), Jvm.Cond.code ({ cls := "com/example/reticule/reticule/engine/ComparisonHoldsPinLaw", name := "has", desc := "(Ljava/lang/String;C)Z" } : Jvm.MethodName) method_3_code (4 : Nat) (Option.some Jvm.ClassFile.FieldType.boolean), Jvm.Cond.code ({ cls := "java/lang/String", name := "length", desc := "()I" } : Jvm.MethodName) jdk_42_method_54_code (1 : Nat) (Option.some Jvm.ClassFile.FieldType.int), Jvm.Cond.code ({ cls := "java/lang/String", name := "coder", desc := "()B" } : Jvm.MethodName) jdk_42_method_152_code (1 : Nat) (Option.some Jvm.ClassFile.FieldType.byte), Jvm.Cond.code ({ cls := "java/lang/String", name := "charAt", desc := "(I)C" } : Jvm.MethodName) jdk_42_method_56_code (2 : Nat) (Option.some Jvm.ClassFile.FieldType.char), Jvm.Cond.code ({ cls := "java/lang/String", name := "isLatin1", desc := "()Z" } : Jvm.MethodName) jdk_42_method_154_code (1 : Nat) (Option.some Jvm.ClassFile.FieldType.boolean), Jvm.Cond.code ({ cls := "java/lang/StringLatin1", name := "charAt", desc := "([BI)C" } : Jvm.MethodName) jdk_43_method_2_code (2 : Nat) (Option.some Jvm.ClassFile.FieldType.char), Jvm.Cond.code ({ cls := "java/lang/String", name := "checkIndex", desc := "(II)V" } : Jvm.MethodName) jdk_42_method_155_code (2 : Nat) (Option.none : Option Jvm.ClassFile.FieldType), Jvm.Cond.code ({ cls := "jdk/internal/util/Preconditions", name := "checkIndex", desc := "(IILjava/util/function/BiFunction;)I" } : Jvm.MethodName) jdk_41_method_11_code (3 : Nat) (Option.some Jvm.ClassFile.FieldType.int), Jvm.Cond.code ({ cls := "com/example/reticule/reticule/engine/Comparison", name := "holds", desc := "(I)Z" } : Jvm.MethodName) prog_28_method_5_code (2 : Nat) (Option.some Jvm.ClassFile.FieldType.boolean), Jvm.Cond.code ({ cls := "java/lang/Enum", name := "ordinal", desc := "()I" } : Jvm.MethodName) jdk_37_method_2_code (1 : Nat) (Option.some Jvm.ClassFile.FieldType.int)]
set_option maxRecDepth 65536 in
theorem codes_eq : words1.filter isCode = codes1 := rfl
theorem w_codes : ∀ c ∈ words1.filter isCode, c.before args0 about1 = true := by
  rw [codes_eq]
  intro c hc
  simp only [codes1, List.mem_cons, List.not_mem_nil, or_false] at hc
  rcases hc with rfl | rfl | rfl | rfl | rfl | rfl | rfl | rfl | rfl | rfl | rfl | rfl | rfl
  · exact w_c0
  · exact w_c1
  · exact w_c2
  · exact w_c3
  · exact w_c4
  · exact w_c5
  · exact w_c6
  · exact w_c7
  · exact w_c8
  · exact w_c9
  · exact w_c10
  · exact w_c11
  · exact w_c12
set_option maxRecDepth 65536 in
theorem w_t1 : (words1.take 24).all (fun c => isCode c || c.before args0 about1) = true := by decide +kernel
set_option maxRecDepth 65536 in
theorem w_t2 : ((words1.drop 24).take 24).all (fun c => isCode c || c.before args0 about1) = true := by decide +kernel
set_option maxRecDepth 65536 in
theorem w_t3 : (((words1.drop 24).drop 24).take 24).all (fun c => isCode c || c.before args0 about1) = true := by decide +kernel
set_option maxRecDepth 65536 in
theorem w_t4 : (((words1.drop 24).drop 24).drop 24).all (fun c => isCode c || c.before args0 about1) = true := by decide +kernel
theorem w_tables : (allAtoms (Jvm.Cond.code x code maxLocals ret :: tables_1)).before args0 about1 = true := by
  rw [allAtoms_all]
  show words1.all (fun c => c.before args0 about1) = true
  refine all_split ?_ w_codes
  rw [← List.take_append_drop 24 words1, List.all_append, w_t1, ← List.take_append_drop 24 (words1.drop 24), List.all_append, w_t2, ← List.take_append_drop 24 ((words1.drop 24).drop 24), List.all_append, w_t3, w_t4]
  rfl
set_option maxRecDepth 65536 in
theorem w_rest : rest_1_c.before args0 about1 = true := by decide +kernel
set_option maxRecDepth 65536 in
theorem w_case : (Jvm.Cond.and given_1 narrow_1).before args0 about1 = true := by decide +kernel
theorem w_applies : (headSpec (Jvm.Cond.code x code maxLocals ret :: tables_1) room_1).applies x e0.platform about1 = true :=
  (Spec.applies_iff w_frames).mpr ⟨w_running, w_runnable, w_alone, w_named, w_hears, w_ripe, w_room, w_tables⟩
theorem atStart : AtStart classFile x code maxLocals ret World_1 tables_1 room_1 Calls_1 rest_1 Pre_1 launch0 p0 e0 about1 theMethod args0 below0 :=
  ⟨lists_1, trivial, launch0.admits_env _ _ _, launch0.least_env, fairChoices_fair.cas, fairChoices_fair.clock, w_frames, w_args, w_heap, w_applies, trivial, w_rest, w_case⟩
end start1
theorem witness_1 : WitnessClaimed_1 := ⟨start1.p0, start1.e0, start1.about1, start1.theMethod, start1.args0, start1.below0, start1.atStart⟩
end Jvm.Pilot.@@N@@
