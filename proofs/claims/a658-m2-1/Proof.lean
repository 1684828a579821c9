import JvmDerived
import JvmDerived.Pilot.@@N@@Statement
import JvmDerived.Pilot.@@N@@Code
set_option linter.unusedVariables false
set_option linter.unusedSimpArgs false
@@BLOCK:NumsL.lean.txt@@
namespace Jvm.Pilot.@@N@@
open Jvm Jvm.ClassFile Sem Op Lib Jvm.Free Jvm.Stand Jvm.LawKit Jvm.RoadKit Bundle Jvm.Pilot.@@N@@.Jvm.D
section Own
variable {p : Program} {l : Launch} {e : Env} {R : Room} {s : State} {m : MethodId} {args : Array Value} {below : List Frame} {meth : Method} {c : Code} {T : State} {locs : List Loc} {cells slots : Nat}
/-- the walk from the state t ends as the contract Q says; End: the narrow frame or the wide one -/
def Go (End : State → Outcome → State → List Loc → Nat → Nat → Prop) (p : Program) (e : Env) (below : List Frame) (s : State) (rc rs : Nat) (Q : Option Value → Heap → List Loc → Prop) (t : State) : Prop :=
  ∃ s₂ o, Steps p.tables e below t s₂ ∧ s₂.status = .running ∧ Ended s₂ below o ∧ ∃ v L, o = .returned v ∧ Q v s₂.heap L ∧ End s o s₂ L rc rs
variable {End : State → Outcome → State → List Loc → Nat → Nat → Prop}
theorem go {rc rs : Nat} {Q : Option Value → Heap → List Loc → Prop} {t t' : State} (k : ∀ target, Steps p.tables e below t' target → Steps p.tables e below t target) (h : Go End p e below s rc rs Q t') : Go End p e below s rc rs Q t := by
  obtain ⟨s₂, o, h1, h2⟩ := h
  exact ⟨s₂, o, k _ h1, h2⟩
theorem goT {rc rs : Nat} {Q : Option Value → Heap → List Loc → Prop} {t t' : State} (k : Steps p.tables e below t t') (h : Go End p e below s rc rs Q t') : Go End p e below s rc rs Q t := by
  obtain ⟨s₂, o, h1, h2⟩ := h
  exact ⟨s₂, o, k.trans h1, h2⟩
theorem goRet {rc rs : Nat} {Q : Option Value → Heap → List Loc → Prop} (X : Stand p l e R s m args below meth c T locs cells slots) (hx : p.tables.exec = Jvm.exec) (hlk : meth.locks = false) {pc : Nat} {Ls : Array Slot} {w : Value} {t : FieldType} {i : Instr} {rest : List Value} (hret : meth.sig.returnType = some t) (hn : narrow t w = w)
    (hi : (i = .ireturn ∧ (t = .int ∨ t = .boolean ∨ t = .byte ∨ t = .char ∨ t = .short) ∧ ∃ z, w = .int z) ∨ (i = .lreturn ∧ t = .long ∧ ∃ z, w = .long z) ∨ (i = .dreturn ∧ t = .double ∧ ∃ z, w = .double z) ∨ (i = .freturn ∧ t = .float ∧ ∃ z, w = .float z) ∨ (i = .areturn ∧ t.isReference = true ∧ w.isRef = true))
    (hd : decode c.code pc = .ok (i, 1)) (hc : cells ≤ rc) (hs : slots ≤ rs) (hq : Q (some w) T.heap locs) : Go FrameEnd p e below s rc rs Q (T.setTop (mkF m pc Ls (w :: rest))) := by
  obtain ⟨fs, hr, hrun, hended, hW, hsame⟩ := X.leave (v := some w) (fun h => by rw [hret] at h; cases h) hlk
  refine ⟨_, _, retOut X hx hret hn hi hd hr, hrun, hended, _, _, rfl, ?_, ⟨_, rfl⟩, hW, hsame.mono hc hs⟩
  show Q _ T.heap _
  exact hq
theorem goRetN {rc rs : Nat} {Q : Option Value → Heap → List Loc → Prop} (X : Stand p l e R s m args below meth c T locs cells slots) (hx : p.tables.exec = Jvm.exec) (hlk : meth.locks = false) {pc : Nat} {Ls : Array Slot} {z : Int32} {t : FieldType} {rest : List Value} (hret : meth.sig.returnType = some t) (ht : t = .boolean ∨ t = .byte ∨ t = .char ∨ t = .short)
    (hd : decode c.code pc = .ok (.ireturn, 1)) (hc : cells ≤ rc) (hs : slots ≤ rs) (hq : Q (some (.int (nar t z))) T.heap locs) : Go FrameEnd p e below s rc rs Q (T.setTop (mkF m pc Ls (.int z :: rest))) := by
  obtain ⟨fs, hr, hrun, hended, hW, hsame⟩ := X.leave (v := some (.int (nar t z))) (fun h => by rw [hret] at h; cases h) hlk
  refine ⟨_, _, retN X hx hret ht hd hr, hrun, hended, _, _, rfl, ?_, ⟨_, rfl⟩, hW, hsame.mono hc hs⟩
  show Q _ T.heap _
  exact hq
theorem goRet0 {rc rs : Nat} {Q : Option Value → Heap → List Loc → Prop} (X : Stand p l e R s m args below meth c T locs cells slots) (hx : p.tables.exec = Jvm.exec) (hlk : meth.locks = false) {pc : Nat} {Ls : Array Slot} (hret : meth.sig.returnType = none)
    (hd : decode c.code pc = .ok (.return_, 1)) (hc : cells ≤ rc) (hs : slots ≤ rs) (hq : Q none T.heap locs) : Go FrameEnd p e below s rc rs Q (T.setTop (mkF m pc Ls [])) := by
  obtain ⟨fs, hr, hrun, hended, hW, hsame⟩ := X.leave (v := none) (fun _ => rfl) hlk
  refine ⟨_, _, X.returnOut hx hret hd hr, hrun, hended, _, _, rfl, ?_, ⟨_, rfl⟩, hW, hsame.mono hc hs⟩
  show Q _ T.heap _
  exact hq
end Own
def own_e (x2 x3 : Int32) : Int32 := if x2 = 0 then 1 else if x2 = 1 then (if x3 = 0 then 0 else 1) else 0
def own_f (y x4 : Int32) : Int32 := if y = 0 then 0 else if x4 = 0 then 0 else 1
def own_n (y : Int32) : Int32 := if y = 0 then 1 else 0
def own_cr (x2 b : Int32) : Int32 := if x2 = 0 then (if b = 13 then 1 else 0) else 0
def own_lk (x : Int32) : Int32 := if x < 65537 then 0 else 1
def own_step (b : Int32) (x : Int32 × Int32 × Int32 × Int32 × Int32) : Int32 × Int32 × Int32 × Int32 × Int32 :=
  if b = 10 then (x.1 + 1, 0, x.2.2.1, nar .boolean (x.2.2.2.1 ||| own_n (own_e x.2.1 x.2.2.1)), nar .boolean (nar .boolean (own_f (own_e x.2.1 x.2.2.1) x.2.2.2.1) ||| own_lk (x.1 + 1)))
  else (x.1 + 1, x.2.1 + 1, nar .boolean (own_cr x.2.1 b), x.2.2.2.1, nar .boolean (x.2.2.2.2 ||| own_lk (x.1 + 1)))
def own_run (g : Nat → Int32) : Nat → Nat → Int32 × Int32 × Int32 × Int32 × Int32 → Int32 × Int32 × Int32 × Int32 × Int32
  | 0, _, x => x
  | f + 1, k, x => if x.2.2.2.2 = 0 then own_run g f (k + 1) (own_step (g k) x) else x
theorem own_run0 (g : Nat → Int32) (k : Nat) (x : Int32 × Int32 × Int32 × Int32 × Int32) : own_run g 0 k x = x := rfl
theorem own_runT {g : Nat → Int32} {f k : Nat} {x : Int32 × Int32 × Int32 × Int32 × Int32} (h : ¬ x.2.2.2.2 = 0) : own_run g (f + 1) k x = x := if_neg h
theorem own_runS {g : Nat → Int32} {f k : Nat} {x : Int32 × Int32 × Int32 × Int32 × Int32} (h : x.2.2.2.2 = 0) : own_run g (f + 1) k x = own_run g f (k + 1) (own_step (g k) x) := if_pos h
theorem own_os (a1 a2 : Addr) (p3 p4 i : Int32) {s5 : Slot} {v : Int32} (h : One s5) : storeLocals #[.val (.ref a1), .val (.ref a2), .val (.int p3), .val (.int p4), .val (.int i), s5] 5 (.int v) = some #[.val (.ref a1), .val (.ref a2), .val (.int p3), .val (.int p4), .val (.int i), .val (.int v)] := by
  rcases h with rfl | ⟨w, rfl, hw⟩
  · rfl
  · cases w <;> first | rfl | (simp [Value.category] at hw)
theorem own_ge {i t : Int32} {k f : Nat} (hi : i.toInt = (k : Int)) (ht : t.toInt = ((k + f : Nat) : Int)) (hf : f = 0) : ¬ i < t := by rw [Int32.lt_iff_toInt_lt]; omega
theorem own_lt {i t : Int32} {k f : Nat} (hi : i.toInt = (k : Int)) (ht : t.toInt = ((k + (f + 1) : Nat) : Int)) : i < t := by rw [Int32.lt_iff_toInt_lt]; omega
theorem own_in {i z : Int32} {k f : Nat} (hi : i.toInt = (k : Int)) (hz : ((k + (f + 1) : Nat) : Int) ≤ z.toInt) : ¬ i < 0 ∧ i < z := by
  rw [Int32.lt_iff_toInt_lt, Int32.lt_iff_toInt_lt, show (0 : Int32).toInt = 0 from by decide]; omega
theorem own_ix {i : Int32} {k : Nat} (hi : i.toInt = (k : Int)) : i.toNatClampNeg = k := by simp only [Int32.toNatClampNeg, hi]; rfl
theorem own_inc {i z : Int32} {k f : Nat} (hi : i.toInt = (k : Int)) (hz : ((k + (f + 1) : Nat) : Int) ≤ z.toInt) : (i + 1).toInt = ((k + 1 : Nat) : Int) := by
  have := Int32.toInt_lt z
  have h1 : (1 : Int32).toInt = 1 := by decide
  rw [Jvm.Kit.i32_add (by rw [h1]; omega) (by rw [h1]; omega), h1, hi]; rfl
theorem d2_0 : decode prog_37_method_1_code 0 = .ok (.aload_n 0, 1) := by decide +kernel
theorem d2_1 : decode prog_37_method_1_code 1 = .ok (.invokespecial 3, 3) := by decide +kernel
theorem d2_4 : decode prog_37_method_1_code 4 = .ok (.return_, 1) := by decide +kernel
theorem pn_2 : plainName "com/example/dosisbog/dosisbog/HttpRequest$HeadEnd" = true := by first | (simp [plainName, overriddenIn]; done) | decide +kernel
theorem ef_2 (m : MethodId) (a1 : Addr) : entryFrame m #[(.ref a1)] 1 = mkF m 0 #[.val (.ref a1)] [] := by first | (simp [entryFrame, mkF, argsToLocals, Value.category]; done) | rfl
def Q2 (Z : State) (a1 : Addr) (h0 : Heap) (n0 : Nat) (v : Option Value) (h : Heap) (L : List Loc) : Prop := v = none ∧ Fr n0 L ∧ (h = h0)
set_option maxRecDepth 65536 in
set_option maxHeartbeats 40000000 in
theorem rm2 (l : Launch) (Z : State) (a0 : Array Value) (hw : ∀ d ∈ tables_1, d.before a0 Z = true) (ws : List Jvm.Cond) (a1 : Addr) (h0 : Heap) (n0 : Nat) (Z0 : n0 ≤ h0.size)  :
    MetFree l (⟨"com/example/dosisbog/dosisbog/HttpRequest$HeadEnd", "<init>", "()V"⟩ : MethodName) (head1 (Jvm.Cond.code (⟨"com/example/dosisbog/dosisbog/HttpRequest$HeadEnd", "<init>", "()V"⟩ : MethodName) prog_37_method_1_code 1 none :: ws) ({ frames := 1, cells := 0, slots := 0, locals := 12 } : Room)) (fun a U => a = #[(.ref a1)] ∧ Z.Warmed39 U.vm ∧ U.heap = h0) (fun _ _ _ _ _ => True) (fun _ U o U' => ∃ v L, o = .returned v ∧ Q2 Z a1 h0 n0 v U'.heap L ∧ FrameEnd U o U' L ({ frames := 1, cells := 0, slots := 0, locals := 12 } : Room).cells ({ frames := 1, cells := 0, slots := 0, locals := 12 } : Room).slots) := by
  refine MetFree.of_bodySF (plainFor_of_name pn_2) hisR ?_
  intro p e s m args below meth c s₁ Bd hml0 hP hK
  obtain ⟨rfl, hZ, hh⟩ := hP
  have hx := Bd.exec
  have hby := Bd.bytes
  have hml : c.maxLocals = 1 := hml0
  have hown : s.vm.findClass "com/example/dosisbog/dosisbog/HttpRequest$HeadEnd" = some m.cls := findClass_of_methodNamed Bd.named
  have hnm := (name_of_methodNamed Bd.named Bd.method).1
  have X0 : Stand p l e ({ frames := 1, cells := 0, slots := 0, locals := 12 } : Room) s m #[(.ref a1)] below meth c s₁ [] 0 0 := Stand.of_body Bd
  have e0 : s₁.heap = h0 := by rw [← hh, Bd.state]; rfl
  have N0 := Fr.nil n0
  have hS0 : s.Since s.vm 0 := (State.WarmedH.refl s).since 0
  show Go FrameEnd p e below s ({ frames := 1, cells := 0, slots := 0, locals := 12 } : Room).cells ({ frames := 1, cells := 0, slots := 0, locals := 12 } : Room).slots (Q2 Z a1 h0 n0) (s₁.setTop (entryFrame m #[(.ref a1)] 1))
  refine go (fun _ k => castTop (ef_2 m a1) k) ?_
  show Go _ p e below s _ _ _ (s₁.setTop (mkF m 0 #[.val (.ref a1)] []))
  refine go (fun _ => XS.aloadN X0.here hx rfl (hb hby d2_0) rfl rfl) ?_
  show Go _ p e below s _ _ _ (s₁.setTop (mkF m 1 #[.val (.ref a1)] [(.ref a1)]))
  obtain ⟨T2, X2, e2, st2⟩ := initO X0 hx hZ hown (hw _ (List.mem_of_getElem? (i := 15) rfl)) (hw _ (List.mem_of_getElem? (i := 16) rfl)) (hw _ (List.mem_of_getElem? (i := 17) rfl)) e0 (g := (mkF m 1 #[.val (.ref a1)] [(.ref a1)])) rfl (by rw [hml]; rfl) rfl (hb hby d2_1) (by decide) (W := 0) (by show 2 * 0 + _ ≤ _; exact Nat.le_of_eq rfl) (by decide)
  refine go st2 ?_
  show Go _ p e below s _ _ _ (T2.setTop (mkF m 4 #[.val (.ref a1)] []))
  refine goRet0 X2 hx Bd.notSynchronized Bd.returns (hb hby d2_4) (by decide) (by decide) (by rw [e2]; refine ⟨rfl, N0, rfl⟩)
theorem d5_0 : decode prog_37_method_2_code 0 = .ok (.aload_n 0, 1) := by decide +kernel
theorem d5_1 : decode prog_37_method_2_code 1 = .ok (.iconst 0, 1) := by decide +kernel
theorem d5_2 : decode prog_37_method_2_code 2 = .ok (.putfield 9, 3) := by decide +kernel
theorem d5_5 : decode prog_37_method_2_code 5 = .ok (.aload_n 0, 1) := by decide +kernel
theorem d5_6 : decode prog_37_method_2_code 6 = .ok (.iconst 0, 1) := by decide +kernel
theorem d5_7 : decode prog_37_method_2_code 7 = .ok (.putfield 15, 3) := by decide +kernel
theorem d5_10 : decode prog_37_method_2_code 10 = .ok (.aload_n 0, 1) := by decide +kernel
theorem d5_11 : decode prog_37_method_2_code 11 = .ok (.iconst 0, 1) := by decide +kernel
theorem d5_12 : decode prog_37_method_2_code 12 = .ok (.putfield 18, 3) := by decide +kernel
theorem d5_15 : decode prog_37_method_2_code 15 = .ok (.aload_n 0, 1) := by decide +kernel
theorem d5_16 : decode prog_37_method_2_code 16 = .ok (.iconst 0, 1) := by decide +kernel
theorem d5_17 : decode prog_37_method_2_code 17 = .ok (.putfield 22, 3) := by decide +kernel
theorem d5_20 : decode prog_37_method_2_code 20 = .ok (.aload_n 0, 1) := by decide +kernel
theorem d5_21 : decode prog_37_method_2_code 21 = .ok (.iconst 0, 1) := by decide +kernel
theorem d5_22 : decode prog_37_method_2_code 22 = .ok (.putfield 25, 3) := by decide +kernel
theorem d5_25 : decode prog_37_method_2_code 25 = .ok (.return_, 1) := by decide +kernel
theorem pn_5 : plainName "com/example/dosisbog/dosisbog/HttpRequest$HeadEnd" = true := by first | (simp [plainName, overriddenIn]; done) | decide +kernel
theorem ef_5 (m : MethodId) (a1 : Addr) : entryFrame m #[(.ref a1)] 1 = mkF m 0 #[.val (.ref a1)] [] := by first | (simp [entryFrame, mkF, argsToLocals, Value.category]; done) | rfl
def Q5 (Z : State) (a1 : Addr) (y1 : Value) (y2 : Value) (y3 : Value) (y4 : Value) (y5 : Value) (h0 : Heap) (n0 : Nat) (v : Option Value) (h : Heap) (L : List Loc) : Prop := v = none ∧ Fr n0 L ∧ (Keep h0 h [a1]) ∧ (Fld Z h a1 "com/example/dosisbog/dosisbog/HttpRequest$HeadEnd" "looked" "I" (.int (0 : Int32))) ∧ (Fld Z h a1 "com/example/dosisbog/dosisbog/HttpRequest$HeadEnd" "inLine" "I" (.int (0 : Int32))) ∧ (Fld Z h a1 "com/example/dosisbog/dosisbog/HttpRequest$HeadEnd" "carriageReturn" "Z" (.int (0 : Int32))) ∧ (Fld Z h a1 "com/example/dosisbog/dosisbog/HttpRequest$HeadEnd" "requestLine" "Z" (.int (0 : Int32))) ∧ (Fld Z h a1 "com/example/dosisbog/dosisbog/HttpRequest$HeadEnd" "found" "Z" (.int (0 : Int32)))
set_option maxRecDepth 65536 in
set_option maxHeartbeats 40000000 in
theorem rm5 (l : Launch) (Z : State) (a0 : Array Value) (hw : ∀ d ∈ tables_1, d.before a0 Z = true) (ws : List Jvm.Cond) (a1 : Addr) (y1 : Value) (y2 : Value) (y3 : Value) (y4 : Value) (y5 : Value) (h0 : Heap) (n0 : Nat) (Z0 : n0 ≤ h0.size) (P0 : Exa Z h0 a1 "com/example/dosisbog/dosisbog/HttpRequest$HeadEnd") (P1 : n0 ≤ a1) (P2 : Fld Z h0 a1 "com/example/dosisbog/dosisbog/HttpRequest$HeadEnd" "looked" "I" y1) (P3 : Fld Z h0 a1 "com/example/dosisbog/dosisbog/HttpRequest$HeadEnd" "inLine" "I" y2) (P4 : Fld Z h0 a1 "com/example/dosisbog/dosisbog/HttpRequest$HeadEnd" "carriageReturn" "Z" y3) (P5 : Fld Z h0 a1 "com/example/dosisbog/dosisbog/HttpRequest$HeadEnd" "requestLine" "Z" y4) (P6 : Fld Z h0 a1 "com/example/dosisbog/dosisbog/HttpRequest$HeadEnd" "found" "Z" y5) :
    MetFree l (⟨"com/example/dosisbog/dosisbog/HttpRequest$HeadEnd", "reset", "()V"⟩ : MethodName) (head1 (Jvm.Cond.code (⟨"com/example/dosisbog/dosisbog/HttpRequest$HeadEnd", "reset", "()V"⟩ : MethodName) prog_37_method_2_code 1 none :: ws) ({ frames := 0, cells := 0, slots := 0, locals := 0 } : Room)) (fun a U => a = #[(.ref a1)] ∧ Z.Warmed39 U.vm ∧ U.heap = h0) (fun _ _ _ _ _ => True) (fun _ U o U' => ∃ v L, o = .returned v ∧ Q5 Z a1 y1 y2 y3 y4 y5 h0 n0 v U'.heap L ∧ FrameEnd U o U' L ({ frames := 0, cells := 0, slots := 0, locals := 0 } : Room).cells ({ frames := 0, cells := 0, slots := 0, locals := 0 } : Room).slots) := by
  refine MetFree.of_bodySF (plainFor_of_name pn_5) hisR ?_
  intro p e s m args below meth c s₁ Bd hml0 hP hK
  obtain ⟨rfl, hZ, hh⟩ := hP
  have hx := Bd.exec
  have hby := Bd.bytes
  have hml : c.maxLocals = 1 := hml0
  have hown : s.vm.findClass "com/example/dosisbog/dosisbog/HttpRequest$HeadEnd" = some m.cls := findClass_of_methodNamed Bd.named
  have hnm := (name_of_methodNamed Bd.named Bd.method).1
  have X0 : Stand p l e ({ frames := 0, cells := 0, slots := 0, locals := 0 } : Room) s m #[(.ref a1)] below meth c s₁ [] 0 0 := Stand.of_body Bd
  have e0 : s₁.heap = h0 := by rw [← hh, Bd.state]; rfl
  have N0 := Fr.nil n0
  have hS0 : s.Since s.vm 0 := (State.WarmedH.refl s).since 0
  show Go FrameEnd p e below s ({ frames := 0, cells := 0, slots := 0, locals := 0 } : Room).cells ({ frames := 0, cells := 0, slots := 0, locals := 0 } : Room).slots (Q5 Z a1 y1 y2 y3 y4 y5 h0 n0) (s₁.setTop (entryFrame m #[(.ref a1)] 1))
  refine go (fun _ k => castTop (ef_5 m a1) k) ?_
  show Go _ p e below s _ _ _ (s₁.setTop (mkF m 0 #[.val (.ref a1)] []))
  refine go (fun _ => XS.aloadN X0.here hx rfl (hb hby d5_0) rfl rfl) ?_
  show Go _ p e below s _ _ _ (s₁.setTop (mkF m 1 #[.val (.ref a1)] [(.ref a1)]))
  refine go (fun _ => XS.iconst X0.here hx rfl (hb hby d5_1)) ?_
  show Go _ p e below s _ _ _ (s₁.setTop (mkF m 2 #[.val (.ref a1)] [(.int (0 : Int32)), (.ref a1)]))
  obtain ⟨T8, h8, X8, e8, W8, st8⟩ := putF X0 hx hZ hown (host := "") (Or.inl (hw _ (List.mem_of_getElem? (i := 25) rfl))) Via.refl e0 P2 P0 (Or.inl (hw _ (List.mem_of_getElem? (i := 26) rfl))) (hw _ (List.mem_of_getElem? (i := 10) rfl)) (ty := .int) (by decide) rfl rfl (g := (mkF m 2 #[.val (.ref a1)] [(.int (0 : Int32)), (.ref a1)])) rfl rfl (hb hby d5_2)
  have Fw8 := P2.same W8
  have c8_0 := P0.wr W8
  have c8_2 := P3.other W8 (Or.inr (slot_ne (Or.inl (hw _ (List.mem_of_getElem? (i := 28) rfl))) (Or.inl (hw _ (List.mem_of_getElem? (i := 26) rfl))) (by decide) (t := .int) (t' := .int) (by decide) (by decide)))
  have c8_3 := P4.other W8 (Or.inr (slot_ne (Or.inl (hw _ (List.mem_of_getElem? (i := 30) rfl))) (Or.inl (hw _ (List.mem_of_getElem? (i := 26) rfl))) (by decide) (t := .boolean) (t' := .int) (by decide) (by decide)))
  have c8_4 := P5.other W8 (Or.inr (slot_ne (Or.inl (hw _ (List.mem_of_getElem? (i := 38) rfl))) (Or.inl (hw _ (List.mem_of_getElem? (i := 26) rfl))) (by decide) (t := .boolean) (t' := .int) (by decide) (by decide)))
  have c8_5 := P6.other W8 (Or.inr (slot_ne (Or.inl (hw _ (List.mem_of_getElem? (i := 24) rfl))) (Or.inl (hw _ (List.mem_of_getElem? (i := 26) rfl))) (by decide) (t := .boolean) (t' := .int) (by decide) (by decide)))
  have KK8 : Keep h0 h8 [a1] := (Keep.refl h0 [a1]).wr W8 (Or.inl (List.mem_of_getElem? (i := 0) rfl))
  have ZN8 : n0 ≤ h8.size := Nat.le_trans Z0 (Keep.of_wr W8).1
  have NN8 := Fr.snoc X8 N0 P1
  refine go st8 ?_
  show Go _ p e below s _ _ _ (T8.setTop (mkF m 5 #[.val (.ref a1)] []))
  refine go (fun _ => XS.aloadN X8.here hx rfl (hb hby d5_5) rfl rfl) ?_
  show Go _ p e below s _ _ _ (T8.setTop (mkF m 6 #[.val (.ref a1)] [(.ref a1)]))
  refine go (fun _ => XS.iconst X8.here hx rfl (hb hby d5_6)) ?_
  show Go _ p e below s _ _ _ (T8.setTop (mkF m 7 #[.val (.ref a1)] [(.int (0 : Int32)), (.ref a1)]))
  obtain ⟨T9, h9, X9, e9, W9, st9⟩ := putF X8 hx hZ hown (host := "") (Or.inl (hw _ (List.mem_of_getElem? (i := 27) rfl))) Via.refl e8 c8_2 c8_0 (Or.inl (hw _ (List.mem_of_getElem? (i := 28) rfl))) (hw _ (List.mem_of_getElem? (i := 10) rfl)) (ty := .int) (by decide) rfl rfl (g := (mkF m 7 #[.val (.ref a1)] [(.int (0 : Int32)), (.ref a1)])) rfl rfl (hb hby d5_7)
  have Fw9 := c8_2.same W9
  have c9_0 := c8_0.wr W9
  have c9_1 := Fw8.other W9 (Or.inr (slot_ne (Or.inl (hw _ (List.mem_of_getElem? (i := 26) rfl))) (Or.inl (hw _ (List.mem_of_getElem? (i := 28) rfl))) (by decide) (t := .int) (t' := .int) (by decide) (by decide)))
  have c9_3 := c8_3.other W9 (Or.inr (slot_ne (Or.inl (hw _ (List.mem_of_getElem? (i := 30) rfl))) (Or.inl (hw _ (List.mem_of_getElem? (i := 28) rfl))) (by decide) (t := .boolean) (t' := .int) (by decide) (by decide)))
  have c9_4 := c8_4.other W9 (Or.inr (slot_ne (Or.inl (hw _ (List.mem_of_getElem? (i := 38) rfl))) (Or.inl (hw _ (List.mem_of_getElem? (i := 28) rfl))) (by decide) (t := .boolean) (t' := .int) (by decide) (by decide)))
  have c9_5 := c8_5.other W9 (Or.inr (slot_ne (Or.inl (hw _ (List.mem_of_getElem? (i := 24) rfl))) (Or.inl (hw _ (List.mem_of_getElem? (i := 28) rfl))) (by decide) (t := .boolean) (t' := .int) (by decide) (by decide)))
  have KK9 : Keep h0 h9 [a1] := KK8.wr W9 (Or.inl (List.mem_of_getElem? (i := 0) rfl))
  have ZN9 : n0 ≤ h9.size := Nat.le_trans ZN8 (Keep.of_wr W9).1
  have NN9 := Fr.snoc X9 NN8 P1
  refine go st9 ?_
  show Go _ p e below s _ _ _ (T9.setTop (mkF m 10 #[.val (.ref a1)] []))
  refine go (fun _ => XS.aloadN X9.here hx rfl (hb hby d5_10) rfl rfl) ?_
  show Go _ p e below s _ _ _ (T9.setTop (mkF m 11 #[.val (.ref a1)] [(.ref a1)]))
  refine go (fun _ => XS.iconst X9.here hx rfl (hb hby d5_11)) ?_
  show Go _ p e below s _ _ _ (T9.setTop (mkF m 12 #[.val (.ref a1)] [(.int (0 : Int32)), (.ref a1)]))
  obtain ⟨T10, h10, X10, e10, W10, st10⟩ := putFN X9 hx hZ hown (hw _ (List.mem_of_getElem? (i := 29) rfl)) Via.refl e9 c9_3 c9_0 (Or.inl (hw _ (List.mem_of_getElem? (i := 30) rfl))) (hw _ (List.mem_of_getElem? (i := 10) rfl)) (ty := .boolean) (v' := (.int (0 : Int32))) (by decide) rfl rfl (g := (mkF m 12 #[.val (.ref a1)] [(.int (0 : Int32)), (.ref a1)])) rfl rfl (hb hby d5_12)
  have Fw10 := c9_3.same W10
  have c10_0 := c9_0.wr W10
  have c10_1 := c9_1.other W10 (Or.inr (slot_ne (Or.inl (hw _ (List.mem_of_getElem? (i := 26) rfl))) (Or.inl (hw _ (List.mem_of_getElem? (i := 30) rfl))) (by decide) (t := .int) (t' := .boolean) (by decide) (by decide)))
  have c10_2 := Fw9.other W10 (Or.inr (slot_ne (Or.inl (hw _ (List.mem_of_getElem? (i := 28) rfl))) (Or.inl (hw _ (List.mem_of_getElem? (i := 30) rfl))) (by decide) (t := .int) (t' := .boolean) (by decide) (by decide)))
  have c10_4 := c9_4.other W10 (Or.inr (slot_ne (Or.inl (hw _ (List.mem_of_getElem? (i := 38) rfl))) (Or.inl (hw _ (List.mem_of_getElem? (i := 30) rfl))) (by decide) (t := .boolean) (t' := .boolean) (by decide) (by decide)))
  have c10_5 := c9_5.other W10 (Or.inr (slot_ne (Or.inl (hw _ (List.mem_of_getElem? (i := 24) rfl))) (Or.inl (hw _ (List.mem_of_getElem? (i := 30) rfl))) (by decide) (t := .boolean) (t' := .boolean) (by decide) (by decide)))
  have KK10 : Keep h0 h10 [a1] := KK9.wr W10 (Or.inl (List.mem_of_getElem? (i := 0) rfl))
  have ZN10 : n0 ≤ h10.size := Nat.le_trans ZN9 (Keep.of_wr W10).1
  have NN10 := Fr.snoc X10 NN9 P1
  refine go st10 ?_
  show Go _ p e below s _ _ _ (T10.setTop (mkF m 15 #[.val (.ref a1)] []))
  refine go (fun _ => XS.aloadN X10.here hx rfl (hb hby d5_15) rfl rfl) ?_
  show Go _ p e below s _ _ _ (T10.setTop (mkF m 16 #[.val (.ref a1)] [(.ref a1)]))
  refine go (fun _ => XS.iconst X10.here hx rfl (hb hby d5_16)) ?_
  show Go _ p e below s _ _ _ (T10.setTop (mkF m 17 #[.val (.ref a1)] [(.int (0 : Int32)), (.ref a1)]))
  obtain ⟨T11, h11, X11, e11, W11, st11⟩ := putFN X10 hx hZ hown (hw _ (List.mem_of_getElem? (i := 37) rfl)) Via.refl e10 c10_4 c10_0 (Or.inl (hw _ (List.mem_of_getElem? (i := 38) rfl))) (hw _ (List.mem_of_getElem? (i := 10) rfl)) (ty := .boolean) (v' := (.int (0 : Int32))) (by decide) rfl rfl (g := (mkF m 17 #[.val (.ref a1)] [(.int (0 : Int32)), (.ref a1)])) rfl rfl (hb hby d5_17)
  have Fw11 := c10_4.same W11
  have c11_0 := c10_0.wr W11
  have c11_1 := c10_1.other W11 (Or.inr (slot_ne (Or.inl (hw _ (List.mem_of_getElem? (i := 26) rfl))) (Or.inl (hw _ (List.mem_of_getElem? (i := 38) rfl))) (by decide) (t := .int) (t' := .boolean) (by decide) (by decide)))
  have c11_2 := c10_2.other W11 (Or.inr (slot_ne (Or.inl (hw _ (List.mem_of_getElem? (i := 28) rfl))) (Or.inl (hw _ (List.mem_of_getElem? (i := 38) rfl))) (by decide) (t := .int) (t' := .boolean) (by decide) (by decide)))
  have c11_3 := Fw10.other W11 (Or.inr (slot_ne (Or.inl (hw _ (List.mem_of_getElem? (i := 30) rfl))) (Or.inl (hw _ (List.mem_of_getElem? (i := 38) rfl))) (by decide) (t := .boolean) (t' := .boolean) (by decide) (by decide)))
  have c11_5 := c10_5.other W11 (Or.inr (slot_ne (Or.inl (hw _ (List.mem_of_getElem? (i := 24) rfl))) (Or.inl (hw _ (List.mem_of_getElem? (i := 38) rfl))) (by decide) (t := .boolean) (t' := .boolean) (by decide) (by decide)))
  have KK11 : Keep h0 h11 [a1] := KK10.wr W11 (Or.inl (List.mem_of_getElem? (i := 0) rfl))
  have ZN11 : n0 ≤ h11.size := Nat.le_trans ZN10 (Keep.of_wr W11).1
  have NN11 := Fr.snoc X11 NN10 P1
  refine go st11 ?_
  show Go _ p e below s _ _ _ (T11.setTop (mkF m 20 #[.val (.ref a1)] []))
  refine go (fun _ => XS.aloadN X11.here hx rfl (hb hby d5_20) rfl rfl) ?_
  show Go _ p e below s _ _ _ (T11.setTop (mkF m 21 #[.val (.ref a1)] [(.ref a1)]))
  refine go (fun _ => XS.iconst X11.here hx rfl (hb hby d5_21)) ?_
  show Go _ p e below s _ _ _ (T11.setTop (mkF m 22 #[.val (.ref a1)] [(.int (0 : Int32)), (.ref a1)]))
  obtain ⟨T12, h12, X12, e12, W12, st12⟩ := putFN X11 hx hZ hown (hw _ (List.mem_of_getElem? (i := 23) rfl)) Via.refl e11 c11_5 c11_0 (Or.inl (hw _ (List.mem_of_getElem? (i := 24) rfl))) (hw _ (List.mem_of_getElem? (i := 10) rfl)) (ty := .boolean) (v' := (.int (0 : Int32))) (by decide) rfl rfl (g := (mkF m 22 #[.val (.ref a1)] [(.int (0 : Int32)), (.ref a1)])) rfl rfl (hb hby d5_22)
  have Fw12 := c11_5.same W12
  have c12_0 := c11_0.wr W12
  have c12_1 := c11_1.other W12 (Or.inr (slot_ne (Or.inl (hw _ (List.mem_of_getElem? (i := 26) rfl))) (Or.inl (hw _ (List.mem_of_getElem? (i := 24) rfl))) (by decide) (t := .int) (t' := .boolean) (by decide) (by decide)))
  have c12_2 := c11_2.other W12 (Or.inr (slot_ne (Or.inl (hw _ (List.mem_of_getElem? (i := 28) rfl))) (Or.inl (hw _ (List.mem_of_getElem? (i := 24) rfl))) (by decide) (t := .int) (t' := .boolean) (by decide) (by decide)))
  have c12_3 := c11_3.other W12 (Or.inr (slot_ne (Or.inl (hw _ (List.mem_of_getElem? (i := 30) rfl))) (Or.inl (hw _ (List.mem_of_getElem? (i := 24) rfl))) (by decide) (t := .boolean) (t' := .boolean) (by decide) (by decide)))
  have c12_4 := Fw11.other W12 (Or.inr (slot_ne (Or.inl (hw _ (List.mem_of_getElem? (i := 38) rfl))) (Or.inl (hw _ (List.mem_of_getElem? (i := 24) rfl))) (by decide) (t := .boolean) (t' := .boolean) (by decide) (by decide)))
  have KK12 : Keep h0 h12 [a1] := KK11.wr W12 (Or.inl (List.mem_of_getElem? (i := 0) rfl))
  have ZN12 : n0 ≤ h12.size := Nat.le_trans ZN11 (Keep.of_wr W12).1
  have NN12 := Fr.snoc X12 NN11 P1
  refine go st12 ?_
  show Go _ p e below s _ _ _ (T12.setTop (mkF m 25 #[.val (.ref a1)] []))
  refine goRet0 X12 hx Bd.notSynchronized Bd.returns (hb hby d5_25) (by decide) (by decide) (by rw [e12]; refine ⟨rfl, NN12, KK12, c12_1, c12_2, c12_3, c12_4, Fw12⟩)
theorem d4_0 : decode prog_37_method_3_code 0 = .ok (.iload_n 2, 1) := by decide +kernel
theorem d4_1 : decode prog_37_method_3_code 1 = .ok (.istore 4, 2) := by decide +kernel
theorem d4_3 : decode prog_37_method_3_code 3 = .ok (.iload 4, 2) := by decide +kernel
theorem d4_5 : decode prog_37_method_3_code 5 = .ok (.iload_n 3, 1) := by decide +kernel
theorem d4_6 : decode prog_37_method_3_code 6 = .ok (.if_icmp .ge 170, 3) := by decide +kernel
theorem d4_9 : decode prog_37_method_3_code 9 = .ok (.aload_n 0, 1) := by decide +kernel
theorem d4_10 : decode prog_37_method_3_code 10 = .ok (.getfield 25, 3) := by decide +kernel
theorem d4_13 : decode prog_37_method_3_code 13 = .ok (.ifCond .ne 163, 3) := by decide +kernel
theorem d4_16 : decode prog_37_method_3_code 16 = .ok (.aload_n 0, 1) := by decide +kernel
theorem d4_17 : decode prog_37_method_3_code 17 = .ok (.dup, 1) := by decide +kernel
theorem d4_18 : decode prog_37_method_3_code 18 = .ok (.getfield 9, 3) := by decide +kernel
theorem d4_21 : decode prog_37_method_3_code 21 = .ok (.iconst 1, 1) := by decide +kernel
theorem d4_22 : decode prog_37_method_3_code 22 = .ok (.iadd, 1) := by decide +kernel
theorem d4_23 : decode prog_37_method_3_code 23 = .ok (.putfield 9, 3) := by decide +kernel
theorem d4_26 : decode prog_37_method_3_code 26 = .ok (.aload_n 1, 1) := by decide +kernel
theorem d4_27 : decode prog_37_method_3_code 27 = .ok (.iload 4, 2) := by decide +kernel
theorem d4_29 : decode prog_37_method_3_code 29 = .ok (.baload, 1) := by decide +kernel
theorem d4_30 : decode prog_37_method_3_code 30 = .ok (.bipush 10, 2) := by decide +kernel
theorem d4_32 : decode prog_37_method_3_code 32 = .ok (.if_icmp .ne 80, 3) := by decide +kernel
theorem d4_35 : decode prog_37_method_3_code 35 = .ok (.aload_n 0, 1) := by decide +kernel
theorem d4_36 : decode prog_37_method_3_code 36 = .ok (.getfield 15, 3) := by decide +kernel
theorem d4_39 : decode prog_37_method_3_code 39 = .ok (.ifCond .eq 18, 3) := by decide +kernel
theorem d4_42 : decode prog_37_method_3_code 42 = .ok (.aload_n 0, 1) := by decide +kernel
theorem d4_43 : decode prog_37_method_3_code 43 = .ok (.getfield 15, 3) := by decide +kernel
theorem d4_46 : decode prog_37_method_3_code 46 = .ok (.iconst 1, 1) := by decide +kernel
theorem d4_47 : decode prog_37_method_3_code 47 = .ok (.if_icmp .ne 14, 3) := by decide +kernel
theorem d4_50 : decode prog_37_method_3_code 50 = .ok (.aload_n 0, 1) := by decide +kernel
theorem d4_51 : decode prog_37_method_3_code 51 = .ok (.getfield 18, 3) := by decide +kernel
theorem d4_54 : decode prog_37_method_3_code 54 = .ok (.ifCond .eq 7, 3) := by decide +kernel
theorem d4_57 : decode prog_37_method_3_code 57 = .ok (.iconst 1, 1) := by decide +kernel
theorem d4_58 : decode prog_37_method_3_code 58 = .ok (.goto 4, 3) := by decide +kernel
theorem d4_61 : decode prog_37_method_3_code 61 = .ok (.iconst 0, 1) := by decide +kernel
theorem d4_62 : decode prog_37_method_3_code 62 = .ok (.istore 5, 2) := by decide +kernel
theorem d4_64 : decode prog_37_method_3_code 64 = .ok (.aload_n 0, 1) := by decide +kernel
theorem d4_65 : decode prog_37_method_3_code 65 = .ok (.iload 5, 2) := by decide +kernel
theorem d4_67 : decode prog_37_method_3_code 67 = .ok (.ifCond .eq 14, 3) := by decide +kernel
theorem d4_70 : decode prog_37_method_3_code 70 = .ok (.aload_n 0, 1) := by decide +kernel
theorem d4_71 : decode prog_37_method_3_code 71 = .ok (.getfield 22, 3) := by decide +kernel
theorem d4_74 : decode prog_37_method_3_code 74 = .ok (.ifCond .eq 7, 3) := by decide +kernel
theorem d4_77 : decode prog_37_method_3_code 77 = .ok (.iconst 1, 1) := by decide +kernel
theorem d4_78 : decode prog_37_method_3_code 78 = .ok (.goto 4, 3) := by decide +kernel
theorem d4_81 : decode prog_37_method_3_code 81 = .ok (.iconst 0, 1) := by decide +kernel
theorem d4_82 : decode prog_37_method_3_code 82 = .ok (.putfield 25, 3) := by decide +kernel
theorem d4_85 : decode prog_37_method_3_code 85 = .ok (.aload_n 0, 1) := by decide +kernel
theorem d4_86 : decode prog_37_method_3_code 86 = .ok (.dup, 1) := by decide +kernel
theorem d4_87 : decode prog_37_method_3_code 87 = .ok (.getfield 22, 3) := by decide +kernel
theorem d4_90 : decode prog_37_method_3_code 90 = .ok (.iload 5, 2) := by decide +kernel
theorem d4_92 : decode prog_37_method_3_code 92 = .ok (.ifCond .ne 7, 3) := by decide +kernel
theorem d4_95 : decode prog_37_method_3_code 95 = .ok (.iconst 1, 1) := by decide +kernel
theorem d4_96 : decode prog_37_method_3_code 96 = .ok (.goto 4, 3) := by decide +kernel
theorem d4_99 : decode prog_37_method_3_code 99 = .ok (.iconst 0, 1) := by decide +kernel
theorem d4_100 : decode prog_37_method_3_code 100 = .ok (.ior, 1) := by decide +kernel
theorem d4_101 : decode prog_37_method_3_code 101 = .ok (.putfield 22, 3) := by decide +kernel
theorem d4_104 : decode prog_37_method_3_code 104 = .ok (.aload_n 0, 1) := by decide +kernel
theorem d4_105 : decode prog_37_method_3_code 105 = .ok (.iconst 0, 1) := by decide +kernel
theorem d4_106 : decode prog_37_method_3_code 106 = .ok (.putfield 15, 3) := by decide +kernel
theorem d4_109 : decode prog_37_method_3_code 109 = .ok (.goto 38, 3) := by decide +kernel
theorem d4_112 : decode prog_37_method_3_code 112 = .ok (.aload_n 0, 1) := by decide +kernel
theorem d4_113 : decode prog_37_method_3_code 113 = .ok (.aload_n 0, 1) := by decide +kernel
theorem d4_114 : decode prog_37_method_3_code 114 = .ok (.getfield 15, 3) := by decide +kernel
theorem d4_117 : decode prog_37_method_3_code 117 = .ok (.ifCond .ne 16, 3) := by decide +kernel
theorem d4_120 : decode prog_37_method_3_code 120 = .ok (.aload_n 1, 1) := by decide +kernel
theorem d4_121 : decode prog_37_method_3_code 121 = .ok (.iload 4, 2) := by decide +kernel
theorem d4_123 : decode prog_37_method_3_code 123 = .ok (.baload, 1) := by decide +kernel
theorem d4_124 : decode prog_37_method_3_code 124 = .ok (.bipush 13, 2) := by decide +kernel
theorem d4_126 : decode prog_37_method_3_code 126 = .ok (.if_icmp .ne 7, 3) := by decide +kernel
theorem d4_129 : decode prog_37_method_3_code 129 = .ok (.iconst 1, 1) := by decide +kernel
theorem d4_130 : decode prog_37_method_3_code 130 = .ok (.goto 4, 3) := by decide +kernel
theorem d4_133 : decode prog_37_method_3_code 133 = .ok (.iconst 0, 1) := by decide +kernel
theorem d4_134 : decode prog_37_method_3_code 134 = .ok (.putfield 18, 3) := by decide +kernel
theorem d4_137 : decode prog_37_method_3_code 137 = .ok (.aload_n 0, 1) := by decide +kernel
theorem d4_138 : decode prog_37_method_3_code 138 = .ok (.dup, 1) := by decide +kernel
theorem d4_139 : decode prog_37_method_3_code 139 = .ok (.getfield 15, 3) := by decide +kernel
theorem d4_142 : decode prog_37_method_3_code 142 = .ok (.iconst 1, 1) := by decide +kernel
theorem d4_143 : decode prog_37_method_3_code 143 = .ok (.iadd, 1) := by decide +kernel
theorem d4_144 : decode prog_37_method_3_code 144 = .ok (.putfield 15, 3) := by decide +kernel
theorem d4_147 : decode prog_37_method_3_code 147 = .ok (.aload_n 0, 1) := by decide +kernel
theorem d4_148 : decode prog_37_method_3_code 148 = .ok (.dup, 1) := by decide +kernel
theorem d4_149 : decode prog_37_method_3_code 149 = .ok (.getfield 25, 3) := by decide +kernel
theorem d4_152 : decode prog_37_method_3_code 152 = .ok (.aload_n 0, 1) := by decide +kernel
theorem d4_153 : decode prog_37_method_3_code 153 = .ok (.getfield 9, 3) := by decide +kernel
theorem d4_156 : decode prog_37_method_3_code 156 = .ok (.ldc 28, 2) := by decide +kernel
theorem d4_158 : decode prog_37_method_3_code 158 = .ok (.if_icmp .lt 7, 3) := by decide +kernel
theorem d4_161 : decode prog_37_method_3_code 161 = .ok (.iconst 1, 1) := by decide +kernel
theorem d4_162 : decode prog_37_method_3_code 162 = .ok (.goto 4, 3) := by decide +kernel
theorem d4_165 : decode prog_37_method_3_code 165 = .ok (.iconst 0, 1) := by decide +kernel
theorem d4_166 : decode prog_37_method_3_code 166 = .ok (.ior, 1) := by decide +kernel
theorem d4_167 : decode prog_37_method_3_code 167 = .ok (.putfield 25, 3) := by decide +kernel
theorem d4_170 : decode prog_37_method_3_code 170 = .ok (.iinc 4 1, 3) := by decide +kernel
theorem d4_173 : decode prog_37_method_3_code 173 = .ok (.goto (-170), 3) := by decide +kernel
theorem d4_176 : decode prog_37_method_3_code 176 = .ok (.aload_n 0, 1) := by decide +kernel
theorem d4_177 : decode prog_37_method_3_code 177 = .ok (.getfield 25, 3) := by decide +kernel
theorem d4_180 : decode prog_37_method_3_code 180 = .ok (.ireturn, 1) := by decide +kernel
theorem pn_4 : plainName "com/example/dosisbog/dosisbog/HttpRequest$HeadEnd" = true := by first | (simp [plainName, overriddenIn]; done) | decide +kernel
theorem ef_4 (m : MethodId) (a1 : Addr) (a2 : Addr) (p3 : Int32) (p4 : Int32) : entryFrame m #[(.ref a1), (.ref a2), (.int p3), (.int p4)] 6 = mkF m 0 #[.val (.ref a1), .val (.ref a2), .val (.int p3), .val (.int p4), .unset, .unset] [] := by first | (simp [entryFrame, mkF, argsToLocals, Value.category]; done) | rfl
def Q4 (Z : State) (a1 : Addr) (a2 : Addr) (p3 : Int32) (p4 : Int32) (k1 : ClassId) (zl : Int32) (vs : List Value) (dv : Value) (g : Nat → Int32) (nn : Nat) (i0 : Nat) (y1 : Int32) (y2 : Int32) (y3 : Int32) (y4 : Int32) (y5 : Int32) (h0 : Heap) (n0 : Nat) (v : Option Value) (h : Heap) (L : List Loc) : Prop := v = some (.int (nar .boolean (own_run g nn i0 (y1, y2, y3, y4, y5)).2.2.2.2)) ∧ Fr n0 L ∧ (Keep h0 h [a1]) ∧ (Fld Z h a1 "com/example/dosisbog/dosisbog/HttpRequest$HeadEnd" "looked" "I" (.int (own_run g nn i0 (y1, y2, y3, y4, y5)).1)) ∧ (Fld Z h a1 "com/example/dosisbog/dosisbog/HttpRequest$HeadEnd" "inLine" "I" (.int (own_run g nn i0 (y1, y2, y3, y4, y5)).2.1)) ∧ (Fld Z h a1 "com/example/dosisbog/dosisbog/HttpRequest$HeadEnd" "carriageReturn" "Z" (.int (own_run g nn i0 (y1, y2, y3, y4, y5)).2.2.1)) ∧ (Fld Z h a1 "com/example/dosisbog/dosisbog/HttpRequest$HeadEnd" "requestLine" "Z" (.int (own_run g nn i0 (y1, y2, y3, y4, y5)).2.2.2.1)) ∧ (Fld Z h a1 "com/example/dosisbog/dosisbog/HttpRequest$HeadEnd" "found" "Z" (.int (own_run g nn i0 (y1, y2, y3, y4, y5)).2.2.2.2))
set_option maxRecDepth 65536 in
set_option maxHeartbeats 40000000 in
theorem rm4 (l : Launch) (Z : State) (a0 : Array Value) (hw : ∀ d ∈ tables_1, d.before a0 Z = true) (ws : List Jvm.Cond) (a1 : Addr) (a2 : Addr) (p3 : Int32) (p4 : Int32) (k1 : ClassId) (zl : Int32) (vs : List Value) (dv : Value) (g : Nat → Int32) (nn : Nat) (i0 : Nat) (y1 : Int32) (y2 : Int32) (y3 : Int32) (y4 : Int32) (y5 : Int32) (h0 : Heap) (n0 : Nat) (Z0 : n0 ≤ h0.size) (P0 : Exa Z h0 a1 "com/example/dosisbog/dosisbog/HttpRequest$HeadEnd") (P1 : n0 ≤ a1) (P2 : Arv Z h0 a2 k1 .byte zl vs dv) (P3 : a1 ≠ a2) (P4 : Fld Z h0 a1 "com/example/dosisbog/dosisbog/HttpRequest$HeadEnd" "looked" "I" (.int y1)) (P5 : Fld Z h0 a1 "com/example/dosisbog/dosisbog/HttpRequest$HeadEnd" "inLine" "I" (.int y2)) (P6 : Fld Z h0 a1 "com/example/dosisbog/dosisbog/HttpRequest$HeadEnd" "carriageReturn" "Z" (.int y3)) (P7 : Fld Z h0 a1 "com/example/dosisbog/dosisbog/HttpRequest$HeadEnd" "requestLine" "Z" (.int y4)) (P8 : Fld Z h0 a1 "com/example/dosisbog/dosisbog/HttpRequest$HeadEnd" "found" "Z" (.int y5)) (hi0 : p3.toInt = (i0 : Int)) (hto : p4.toInt = ((i0 + nn : Nat) : Int)) (hzl : ((i0 + nn : Nat) : Int) ≤ zl.toInt) (hg : ∀ j, vs.getD j dv = .int (g j)) :
    MetFree l (⟨"com/example/dosisbog/dosisbog/HttpRequest$HeadEnd", "whole", "([BII)Z"⟩ : MethodName) (head1 (Jvm.Cond.code (⟨"com/example/dosisbog/dosisbog/HttpRequest$HeadEnd", "whole", "([BII)Z"⟩ : MethodName) prog_37_method_3_code 6 (some .boolean) :: ws) ({ frames := 0, cells := 0, slots := 0, locals := 0 } : Room)) (fun a U => a = #[(.ref a1), (.ref a2), (.int p3), (.int p4)] ∧ Z.Warmed39 U.vm ∧ U.heap = h0) (fun _ _ _ _ _ => True) (fun _ U o U' => ∃ v L, o = .returned v ∧ Q4 Z a1 a2 p3 p4 k1 zl vs dv g nn i0 y1 y2 y3 y4 y5 h0 n0 v U'.heap L ∧ FrameEnd U o U' L ({ frames := 0, cells := 0, slots := 0, locals := 0 } : Room).cells ({ frames := 0, cells := 0, slots := 0, locals := 0 } : Room).slots) := by
  refine MetFree.of_bodySF (plainFor_of_name pn_4) hisR ?_
  intro p e s m args below meth c s₁ Bd hml0 hP hK
  obtain ⟨rfl, hZ, hh⟩ := hP
  have hx := Bd.exec
  have hby := Bd.bytes
  have hml : c.maxLocals = 6 := hml0
  have hown : s.vm.findClass "com/example/dosisbog/dosisbog/HttpRequest$HeadEnd" = some m.cls := findClass_of_methodNamed Bd.named
  have hnm := (name_of_methodNamed Bd.named Bd.method).1
  have X0 : Stand p l e ({ frames := 0, cells := 0, slots := 0, locals := 0 } : Room) s m #[(.ref a1), (.ref a2), (.int p3), (.int p4)] below meth c s₁ [] 0 0 := Stand.of_body Bd
  have e0 : s₁.heap = h0 := by rw [← hh, Bd.state]; rfl
  have N0 := Fr.nil n0
  have hS0 : s.Since s.vm 0 := (State.WarmedH.refl s).since 0
  show Go FrameEnd p e below s ({ frames := 0, cells := 0, slots := 0, locals := 0 } : Room).cells ({ frames := 0, cells := 0, slots := 0, locals := 0 } : Room).slots (Q4 Z a1 a2 p3 p4 k1 zl vs dv g nn i0 y1 y2 y3 y4 y5 h0 n0) (s₁.setTop (entryFrame m #[(.ref a1), (.ref a2), (.int p3), (.int p4)] 6))
  refine go (fun _ k => castTop (ef_4 m a1 a2 p3 p4) k) ?_
  show Go _ p e below s _ _ _ (s₁.setTop (mkF m 0 #[.val (.ref a1), .val (.ref a2), .val (.int p3), .val (.int p4), .unset, .unset] []))
  refine go (fun _ => XS.iloadN X0.here hx rfl (hb hby d4_0) rfl) ?_
  show Go _ p e below s _ _ _ (s₁.setTop (mkF m 1 #[.val (.ref a1), .val (.ref a2), .val (.int p3), .val (.int p4), .unset, .unset] [(.int p3)]))
  refine go (fun _ => XS.istore X0.here hx rfl (hb hby d4_1) rfl (l' := #[.val (.ref a1), .val (.ref a2), .val (.int p3), .val (.int p4), .val (.int p3), .unset]) rfl) ?_
  show Go _ p e below s _ _ _ (s₁.setTop (mkF m 3 #[.val (.ref a1), .val (.ref a2), .val (.int p3), .val (.int p4), .val (.int p3), .unset] []))
  have LP : ∀ (f : Nat) (i : Int32) (k : Nat) (s5 : Slot) (x1 : Int32) (x2 : Int32) (x3 : Int32) (x4 : Int32) (x5 : Int32) (T57 : State) (locs57 : List Loc) (hh57 : Heap) (_ : Stand p l e ({ frames := 0, cells := 0, slots := 0, locals := 0 } : Room) s m #[(.ref a1), (.ref a2), (.int p3), (.int p4)] below meth c T57 locs57 0 0) (_ : T57.heap = hh57) (_ : Fr n0 locs57) (_ : Keep h0 hh57 [a1]) (_ : n0 ≤ hh57.size) (_ : Exa Z hh57 a1 "com/example/dosisbog/dosisbog/HttpRequest$HeadEnd") (_ : Arv Z hh57 a2 k1 .byte zl vs dv) (_ : Fld Z hh57 a1 "com/example/dosisbog/dosisbog/HttpRequest$HeadEnd" "looked" "I" (.int x1)) (_ : Fld Z hh57 a1 "com/example/dosisbog/dosisbog/HttpRequest$HeadEnd" "inLine" "I" (.int x2)) (_ : Fld Z hh57 a1 "com/example/dosisbog/dosisbog/HttpRequest$HeadEnd" "carriageReturn" "Z" (.int x3)) (_ : Fld Z hh57 a1 "com/example/dosisbog/dosisbog/HttpRequest$HeadEnd" "requestLine" "Z" (.int x4)) (_ : Fld Z hh57 a1 "com/example/dosisbog/dosisbog/HttpRequest$HeadEnd" "found" "Z" (.int x5)), (One s5) → (i.toInt = (k : Int)) → (p4.toInt = ((k + f : Nat) : Int)) → (((k + f : Nat) : Int) ≤ zl.toInt) → (own_run g f k (x1, x2, x3, x4, x5) = (own_run g nn i0 (y1, y2, y3, y4, y5))) → Go FrameEnd p e below s ({ frames := 0, cells := 0, slots := 0, locals := 0 } : Room).cells ({ frames := 0, cells := 0, slots := 0, locals := 0 } : Room).slots (Q4 Z a1 a2 p3 p4 k1 zl vs dv g nn i0 y1 y2 y3 y4 y5 h0 n0) (T57.setTop (mkF m 3 #[.val (.ref a1), .val (.ref a2), .val (.int p3), .val (.int p4), .val (.int i), s5] [])) := by
    intro f
    induction f with
    | zero =>
      intro i k s5 x1 x2 x3 x4 x5 T57 locs57 hh57 X57 e57 NF57 KK57 ZN57 ff57_0 ff57_1 ff57_2 ff57_3 ff57_4 ff57_5 ff57_6 hs5 hi ht hz hr
      show Go _ p e below s _ _ _ (T57.setTop (mkF m 3 #[.val (.ref a1), .val (.ref a2), .val (.int p3), .val (.int p4), .val (.int i), s5] []))
      refine go (fun _ => XS.iload X57.here hx rfl (hb hby d4_3) rfl) ?_
      show Go _ p e below s _ _ _ (T57.setTop (mkF m 5 #[.val (.ref a1), .val (.ref a2), .val (.int p3), .val (.int p4), .val (.int i), s5] [(.int i)]))
      refine go (fun _ => XS.iloadN X57.here hx rfl (hb hby d4_5) rfl) ?_
      show Go _ p e below s _ _ _ (T57.setTop (mkF m 6 #[.val (.ref a1), .val (.ref a2), .val (.int p3), .val (.int p4), .val (.int i), s5] [(.int p4), (.int i)]))
      refine go (fun _ => XS.icmpYes X57.here hx rfl (pc0 := 6) (pc' := 176) rfl (hb hby d4_6) rfl (flt (own_ge hi ht rfl)).2.1 (by decide) (by decide)) ?_
      show Go _ p e below s _ _ _ (T57.setTop (mkF m 176 #[.val (.ref a1), .val (.ref a2), .val (.int p3), .val (.int p4), .val (.int i), s5] []))
      refine go (fun _ => XS.aloadN X57.here hx rfl (hb hby d4_176) rfl rfl) ?_
      show Go _ p e below s _ _ _ (T57.setTop (mkF m 177 #[.val (.ref a1), .val (.ref a2), .val (.int p3), .val (.int p4), .val (.int i), s5] [(.ref a1)]))
      obtain ⟨T58, X58, e58, st58⟩ := getF X57 hx hZ hown (host := "") (Or.inl (hw _ (List.mem_of_getElem? (i := 23) rfl))) Via.refl e57 ff57_6 (g := (mkF m 177 #[.val (.ref a1), .val (.ref a2), .val (.int p3), .val (.int p4), .val (.int i), s5] [(.ref a1)])) rfl rfl (hb hby d4_177)
      refine go st58 ?_
      show Go _ p e below s _ _ _ (T58.setTop (mkF m 180 #[.val (.ref a1), .val (.ref a2), .val (.int p3), .val (.int p4), .val (.int i), s5] [(.int x5)]))
      refine goRetN X58 hx Bd.notSynchronized (t := .boolean) Bd.returns (by simp) (hb hby d4_180) (by decide) (by decide) (by rw [e58]; refine ⟨(by rw [← hr] <;> rfl), NF57, KK57, (by rw [← hr]; exact ff57_2), (by rw [← hr]; exact ff57_3), (by rw [← hr]; exact ff57_4), (by rw [← hr]; exact ff57_5), (by rw [← hr]; exact ff57_6)⟩)
    | succ f ih =>
      intro i k s5 x1 x2 x3 x4 x5 T57 locs57 hh57 X57 e57 NF57 KK57 ZN57 ff57_0 ff57_1 ff57_2 ff57_3 ff57_4 ff57_5 ff57_6 hs5 hi ht hz hr
      show Go _ p e below s _ _ _ (T57.setTop (mkF m 3 #[.val (.ref a1), .val (.ref a2), .val (.int p3), .val (.int p4), .val (.int i), s5] []))
      refine go (fun _ => XS.iload X57.here hx rfl (hb hby d4_3) rfl) ?_
      show Go _ p e below s _ _ _ (T57.setTop (mkF m 5 #[.val (.ref a1), .val (.ref a2), .val (.int p3), .val (.int p4), .val (.int i), s5] [(.int i)]))
      refine go (fun _ => XS.iloadN X57.here hx rfl (hb hby d4_5) rfl) ?_
      show Go _ p e below s _ _ _ (T57.setTop (mkF m 6 #[.val (.ref a1), .val (.ref a2), .val (.int p3), .val (.int p4), .val (.int i), s5] [(.int p4), (.int i)]))
      refine go (fun _ => XS.icmpNo X57.here hx rfl (hb hby d4_6) rfl (tlt (own_lt hi ht)).2.1) ?_
      show Go _ p e below s _ _ _ (T57.setTop (mkF m 9 #[.val (.ref a1), .val (.ref a2), .val (.int p3), .val (.int p4), .val (.int i), s5] []))
      refine go (fun _ => XS.aloadN X57.here hx rfl (hb hby d4_9) rfl rfl) ?_
      show Go _ p e below s _ _ _ (T57.setTop (mkF m 10 #[.val (.ref a1), .val (.ref a2), .val (.int p3), .val (.int p4), .val (.int i), s5] [(.ref a1)]))
      obtain ⟨T59, X59, e59, st59⟩ := getF X57 hx hZ hown (host := "") (Or.inl (hw _ (List.mem_of_getElem? (i := 23) rfl))) Via.refl e57 ff57_6 (g := (mkF m 10 #[.val (.ref a1), .val (.ref a2), .val (.int p3), .val (.int p4), .val (.int i), s5] [(.ref a1)])) rfl rfl (hb hby d4_10)
      refine go st59 ?_
      show Go _ p e below s _ _ _ (T59.setTop (mkF m 13 #[.val (.ref a1), .val (.ref a2), .val (.int p3), .val (.int p4), .val (.int i), s5] [(.int x5)]))
      by_cases hc13_60 : x5 = (0 : Int32)
      · refine go (fun _ => XS.ifNo X59.here hx rfl (hb hby d4_13) rfl ((if0 _ _).trans (teq hc13_60).2)) ?_
        show Go _ p e below s _ _ _ (T59.setTop (mkF m 16 #[.val (.ref a1), .val (.ref a2), .val (.int p3), .val (.int p4), .val (.int i), s5] []))
        refine go (fun _ => XS.aloadN X59.here hx rfl (hb hby d4_16) rfl rfl) ?_
        show Go _ p e below s _ _ _ (T59.setTop (mkF m 17 #[.val (.ref a1), .val (.ref a2), .val (.int p3), .val (.int p4), .val (.int i), s5] [(.ref a1)]))
        refine go (fun _ => XS.dup X59.here hx rfl (hb hby d4_17) rfl rfl) ?_
        show Go _ p e below s _ _ _ (T59.setTop (mkF m 18 #[.val (.ref a1), .val (.ref a2), .val (.int p3), .val (.int p4), .val (.int i), s5] [(.ref a1), (.ref a1)]))
        obtain ⟨T61, X61, e61, st61⟩ := getF X59 hx hZ hown (host := "") (Or.inl (hw _ (List.mem_of_getElem? (i := 25) rfl))) Via.refl e59 ff57_2 (g := (mkF m 18 #[.val (.ref a1), .val (.ref a2), .val (.int p3), .val (.int p4), .val (.int i), s5] [(.ref a1), (.ref a1)])) rfl rfl (hb hby d4_18)
        refine go st61 ?_
        show Go _ p e below s _ _ _ (T61.setTop (mkF m 21 #[.val (.ref a1), .val (.ref a2), .val (.int p3), .val (.int p4), .val (.int i), s5] [(.int x1), (.ref a1)]))
        refine go (fun _ => XS.iconst X61.here hx rfl (hb hby d4_21)) ?_
        show Go _ p e below s _ _ _ (T61.setTop (mkF m 22 #[.val (.ref a1), .val (.ref a2), .val (.int p3), .val (.int p4), .val (.int i), s5] [(.int (1 : Int32)), (.int x1), (.ref a1)]))
        refine go (fun _ => XS.iadd X61.here hx rfl (hb hby d4_22) rfl) ?_
        show Go _ p e below s _ _ _ (T61.setTop (mkF m 23 #[.val (.ref a1), .val (.ref a2), .val (.int p3), .val (.int p4), .val (.int i), s5] [(.int (x1 + (1 : Int32))), (.ref a1)]))
        obtain ⟨T62, h62, X62, e62, W62, st62⟩ := putF X61 hx hZ hown (host := "") (Or.inl (hw _ (List.mem_of_getElem? (i := 25) rfl))) Via.refl e61 ff57_2 ff57_0 (Or.inl (hw _ (List.mem_of_getElem? (i := 26) rfl))) (hw _ (List.mem_of_getElem? (i := 10) rfl)) (ty := .int) (by decide) rfl rfl (g := (mkF m 23 #[.val (.ref a1), .val (.ref a2), .val (.int p3), .val (.int p4), .val (.int i), s5] [(.int (x1 + (1 : Int32))), (.ref a1)])) rfl rfl (hb hby d4_23)
        have Fw62 := ff57_2.same W62
        have c62_0 := ff57_0.wr W62
        have c62_1 := ff57_1.other W62 (Ne.symm P3)
        have c62_3 := ff57_3.other W62 (Or.inr (slot_ne (Or.inl (hw _ (List.mem_of_getElem? (i := 28) rfl))) (Or.inl (hw _ (List.mem_of_getElem? (i := 26) rfl))) (by decide) (t := .int) (t' := .int) (by decide) (by decide)))
        have c62_4 := ff57_4.other W62 (Or.inr (slot_ne (Or.inl (hw _ (List.mem_of_getElem? (i := 30) rfl))) (Or.inl (hw _ (List.mem_of_getElem? (i := 26) rfl))) (by decide) (t := .boolean) (t' := .int) (by decide) (by decide)))
        have c62_5 := ff57_5.other W62 (Or.inr (slot_ne (Or.inl (hw _ (List.mem_of_getElem? (i := 38) rfl))) (Or.inl (hw _ (List.mem_of_getElem? (i := 26) rfl))) (by decide) (t := .boolean) (t' := .int) (by decide) (by decide)))
        have c62_6 := ff57_6.other W62 (Or.inr (slot_ne (Or.inl (hw _ (List.mem_of_getElem? (i := 24) rfl))) (Or.inl (hw _ (List.mem_of_getElem? (i := 26) rfl))) (by decide) (t := .boolean) (t' := .int) (by decide) (by decide)))
        have KK62 : Keep h0 h62 [a1] := KK57.wr W62 (Or.inl (List.mem_of_getElem? (i := 0) rfl))
        have ZN62 : n0 ≤ h62.size := Nat.le_trans ZN57 (Keep.of_wr W62).1
        have NN62 := Fr.snoc X62 NF57 P1
        refine go st62 ?_
        show Go _ p e below s _ _ _ (T62.setTop (mkF m 26 #[.val (.ref a1), .val (.ref a2), .val (.int p3), .val (.int p4), .val (.int i), s5] []))
        refine go (fun _ => XS.aloadN X62.here hx rfl (hb hby d4_26) rfl rfl) ?_
        show Go _ p e below s _ _ _ (T62.setTop (mkF m 27 #[.val (.ref a1), .val (.ref a2), .val (.int p3), .val (.int p4), .val (.int i), s5] [(.ref a2)]))
        refine go (fun _ => XS.iload X62.here hx rfl (hb hby d4_27) rfl) ?_
        show Go _ p e below s _ _ _ (T62.setTop (mkF m 29 #[.val (.ref a1), .val (.ref a2), .val (.int p3), .val (.int p4), .val (.int i), s5] [(.int i), (.ref a2)]))
        obtain ⟨cl63, Ar63, q63, Sz63, Nz63, Hs63, Gs63⟩ := id c62_1
        have hin63 : ¬ (i < 0 ∨ cl63.slots.size ≤ (i).toNatClampNeg) := inb_of Sz63 (own_in hi hz)
        refine go (X62.baloadBytes hx (j := i) (v := (.int (g k))) (by rw [e62]; exact Ar63.1) (State.isArrayOf_alike hZ.alike Ar63.2.1) Ar63.2.2 hin63 (Hs63.at hin63 (by rw [own_ix hi]; exact hg k)) (g := (mkF m 29 #[.val (.ref a1), .val (.ref a2), .val (.int p3), .val (.int p4), .val (.int i), s5] [(.int i), (.ref a2)])) rfl rfl (hb hby d4_29)) ?_
        show Go _ p e below s _ _ _ (T62.setTop (mkF m 30 #[.val (.ref a1), .val (.ref a2), .val (.int p3), .val (.int p4), .val (.int i), s5] [(.int (g k))]))
        refine go (fun _ => XS.bipush X62.here hx rfl (hb hby d4_30)) ?_
        show Go _ p e below s _ _ _ (T62.setTop (mkF m 32 #[.val (.ref a1), .val (.ref a2), .val (.int p3), .val (.int p4), .val (.int i), s5] [(.int (10 : Int32)), (.int (g k))]))
        by_cases hc32_64 : (g k) = (10 : Int32)
        · refine go (fun _ => XS.icmpNo X62.here hx rfl (hb hby d4_32) rfl (teq hc32_64).2) ?_
          show Go _ p e below s _ _ _ (T62.setTop (mkF m 35 #[.val (.ref a1), .val (.ref a2), .val (.int p3), .val (.int p4), .val (.int i), s5] []))
          have JA : ∀ (z1 : Int32) (T65 : State) (locs65 : List Loc) (_ : Stand p l e ({ frames := 0, cells := 0, slots := 0, locals := 0 } : Room) s m #[(.ref a1), (.ref a2), (.int p3), (.int p4)] below meth c T65 locs65 0 0) (_ : T65.heap = h62) (_ : Fr n0 locs65), (z1 = own_e x2 x3) → Go FrameEnd p e below s ({ frames := 0, cells := 0, slots := 0, locals := 0 } : Room).cells ({ frames := 0, cells := 0, slots := 0, locals := 0 } : Room).slots (Q4 Z a1 a2 p3 p4 k1 zl vs dv g nn i0 y1 y2 y3 y4 y5 h0 n0) (T65.setTop (mkF m 62 #[.val (.ref a1), .val (.ref a2), .val (.int p3), .val (.int p4), .val (.int i), s5] [(.int z1)])) := by
            intro z1 T65 locs65 X65 e65 NF65 hz1
            show Go _ p e below s _ _ _ (T65.setTop (mkF m 62 #[.val (.ref a1), .val (.ref a2), .val (.int p3), .val (.int p4), .val (.int i), s5] [(.int z1)]))
            refine go (fun _ => XS.istore X65.here hx rfl (hb hby d4_62) rfl (l' := #[.val (.ref a1), .val (.ref a2), .val (.int p3), .val (.int p4), .val (.int i), .val (.int z1)]) (own_os _ _ _ _ _ hs5)) ?_
            show Go _ p e below s _ _ _ (T65.setTop (mkF m 64 #[.val (.ref a1), .val (.ref a2), .val (.int p3), .val (.int p4), .val (.int i), .val (.int z1)] []))
            refine go (fun _ => XS.aloadN X65.here hx rfl (hb hby d4_64) rfl rfl) ?_
            show Go _ p e below s _ _ _ (T65.setTop (mkF m 65 #[.val (.ref a1), .val (.ref a2), .val (.int p3), .val (.int p4), .val (.int i), .val (.int z1)] [(.ref a1)]))
            have JB : ∀ (z2 : Int32) (T66 : State) (locs66 : List Loc) (_ : Stand p l e ({ frames := 0, cells := 0, slots := 0, locals := 0 } : Room) s m #[(.ref a1), (.ref a2), (.int p3), (.int p4)] below meth c T66 locs66 0 0) (_ : T66.heap = h62) (_ : Fr n0 locs66), (z2 = own_f z1 x4) → Go FrameEnd p e below s ({ frames := 0, cells := 0, slots := 0, locals := 0 } : Room).cells ({ frames := 0, cells := 0, slots := 0, locals := 0 } : Room).slots (Q4 Z a1 a2 p3 p4 k1 zl vs dv g nn i0 y1 y2 y3 y4 y5 h0 n0) (T66.setTop (mkF m 82 #[.val (.ref a1), .val (.ref a2), .val (.int p3), .val (.int p4), .val (.int i), .val (.int z1)] [(.int z2), (.ref a1)])) := by
              intro z2 T66 locs66 X66 e66 NF66 hz2
              show Go _ p e below s _ _ _ (T66.setTop (mkF m 82 #[.val (.ref a1), .val (.ref a2), .val (.int p3), .val (.int p4), .val (.int i), .val (.int z1)] [(.int z2), (.ref a1)]))
              obtain ⟨T67, h67, X67, e67, W67, st67⟩ := putFN X66 hx hZ hown (hw _ (List.mem_of_getElem? (i := 23) rfl)) Via.refl e66 c62_6 c62_0 (Or.inl (hw _ (List.mem_of_getElem? (i := 24) rfl))) (hw _ (List.mem_of_getElem? (i := 10) rfl)) (ty := .boolean) (v' := (.int (nar .boolean z2))) (by decide) rfl (fits_nar_bool _) (g := (mkF m 82 #[.val (.ref a1), .val (.ref a2), .val (.int p3), .val (.int p4), .val (.int i), .val (.int z1)] [(.int z2), (.ref a1)])) rfl rfl (hb hby d4_82)
              have Fw67 := c62_6.same W67
              have c67_0 := c62_0.wr W67
              have c67_1 := c62_1.other W67 (Ne.symm P3)
              have c67_2 := Fw62.other W67 (Or.inr (slot_ne (Or.inl (hw _ (List.mem_of_getElem? (i := 26) rfl))) (Or.inl (hw _ (List.mem_of_getElem? (i := 24) rfl))) (by decide) (t := .int) (t' := .boolean) (by decide) (by decide)))
              have c67_3 := c62_3.other W67 (Or.inr (slot_ne (Or.inl (hw _ (List.mem_of_getElem? (i := 28) rfl))) (Or.inl (hw _ (List.mem_of_getElem? (i := 24) rfl))) (by decide) (t := .int) (t' := .boolean) (by decide) (by decide)))
              have c67_4 := c62_4.other W67 (Or.inr (slot_ne (Or.inl (hw _ (List.mem_of_getElem? (i := 30) rfl))) (Or.inl (hw _ (List.mem_of_getElem? (i := 24) rfl))) (by decide) (t := .boolean) (t' := .boolean) (by decide) (by decide)))
              have c67_5 := c62_5.other W67 (Or.inr (slot_ne (Or.inl (hw _ (List.mem_of_getElem? (i := 38) rfl))) (Or.inl (hw _ (List.mem_of_getElem? (i := 24) rfl))) (by decide) (t := .boolean) (t' := .boolean) (by decide) (by decide)))
              have KK67 : Keep h0 h67 [a1] := KK62.wr W67 (Or.inl (List.mem_of_getElem? (i := 0) rfl))
              have ZN67 : n0 ≤ h67.size := Nat.le_trans ZN62 (Keep.of_wr W67).1
              have NN67 := Fr.snoc X67 NF66 P1
              refine go st67 ?_
              show Go _ p e below s _ _ _ (T67.setTop (mkF m 85 #[.val (.ref a1), .val (.ref a2), .val (.int p3), .val (.int p4), .val (.int i), .val (.int z1)] []))
              refine go (fun _ => XS.aloadN X67.here hx rfl (hb hby d4_85) rfl rfl) ?_
              show Go _ p e below s _ _ _ (T67.setTop (mkF m 86 #[.val (.ref a1), .val (.ref a2), .val (.int p3), .val (.int p4), .val (.int i), .val (.int z1)] [(.ref a1)]))
              refine go (fun _ => XS.dup X67.here hx rfl (hb hby d4_86) rfl rfl) ?_
              show Go _ p e below s _ _ _ (T67.setTop (mkF m 87 #[.val (.ref a1), .val (.ref a2), .val (.int p3), .val (.int p4), .val (.int i), .val (.int z1)] [(.ref a1), (.ref a1)]))
              obtain ⟨T68, X68, e68, st68⟩ := getF X67 hx hZ hown (host := "") (Or.inl (hw _ (List.mem_of_getElem? (i := 37) rfl))) Via.refl e67 c67_5 (g := (mkF m 87 #[.val (.ref a1), .val (.ref a2), .val (.int p3), .val (.int p4), .val (.int i), .val (.int z1)] [(.ref a1), (.ref a1)])) rfl rfl (hb hby d4_87)
              refine go st68 ?_
              show Go _ p e below s _ _ _ (T68.setTop (mkF m 90 #[.val (.ref a1), .val (.ref a2), .val (.int p3), .val (.int p4), .val (.int i), .val (.int z1)] [(.int x4), (.ref a1)]))
              have JC : ∀ (z3 : Int32) (T69 : State) (locs69 : List Loc) (_ : Stand p l e ({ frames := 0, cells := 0, slots := 0, locals := 0 } : Room) s m #[(.ref a1), (.ref a2), (.int p3), (.int p4)] below meth c T69 locs69 0 0) (_ : T69.heap = h67) (_ : Fr n0 locs69), (z3 = own_n z1) → Go FrameEnd p e below s ({ frames := 0, cells := 0, slots := 0, locals := 0 } : Room).cells ({ frames := 0, cells := 0, slots := 0, locals := 0 } : Room).slots (Q4 Z a1 a2 p3 p4 k1 zl vs dv g nn i0 y1 y2 y3 y4 y5 h0 n0) (T69.setTop (mkF m 100 #[.val (.ref a1), .val (.ref a2), .val (.int p3), .val (.int p4), .val (.int i), .val (.int z1)] [(.int z3), (.int x4), (.ref a1)])) := by
                intro z3 T69 locs69 X69 e69 NF69 hz3
                show Go _ p e below s _ _ _ (T69.setTop (mkF m 100 #[.val (.ref a1), .val (.ref a2), .val (.int p3), .val (.int p4), .val (.int i), .val (.int z1)] [(.int z3), (.int x4), (.ref a1)]))
                refine go (fun _ => XS.ior X69.here hx rfl (hb hby d4_100) rfl) ?_
                show Go _ p e below s _ _ _ (T69.setTop (mkF m 101 #[.val (.ref a1), .val (.ref a2), .val (.int p3), .val (.int p4), .val (.int i), .val (.int z1)] [(.int (x4 ||| z3)), (.ref a1)]))
                obtain ⟨T70, h70, X70, e70, W70, st70⟩ := putFN X69 hx hZ hown (hw _ (List.mem_of_getElem? (i := 37) rfl)) Via.refl e69 c67_5 c67_0 (Or.inl (hw _ (List.mem_of_getElem? (i := 38) rfl))) (hw _ (List.mem_of_getElem? (i := 10) rfl)) (ty := .boolean) (v' := (.int (nar .boolean (x4 ||| z3)))) (by decide) rfl (fits_nar_bool _) (g := (mkF m 101 #[.val (.ref a1), .val (.ref a2), .val (.int p3), .val (.int p4), .val (.int i), .val (.int z1)] [(.int (x4 ||| z3)), (.ref a1)])) rfl rfl (hb hby d4_101)
                have Fw70 := c67_5.same W70
                have c70_0 := c67_0.wr W70
                have c70_1 := c67_1.other W70 (Ne.symm P3)
                have c70_2 := c67_2.other W70 (Or.inr (slot_ne (Or.inl (hw _ (List.mem_of_getElem? (i := 26) rfl))) (Or.inl (hw _ (List.mem_of_getElem? (i := 38) rfl))) (by decide) (t := .int) (t' := .boolean) (by decide) (by decide)))
                have c70_3 := c67_3.other W70 (Or.inr (slot_ne (Or.inl (hw _ (List.mem_of_getElem? (i := 28) rfl))) (Or.inl (hw _ (List.mem_of_getElem? (i := 38) rfl))) (by decide) (t := .int) (t' := .boolean) (by decide) (by decide)))
                have c70_4 := c67_4.other W70 (Or.inr (slot_ne (Or.inl (hw _ (List.mem_of_getElem? (i := 30) rfl))) (Or.inl (hw _ (List.mem_of_getElem? (i := 38) rfl))) (by decide) (t := .boolean) (t' := .boolean) (by decide) (by decide)))
                have c70_6 := Fw67.other W70 (Or.inr (slot_ne (Or.inl (hw _ (List.mem_of_getElem? (i := 24) rfl))) (Or.inl (hw _ (List.mem_of_getElem? (i := 38) rfl))) (by decide) (t := .boolean) (t' := .boolean) (by decide) (by decide)))
                have KK70 : Keep h0 h70 [a1] := KK67.wr W70 (Or.inl (List.mem_of_getElem? (i := 0) rfl))
                have ZN70 : n0 ≤ h70.size := Nat.le_trans ZN67 (Keep.of_wr W70).1
                have NN70 := Fr.snoc X70 NF69 P1
                refine go st70 ?_
                show Go _ p e below s _ _ _ (T70.setTop (mkF m 104 #[.val (.ref a1), .val (.ref a2), .val (.int p3), .val (.int p4), .val (.int i), .val (.int z1)] []))
                refine go (fun _ => XS.aloadN X70.here hx rfl (hb hby d4_104) rfl rfl) ?_
                show Go _ p e below s _ _ _ (T70.setTop (mkF m 105 #[.val (.ref a1), .val (.ref a2), .val (.int p3), .val (.int p4), .val (.int i), .val (.int z1)] [(.ref a1)]))
                refine go (fun _ => XS.iconst X70.here hx rfl (hb hby d4_105)) ?_
                show Go _ p e below s _ _ _ (T70.setTop (mkF m 106 #[.val (.ref a1), .val (.ref a2), .val (.int p3), .val (.int p4), .val (.int i), .val (.int z1)] [(.int (0 : Int32)), (.ref a1)]))
                obtain ⟨T71, h71, X71, e71, W71, st71⟩ := putF X70 hx hZ hown (host := "") (Or.inl (hw _ (List.mem_of_getElem? (i := 27) rfl))) Via.refl e70 c70_3 c70_0 (Or.inl (hw _ (List.mem_of_getElem? (i := 28) rfl))) (hw _ (List.mem_of_getElem? (i := 10) rfl)) (ty := .int) (by decide) rfl rfl (g := (mkF m 106 #[.val (.ref a1), .val (.ref a2), .val (.int p3), .val (.int p4), .val (.int i), .val (.int z1)] [(.int (0 : Int32)), (.ref a1)])) rfl rfl (hb hby d4_106)
                have Fw71 := c70_3.same W71
                have c71_0 := c70_0.wr W71
                have c71_1 := c70_1.other W71 (Ne.symm P3)
                have c71_2 := c70_2.other W71 (Or.inr (slot_ne (Or.inl (hw _ (List.mem_of_getElem? (i := 26) rfl))) (Or.inl (hw _ (List.mem_of_getElem? (i := 28) rfl))) (by decide) (t := .int) (t' := .int) (by decide) (by decide)))
                have c71_4 := c70_4.other W71 (Or.inr (slot_ne (Or.inl (hw _ (List.mem_of_getElem? (i := 30) rfl))) (Or.inl (hw _ (List.mem_of_getElem? (i := 28) rfl))) (by decide) (t := .boolean) (t' := .int) (by decide) (by decide)))
                have c71_5 := Fw70.other W71 (Or.inr (slot_ne (Or.inl (hw _ (List.mem_of_getElem? (i := 38) rfl))) (Or.inl (hw _ (List.mem_of_getElem? (i := 28) rfl))) (by decide) (t := .boolean) (t' := .int) (by decide) (by decide)))
                have c71_6 := c70_6.other W71 (Or.inr (slot_ne (Or.inl (hw _ (List.mem_of_getElem? (i := 24) rfl))) (Or.inl (hw _ (List.mem_of_getElem? (i := 28) rfl))) (by decide) (t := .boolean) (t' := .int) (by decide) (by decide)))
                have KK71 : Keep h0 h71 [a1] := KK70.wr W71 (Or.inl (List.mem_of_getElem? (i := 0) rfl))
                have ZN71 : n0 ≤ h71.size := Nat.le_trans ZN70 (Keep.of_wr W71).1
                have NN71 := Fr.snoc X71 NN70 P1
                refine go st71 ?_
                show Go _ p e below s _ _ _ (T71.setTop (mkF m 109 #[.val (.ref a1), .val (.ref a2), .val (.int p3), .val (.int p4), .val (.int i), .val (.int z1)] []))
                refine go (fun _ => XS.goto X71.here hx rfl (pc0 := 109) (pc' := 147) rfl (hb hby d4_109) (by decide) (by decide)) ?_
                show Go _ p e below s _ _ _ (T71.setTop (mkF m 147 #[.val (.ref a1), .val (.ref a2), .val (.int p3), .val (.int p4), .val (.int i), .val (.int z1)] []))
                refine go (fun _ => XS.aloadN X71.here hx rfl (hb hby d4_147) rfl rfl) ?_
                show Go _ p e below s _ _ _ (T71.setTop (mkF m 148 #[.val (.ref a1), .val (.ref a2), .val (.int p3), .val (.int p4), .val (.int i), .val (.int z1)] [(.ref a1)]))
                refine go (fun _ => XS.dup X71.here hx rfl (hb hby d4_148) rfl rfl) ?_
                show Go _ p e below s _ _ _ (T71.setTop (mkF m 149 #[.val (.ref a1), .val (.ref a2), .val (.int p3), .val (.int p4), .val (.int i), .val (.int z1)] [(.ref a1), (.ref a1)]))
                obtain ⟨T72, X72, e72, st72⟩ := getF X71 hx hZ hown (host := "") (Or.inl (hw _ (List.mem_of_getElem? (i := 23) rfl))) Via.refl e71 c71_6 (g := (mkF m 149 #[.val (.ref a1), .val (.ref a2), .val (.int p3), .val (.int p4), .val (.int i), .val (.int z1)] [(.ref a1), (.ref a1)])) rfl rfl (hb hby d4_149)
                refine go st72 ?_
                show Go _ p e below s _ _ _ (T72.setTop (mkF m 152 #[.val (.ref a1), .val (.ref a2), .val (.int p3), .val (.int p4), .val (.int i), .val (.int z1)] [(.int (nar .boolean z2)), (.ref a1)]))
                have JE : ∀ (z5 : Int32) (T73 : State) (locs73 : List Loc) (_ : Stand p l e ({ frames := 0, cells := 0, slots := 0, locals := 0 } : Room) s m #[(.ref a1), (.ref a2), (.int p3), (.int p4)] below meth c T73 locs73 0 0) (_ : T73.heap = h71) (_ : Fr n0 locs73), (z5 = own_lk (x1 + 1)) → Go FrameEnd p e below s ({ frames := 0, cells := 0, slots := 0, locals := 0 } : Room).cells ({ frames := 0, cells := 0, slots := 0, locals := 0 } : Room).slots (Q4 Z a1 a2 p3 p4 k1 zl vs dv g nn i0 y1 y2 y3 y4 y5 h0 n0) (T73.setTop (mkF m 166 #[.val (.ref a1), .val (.ref a2), .val (.int p3), .val (.int p4), .val (.int i), .val (.int z1)] [(.int z5), (.int (nar .boolean z2)), (.ref a1)])) := by
                  intro z5 T73 locs73 X73 e73 NF73 hz5
                  show Go _ p e below s _ _ _ (T73.setTop (mkF m 166 #[.val (.ref a1), .val (.ref a2), .val (.int p3), .val (.int p4), .val (.int i), .val (.int z1)] [(.int z5), (.int (nar .boolean z2)), (.ref a1)]))
                  refine go (fun _ => XS.ior X73.here hx rfl (hb hby d4_166) rfl) ?_
                  show Go _ p e below s _ _ _ (T73.setTop (mkF m 167 #[.val (.ref a1), .val (.ref a2), .val (.int p3), .val (.int p4), .val (.int i), .val (.int z1)] [(.int ((nar .boolean z2) ||| z5)), (.ref a1)]))
                  obtain ⟨T74, h74, X74, e74, W74, st74⟩ := putFN X73 hx hZ hown (hw _ (List.mem_of_getElem? (i := 23) rfl)) Via.refl e73 c71_6 c71_0 (Or.inl (hw _ (List.mem_of_getElem? (i := 24) rfl))) (hw _ (List.mem_of_getElem? (i := 10) rfl)) (ty := .boolean) (v' := (.int (nar .boolean ((nar .boolean z2) ||| z5)))) (by decide) rfl (fits_nar_bool _) (g := (mkF m 167 #[.val (.ref a1), .val (.ref a2), .val (.int p3), .val (.int p4), .val (.int i), .val (.int z1)] [(.int ((nar .boolean z2) ||| z5)), (.ref a1)])) rfl rfl (hb hby d4_167)
                  have Fw74 := c71_6.same W74
                  have c74_0 := c71_0.wr W74
                  have c74_1 := c71_1.other W74 (Ne.symm P3)
                  have c74_2 := c71_2.other W74 (Or.inr (slot_ne (Or.inl (hw _ (List.mem_of_getElem? (i := 26) rfl))) (Or.inl (hw _ (List.mem_of_getElem? (i := 24) rfl))) (by decide) (t := .int) (t' := .boolean) (by decide) (by decide)))
                  have c74_3 := Fw71.other W74 (Or.inr (slot_ne (Or.inl (hw _ (List.mem_of_getElem? (i := 28) rfl))) (Or.inl (hw _ (List.mem_of_getElem? (i := 24) rfl))) (by decide) (t := .int) (t' := .boolean) (by decide) (by decide)))
                  have c74_4 := c71_4.other W74 (Or.inr (slot_ne (Or.inl (hw _ (List.mem_of_getElem? (i := 30) rfl))) (Or.inl (hw _ (List.mem_of_getElem? (i := 24) rfl))) (by decide) (t := .boolean) (t' := .boolean) (by decide) (by decide)))
                  have c74_5 := c71_5.other W74 (Or.inr (slot_ne (Or.inl (hw _ (List.mem_of_getElem? (i := 38) rfl))) (Or.inl (hw _ (List.mem_of_getElem? (i := 24) rfl))) (by decide) (t := .boolean) (t' := .boolean) (by decide) (by decide)))
                  have KK74 : Keep h0 h74 [a1] := KK71.wr W74 (Or.inl (List.mem_of_getElem? (i := 0) rfl))
                  have ZN74 : n0 ≤ h74.size := Nat.le_trans ZN71 (Keep.of_wr W74).1
                  have NN74 := Fr.snoc X74 NF73 P1
                  refine go st74 ?_
                  show Go _ p e below s _ _ _ (T74.setTop (mkF m 170 #[.val (.ref a1), .val (.ref a2), .val (.int p3), .val (.int p4), .val (.int i), .val (.int z1)] []))
                  refine go (fun _ => XS.iinc X74.here hx rfl (hb hby d4_170) rfl (l' := #[.val (.ref a1), .val (.ref a2), .val (.int p3), .val (.int p4), .val (.int (i + (1 : Int32))), .val (.int z1)]) rfl) ?_
                  show Go _ p e below s _ _ _ (T74.setTop (mkF m 173 #[.val (.ref a1), .val (.ref a2), .val (.int p3), .val (.int p4), .val (.int (i + (1 : Int32))), .val (.int z1)] []))
                  refine go (fun _ => XS.goto X74.here hx rfl (pc0 := 173) (pc' := 3) rfl (hb hby d4_173) (by decide) (by decide)) ?_
                  show Go _ p e below s _ _ _ (T74.setTop (mkF m 3 #[.val (.ref a1), .val (.ref a2), .val (.int p3), .val (.int p4), .val (.int (i + (1 : Int32))), .val (.int z1)] []))
                  subst hz1 hz2 hz3 hz5
                  exact ih _ (k + 1) _ _ _ _ _ _ T74 _ h74 X74 e74 NN74 KK74 ZN74  c74_0 c74_1 c74_2 c74_3 c74_4 c74_5 Fw74 (One.val rfl) (own_inc hi hz) (by rw [ht]; congr 1; omega) (by have := hz; omega) (by rw [← hr, own_runS (x := (x1, x2, x3, x4, x5)) hc13_60]; unfold own_step; rw [if_pos hc32_64])
                refine go (fun _ => XS.aloadN X72.here hx rfl (hb hby d4_152) rfl rfl) ?_
                show Go _ p e below s _ _ _ (T72.setTop (mkF m 153 #[.val (.ref a1), .val (.ref a2), .val (.int p3), .val (.int p4), .val (.int i), .val (.int z1)] [(.ref a1), (.int (nar .boolean z2)), (.ref a1)]))
                obtain ⟨T75, X75, e75, st75⟩ := getF X72 hx hZ hown (host := "") (Or.inl (hw _ (List.mem_of_getElem? (i := 25) rfl))) Via.refl e72 c71_2 (g := (mkF m 153 #[.val (.ref a1), .val (.ref a2), .val (.int p3), .val (.int p4), .val (.int i), .val (.int z1)] [(.ref a1), (.int (nar .boolean z2)), (.ref a1)])) rfl rfl (hb hby d4_153)
                refine go st75 ?_
                show Go _ p e below s _ _ _ (T75.setTop (mkF m 156 #[.val (.ref a1), .val (.ref a2), .val (.int p3), .val (.int p4), .val (.int i), .val (.int z1)] [(.int (x1 + (1 : Int32))), (.int (nar .boolean z2)), (.ref a1)]))
                refine go (X75.ldcInt hx hown (mvT hZ (hw _ (List.mem_of_getElem? (i := 31) rfl))) (g := (mkF m 156 #[.val (.ref a1), .val (.ref a2), .val (.int p3), .val (.int p4), .val (.int i), .val (.int z1)] [(.int (x1 + (1 : Int32))), (.int (nar .boolean z2)), (.ref a1)])) rfl (hb hby d4_156)) ?_
                show Go _ p e below s _ _ _ (T75.setTop (mkF m 158 #[.val (.ref a1), .val (.ref a2), .val (.int p3), .val (.int p4), .val (.int i), .val (.int z1)] [(.int (65537 : Int32)), (.int (x1 + (1 : Int32))), (.int (nar .boolean z2)), (.ref a1)]))
                by_cases hc158_76 : (x1 + (1 : Int32)) < (65537 : Int32)
                · refine go (fun _ => XS.icmpYes X75.here hx rfl (pc0 := 158) (pc' := 165) rfl (hb hby d4_158) rfl (tlt hc158_76).1 (by decide) (by decide)) ?_
                  show Go _ p e below s _ _ _ (T75.setTop (mkF m 165 #[.val (.ref a1), .val (.ref a2), .val (.int p3), .val (.int p4), .val (.int i), .val (.int z1)] [(.int (nar .boolean z2)), (.ref a1)]))
                  refine go (fun _ => XS.iconst X75.here hx rfl (hb hby d4_165)) ?_
                  show Go _ p e below s _ _ _ (T75.setTop (mkF m 166 #[.val (.ref a1), .val (.ref a2), .val (.int p3), .val (.int p4), .val (.int i), .val (.int z1)] [(.int (0 : Int32)), (.int (nar .boolean z2)), (.ref a1)]))
                  exact JE _ T75 _ X75 e75 NN71 (by unfold own_lk; simp only [if_pos hc158_76])
                · refine go (fun _ => XS.icmpNo X75.here hx rfl (hb hby d4_158) rfl (flt hc158_76).1) ?_
                  show Go _ p e below s _ _ _ (T75.setTop (mkF m 161 #[.val (.ref a1), .val (.ref a2), .val (.int p3), .val (.int p4), .val (.int i), .val (.int z1)] [(.int (nar .boolean z2)), (.ref a1)]))
                  refine go (fun _ => XS.iconst X75.here hx rfl (hb hby d4_161)) ?_
                  show Go _ p e below s _ _ _ (T75.setTop (mkF m 162 #[.val (.ref a1), .val (.ref a2), .val (.int p3), .val (.int p4), .val (.int i), .val (.int z1)] [(.int (1 : Int32)), (.int (nar .boolean z2)), (.ref a1)]))
                  refine go (fun _ => XS.goto X75.here hx rfl (pc0 := 162) (pc' := 166) rfl (hb hby d4_162) (by decide) (by decide)) ?_
                  show Go _ p e below s _ _ _ (T75.setTop (mkF m 166 #[.val (.ref a1), .val (.ref a2), .val (.int p3), .val (.int p4), .val (.int i), .val (.int z1)] [(.int (1 : Int32)), (.int (nar .boolean z2)), (.ref a1)]))
                  exact JE _ T75 _ X75 e75 NN71 (by unfold own_lk; simp only [if_neg hc158_76])
              refine go (fun _ => XS.iload X68.here hx rfl (hb hby d4_90) rfl) ?_
              show Go _ p e below s _ _ _ (T68.setTop (mkF m 92 #[.val (.ref a1), .val (.ref a2), .val (.int p3), .val (.int p4), .val (.int i), .val (.int z1)] [(.int z1), (.int x4), (.ref a1)]))
              by_cases hc92_77 : z1 = (0 : Int32)
              · refine go (fun _ => XS.ifNo X68.here hx rfl (hb hby d4_92) rfl ((if0 _ _).trans (teq hc92_77).2)) ?_
                show Go _ p e below s _ _ _ (T68.setTop (mkF m 95 #[.val (.ref a1), .val (.ref a2), .val (.int p3), .val (.int p4), .val (.int i), .val (.int z1)] [(.int x4), (.ref a1)]))
                refine go (fun _ => XS.iconst X68.here hx rfl (hb hby d4_95)) ?_
                show Go _ p e below s _ _ _ (T68.setTop (mkF m 96 #[.val (.ref a1), .val (.ref a2), .val (.int p3), .val (.int p4), .val (.int i), .val (.int z1)] [(.int (1 : Int32)), (.int x4), (.ref a1)]))
                refine go (fun _ => XS.goto X68.here hx rfl (pc0 := 96) (pc' := 100) rfl (hb hby d4_96) (by decide) (by decide)) ?_
                show Go _ p e below s _ _ _ (T68.setTop (mkF m 100 #[.val (.ref a1), .val (.ref a2), .val (.int p3), .val (.int p4), .val (.int i), .val (.int z1)] [(.int (1 : Int32)), (.int x4), (.ref a1)]))
                exact JC _ T68 _ X68 e68 NN67 (by unfold own_n; simp only [if_pos hc92_77])
              · refine go (fun _ => XS.ifYes X68.here hx rfl (pc0 := 92) (pc' := 99) rfl (hb hby d4_92) rfl ((if0 _ _).trans (feq hc92_77).2) (by decide) (by decide)) ?_
                show Go _ p e below s _ _ _ (T68.setTop (mkF m 99 #[.val (.ref a1), .val (.ref a2), .val (.int p3), .val (.int p4), .val (.int i), .val (.int z1)] [(.int x4), (.ref a1)]))
                refine go (fun _ => XS.iconst X68.here hx rfl (hb hby d4_99)) ?_
                show Go _ p e below s _ _ _ (T68.setTop (mkF m 100 #[.val (.ref a1), .val (.ref a2), .val (.int p3), .val (.int p4), .val (.int i), .val (.int z1)] [(.int (0 : Int32)), (.int x4), (.ref a1)]))
                exact JC _ T68 _ X68 e68 NN67 (by unfold own_n; simp only [if_neg hc92_77])
            refine go (fun _ => XS.iload X65.here hx rfl (hb hby d4_65) rfl) ?_
            show Go _ p e below s _ _ _ (T65.setTop (mkF m 67 #[.val (.ref a1), .val (.ref a2), .val (.int p3), .val (.int p4), .val (.int i), .val (.int z1)] [(.int z1), (.ref a1)]))
            by_cases hc67_78 : z1 = (0 : Int32)
            · refine go (fun _ => XS.ifYes X65.here hx rfl (pc0 := 67) (pc' := 81) rfl (hb hby d4_67) rfl ((if0 _ _).trans (teq hc67_78).1) (by decide) (by decide)) ?_
              show Go _ p e below s _ _ _ (T65.setTop (mkF m 81 #[.val (.ref a1), .val (.ref a2), .val (.int p3), .val (.int p4), .val (.int i), .val (.int z1)] [(.ref a1)]))
              refine go (fun _ => XS.iconst X65.here hx rfl (hb hby d4_81)) ?_
              show Go _ p e below s _ _ _ (T65.setTop (mkF m 82 #[.val (.ref a1), .val (.ref a2), .val (.int p3), .val (.int p4), .val (.int i), .val (.int z1)] [(.int (0 : Int32)), (.ref a1)]))
              exact JB _ T65 _ X65 e65 NF65 (by unfold own_f; simp only [if_pos hc67_78])
            · refine go (fun _ => XS.ifNo X65.here hx rfl (hb hby d4_67) rfl ((if0 _ _).trans (feq hc67_78).1)) ?_
              show Go _ p e below s _ _ _ (T65.setTop (mkF m 70 #[.val (.ref a1), .val (.ref a2), .val (.int p3), .val (.int p4), .val (.int i), .val (.int z1)] [(.ref a1)]))
              refine go (fun _ => XS.aloadN X65.here hx rfl (hb hby d4_70) rfl rfl) ?_
              show Go _ p e below s _ _ _ (T65.setTop (mkF m 71 #[.val (.ref a1), .val (.ref a2), .val (.int p3), .val (.int p4), .val (.int i), .val (.int z1)] [(.ref a1), (.ref a1)]))
              obtain ⟨T79, X79, e79, st79⟩ := getF X65 hx hZ hown (host := "") (Or.inl (hw _ (List.mem_of_getElem? (i := 37) rfl))) Via.refl e65 c62_5 (g := (mkF m 71 #[.val (.ref a1), .val (.ref a2), .val (.int p3), .val (.int p4), .val (.int i), .val (.int z1)] [(.ref a1), (.ref a1)])) rfl rfl (hb hby d4_71)
              refine go st79 ?_
              show Go _ p e below s _ _ _ (T79.setTop (mkF m 74 #[.val (.ref a1), .val (.ref a2), .val (.int p3), .val (.int p4), .val (.int i), .val (.int z1)] [(.int x4), (.ref a1)]))
              by_cases hc74_80 : x4 = (0 : Int32)
              · refine go (fun _ => XS.ifYes X79.here hx rfl (pc0 := 74) (pc' := 81) rfl (hb hby d4_74) rfl ((if0 _ _).trans (teq hc74_80).1) (by decide) (by decide)) ?_
                show Go _ p e below s _ _ _ (T79.setTop (mkF m 81 #[.val (.ref a1), .val (.ref a2), .val (.int p3), .val (.int p4), .val (.int i), .val (.int z1)] [(.ref a1)]))
                refine go (fun _ => XS.iconst X79.here hx rfl (hb hby d4_81)) ?_
                show Go _ p e below s _ _ _ (T79.setTop (mkF m 82 #[.val (.ref a1), .val (.ref a2), .val (.int p3), .val (.int p4), .val (.int i), .val (.int z1)] [(.int (0 : Int32)), (.ref a1)]))
                exact JB _ T79 _ X79 e79 NF65 (by unfold own_f; simp only [if_neg hc67_78, if_pos hc74_80])
              · refine go (fun _ => XS.ifNo X79.here hx rfl (hb hby d4_74) rfl ((if0 _ _).trans (feq hc74_80).1)) ?_
                show Go _ p e below s _ _ _ (T79.setTop (mkF m 77 #[.val (.ref a1), .val (.ref a2), .val (.int p3), .val (.int p4), .val (.int i), .val (.int z1)] [(.ref a1)]))
                refine go (fun _ => XS.iconst X79.here hx rfl (hb hby d4_77)) ?_
                show Go _ p e below s _ _ _ (T79.setTop (mkF m 78 #[.val (.ref a1), .val (.ref a2), .val (.int p3), .val (.int p4), .val (.int i), .val (.int z1)] [(.int (1 : Int32)), (.ref a1)]))
                refine go (fun _ => XS.goto X79.here hx rfl (pc0 := 78) (pc' := 82) rfl (hb hby d4_78) (by decide) (by decide)) ?_
                show Go _ p e below s _ _ _ (T79.setTop (mkF m 82 #[.val (.ref a1), .val (.ref a2), .val (.int p3), .val (.int p4), .val (.int i), .val (.int z1)] [(.int (1 : Int32)), (.ref a1)]))
                exact JB _ T79 _ X79 e79 NF65 (by unfold own_f; simp only [if_neg hc67_78, if_neg hc74_80])
          refine go (fun _ => XS.aloadN X62.here hx rfl (hb hby d4_35) rfl rfl) ?_
          show Go _ p e below s _ _ _ (T62.setTop (mkF m 36 #[.val (.ref a1), .val (.ref a2), .val (.int p3), .val (.int p4), .val (.int i), s5] [(.ref a1)]))
          obtain ⟨T81, X81, e81, st81⟩ := getF X62 hx hZ hown (host := "") (Or.inl (hw _ (List.mem_of_getElem? (i := 27) rfl))) Via.refl e62 c62_3 (g := (mkF m 36 #[.val (.ref a1), .val (.ref a2), .val (.int p3), .val (.int p4), .val (.int i), s5] [(.ref a1)])) rfl rfl (hb hby d4_36)
          refine go st81 ?_
          show Go _ p e below s _ _ _ (T81.setTop (mkF m 39 #[.val (.ref a1), .val (.ref a2), .val (.int p3), .val (.int p4), .val (.int i), s5] [(.int x2)]))
          by_cases hc39_82 : x2 = (0 : Int32)
          · refine go (fun _ => XS.ifYes X81.here hx rfl (pc0 := 39) (pc' := 57) rfl (hb hby d4_39) rfl ((if0 _ _).trans (teq hc39_82).1) (by decide) (by decide)) ?_
            show Go _ p e below s _ _ _ (T81.setTop (mkF m 57 #[.val (.ref a1), .val (.ref a2), .val (.int p3), .val (.int p4), .val (.int i), s5] []))
            refine go (fun _ => XS.iconst X81.here hx rfl (hb hby d4_57)) ?_
            show Go _ p e below s _ _ _ (T81.setTop (mkF m 58 #[.val (.ref a1), .val (.ref a2), .val (.int p3), .val (.int p4), .val (.int i), s5] [(.int (1 : Int32))]))
            refine go (fun _ => XS.goto X81.here hx rfl (pc0 := 58) (pc' := 62) rfl (hb hby d4_58) (by decide) (by decide)) ?_
            show Go _ p e below s _ _ _ (T81.setTop (mkF m 62 #[.val (.ref a1), .val (.ref a2), .val (.int p3), .val (.int p4), .val (.int i), s5] [(.int (1 : Int32))]))
            exact JA _ T81 _ X81 e81 NN62 (by unfold own_e; simp only [if_pos hc39_82])
          · refine go (fun _ => XS.ifNo X81.here hx rfl (hb hby d4_39) rfl ((if0 _ _).trans (feq hc39_82).1)) ?_
            show Go _ p e below s _ _ _ (T81.setTop (mkF m 42 #[.val (.ref a1), .val (.ref a2), .val (.int p3), .val (.int p4), .val (.int i), s5] []))
            refine go (fun _ => XS.aloadN X81.here hx rfl (hb hby d4_42) rfl rfl) ?_
            show Go _ p e below s _ _ _ (T81.setTop (mkF m 43 #[.val (.ref a1), .val (.ref a2), .val (.int p3), .val (.int p4), .val (.int i), s5] [(.ref a1)]))
            obtain ⟨T83, X83, e83, st83⟩ := getF X81 hx hZ hown (host := "") (Or.inl (hw _ (List.mem_of_getElem? (i := 27) rfl))) Via.refl e81 c62_3 (g := (mkF m 43 #[.val (.ref a1), .val (.ref a2), .val (.int p3), .val (.int p4), .val (.int i), s5] [(.ref a1)])) rfl rfl (hb hby d4_43)
            refine go st83 ?_
            show Go _ p e below s _ _ _ (T83.setTop (mkF m 46 #[.val (.ref a1), .val (.ref a2), .val (.int p3), .val (.int p4), .val (.int i), s5] [(.int x2)]))
            refine go (fun _ => XS.iconst X83.here hx rfl (hb hby d4_46)) ?_
            show Go _ p e below s _ _ _ (T83.setTop (mkF m 47 #[.val (.ref a1), .val (.ref a2), .val (.int p3), .val (.int p4), .val (.int i), s5] [(.int (1 : Int32)), (.int x2)]))
            by_cases hc47_84 : x2 = (1 : Int32)
            · refine go (fun _ => XS.icmpNo X83.here hx rfl (hb hby d4_47) rfl (teq hc47_84).2) ?_
              show Go _ p e below s _ _ _ (T83.setTop (mkF m 50 #[.val (.ref a1), .val (.ref a2), .val (.int p3), .val (.int p4), .val (.int i), s5] []))
              refine go (fun _ => XS.aloadN X83.here hx rfl (hb hby d4_50) rfl rfl) ?_
              show Go _ p e below s _ _ _ (T83.setTop (mkF m 51 #[.val (.ref a1), .val (.ref a2), .val (.int p3), .val (.int p4), .val (.int i), s5] [(.ref a1)]))
              obtain ⟨T85, X85, e85, st85⟩ := getF X83 hx hZ hown (host := "") (Or.inl (hw _ (List.mem_of_getElem? (i := 29) rfl))) Via.refl e83 c62_4 (g := (mkF m 51 #[.val (.ref a1), .val (.ref a2), .val (.int p3), .val (.int p4), .val (.int i), s5] [(.ref a1)])) rfl rfl (hb hby d4_51)
              refine go st85 ?_
              show Go _ p e below s _ _ _ (T85.setTop (mkF m 54 #[.val (.ref a1), .val (.ref a2), .val (.int p3), .val (.int p4), .val (.int i), s5] [(.int x3)]))
              by_cases hc54_86 : x3 = (0 : Int32)
              · refine go (fun _ => XS.ifYes X85.here hx rfl (pc0 := 54) (pc' := 61) rfl (hb hby d4_54) rfl ((if0 _ _).trans (teq hc54_86).1) (by decide) (by decide)) ?_
                show Go _ p e below s _ _ _ (T85.setTop (mkF m 61 #[.val (.ref a1), .val (.ref a2), .val (.int p3), .val (.int p4), .val (.int i), s5] []))
                refine go (fun _ => XS.iconst X85.here hx rfl (hb hby d4_61)) ?_
                show Go _ p e below s _ _ _ (T85.setTop (mkF m 62 #[.val (.ref a1), .val (.ref a2), .val (.int p3), .val (.int p4), .val (.int i), s5] [(.int (0 : Int32))]))
                exact JA _ T85 _ X85 e85 NN62 (by unfold own_e; simp only [if_neg hc39_82, if_pos hc47_84, if_pos hc54_86])
              · refine go (fun _ => XS.ifNo X85.here hx rfl (hb hby d4_54) rfl ((if0 _ _).trans (feq hc54_86).1)) ?_
                show Go _ p e below s _ _ _ (T85.setTop (mkF m 57 #[.val (.ref a1), .val (.ref a2), .val (.int p3), .val (.int p4), .val (.int i), s5] []))
                refine go (fun _ => XS.iconst X85.here hx rfl (hb hby d4_57)) ?_
                show Go _ p e below s _ _ _ (T85.setTop (mkF m 58 #[.val (.ref a1), .val (.ref a2), .val (.int p3), .val (.int p4), .val (.int i), s5] [(.int (1 : Int32))]))
                refine go (fun _ => XS.goto X85.here hx rfl (pc0 := 58) (pc' := 62) rfl (hb hby d4_58) (by decide) (by decide)) ?_
                show Go _ p e below s _ _ _ (T85.setTop (mkF m 62 #[.val (.ref a1), .val (.ref a2), .val (.int p3), .val (.int p4), .val (.int i), s5] [(.int (1 : Int32))]))
                exact JA _ T85 _ X85 e85 NN62 (by unfold own_e; simp only [if_neg hc39_82, if_pos hc47_84, if_neg hc54_86])
            · refine go (fun _ => XS.icmpYes X83.here hx rfl (pc0 := 47) (pc' := 61) rfl (hb hby d4_47) rfl (feq hc47_84).2 (by decide) (by decide)) ?_
              show Go _ p e below s _ _ _ (T83.setTop (mkF m 61 #[.val (.ref a1), .val (.ref a2), .val (.int p3), .val (.int p4), .val (.int i), s5] []))
              refine go (fun _ => XS.iconst X83.here hx rfl (hb hby d4_61)) ?_
              show Go _ p e below s _ _ _ (T83.setTop (mkF m 62 #[.val (.ref a1), .val (.ref a2), .val (.int p3), .val (.int p4), .val (.int i), s5] [(.int (0 : Int32))]))
              exact JA _ T83 _ X83 e83 NN62 (by unfold own_e; simp only [if_neg hc39_82, if_neg hc47_84])
        · refine go (fun _ => XS.icmpYes X62.here hx rfl (pc0 := 32) (pc' := 112) rfl (hb hby d4_32) rfl (feq hc32_64).2 (by decide) (by decide)) ?_
          show Go _ p e below s _ _ _ (T62.setTop (mkF m 112 #[.val (.ref a1), .val (.ref a2), .val (.int p3), .val (.int p4), .val (.int i), s5] []))
          refine go (fun _ => XS.aloadN X62.here hx rfl (hb hby d4_112) rfl rfl) ?_
          show Go _ p e below s _ _ _ (T62.setTop (mkF m 113 #[.val (.ref a1), .val (.ref a2), .val (.int p3), .val (.int p4), .val (.int i), s5] [(.ref a1)]))
          have JD : ∀ (z4 : Int32) (T87 : State) (locs87 : List Loc) (_ : Stand p l e ({ frames := 0, cells := 0, slots := 0, locals := 0 } : Room) s m #[(.ref a1), (.ref a2), (.int p3), (.int p4)] below meth c T87 locs87 0 0) (_ : T87.heap = h62) (_ : Fr n0 locs87), (z4 = own_cr x2 (g k)) → Go FrameEnd p e below s ({ frames := 0, cells := 0, slots := 0, locals := 0 } : Room).cells ({ frames := 0, cells := 0, slots := 0, locals := 0 } : Room).slots (Q4 Z a1 a2 p3 p4 k1 zl vs dv g nn i0 y1 y2 y3 y4 y5 h0 n0) (T87.setTop (mkF m 134 #[.val (.ref a1), .val (.ref a2), .val (.int p3), .val (.int p4), .val (.int i), s5] [(.int z4), (.ref a1)])) := by
            intro z4 T87 locs87 X87 e87 NF87 hz4
            show Go _ p e below s _ _ _ (T87.setTop (mkF m 134 #[.val (.ref a1), .val (.ref a2), .val (.int p3), .val (.int p4), .val (.int i), s5] [(.int z4), (.ref a1)]))
            obtain ⟨T88, h88, X88, e88, W88, st88⟩ := putFN X87 hx hZ hown (hw _ (List.mem_of_getElem? (i := 29) rfl)) Via.refl e87 c62_4 c62_0 (Or.inl (hw _ (List.mem_of_getElem? (i := 30) rfl))) (hw _ (List.mem_of_getElem? (i := 10) rfl)) (ty := .boolean) (v' := (.int (nar .boolean z4))) (by decide) rfl (fits_nar_bool _) (g := (mkF m 134 #[.val (.ref a1), .val (.ref a2), .val (.int p3), .val (.int p4), .val (.int i), s5] [(.int z4), (.ref a1)])) rfl rfl (hb hby d4_134)
            have Fw88 := c62_4.same W88
            have c88_0 := c62_0.wr W88
            have c88_1 := c62_1.other W88 (Ne.symm P3)
            have c88_2 := Fw62.other W88 (Or.inr (slot_ne (Or.inl (hw _ (List.mem_of_getElem? (i := 26) rfl))) (Or.inl (hw _ (List.mem_of_getElem? (i := 30) rfl))) (by decide) (t := .int) (t' := .boolean) (by decide) (by decide)))
            have c88_3 := c62_3.other W88 (Or.inr (slot_ne (Or.inl (hw _ (List.mem_of_getElem? (i := 28) rfl))) (Or.inl (hw _ (List.mem_of_getElem? (i := 30) rfl))) (by decide) (t := .int) (t' := .boolean) (by decide) (by decide)))
            have c88_5 := c62_5.other W88 (Or.inr (slot_ne (Or.inl (hw _ (List.mem_of_getElem? (i := 38) rfl))) (Or.inl (hw _ (List.mem_of_getElem? (i := 30) rfl))) (by decide) (t := .boolean) (t' := .boolean) (by decide) (by decide)))
            have c88_6 := c62_6.other W88 (Or.inr (slot_ne (Or.inl (hw _ (List.mem_of_getElem? (i := 24) rfl))) (Or.inl (hw _ (List.mem_of_getElem? (i := 30) rfl))) (by decide) (t := .boolean) (t' := .boolean) (by decide) (by decide)))
            have KK88 : Keep h0 h88 [a1] := KK62.wr W88 (Or.inl (List.mem_of_getElem? (i := 0) rfl))
            have ZN88 : n0 ≤ h88.size := Nat.le_trans ZN62 (Keep.of_wr W88).1
            have NN88 := Fr.snoc X88 NF87 P1
            refine go st88 ?_
            show Go _ p e below s _ _ _ (T88.setTop (mkF m 137 #[.val (.ref a1), .val (.ref a2), .val (.int p3), .val (.int p4), .val (.int i), s5] []))
            refine go (fun _ => XS.aloadN X88.here hx rfl (hb hby d4_137) rfl rfl) ?_
            show Go _ p e below s _ _ _ (T88.setTop (mkF m 138 #[.val (.ref a1), .val (.ref a2), .val (.int p3), .val (.int p4), .val (.int i), s5] [(.ref a1)]))
            refine go (fun _ => XS.dup X88.here hx rfl (hb hby d4_138) rfl rfl) ?_
            show Go _ p e below s _ _ _ (T88.setTop (mkF m 139 #[.val (.ref a1), .val (.ref a2), .val (.int p3), .val (.int p4), .val (.int i), s5] [(.ref a1), (.ref a1)]))
            obtain ⟨T89, X89, e89, st89⟩ := getF X88 hx hZ hown (host := "") (Or.inl (hw _ (List.mem_of_getElem? (i := 27) rfl))) Via.refl e88 c88_3 (g := (mkF m 139 #[.val (.ref a1), .val (.ref a2), .val (.int p3), .val (.int p4), .val (.int i), s5] [(.ref a1), (.ref a1)])) rfl rfl (hb hby d4_139)
            refine go st89 ?_
            show Go _ p e below s _ _ _ (T89.setTop (mkF m 142 #[.val (.ref a1), .val (.ref a2), .val (.int p3), .val (.int p4), .val (.int i), s5] [(.int x2), (.ref a1)]))
            refine go (fun _ => XS.iconst X89.here hx rfl (hb hby d4_142)) ?_
            show Go _ p e below s _ _ _ (T89.setTop (mkF m 143 #[.val (.ref a1), .val (.ref a2), .val (.int p3), .val (.int p4), .val (.int i), s5] [(.int (1 : Int32)), (.int x2), (.ref a1)]))
            refine go (fun _ => XS.iadd X89.here hx rfl (hb hby d4_143) rfl) ?_
            show Go _ p e below s _ _ _ (T89.setTop (mkF m 144 #[.val (.ref a1), .val (.ref a2), .val (.int p3), .val (.int p4), .val (.int i), s5] [(.int (x2 + (1 : Int32))), (.ref a1)]))
            obtain ⟨T90, h90, X90, e90, W90, st90⟩ := putF X89 hx hZ hown (host := "") (Or.inl (hw _ (List.mem_of_getElem? (i := 27) rfl))) Via.refl e89 c88_3 c88_0 (Or.inl (hw _ (List.mem_of_getElem? (i := 28) rfl))) (hw _ (List.mem_of_getElem? (i := 10) rfl)) (ty := .int) (by decide) rfl rfl (g := (mkF m 144 #[.val (.ref a1), .val (.ref a2), .val (.int p3), .val (.int p4), .val (.int i), s5] [(.int (x2 + (1 : Int32))), (.ref a1)])) rfl rfl (hb hby d4_144)
            have Fw90 := c88_3.same W90
            have c90_0 := c88_0.wr W90
            have c90_1 := c88_1.other W90 (Ne.symm P3)
            have c90_2 := c88_2.other W90 (Or.inr (slot_ne (Or.inl (hw _ (List.mem_of_getElem? (i := 26) rfl))) (Or.inl (hw _ (List.mem_of_getElem? (i := 28) rfl))) (by decide) (t := .int) (t' := .int) (by decide) (by decide)))
            have c90_4 := Fw88.other W90 (Or.inr (slot_ne (Or.inl (hw _ (List.mem_of_getElem? (i := 30) rfl))) (Or.inl (hw _ (List.mem_of_getElem? (i := 28) rfl))) (by decide) (t := .boolean) (t' := .int) (by decide) (by decide)))
            have c90_5 := c88_5.other W90 (Or.inr (slot_ne (Or.inl (hw _ (List.mem_of_getElem? (i := 38) rfl))) (Or.inl (hw _ (List.mem_of_getElem? (i := 28) rfl))) (by decide) (t := .boolean) (t' := .int) (by decide) (by decide)))
            have c90_6 := c88_6.other W90 (Or.inr (slot_ne (Or.inl (hw _ (List.mem_of_getElem? (i := 24) rfl))) (Or.inl (hw _ (List.mem_of_getElem? (i := 28) rfl))) (by decide) (t := .boolean) (t' := .int) (by decide) (by decide)))
            have KK90 : Keep h0 h90 [a1] := KK88.wr W90 (Or.inl (List.mem_of_getElem? (i := 0) rfl))
            have ZN90 : n0 ≤ h90.size := Nat.le_trans ZN88 (Keep.of_wr W90).1
            have NN90 := Fr.snoc X90 NN88 P1
            refine go st90 ?_
            show Go _ p e below s _ _ _ (T90.setTop (mkF m 147 #[.val (.ref a1), .val (.ref a2), .val (.int p3), .val (.int p4), .val (.int i), s5] []))
            refine go (fun _ => XS.aloadN X90.here hx rfl (hb hby d4_147) rfl rfl) ?_
            show Go _ p e below s _ _ _ (T90.setTop (mkF m 148 #[.val (.ref a1), .val (.ref a2), .val (.int p3), .val (.int p4), .val (.int i), s5] [(.ref a1)]))
            refine go (fun _ => XS.dup X90.here hx rfl (hb hby d4_148) rfl rfl) ?_
            show Go _ p e below s _ _ _ (T90.setTop (mkF m 149 #[.val (.ref a1), .val (.ref a2), .val (.int p3), .val (.int p4), .val (.int i), s5] [(.ref a1), (.ref a1)]))
            obtain ⟨T91, X91, e91, st91⟩ := getF X90 hx hZ hown (host := "") (Or.inl (hw _ (List.mem_of_getElem? (i := 23) rfl))) Via.refl e90 c90_6 (g := (mkF m 149 #[.val (.ref a1), .val (.ref a2), .val (.int p3), .val (.int p4), .val (.int i), s5] [(.ref a1), (.ref a1)])) rfl rfl (hb hby d4_149)
            refine go st91 ?_
            show Go _ p e below s _ _ _ (T91.setTop (mkF m 152 #[.val (.ref a1), .val (.ref a2), .val (.int p3), .val (.int p4), .val (.int i), s5] [(.int x5), (.ref a1)]))
            have JE : ∀ (z5 : Int32) (T92 : State) (locs92 : List Loc) (_ : Stand p l e ({ frames := 0, cells := 0, slots := 0, locals := 0 } : Room) s m #[(.ref a1), (.ref a2), (.int p3), (.int p4)] below meth c T92 locs92 0 0) (_ : T92.heap = h90) (_ : Fr n0 locs92), (z5 = own_lk (x1 + 1)) → Go FrameEnd p e below s ({ frames := 0, cells := 0, slots := 0, locals := 0 } : Room).cells ({ frames := 0, cells := 0, slots := 0, locals := 0 } : Room).slots (Q4 Z a1 a2 p3 p4 k1 zl vs dv g nn i0 y1 y2 y3 y4 y5 h0 n0) (T92.setTop (mkF m 166 #[.val (.ref a1), .val (.ref a2), .val (.int p3), .val (.int p4), .val (.int i), s5] [(.int z5), (.int x5), (.ref a1)])) := by
              intro z5 T92 locs92 X92 e92 NF92 hz5
              show Go _ p e below s _ _ _ (T92.setTop (mkF m 166 #[.val (.ref a1), .val (.ref a2), .val (.int p3), .val (.int p4), .val (.int i), s5] [(.int z5), (.int x5), (.ref a1)]))
              refine go (fun _ => XS.ior X92.here hx rfl (hb hby d4_166) rfl) ?_
              show Go _ p e below s _ _ _ (T92.setTop (mkF m 167 #[.val (.ref a1), .val (.ref a2), .val (.int p3), .val (.int p4), .val (.int i), s5] [(.int (x5 ||| z5)), (.ref a1)]))
              obtain ⟨T93, h93, X93, e93, W93, st93⟩ := putFN X92 hx hZ hown (hw _ (List.mem_of_getElem? (i := 23) rfl)) Via.refl e92 c90_6 c90_0 (Or.inl (hw _ (List.mem_of_getElem? (i := 24) rfl))) (hw _ (List.mem_of_getElem? (i := 10) rfl)) (ty := .boolean) (v' := (.int (nar .boolean (x5 ||| z5)))) (by decide) rfl (fits_nar_bool _) (g := (mkF m 167 #[.val (.ref a1), .val (.ref a2), .val (.int p3), .val (.int p4), .val (.int i), s5] [(.int (x5 ||| z5)), (.ref a1)])) rfl rfl (hb hby d4_167)
              have Fw93 := c90_6.same W93
              have c93_0 := c90_0.wr W93
              have c93_1 := c90_1.other W93 (Ne.symm P3)
              have c93_2 := c90_2.other W93 (Or.inr (slot_ne (Or.inl (hw _ (List.mem_of_getElem? (i := 26) rfl))) (Or.inl (hw _ (List.mem_of_getElem? (i := 24) rfl))) (by decide) (t := .int) (t' := .boolean) (by decide) (by decide)))
              have c93_3 := Fw90.other W93 (Or.inr (slot_ne (Or.inl (hw _ (List.mem_of_getElem? (i := 28) rfl))) (Or.inl (hw _ (List.mem_of_getElem? (i := 24) rfl))) (by decide) (t := .int) (t' := .boolean) (by decide) (by decide)))
              have c93_4 := c90_4.other W93 (Or.inr (slot_ne (Or.inl (hw _ (List.mem_of_getElem? (i := 30) rfl))) (Or.inl (hw _ (List.mem_of_getElem? (i := 24) rfl))) (by decide) (t := .boolean) (t' := .boolean) (by decide) (by decide)))
              have c93_5 := c90_5.other W93 (Or.inr (slot_ne (Or.inl (hw _ (List.mem_of_getElem? (i := 38) rfl))) (Or.inl (hw _ (List.mem_of_getElem? (i := 24) rfl))) (by decide) (t := .boolean) (t' := .boolean) (by decide) (by decide)))
              have KK93 : Keep h0 h93 [a1] := KK90.wr W93 (Or.inl (List.mem_of_getElem? (i := 0) rfl))
              have ZN93 : n0 ≤ h93.size := Nat.le_trans ZN90 (Keep.of_wr W93).1
              have NN93 := Fr.snoc X93 NF92 P1
              refine go st93 ?_
              show Go _ p e below s _ _ _ (T93.setTop (mkF m 170 #[.val (.ref a1), .val (.ref a2), .val (.int p3), .val (.int p4), .val (.int i), s5] []))
              refine go (fun _ => XS.iinc X93.here hx rfl (hb hby d4_170) rfl (l' := #[.val (.ref a1), .val (.ref a2), .val (.int p3), .val (.int p4), .val (.int (i + (1 : Int32))), s5]) rfl) ?_
              show Go _ p e below s _ _ _ (T93.setTop (mkF m 173 #[.val (.ref a1), .val (.ref a2), .val (.int p3), .val (.int p4), .val (.int (i + (1 : Int32))), s5] []))
              refine go (fun _ => XS.goto X93.here hx rfl (pc0 := 173) (pc' := 3) rfl (hb hby d4_173) (by decide) (by decide)) ?_
              show Go _ p e below s _ _ _ (T93.setTop (mkF m 3 #[.val (.ref a1), .val (.ref a2), .val (.int p3), .val (.int p4), .val (.int (i + (1 : Int32))), s5] []))
              subst hz4 hz5
              exact ih _ (k + 1) _ _ _ _ _ _ T93 _ h93 X93 e93 NN93 KK93 ZN93  c93_0 c93_1 c93_2 c93_3 c93_4 c93_5 Fw93 hs5 (own_inc hi hz) (by rw [ht]; congr 1; omega) (by have := hz; omega) (by rw [← hr, own_runS (x := (x1, x2, x3, x4, x5)) hc13_60]; unfold own_step; rw [if_neg hc32_64])
            refine go (fun _ => XS.aloadN X91.here hx rfl (hb hby d4_152) rfl rfl) ?_
            show Go _ p e below s _ _ _ (T91.setTop (mkF m 153 #[.val (.ref a1), .val (.ref a2), .val (.int p3), .val (.int p4), .val (.int i), s5] [(.ref a1), (.int x5), (.ref a1)]))
            obtain ⟨T94, X94, e94, st94⟩ := getF X91 hx hZ hown (host := "") (Or.inl (hw _ (List.mem_of_getElem? (i := 25) rfl))) Via.refl e91 c90_2 (g := (mkF m 153 #[.val (.ref a1), .val (.ref a2), .val (.int p3), .val (.int p4), .val (.int i), s5] [(.ref a1), (.int x5), (.ref a1)])) rfl rfl (hb hby d4_153)
            refine go st94 ?_
            show Go _ p e below s _ _ _ (T94.setTop (mkF m 156 #[.val (.ref a1), .val (.ref a2), .val (.int p3), .val (.int p4), .val (.int i), s5] [(.int (x1 + (1 : Int32))), (.int x5), (.ref a1)]))
            refine go (X94.ldcInt hx hown (mvT hZ (hw _ (List.mem_of_getElem? (i := 31) rfl))) (g := (mkF m 156 #[.val (.ref a1), .val (.ref a2), .val (.int p3), .val (.int p4), .val (.int i), s5] [(.int (x1 + (1 : Int32))), (.int x5), (.ref a1)])) rfl (hb hby d4_156)) ?_
            show Go _ p e below s _ _ _ (T94.setTop (mkF m 158 #[.val (.ref a1), .val (.ref a2), .val (.int p3), .val (.int p4), .val (.int i), s5] [(.int (65537 : Int32)), (.int (x1 + (1 : Int32))), (.int x5), (.ref a1)]))
            by_cases hc158_95 : (x1 + (1 : Int32)) < (65537 : Int32)
            · refine go (fun _ => XS.icmpYes X94.here hx rfl (pc0 := 158) (pc' := 165) rfl (hb hby d4_158) rfl (tlt hc158_95).1 (by decide) (by decide)) ?_
              show Go _ p e below s _ _ _ (T94.setTop (mkF m 165 #[.val (.ref a1), .val (.ref a2), .val (.int p3), .val (.int p4), .val (.int i), s5] [(.int x5), (.ref a1)]))
              refine go (fun _ => XS.iconst X94.here hx rfl (hb hby d4_165)) ?_
              show Go _ p e below s _ _ _ (T94.setTop (mkF m 166 #[.val (.ref a1), .val (.ref a2), .val (.int p3), .val (.int p4), .val (.int i), s5] [(.int (0 : Int32)), (.int x5), (.ref a1)]))
              exact JE _ T94 _ X94 e94 NN90 (by unfold own_lk; simp only [if_pos hc158_95])
            · refine go (fun _ => XS.icmpNo X94.here hx rfl (hb hby d4_158) rfl (flt hc158_95).1) ?_
              show Go _ p e below s _ _ _ (T94.setTop (mkF m 161 #[.val (.ref a1), .val (.ref a2), .val (.int p3), .val (.int p4), .val (.int i), s5] [(.int x5), (.ref a1)]))
              refine go (fun _ => XS.iconst X94.here hx rfl (hb hby d4_161)) ?_
              show Go _ p e below s _ _ _ (T94.setTop (mkF m 162 #[.val (.ref a1), .val (.ref a2), .val (.int p3), .val (.int p4), .val (.int i), s5] [(.int (1 : Int32)), (.int x5), (.ref a1)]))
              refine go (fun _ => XS.goto X94.here hx rfl (pc0 := 162) (pc' := 166) rfl (hb hby d4_162) (by decide) (by decide)) ?_
              show Go _ p e below s _ _ _ (T94.setTop (mkF m 166 #[.val (.ref a1), .val (.ref a2), .val (.int p3), .val (.int p4), .val (.int i), s5] [(.int (1 : Int32)), (.int x5), (.ref a1)]))
              exact JE _ T94 _ X94 e94 NN90 (by unfold own_lk; simp only [if_neg hc158_95])
          refine go (fun _ => XS.aloadN X62.here hx rfl (hb hby d4_113) rfl rfl) ?_
          show Go _ p e below s _ _ _ (T62.setTop (mkF m 114 #[.val (.ref a1), .val (.ref a2), .val (.int p3), .val (.int p4), .val (.int i), s5] [(.ref a1), (.ref a1)]))
          obtain ⟨T96, X96, e96, st96⟩ := getF X62 hx hZ hown (host := "") (Or.inl (hw _ (List.mem_of_getElem? (i := 27) rfl))) Via.refl e62 c62_3 (g := (mkF m 114 #[.val (.ref a1), .val (.ref a2), .val (.int p3), .val (.int p4), .val (.int i), s5] [(.ref a1), (.ref a1)])) rfl rfl (hb hby d4_114)
          refine go st96 ?_
          show Go _ p e below s _ _ _ (T96.setTop (mkF m 117 #[.val (.ref a1), .val (.ref a2), .val (.int p3), .val (.int p4), .val (.int i), s5] [(.int x2), (.ref a1)]))
          by_cases hc117_97 : x2 = (0 : Int32)
          · refine go (fun _ => XS.ifNo X96.here hx rfl (hb hby d4_117) rfl ((if0 _ _).trans (teq hc117_97).2)) ?_
            show Go _ p e below s _ _ _ (T96.setTop (mkF m 120 #[.val (.ref a1), .val (.ref a2), .val (.int p3), .val (.int p4), .val (.int i), s5] [(.ref a1)]))
            refine go (fun _ => XS.aloadN X96.here hx rfl (hb hby d4_120) rfl rfl) ?_
            show Go _ p e below s _ _ _ (T96.setTop (mkF m 121 #[.val (.ref a1), .val (.ref a2), .val (.int p3), .val (.int p4), .val (.int i), s5] [(.ref a2), (.ref a1)]))
            refine go (fun _ => XS.iload X96.here hx rfl (hb hby d4_121) rfl) ?_
            show Go _ p e below s _ _ _ (T96.setTop (mkF m 123 #[.val (.ref a1), .val (.ref a2), .val (.int p3), .val (.int p4), .val (.int i), s5] [(.int i), (.ref a2), (.ref a1)]))
            obtain ⟨cl98, Ar98, q98, Sz98, Nz98, Hs98, Gs98⟩ := id c62_1
            have hin98 : ¬ (i < 0 ∨ cl98.slots.size ≤ (i).toNatClampNeg) := inb_of Sz98 (own_in hi hz)
            refine go (X96.baloadBytes hx (j := i) (v := (.int (g k))) (by rw [e96]; exact Ar98.1) (State.isArrayOf_alike hZ.alike Ar98.2.1) Ar98.2.2 hin98 (Hs98.at hin98 (by rw [own_ix hi]; exact hg k)) (g := (mkF m 123 #[.val (.ref a1), .val (.ref a2), .val (.int p3), .val (.int p4), .val (.int i), s5] [(.int i), (.ref a2), (.ref a1)])) rfl rfl (hb hby d4_123)) ?_
            show Go _ p e below s _ _ _ (T96.setTop (mkF m 124 #[.val (.ref a1), .val (.ref a2), .val (.int p3), .val (.int p4), .val (.int i), s5] [(.int (g k)), (.ref a1)]))
            refine go (fun _ => XS.bipush X96.here hx rfl (hb hby d4_124)) ?_
            show Go _ p e below s _ _ _ (T96.setTop (mkF m 126 #[.val (.ref a1), .val (.ref a2), .val (.int p3), .val (.int p4), .val (.int i), s5] [(.int (13 : Int32)), (.int (g k)), (.ref a1)]))
            by_cases hc126_99 : (g k) = (13 : Int32)
            · refine go (fun _ => XS.icmpNo X96.here hx rfl (hb hby d4_126) rfl (teq hc126_99).2) ?_
              show Go _ p e below s _ _ _ (T96.setTop (mkF m 129 #[.val (.ref a1), .val (.ref a2), .val (.int p3), .val (.int p4), .val (.int i), s5] [(.ref a1)]))
              refine go (fun _ => XS.iconst X96.here hx rfl (hb hby d4_129)) ?_
              show Go _ p e below s _ _ _ (T96.setTop (mkF m 130 #[.val (.ref a1), .val (.ref a2), .val (.int p3), .val (.int p4), .val (.int i), s5] [(.int (1 : Int32)), (.ref a1)]))
              refine go (fun _ => XS.goto X96.here hx rfl (pc0 := 130) (pc' := 134) rfl (hb hby d4_130) (by decide) (by decide)) ?_
              show Go _ p e below s _ _ _ (T96.setTop (mkF m 134 #[.val (.ref a1), .val (.ref a2), .val (.int p3), .val (.int p4), .val (.int i), s5] [(.int (1 : Int32)), (.ref a1)]))
              exact JD _ T96 _ X96 e96 NN62 (by unfold own_cr; simp only [if_pos hc117_97, if_pos hc126_99])
            · refine go (fun _ => XS.icmpYes X96.here hx rfl (pc0 := 126) (pc' := 133) rfl (hb hby d4_126) rfl (feq hc126_99).2 (by decide) (by decide)) ?_
              show Go _ p e below s _ _ _ (T96.setTop (mkF m 133 #[.val (.ref a1), .val (.ref a2), .val (.int p3), .val (.int p4), .val (.int i), s5] [(.ref a1)]))
              refine go (fun _ => XS.iconst X96.here hx rfl (hb hby d4_133)) ?_
              show Go _ p e below s _ _ _ (T96.setTop (mkF m 134 #[.val (.ref a1), .val (.ref a2), .val (.int p3), .val (.int p4), .val (.int i), s5] [(.int (0 : Int32)), (.ref a1)]))
              exact JD _ T96 _ X96 e96 NN62 (by unfold own_cr; simp only [if_pos hc117_97, if_neg hc126_99])
          · refine go (fun _ => XS.ifYes X96.here hx rfl (pc0 := 117) (pc' := 133) rfl (hb hby d4_117) rfl ((if0 _ _).trans (feq hc117_97).2) (by decide) (by decide)) ?_
            show Go _ p e below s _ _ _ (T96.setTop (mkF m 133 #[.val (.ref a1), .val (.ref a2), .val (.int p3), .val (.int p4), .val (.int i), s5] [(.ref a1)]))
            refine go (fun _ => XS.iconst X96.here hx rfl (hb hby d4_133)) ?_
            show Go _ p e below s _ _ _ (T96.setTop (mkF m 134 #[.val (.ref a1), .val (.ref a2), .val (.int p3), .val (.int p4), .val (.int i), s5] [(.int (0 : Int32)), (.ref a1)]))
            exact JD _ T96 _ X96 e96 NN62 (by unfold own_cr; simp only [if_neg hc117_97])
      · refine go (fun _ => XS.ifYes X59.here hx rfl (pc0 := 13) (pc' := 176) rfl (hb hby d4_13) rfl ((if0 _ _).trans (feq hc13_60).2) (by decide) (by decide)) ?_
        show Go _ p e below s _ _ _ (T59.setTop (mkF m 176 #[.val (.ref a1), .val (.ref a2), .val (.int p3), .val (.int p4), .val (.int i), s5] []))
        rw [own_runT (x := (x1, x2, x3, x4, x5)) hc13_60] at hr
        refine go (fun _ => XS.aloadN X59.here hx rfl (hb hby d4_176) rfl rfl) ?_
        show Go _ p e below s _ _ _ (T59.setTop (mkF m 177 #[.val (.ref a1), .val (.ref a2), .val (.int p3), .val (.int p4), .val (.int i), s5] [(.ref a1)]))
        obtain ⟨T100, X100, e100, st100⟩ := getF X59 hx hZ hown (host := "") (Or.inl (hw _ (List.mem_of_getElem? (i := 23) rfl))) Via.refl e59 ff57_6 (g := (mkF m 177 #[.val (.ref a1), .val (.ref a2), .val (.int p3), .val (.int p4), .val (.int i), s5] [(.ref a1)])) rfl rfl (hb hby d4_177)
        refine go st100 ?_
        show Go _ p e below s _ _ _ (T100.setTop (mkF m 180 #[.val (.ref a1), .val (.ref a2), .val (.int p3), .val (.int p4), .val (.int i), s5] [(.int x5)]))
        refine goRetN X100 hx Bd.notSynchronized (t := .boolean) Bd.returns (by simp) (hb hby d4_180) (by decide) (by decide) (by rw [e100]; refine ⟨(by rw [← hr] <;> rfl), NF57, KK57, (by rw [← hr]; exact ff57_2), (by rw [← hr]; exact ff57_3), (by rw [← hr]; exact ff57_4), (by rw [← hr]; exact ff57_5), (by rw [← hr]; exact ff57_6)⟩)
  exact LP nn _ i0 _ _ _ _ _ _ s₁ _ h0 X0 e0 N0 (Keep.refl h0 [a1]) Z0  P0 P2 P4 P5 P6 P7 P8 One.u hi0 hto hzl rfl
theorem own_getD (es : List Int32) (j : Nat) : (es.map Value.int).getD j (.int 0) = .int (es.getD j 0) := by
  simp only [List.getD_eq_getElem?_getD, List.getElem?_map]
  cases es[j]? <;> rfl
theorem own_mod (x r : Int32) (n : Nat) (hr : r.toInt = (n : Int)) (hn : 0 < n) : ∃ k : Nat, ((x &&& 2147483647) % r).toInt = (k : Int) ∧ k < n := by
  have h := Jvm.Kit.i32_mask x 2147483647 (k := 31) (by decide) (by decide)
  have e1 : ((x &&& 2147483647) % r).toInt = (x &&& 2147483647).toInt % r.toInt := Jvm.Kit.i32_rem_nonneg (by omega)
  have g1 := Int.emod_nonneg (x &&& 2147483647).toInt (b := r.toInt) (by omega)
  have g2 := Int.emod_lt_of_pos (x &&& 2147483647).toInt (b := r.toInt) (by omega)
  exact ⟨((x &&& 2147483647) % r).toInt.toNat, by omega, by omega⟩
theorem d1_0 : decode method_3_code 0 = .ok (.lload_n 0, 1) := by decide +kernel
theorem d1_1 : decode method_3_code 1 = .ok (.ldc2_w 26, 3) := by decide +kernel
theorem d1_4 : decode method_3_code 4 = .ok (.land, 1) := by decide +kernel
theorem d1_5 : decode method_3_code 5 = .ok (.l2i, 1) := by decide +kernel
theorem d1_6 : decode method_3_code 6 = .ok (.istore_n 2, 1) := by decide +kernel
theorem d1_7 : decode method_3_code 7 = .ok (.iload_n 2, 1) := by decide +kernel
theorem d1_8 : decode method_3_code 8 = .ok (.ifCond .ne 6, 3) := by decide +kernel
theorem d1_11 : decode method_3_code 11 = .ok (.bipush 10, 2) := by decide +kernel
theorem d1_13 : decode method_3_code 13 = .ok (.ireturn, 1) := by decide +kernel
theorem d1_14 : decode method_3_code 14 = .ok (.iload_n 2, 1) := by decide +kernel
theorem d1_15 : decode method_3_code 15 = .ok (.iconst 1, 1) := by decide +kernel
theorem d1_16 : decode method_3_code 16 = .ok (.if_icmp .ne 6, 3) := by decide +kernel
theorem d1_19 : decode method_3_code 19 = .ok (.bipush 13, 2) := by decide +kernel
theorem d1_21 : decode method_3_code 21 = .ok (.ireturn, 1) := by decide +kernel
theorem d1_22 : decode method_3_code 22 = .ok (.lload_n 0, 1) := by decide +kernel
theorem d1_23 : decode method_3_code 23 = .ok (.iconst 2, 1) := by decide +kernel
theorem d1_24 : decode method_3_code 24 = .ok (.lshr, 1) := by decide +kernel
theorem d1_25 : decode method_3_code 25 = .ok (.l2i, 1) := by decide +kernel
theorem d1_26 : decode method_3_code 26 = .ok (.i2b, 1) := by decide +kernel
theorem d1_27 : decode method_3_code 27 = .ok (.ireturn, 1) := by decide +kernel
theorem pn_1 : plainName "com/example/dosisbog/dosisbog/HeadEndResetPinLaw" = true := by first | (simp [plainName, overriddenIn]; done) | decide +kernel
theorem ef_1 (m : MethodId) (q1 : Int64) : entryFrame m #[(.long q1)] 3 = mkF m 0 #[.val (.long q1), .second, .unset] [] := by first | (simp [entryFrame, mkF, argsToLocals, Value.category]; done) | rfl
def Q1 (Z : State) (q1 : Int64) (h0 : Heap) (n0 : Nat) (v : Option Value) (h : Heap) (L : List Loc) : Prop := ∃ (z : Int32), v = some (.int z) ∧ Fr n0 L ∧ (h = h0)
set_option maxRecDepth 65536 in
set_option maxHeartbeats 40000000 in
theorem rm1 (l : Launch) (Z : State) (a0 : Array Value) (hw : ∀ d ∈ tables_1, d.before a0 Z = true) (ws : List Jvm.Cond) (q1 : Int64) (h0 : Heap) (n0 : Nat) (Z0 : n0 ≤ h0.size)  :
    MetFree l (⟨"com/example/dosisbog/dosisbog/HeadEndResetPinLaw", "pick", "(J)B"⟩ : MethodName) (head1 (Jvm.Cond.code (⟨"com/example/dosisbog/dosisbog/HeadEndResetPinLaw", "pick", "(J)B"⟩ : MethodName) method_3_code 3 (some .byte) :: ws) ({ frames := 0, cells := 0, slots := 0, locals := 0 } : Room)) (fun a U => a = #[(.long q1)] ∧ Z.Warmed39 U.vm ∧ U.heap = h0) (fun _ _ _ _ _ => True) (fun _ U o U' => ∃ v L, o = .returned v ∧ Q1 Z q1 h0 n0 v U'.heap L ∧ FrameEnd U o U' L ({ frames := 0, cells := 0, slots := 0, locals := 0 } : Room).cells ({ frames := 0, cells := 0, slots := 0, locals := 0 } : Room).slots) := by
  refine MetFree.of_bodySF (plainFor_of_name pn_1) hisR ?_
  intro p e s m args below meth c s₁ Bd hml0 hP hK
  obtain ⟨rfl, hZ, hh⟩ := hP
  have hx := Bd.exec
  have hby := Bd.bytes
  have hml : c.maxLocals = 3 := hml0
  have hown : s.vm.findClass "com/example/dosisbog/dosisbog/HeadEndResetPinLaw" = some m.cls := findClass_of_methodNamed Bd.named
  have hnm := (name_of_methodNamed Bd.named Bd.method).1
  have X0 : Stand p l e ({ frames := 0, cells := 0, slots := 0, locals := 0 } : Room) s m #[(.long q1)] below meth c s₁ [] 0 0 := Stand.of_body Bd
  have e0 : s₁.heap = h0 := by rw [← hh, Bd.state]; rfl
  have N0 := Fr.nil n0
  have hS0 : s.Since s.vm 0 := (State.WarmedH.refl s).since 0
  show Go FrameEnd p e below s ({ frames := 0, cells := 0, slots := 0, locals := 0 } : Room).cells ({ frames := 0, cells := 0, slots := 0, locals := 0 } : Room).slots (Q1 Z q1 h0 n0) (s₁.setTop (entryFrame m #[(.long q1)] 3))
  refine go (fun _ k => castTop (ef_1 m q1) k) ?_
  show Go _ p e below s _ _ _ (s₁.setTop (mkF m 0 #[.val (.long q1), .second, .unset] []))
  refine go (fun _ => XS.lloadN X0.here hx rfl (hb hby d1_0) rfl) ?_
  show Go _ p e below s _ _ _ (s₁.setTop (mkF m 1 #[.val (.long q1), .second, .unset] [(.long q1)]))
  refine go (X0.ldc2Long hx hown (mvT hZ (hw _ (List.mem_of_getElem? (i := 6) rfl))) (g := (mkF m 1 #[.val (.long q1), .second, .unset] [(.long q1)])) rfl (hb hby d1_1)) ?_
  show Go _ p e below s _ _ _ (s₁.setTop (mkF m 4 #[.val (.long q1), .second, .unset] [(.long (3 : Int64)), (.long q1)]))
  refine go (fun _ => XS.land X0.here hx rfl (hb hby d1_4) rfl) ?_
  show Go _ p e below s _ _ _ (s₁.setTop (mkF m 5 #[.val (.long q1), .second, .unset] [(.long (q1 &&& (3 : Int64)))]))
  refine go (fun _ => XS.l2i X0.here hx rfl (hb hby d1_5) rfl) ?_
  show Go _ p e below s _ _ _ (s₁.setTop (mkF m 6 #[.val (.long q1), .second, .unset] [(.int ((q1 &&& (3 : Int64)).toInt32))]))
  refine go (fun _ => XS.istoreN X0.here hx rfl (hb hby d1_6) rfl (l' := #[.val (.long q1), .second, .val (.int ((q1 &&& (3 : Int64)).toInt32))]) rfl) ?_
  show Go _ p e below s _ _ _ (s₁.setTop (mkF m 7 #[.val (.long q1), .second, .val (.int ((q1 &&& (3 : Int64)).toInt32))] []))
  refine go (fun _ => XS.iloadN X0.here hx rfl (hb hby d1_7) rfl) ?_
  show Go _ p e below s _ _ _ (s₁.setTop (mkF m 8 #[.val (.long q1), .second, .val (.int ((q1 &&& (3 : Int64)).toInt32))] [(.int ((q1 &&& (3 : Int64)).toInt32))]))
  by_cases hc8_103 : ((q1 &&& (3 : Int64)).toInt32) = (0 : Int32)
  · refine go (fun _ => XS.ifNo X0.here hx rfl (hb hby d1_8) rfl ((if0 _ _).trans (teq hc8_103).2)) ?_
    show Go _ p e below s _ _ _ (s₁.setTop (mkF m 11 #[.val (.long q1), .second, .val (.int ((q1 &&& (3 : Int64)).toInt32))] []))
    refine go (fun _ => XS.bipush X0.here hx rfl (hb hby d1_11)) ?_
    show Go _ p e below s _ _ _ (s₁.setTop (mkF m 13 #[.val (.long q1), .second, .val (.int ((q1 &&& (3 : Int64)).toInt32))] [(.int (10 : Int32))]))
    refine goRetN X0 hx Bd.notSynchronized (t := .byte) Bd.returns (by simp) (hb hby d1_13) (by decide) (by decide) (by rw [e0]; refine ⟨(nar .byte (10 : Int32)), rfl, N0, rfl⟩)
  · refine go (fun _ => XS.ifYes X0.here hx rfl (pc0 := 8) (pc' := 14) rfl (hb hby d1_8) rfl ((if0 _ _).trans (feq hc8_103).2) (by decide) (by decide)) ?_
    show Go _ p e below s _ _ _ (s₁.setTop (mkF m 14 #[.val (.long q1), .second, .val (.int ((q1 &&& (3 : Int64)).toInt32))] []))
    refine go (fun _ => XS.iloadN X0.here hx rfl (hb hby d1_14) rfl) ?_
    show Go _ p e below s _ _ _ (s₁.setTop (mkF m 15 #[.val (.long q1), .second, .val (.int ((q1 &&& (3 : Int64)).toInt32))] [(.int ((q1 &&& (3 : Int64)).toInt32))]))
    refine go (fun _ => XS.iconst X0.here hx rfl (hb hby d1_15)) ?_
    show Go _ p e below s _ _ _ (s₁.setTop (mkF m 16 #[.val (.long q1), .second, .val (.int ((q1 &&& (3 : Int64)).toInt32))] [(.int (1 : Int32)), (.int ((q1 &&& (3 : Int64)).toInt32))]))
    by_cases hc16_104 : ((q1 &&& (3 : Int64)).toInt32) = (1 : Int32)
    · refine go (fun _ => XS.icmpNo X0.here hx rfl (hb hby d1_16) rfl (teq hc16_104).2) ?_
      show Go _ p e below s _ _ _ (s₁.setTop (mkF m 19 #[.val (.long q1), .second, .val (.int ((q1 &&& (3 : Int64)).toInt32))] []))
      refine go (fun _ => XS.bipush X0.here hx rfl (hb hby d1_19)) ?_
      show Go _ p e below s _ _ _ (s₁.setTop (mkF m 21 #[.val (.long q1), .second, .val (.int ((q1 &&& (3 : Int64)).toInt32))] [(.int (13 : Int32))]))
      refine goRetN X0 hx Bd.notSynchronized (t := .byte) Bd.returns (by simp) (hb hby d1_21) (by decide) (by decide) (by rw [e0]; refine ⟨(nar .byte (13 : Int32)), rfl, N0, rfl⟩)
    · refine go (fun _ => XS.icmpYes X0.here hx rfl (pc0 := 16) (pc' := 22) rfl (hb hby d1_16) rfl (feq hc16_104).2 (by decide) (by decide)) ?_
      show Go _ p e below s _ _ _ (s₁.setTop (mkF m 22 #[.val (.long q1), .second, .val (.int ((q1 &&& (3 : Int64)).toInt32))] []))
      refine go (fun _ => XS.lloadN X0.here hx rfl (hb hby d1_22) rfl) ?_
      show Go _ p e below s _ _ _ (s₁.setTop (mkF m 23 #[.val (.long q1), .second, .val (.int ((q1 &&& (3 : Int64)).toInt32))] [(.long q1)]))
      refine go (fun _ => XS.iconst X0.here hx rfl (hb hby d1_23)) ?_
      show Go _ p e below s _ _ _ (s₁.setTop (mkF m 24 #[.val (.long q1), .second, .val (.int ((q1 &&& (3 : Int64)).toInt32))] [(.int (2 : Int32)), (.long q1)]))
      refine go (fun _ => XS.lshr X0.here hx rfl (hb hby d1_24) rfl) ?_
      show Go _ p e below s _ _ _ (s₁.setTop (mkF m 25 #[.val (.long q1), .second, .val (.int ((q1 &&& (3 : Int64)).toInt32))] [(.long (q1 >>> ((2 : Int32) &&& 0x3f).toInt64))]))
      refine go (fun _ => XS.l2i X0.here hx rfl (hb hby d1_25) rfl) ?_
      show Go _ p e below s _ _ _ (s₁.setTop (mkF m 26 #[.val (.long q1), .second, .val (.int ((q1 &&& (3 : Int64)).toInt32))] [(.int ((q1 >>> ((2 : Int32) &&& 0x3f).toInt64).toInt32))]))
      refine go (fun _ => XS.i2b X0.here hx rfl (hb hby d1_26) rfl) ?_
      show Go _ p e below s _ _ _ (s₁.setTop (mkF m 27 #[.val (.long q1), .second, .val (.int ((q1 &&& (3 : Int64)).toInt32))] [(.int (((q1 >>> ((2 : Int32) &&& 0x3f).toInt64).toInt32).toInt8.toInt32))]))
      refine goRetN X0 hx Bd.notSynchronized (t := .byte) Bd.returns (by simp) (hb hby d1_27) (by decide) (by decide) (by rw [e0]; refine ⟨(nar .byte (((q1 >>> ((2 : Int32) &&& 0x3f).toInt64).toInt32).toInt8.toInt32)), rfl, N0, rfl⟩)
theorem pn_0 : plainName "com/example/dosisbog/dosisbog/HeadEndResetPinLaw" = true := by first | (simp [plainName, overriddenIn]; done) | decide +kernel
theorem pd_0_0 : parseMethodDescriptor "(J)B" = some ⟨[.long], some .byte⟩ := by decide +kernel
theorem pd_0_1 : parseMethodDescriptor "()V" = some ⟨[], none⟩ := by decide +kernel
theorem pd_0_2 : parseMethodDescriptor "([BII)Z" = some ⟨[(.array .byte), .int, .int], some .boolean⟩ := by decide +kernel
theorem ef_0 (m : MethodId) (q1 : Int64) (q2 : Int64) (p3 : Int32) (p4 : Int32) (p5 : Int32) : entryFrame m #[(.long q1), (.long q2), (.int p3), (.int p4), (.int p5)] maxLocals = mkF m 0 #[.val (.long q1), .second, .val (.long q2), .second, .val (.int p3), .val (.int p4), .val (.int p5), .unset, .unset, .unset, .unset, .unset, .unset, .unset, .unset, .unset, .unset, .unset, .unset] [] := by first | (simp [entryFrame, mkF, argsToLocals, Value.category, maxLocals]; done) | rfl
def Q0 (Z : State) (q1 : Int64) (q2 : Int64) (p3 : Int32) (p4 : Int32) (p5 : Int32) (h0 : Heap) (n0 : Nat) (v : Option Value) (h : Heap) (L : List Loc) : Prop := v = some (.int (1 : Int32)) ∧ Fr n0 L
set_option maxRecDepth 65536 in
set_option maxHeartbeats 40000000 in
theorem rm0 (l : Launch) (Z : State) (a0 : Array Value) (hw : ∀ d ∈ tables_1, d.before a0 Z = true) (ws : List Jvm.Cond) (q1 : Int64) (q2 : Int64) (p3 : Int32) (p4 : Int32) (p5 : Int32) (h0 : Heap) (n0 : Nat) (Z0 : n0 ≤ h0.size)  :
    MetFree l x (head1 (Jvm.Cond.code x code maxLocals ret :: ws) room_1) (fun a U => a = #[(.long q1), (.long q2), (.int p3), (.int p4), (.int p5)] ∧ Z.Warmed39 U.vm ∧ U.heap = h0) (fun _ _ _ _ _ => True) (fun _ U o U' => ∃ v L, o = .returned v ∧ Q0 Z q1 q2 p3 p4 p5 h0 n0 v U'.heap L ∧ FrameEnd U o U' L room_1.cells room_1.slots) := by
  refine MetFree.of_bodySF (plainFor_of_name pn_0) hisR ?_
  intro p e s m args below meth c s₁ Bd hml0 hP hK
  obtain ⟨rfl, hZ, hh⟩ := hP
  have hx := Bd.exec
  have hby := Bd.bytes
  have hml : c.maxLocals = 19 := hml0
  have hown : s.vm.findClass "com/example/dosisbog/dosisbog/HeadEndResetPinLaw" = some m.cls := findClass_of_methodNamed Bd.named
  have hnm := (name_of_methodNamed Bd.named Bd.method).1
  have X0 : Stand p l e room_1 s m #[(.long q1), (.long q2), (.int p3), (.int p4), (.int p5)] below meth c s₁ [] 0 0 := Stand.of_body Bd
  have e0 : s₁.heap = h0 := by rw [← hh, Bd.state]; rfl
  have N0 := Fr.nil n0
  have hS0 : s.Since s.vm 0 := (State.WarmedH.refl s).since 0
  show Go FrameEnd p e below s room_1.cells room_1.slots (Q0 Z q1 q2 p3 p4 p5 h0 n0) (s₁.setTop (entryFrame m #[(.long q1), (.long q2), (.int p3), (.int p4), (.int p5)] maxLocals))
  refine go (fun _ k => castTop (ef_0 m q1 q2 p3 p4 p5) k) ?_
  show Go _ p e below s _ _ _ (s₁.setTop (mkF m 0 #[.val (.long q1), .second, .val (.long q2), .second, .val (.int p3), .val (.int p4), .val (.int p5), .unset, .unset, .unset, .unset, .unset, .unset, .unset, .unset, .unset, .unset, .unset, .unset] []))
  refine go (fun _ => XS.iconst X0.here hx rfl (hb hby at_0)) ?_
  show Go _ p e below s _ _ _ (s₁.setTop (mkF m 1 #[.val (.long q1), .second, .val (.long q2), .second, .val (.int p3), .val (.int p4), .val (.int p5), .unset, .unset, .unset, .unset, .unset, .unset, .unset, .unset, .unset, .unset, .unset, .unset] [(.int (4 : Int32))]))
  obtain ⟨T105, h105, k105, X105, e105, E105, A105, AE105, st105⟩ := newPE X0 hx hZ (hw _ (List.mem_of_getElem? (i := 0) rfl)) e0 (g := (mkF m 1 #[.val (.long q1), .second, .val (.long q2), .second, .val (.int p3), .val (.int p4), .val (.int p5), .unset, .unset, .unset, .unset, .unset, .unset, .unset, .unset, .unset, .unset, .unset, .unset] [(.int (4 : Int32))])) rfl (hb hby at_1) rfl (by decide) (cap := 4) (by decide) (by decide) (by decide) (by decide) (ad := "[B") (by first | rfl | decide)
  obtain ⟨b105, g105⟩ : ∃ z, z = h0.size := ⟨_, rfl⟩
  rw [← g105] at A105 AE105 st105
  have G_b105 : n0 ≤ b105 := Nat.le_trans Z0 (Nat.le_of_eq g105.symm)
  have SZ_b105 : h0.size ≤ b105 := Nat.le_trans (Keep.refl h0 []).1 (Nat.le_of_eq g105.symm)
  have KK105 : Keep h0 h105 [] := (Keep.refl h0 []).ext E105
  have ZN105 : n0 ≤ h105.size := Nat.le_trans Z0 E105.1
  have V105 : Arv Z h105 b105 k105 .byte (4 : Int32) [(.int (0 : Int32)), (.int (0 : Int32)), (.int (0 : Int32)), (.int (0 : Int32))] (.int (0 : Int32)) := (Arv.new A105 (by decide)).pad (pad_rep [] (.int (0 : Int32)) 4)
  refine go st105 ?_
  show Go _ p e below s _ _ _ (T105.setTop (mkF m 3 #[.val (.long q1), .second, .val (.long q2), .second, .val (.int p3), .val (.int p4), .val (.int p5), .unset, .unset, .unset, .unset, .unset, .unset, .unset, .unset, .unset, .unset, .unset, .unset] [(.ref b105)]))
  refine go (fun _ => XS.astore X105.here hx rfl (hb hby at_3) rfl rfl (l' := #[.val (.long q1), .second, .val (.long q2), .second, .val (.int p3), .val (.int p4), .val (.int p5), .val (.ref b105), .unset, .unset, .unset, .unset, .unset, .unset, .unset, .unset, .unset, .unset, .unset]) rfl) ?_
  show Go _ p e below s _ _ _ (T105.setTop (mkF m 5 #[.val (.long q1), .second, .val (.long q2), .second, .val (.int p3), .val (.int p4), .val (.int p5), .val (.ref b105), .unset, .unset, .unset, .unset, .unset, .unset, .unset, .unset, .unset, .unset, .unset] []))
  refine go (fun _ => XS.iconst X105.here hx rfl (hb hby at_5)) ?_
  show Go _ p e below s _ _ _ (T105.setTop (mkF m 6 #[.val (.long q1), .second, .val (.long q2), .second, .val (.int p3), .val (.int p4), .val (.int p5), .val (.ref b105), .unset, .unset, .unset, .unset, .unset, .unset, .unset, .unset, .unset, .unset, .unset] [(.int (4 : Int32))]))
  obtain ⟨T106, h106, k106, X106, e106, E106, A106, AE106, st106⟩ := newPE X105 hx hZ (hw _ (List.mem_of_getElem? (i := 0) rfl)) e105 (g := (mkF m 6 #[.val (.long q1), .second, .val (.long q2), .second, .val (.int p3), .val (.int p4), .val (.int p5), .val (.ref b105), .unset, .unset, .unset, .unset, .unset, .unset, .unset, .unset, .unset, .unset, .unset] [(.int (4 : Int32))])) rfl (hb hby at_6) rfl (by decide) (cap := 4) (by decide) (by decide) (by decide) (by decide) (ad := "[B") (by first | rfl | decide)
  obtain ⟨b106, g106⟩ : ∃ z, z = h105.size := ⟨_, rfl⟩
  rw [← g106] at A106 AE106 st106
  have lt106_b105_b106 : b105 < b106 := Nat.lt_of_lt_of_le AE105.lt (Nat.le_of_eq g106.symm)
  have G_b106 : n0 ≤ b106 := Nat.le_trans ZN105 (Nat.le_of_eq g106.symm)
  have SZ_b106 : h0.size ≤ b106 := Nat.le_trans KK105.1 (Nat.le_of_eq g106.symm)
  have c106_0 := AE105.ext E106
  have c106_1 := V105.ext E106
  have KK106 : Keep h0 h106 [] := KK105.ext E106
  have ZN106 : n0 ≤ h106.size := Nat.le_trans ZN105 E106.1
  have V106 : Arv Z h106 b106 k106 .byte (4 : Int32) [(.int (0 : Int32)), (.int (0 : Int32)), (.int (0 : Int32)), (.int (0 : Int32))] (.int (0 : Int32)) := (Arv.new A106 (by decide)).pad (pad_rep [] (.int (0 : Int32)) 4)
  refine go st106 ?_
  show Go _ p e below s _ _ _ (T106.setTop (mkF m 8 #[.val (.long q1), .second, .val (.long q2), .second, .val (.int p3), .val (.int p4), .val (.int p5), .val (.ref b105), .unset, .unset, .unset, .unset, .unset, .unset, .unset, .unset, .unset, .unset, .unset] [(.ref b106)]))
  refine go (fun _ => XS.astore X106.here hx rfl (hb hby at_8) rfl rfl (l' := #[.val (.long q1), .second, .val (.long q2), .second, .val (.int p3), .val (.int p4), .val (.int p5), .val (.ref b105), .val (.ref b106), .unset, .unset, .unset, .unset, .unset, .unset, .unset, .unset, .unset, .unset]) rfl) ?_
  show Go _ p e below s _ _ _ (T106.setTop (mkF m 10 #[.val (.long q1), .second, .val (.long q2), .second, .val (.int p3), .val (.int p4), .val (.int p5), .val (.ref b105), .val (.ref b106), .unset, .unset, .unset, .unset, .unset, .unset, .unset, .unset, .unset, .unset] []))
  refine go (X106.ldcInt hx hown (mvT hZ (hw _ (List.mem_of_getElem? (i := 1) rfl))) (g := (mkF m 10 #[.val (.long q1), .second, .val (.long q2), .second, .val (.int p3), .val (.int p4), .val (.int p5), .val (.ref b105), .val (.ref b106), .unset, .unset, .unset, .unset, .unset, .unset, .unset, .unset, .unset, .unset] [])) rfl (hb hby at_10)) ?_
  show Go _ p e below s _ _ _ (T106.setTop (mkF m 12 #[.val (.long q1), .second, .val (.long q2), .second, .val (.int p3), .val (.int p4), .val (.int p5), .val (.ref b105), .val (.ref b106), .unset, .unset, .unset, .unset, .unset, .unset, .unset, .unset, .unset, .unset] [(.int (65537 : Int32))]))
  obtain ⟨T107, h107, k107, X107, e107, E107, A107, AE107, st107⟩ := newPE X106 hx hZ (hw _ (List.mem_of_getElem? (i := 0) rfl)) e106 (g := (mkF m 12 #[.val (.long q1), .second, .val (.long q2), .second, .val (.int p3), .val (.int p4), .val (.int p5), .val (.ref b105), .val (.ref b106), .unset, .unset, .unset, .unset, .unset, .unset, .unset, .unset, .unset, .unset] [(.int (65537 : Int32))])) rfl (hb hby at_12) rfl (by decide) (cap := 65537) (by decide) (by decide) (by decide) (by decide) (ad := "[B") (by first | rfl | decide)
  obtain ⟨b107, g107⟩ : ∃ z, z = h106.size := ⟨_, rfl⟩
  rw [← g107] at A107 AE107 st107
  have lt107_b105_b107 : b105 < b107 := Nat.lt_of_lt_of_le c106_0.lt (Nat.le_of_eq g107.symm)
  have lt107_b106_b107 : b106 < b107 := Nat.lt_of_lt_of_le AE106.lt (Nat.le_of_eq g107.symm)
  have G_b107 : n0 ≤ b107 := Nat.le_trans ZN106 (Nat.le_of_eq g107.symm)
  have SZ_b107 : h0.size ≤ b107 := Nat.le_trans KK106.1 (Nat.le_of_eq g107.symm)
  have c107_0 := c106_0.ext E107
  have c107_1 := c106_1.ext E107
  have c107_2 := AE106.ext E107
  have c107_3 := V106.ext E107
  have KK107 : Keep h0 h107 [] := KK106.ext E107
  have ZN107 : n0 ≤ h107.size := Nat.le_trans ZN106 E107.1
  have V107 : Arv Z h107 b107 k107 .byte (65537 : Int32) [] (.int (0 : Int32)) := Arv.new A107 (by decide)
  refine go st107 ?_
  show Go _ p e below s _ _ _ (T107.setTop (mkF m 14 #[.val (.long q1), .second, .val (.long q2), .second, .val (.int p3), .val (.int p4), .val (.int p5), .val (.ref b105), .val (.ref b106), .unset, .unset, .unset, .unset, .unset, .unset, .unset, .unset, .unset, .unset] [(.ref b107)]))
  refine go (fun _ => XS.astore X107.here hx rfl (hb hby at_14) rfl rfl (l' := #[.val (.long q1), .second, .val (.long q2), .second, .val (.int p3), .val (.int p4), .val (.int p5), .val (.ref b105), .val (.ref b106), .val (.ref b107), .unset, .unset, .unset, .unset, .unset, .unset, .unset, .unset, .unset]) rfl) ?_
  show Go _ p e below s _ _ _ (T107.setTop (mkF m 16 #[.val (.long q1), .second, .val (.long q2), .second, .val (.int p3), .val (.int p4), .val (.int p5), .val (.ref b105), .val (.ref b106), .val (.ref b107), .unset, .unset, .unset, .unset, .unset, .unset, .unset, .unset, .unset] []))
  refine go (fun _ => XS.aload X107.here hx rfl (hb hby at_16) rfl rfl) ?_
  show Go _ p e below s _ _ _ (T107.setTop (mkF m 18 #[.val (.long q1), .second, .val (.long q2), .second, .val (.int p3), .val (.int p4), .val (.int p5), .val (.ref b105), .val (.ref b106), .val (.ref b107), .unset, .unset, .unset, .unset, .unset, .unset, .unset, .unset, .unset] [(.ref b105)]))
  refine go (fun _ => XS.iconst X107.here hx rfl (hb hby at_18)) ?_
  show Go _ p e below s _ _ _ (T107.setTop (mkF m 19 #[.val (.long q1), .second, .val (.long q2), .second, .val (.int p3), .val (.int p4), .val (.int p5), .val (.ref b105), .val (.ref b106), .val (.ref b107), .unset, .unset, .unset, .unset, .unset, .unset, .unset, .unset, .unset] [(.int (0 : Int32)), (.ref b105)]))
  refine go (fun _ => XS.lloadN X107.here hx rfl (hb hby at_19) rfl) ?_
  show Go _ p e below s _ _ _ (T107.setTop (mkF m 20 #[.val (.long q1), .second, .val (.long q2), .second, .val (.int p3), .val (.int p4), .val (.int p5), .val (.ref b105), .val (.ref b106), .val (.ref b107), .unset, .unset, .unset, .unset, .unset, .unset, .unset, .unset, .unset] [(.long q1), (.int (0 : Int32)), (.ref b105)]))
  obtain ⟨_, _, ⟨T108, L108, k108, n108⟩, -, X108, ⟨Lc108, hQ108, l108, y108, z108⟩, st108⟩ := Jvm.LawKit.callS X107 hx (y := (⟨"com/example/dosisbog/dosisbog/HeadEndResetPinLaw", "pick", "(J)B"⟩ : MethodName)) hown (mvT hZ (hw _ (List.mem_of_getElem? (i := 2) rfl))) (mvT hZ (hw _ (List.mem_of_getElem? (i := 3) rfl))) (mvT hZ (hw _ (List.mem_of_getElem? (i := 4) rfl))) (mvT hZ (hw _ (List.mem_of_getElem? (i := 5) rfl))) (by decide) (backOf (W := 2) (rm1 l Z a0 hw [] q1 h107 n0 ZN107 ) hZ (hw _ (List.mem_of_getElem? (i := 5) rfl)) (hw _ (List.mem_of_getElem? (i := 4) rfl)) (by decide) (by decide)) (g := (mkF m 20 #[.val (.long q1), .second, .val (.long q2), .second, .val (.int p3), .val (.int p4), .val (.int p5), .val (.ref b105), .val (.ref b106), .val (.ref b107), .unset, .unset, .unset, .unset, .unset, .unset, .unset, .unset, .unset] [(.long q1), (.int (0 : Int32)), (.ref b105)])) rfl (by rw [hml]; rfl) (argsL := [(.long q1)]) (rest := [(.int (0 : Int32)), (.ref b105)]) (lenOf pd_0_0 rfl) rfl (by show 2 * 0 + _ ≤ _; exact Nat.le_of_eq rfl) (hb hby at_20) (fun _ _ => ⟨rfl, e107, (by decide : 3 + 0 ≤ _), (by decide : 65545 + 0 ≤ _)⟩)
  dsimp only [Pt.U, Pt.locs, Pt.cells, Pt.slots] at X108 l108 y108 z108 st108 hQ108
  subst l108 y108 z108
  obtain ⟨z108, rfl, N108q, e108⟩ := hQ108
  have N108 := Fr.app N0 N108q
  refine go st108 ?_
  show Go _ p e below s _ _ _ (T108.setTop (mkF m 23 #[.val (.long q1), .second, .val (.long q2), .second, .val (.int p3), .val (.int p4), .val (.int p5), .val (.ref b105), .val (.ref b106), .val (.ref b107), .unset, .unset, .unset, .unset, .unset, .unset, .unset, .unset, .unset] [(.int z108), (.int (0 : Int32)), (.ref b105)]))
  obtain ⟨cl109, Ar109, q109, Sz109, Nz109, Hs109, Gs109⟩ := id c107_1
  have hin109 : ¬ ((0 : Int32) < 0 ∨ cl109.slots.size ≤ ((0 : Int32)).toNatClampNeg) := inb_of Sz109 ⟨by decide, by decide⟩
  obtain ⟨T109, h109, X109, e109, W109, st109⟩ := stB X108 hx hZ e108 Ar109 (j := (0 : Int32)) hin109 (g := (mkF m 23 #[.val (.long q1), .second, .val (.long q2), .second, .val (.int p3), .val (.int p4), .val (.int p5), .val (.ref b105), .val (.ref b106), .val (.ref b107), .unset, .unset, .unset, .unset, .unset, .unset, .unset, .unset, .unset] [(.int z108), (.int (0 : Int32)), (.ref b105)])) rfl rfl (hb hby at_23)
  have V109 := Arv.set Ar109 q109 Sz109 Nz109 Hs109 Gs109 (fits_nar_byte _) W109 0 rfl (Nat.le_of_ble_eq_true rfl)
  have VV109 : Arv Z h109 b105 k105 .byte (4 : Int32) [(.int (nar .byte z108)), (.int (0 : Int32)), (.int (0 : Int32)), (.int (0 : Int32))] (.int (0 : Int32)) := V109
  have c109_0 := c107_0.wr W109
  have c109_2 := c107_2.wr W109
  have c109_3 := c107_3.other W109 (Ne.symm (Nat.ne_of_lt lt106_b105_b106))
  have c109_4 := AE107.wr W109
  have c109_5 := V107.other W109 (Ne.symm (Nat.ne_of_lt lt107_b105_b107))
  have KK109 : Keep h0 h109 [] := KK107.wr W109 (Or.inr SZ_b105)
  have ZN109 : n0 ≤ h109.size := Nat.le_trans ZN107 (Keep.of_wr W109).1
  have NN109 := Fr.snoc X109 N108 G_b105
  refine go st109 ?_
  show Go _ p e below s _ _ _ (T109.setTop (mkF m 24 #[.val (.long q1), .second, .val (.long q2), .second, .val (.int p3), .val (.int p4), .val (.int p5), .val (.ref b105), .val (.ref b106), .val (.ref b107), .unset, .unset, .unset, .unset, .unset, .unset, .unset, .unset, .unset] []))
  refine go (fun _ => XS.aload X109.here hx rfl (hb hby at_24) rfl rfl) ?_
  show Go _ p e below s _ _ _ (T109.setTop (mkF m 26 #[.val (.long q1), .second, .val (.long q2), .second, .val (.int p3), .val (.int p4), .val (.int p5), .val (.ref b105), .val (.ref b106), .val (.ref b107), .unset, .unset, .unset, .unset, .unset, .unset, .unset, .unset, .unset] [(.ref b105)]))
  refine go (fun _ => XS.iconst X109.here hx rfl (hb hby at_26)) ?_
  show Go _ p e below s _ _ _ (T109.setTop (mkF m 27 #[.val (.long q1), .second, .val (.long q2), .second, .val (.int p3), .val (.int p4), .val (.int p5), .val (.ref b105), .val (.ref b106), .val (.ref b107), .unset, .unset, .unset, .unset, .unset, .unset, .unset, .unset, .unset] [(.int (1 : Int32)), (.ref b105)]))
  refine go (fun _ => XS.lloadN X109.here hx rfl (hb hby at_27) rfl) ?_
  show Go _ p e below s _ _ _ (T109.setTop (mkF m 28 #[.val (.long q1), .second, .val (.long q2), .second, .val (.int p3), .val (.int p4), .val (.int p5), .val (.ref b105), .val (.ref b106), .val (.ref b107), .unset, .unset, .unset, .unset, .unset, .unset, .unset, .unset, .unset] [(.long q1), (.int (1 : Int32)), (.ref b105)]))
  refine go (fun _ => XS.bipush X109.here hx rfl (hb hby at_28)) ?_
  show Go _ p e below s _ _ _ (T109.setTop (mkF m 30 #[.val (.long q1), .second, .val (.long q2), .second, .val (.int p3), .val (.int p4), .val (.int p5), .val (.ref b105), .val (.ref b106), .val (.ref b107), .unset, .unset, .unset, .unset, .unset, .unset, .unset, .unset, .unset] [(.int (16 : Int32)), (.long q1), (.int (1 : Int32)), (.ref b105)]))
  refine go (fun _ => XS.lushr X109.here hx rfl (hb hby at_30) rfl) ?_
  show Go _ p e below s _ _ _ (T109.setTop (mkF m 31 #[.val (.long q1), .second, .val (.long q2), .second, .val (.int p3), .val (.int p4), .val (.int p5), .val (.ref b105), .val (.ref b106), .val (.ref b107), .unset, .unset, .unset, .unset, .unset, .unset, .unset, .unset, .unset] [(.long ((q1.toUInt64 >>> ((16 : Int32) &&& 0x3f).toInt64.toUInt64).toInt64)), (.int (1 : Int32)), (.ref b105)]))
  obtain ⟨_, _, ⟨T110, L110, k110, n110⟩, -, X110, ⟨Lc110, hQ110, l110, y110, z110⟩, st110⟩ := Jvm.LawKit.callS X109 hx (y := (⟨"com/example/dosisbog/dosisbog/HeadEndResetPinLaw", "pick", "(J)B"⟩ : MethodName)) hown (mvT hZ (hw _ (List.mem_of_getElem? (i := 2) rfl))) (mvT hZ (hw _ (List.mem_of_getElem? (i := 3) rfl))) (mvT hZ (hw _ (List.mem_of_getElem? (i := 4) rfl))) (mvT hZ (hw _ (List.mem_of_getElem? (i := 5) rfl))) (by decide) (backOf (W := 2) (rm1 l Z a0 hw [] ((q1.toUInt64 >>> ((16 : Int32) &&& 0x3f).toInt64.toUInt64).toInt64) h109 n0 ZN109 ) hZ (hw _ (List.mem_of_getElem? (i := 5) rfl)) (hw _ (List.mem_of_getElem? (i := 4) rfl)) (by decide) (by decide)) (g := (mkF m 31 #[.val (.long q1), .second, .val (.long q2), .second, .val (.int p3), .val (.int p4), .val (.int p5), .val (.ref b105), .val (.ref b106), .val (.ref b107), .unset, .unset, .unset, .unset, .unset, .unset, .unset, .unset, .unset] [(.long ((q1.toUInt64 >>> ((16 : Int32) &&& 0x3f).toInt64.toUInt64).toInt64)), (.int (1 : Int32)), (.ref b105)])) rfl (by rw [hml]; rfl) (argsL := [(.long ((q1.toUInt64 >>> ((16 : Int32) &&& 0x3f).toInt64.toUInt64).toInt64))]) (rest := [(.int (1 : Int32)), (.ref b105)]) (lenOf pd_0_0 rfl) rfl (by show 2 * 0 + _ ≤ _; exact Nat.le_of_eq rfl) (hb hby at_31) (fun _ _ => ⟨rfl, e109, (by decide : 3 + 0 ≤ _), (by decide : 65545 + 0 ≤ _)⟩)
  dsimp only [Pt.U, Pt.locs, Pt.cells, Pt.slots] at X110 l110 y110 z110 st110 hQ110
  subst l110 y110 z110
  obtain ⟨z110, rfl, N110q, e110⟩ := hQ110
  have N110 := Fr.app NN109 N110q
  refine go st110 ?_
  show Go _ p e below s _ _ _ (T110.setTop (mkF m 34 #[.val (.long q1), .second, .val (.long q2), .second, .val (.int p3), .val (.int p4), .val (.int p5), .val (.ref b105), .val (.ref b106), .val (.ref b107), .unset, .unset, .unset, .unset, .unset, .unset, .unset, .unset, .unset] [(.int z110), (.int (1 : Int32)), (.ref b105)]))
  obtain ⟨cl111, Ar111, q111, Sz111, Nz111, Hs111, Gs111⟩ := id VV109
  have hin111 : ¬ ((1 : Int32) < 0 ∨ cl111.slots.size ≤ ((1 : Int32)).toNatClampNeg) := inb_of Sz111 ⟨by decide, by decide⟩
  obtain ⟨T111, h111, X111, e111, W111, st111⟩ := stB X110 hx hZ e110 Ar111 (j := (1 : Int32)) hin111 (g := (mkF m 34 #[.val (.long q1), .second, .val (.long q2), .second, .val (.int p3), .val (.int p4), .val (.int p5), .val (.ref b105), .val (.ref b106), .val (.ref b107), .unset, .unset, .unset, .unset, .unset, .unset, .unset, .unset, .unset] [(.int z110), (.int (1 : Int32)), (.ref b105)])) rfl rfl (hb hby at_34)
  have V111 := Arv.set Ar111 q111 Sz111 Nz111 Hs111 Gs111 (fits_nar_byte _) W111 1 rfl (Nat.le_of_ble_eq_true rfl)
  have VV111 : Arv Z h111 b105 k105 .byte (4 : Int32) [(.int (nar .byte z108)), (.int (nar .byte z110)), (.int (0 : Int32)), (.int (0 : Int32))] (.int (0 : Int32)) := V111
  have c111_0 := c109_0.wr W111
  have c111_2 := c109_2.wr W111
  have c111_3 := c109_3.other W111 (Ne.symm (Nat.ne_of_lt lt106_b105_b106))
  have c111_4 := c109_4.wr W111
  have c111_5 := c109_5.other W111 (Ne.symm (Nat.ne_of_lt lt107_b105_b107))
  have KK111 : Keep h0 h111 [] := KK109.wr W111 (Or.inr SZ_b105)
  have ZN111 : n0 ≤ h111.size := Nat.le_trans ZN109 (Keep.of_wr W111).1
  have NN111 := Fr.snoc X111 N110 G_b105
  refine go st111 ?_
  show Go _ p e below s _ _ _ (T111.setTop (mkF m 35 #[.val (.long q1), .second, .val (.long q2), .second, .val (.int p3), .val (.int p4), .val (.int p5), .val (.ref b105), .val (.ref b106), .val (.ref b107), .unset, .unset, .unset, .unset, .unset, .unset, .unset, .unset, .unset] []))
  refine go (fun _ => XS.aload X111.here hx rfl (hb hby at_35) rfl rfl) ?_
  show Go _ p e below s _ _ _ (T111.setTop (mkF m 37 #[.val (.long q1), .second, .val (.long q2), .second, .val (.int p3), .val (.int p4), .val (.int p5), .val (.ref b105), .val (.ref b106), .val (.ref b107), .unset, .unset, .unset, .unset, .unset, .unset, .unset, .unset, .unset] [(.ref b105)]))
  refine go (fun _ => XS.iconst X111.here hx rfl (hb hby at_37)) ?_
  show Go _ p e below s _ _ _ (T111.setTop (mkF m 38 #[.val (.long q1), .second, .val (.long q2), .second, .val (.int p3), .val (.int p4), .val (.int p5), .val (.ref b105), .val (.ref b106), .val (.ref b107), .unset, .unset, .unset, .unset, .unset, .unset, .unset, .unset, .unset] [(.int (2 : Int32)), (.ref b105)]))
  refine go (fun _ => XS.lloadN X111.here hx rfl (hb hby at_38) rfl) ?_
  show Go _ p e below s _ _ _ (T111.setTop (mkF m 39 #[.val (.long q1), .second, .val (.long q2), .second, .val (.int p3), .val (.int p4), .val (.int p5), .val (.ref b105), .val (.ref b106), .val (.ref b107), .unset, .unset, .unset, .unset, .unset, .unset, .unset, .unset, .unset] [(.long q1), (.int (2 : Int32)), (.ref b105)]))
  refine go (fun _ => XS.bipush X111.here hx rfl (hb hby at_39)) ?_
  show Go _ p e below s _ _ _ (T111.setTop (mkF m 41 #[.val (.long q1), .second, .val (.long q2), .second, .val (.int p3), .val (.int p4), .val (.int p5), .val (.ref b105), .val (.ref b106), .val (.ref b107), .unset, .unset, .unset, .unset, .unset, .unset, .unset, .unset, .unset] [(.int (32 : Int32)), (.long q1), (.int (2 : Int32)), (.ref b105)]))
  refine go (fun _ => XS.lushr X111.here hx rfl (hb hby at_41) rfl) ?_
  show Go _ p e below s _ _ _ (T111.setTop (mkF m 42 #[.val (.long q1), .second, .val (.long q2), .second, .val (.int p3), .val (.int p4), .val (.int p5), .val (.ref b105), .val (.ref b106), .val (.ref b107), .unset, .unset, .unset, .unset, .unset, .unset, .unset, .unset, .unset] [(.long ((q1.toUInt64 >>> ((32 : Int32) &&& 0x3f).toInt64.toUInt64).toInt64)), (.int (2 : Int32)), (.ref b105)]))
  obtain ⟨_, _, ⟨T112, L112, k112, n112⟩, -, X112, ⟨Lc112, hQ112, l112, y112, z112⟩, st112⟩ := Jvm.LawKit.callS X111 hx (y := (⟨"com/example/dosisbog/dosisbog/HeadEndResetPinLaw", "pick", "(J)B"⟩ : MethodName)) hown (mvT hZ (hw _ (List.mem_of_getElem? (i := 2) rfl))) (mvT hZ (hw _ (List.mem_of_getElem? (i := 3) rfl))) (mvT hZ (hw _ (List.mem_of_getElem? (i := 4) rfl))) (mvT hZ (hw _ (List.mem_of_getElem? (i := 5) rfl))) (by decide) (backOf (W := 2) (rm1 l Z a0 hw [] ((q1.toUInt64 >>> ((32 : Int32) &&& 0x3f).toInt64.toUInt64).toInt64) h111 n0 ZN111 ) hZ (hw _ (List.mem_of_getElem? (i := 5) rfl)) (hw _ (List.mem_of_getElem? (i := 4) rfl)) (by decide) (by decide)) (g := (mkF m 42 #[.val (.long q1), .second, .val (.long q2), .second, .val (.int p3), .val (.int p4), .val (.int p5), .val (.ref b105), .val (.ref b106), .val (.ref b107), .unset, .unset, .unset, .unset, .unset, .unset, .unset, .unset, .unset] [(.long ((q1.toUInt64 >>> ((32 : Int32) &&& 0x3f).toInt64.toUInt64).toInt64)), (.int (2 : Int32)), (.ref b105)])) rfl (by rw [hml]; rfl) (argsL := [(.long ((q1.toUInt64 >>> ((32 : Int32) &&& 0x3f).toInt64.toUInt64).toInt64))]) (rest := [(.int (2 : Int32)), (.ref b105)]) (lenOf pd_0_0 rfl) rfl (by show 2 * 0 + _ ≤ _; exact Nat.le_of_eq rfl) (hb hby at_42) (fun _ _ => ⟨rfl, e111, (by decide : 3 + 0 ≤ _), (by decide : 65545 + 0 ≤ _)⟩)
  dsimp only [Pt.U, Pt.locs, Pt.cells, Pt.slots] at X112 l112 y112 z112 st112 hQ112
  subst l112 y112 z112
  obtain ⟨z112, rfl, N112q, e112⟩ := hQ112
  have N112 := Fr.app NN111 N112q
  refine go st112 ?_
  show Go _ p e below s _ _ _ (T112.setTop (mkF m 45 #[.val (.long q1), .second, .val (.long q2), .second, .val (.int p3), .val (.int p4), .val (.int p5), .val (.ref b105), .val (.ref b106), .val (.ref b107), .unset, .unset, .unset, .unset, .unset, .unset, .unset, .unset, .unset] [(.int z112), (.int (2 : Int32)), (.ref b105)]))
  obtain ⟨cl113, Ar113, q113, Sz113, Nz113, Hs113, Gs113⟩ := id VV111
  have hin113 : ¬ ((2 : Int32) < 0 ∨ cl113.slots.size ≤ ((2 : Int32)).toNatClampNeg) := inb_of Sz113 ⟨by decide, by decide⟩
  obtain ⟨T113, h113, X113, e113, W113, st113⟩ := stB X112 hx hZ e112 Ar113 (j := (2 : Int32)) hin113 (g := (mkF m 45 #[.val (.long q1), .second, .val (.long q2), .second, .val (.int p3), .val (.int p4), .val (.int p5), .val (.ref b105), .val (.ref b106), .val (.ref b107), .unset, .unset, .unset, .unset, .unset, .unset, .unset, .unset, .unset] [(.int z112), (.int (2 : Int32)), (.ref b105)])) rfl rfl (hb hby at_45)
  have V113 := Arv.set Ar113 q113 Sz113 Nz113 Hs113 Gs113 (fits_nar_byte _) W113 2 rfl (Nat.le_of_ble_eq_true rfl)
  have VV113 : Arv Z h113 b105 k105 .byte (4 : Int32) [(.int (nar .byte z108)), (.int (nar .byte z110)), (.int (nar .byte z112)), (.int (0 : Int32))] (.int (0 : Int32)) := V113
  have c113_0 := c111_0.wr W113
  have c113_2 := c111_2.wr W113
  have c113_3 := c111_3.other W113 (Ne.symm (Nat.ne_of_lt lt106_b105_b106))
  have c113_4 := c111_4.wr W113
  have c113_5 := c111_5.other W113 (Ne.symm (Nat.ne_of_lt lt107_b105_b107))
  have KK113 : Keep h0 h113 [] := KK111.wr W113 (Or.inr SZ_b105)
  have ZN113 : n0 ≤ h113.size := Nat.le_trans ZN111 (Keep.of_wr W113).1
  have NN113 := Fr.snoc X113 N112 G_b105
  refine go st113 ?_
  show Go _ p e below s _ _ _ (T113.setTop (mkF m 46 #[.val (.long q1), .second, .val (.long q2), .second, .val (.int p3), .val (.int p4), .val (.int p5), .val (.ref b105), .val (.ref b106), .val (.ref b107), .unset, .unset, .unset, .unset, .unset, .unset, .unset, .unset, .unset] []))
  refine go (fun _ => XS.aload X113.here hx rfl (hb hby at_46) rfl rfl) ?_
  show Go _ p e below s _ _ _ (T113.setTop (mkF m 48 #[.val (.long q1), .second, .val (.long q2), .second, .val (.int p3), .val (.int p4), .val (.int p5), .val (.ref b105), .val (.ref b106), .val (.ref b107), .unset, .unset, .unset, .unset, .unset, .unset, .unset, .unset, .unset] [(.ref b105)]))
  refine go (fun _ => XS.iconst X113.here hx rfl (hb hby at_48)) ?_
  show Go _ p e below s _ _ _ (T113.setTop (mkF m 49 #[.val (.long q1), .second, .val (.long q2), .second, .val (.int p3), .val (.int p4), .val (.int p5), .val (.ref b105), .val (.ref b106), .val (.ref b107), .unset, .unset, .unset, .unset, .unset, .unset, .unset, .unset, .unset] [(.int (3 : Int32)), (.ref b105)]))
  refine go (fun _ => XS.lloadN X113.here hx rfl (hb hby at_49) rfl) ?_
  show Go _ p e below s _ _ _ (T113.setTop (mkF m 50 #[.val (.long q1), .second, .val (.long q2), .second, .val (.int p3), .val (.int p4), .val (.int p5), .val (.ref b105), .val (.ref b106), .val (.ref b107), .unset, .unset, .unset, .unset, .unset, .unset, .unset, .unset, .unset] [(.long q1), (.int (3 : Int32)), (.ref b105)]))
  refine go (fun _ => XS.bipush X113.here hx rfl (hb hby at_50)) ?_
  show Go _ p e below s _ _ _ (T113.setTop (mkF m 52 #[.val (.long q1), .second, .val (.long q2), .second, .val (.int p3), .val (.int p4), .val (.int p5), .val (.ref b105), .val (.ref b106), .val (.ref b107), .unset, .unset, .unset, .unset, .unset, .unset, .unset, .unset, .unset] [(.int (48 : Int32)), (.long q1), (.int (3 : Int32)), (.ref b105)]))
  refine go (fun _ => XS.lushr X113.here hx rfl (hb hby at_52) rfl) ?_
  show Go _ p e below s _ _ _ (T113.setTop (mkF m 53 #[.val (.long q1), .second, .val (.long q2), .second, .val (.int p3), .val (.int p4), .val (.int p5), .val (.ref b105), .val (.ref b106), .val (.ref b107), .unset, .unset, .unset, .unset, .unset, .unset, .unset, .unset, .unset] [(.long ((q1.toUInt64 >>> ((48 : Int32) &&& 0x3f).toInt64.toUInt64).toInt64)), (.int (3 : Int32)), (.ref b105)]))
  obtain ⟨_, _, ⟨T114, L114, k114, n114⟩, -, X114, ⟨Lc114, hQ114, l114, y114, z114⟩, st114⟩ := Jvm.LawKit.callS X113 hx (y := (⟨"com/example/dosisbog/dosisbog/HeadEndResetPinLaw", "pick", "(J)B"⟩ : MethodName)) hown (mvT hZ (hw _ (List.mem_of_getElem? (i := 2) rfl))) (mvT hZ (hw _ (List.mem_of_getElem? (i := 3) rfl))) (mvT hZ (hw _ (List.mem_of_getElem? (i := 4) rfl))) (mvT hZ (hw _ (List.mem_of_getElem? (i := 5) rfl))) (by decide) (backOf (W := 2) (rm1 l Z a0 hw [] ((q1.toUInt64 >>> ((48 : Int32) &&& 0x3f).toInt64.toUInt64).toInt64) h113 n0 ZN113 ) hZ (hw _ (List.mem_of_getElem? (i := 5) rfl)) (hw _ (List.mem_of_getElem? (i := 4) rfl)) (by decide) (by decide)) (g := (mkF m 53 #[.val (.long q1), .second, .val (.long q2), .second, .val (.int p3), .val (.int p4), .val (.int p5), .val (.ref b105), .val (.ref b106), .val (.ref b107), .unset, .unset, .unset, .unset, .unset, .unset, .unset, .unset, .unset] [(.long ((q1.toUInt64 >>> ((48 : Int32) &&& 0x3f).toInt64.toUInt64).toInt64)), (.int (3 : Int32)), (.ref b105)])) rfl (by rw [hml]; rfl) (argsL := [(.long ((q1.toUInt64 >>> ((48 : Int32) &&& 0x3f).toInt64.toUInt64).toInt64))]) (rest := [(.int (3 : Int32)), (.ref b105)]) (lenOf pd_0_0 rfl) rfl (by show 2 * 0 + _ ≤ _; exact Nat.le_of_eq rfl) (hb hby at_53) (fun _ _ => ⟨rfl, e113, (by decide : 3 + 0 ≤ _), (by decide : 65545 + 0 ≤ _)⟩)
  dsimp only [Pt.U, Pt.locs, Pt.cells, Pt.slots] at X114 l114 y114 z114 st114 hQ114
  subst l114 y114 z114
  obtain ⟨z114, rfl, N114q, e114⟩ := hQ114
  have N114 := Fr.app NN113 N114q
  refine go st114 ?_
  show Go _ p e below s _ _ _ (T114.setTop (mkF m 56 #[.val (.long q1), .second, .val (.long q2), .second, .val (.int p3), .val (.int p4), .val (.int p5), .val (.ref b105), .val (.ref b106), .val (.ref b107), .unset, .unset, .unset, .unset, .unset, .unset, .unset, .unset, .unset] [(.int z114), (.int (3 : Int32)), (.ref b105)]))
  obtain ⟨cl115, Ar115, q115, Sz115, Nz115, Hs115, Gs115⟩ := id VV113
  have hin115 : ¬ ((3 : Int32) < 0 ∨ cl115.slots.size ≤ ((3 : Int32)).toNatClampNeg) := inb_of Sz115 ⟨by decide, by decide⟩
  obtain ⟨T115, h115, X115, e115, W115, st115⟩ := stB X114 hx hZ e114 Ar115 (j := (3 : Int32)) hin115 (g := (mkF m 56 #[.val (.long q1), .second, .val (.long q2), .second, .val (.int p3), .val (.int p4), .val (.int p5), .val (.ref b105), .val (.ref b106), .val (.ref b107), .unset, .unset, .unset, .unset, .unset, .unset, .unset, .unset, .unset] [(.int z114), (.int (3 : Int32)), (.ref b105)])) rfl rfl (hb hby at_56)
  have V115 := Arv.set Ar115 q115 Sz115 Nz115 Hs115 Gs115 (fits_nar_byte _) W115 3 rfl (Nat.le_of_ble_eq_true rfl)
  have VV115 : Arv Z h115 b105 k105 .byte (4 : Int32) [(.int (nar .byte z108)), (.int (nar .byte z110)), (.int (nar .byte z112)), (.int (nar .byte z114))] (.int (0 : Int32)) := V115
  have c115_0 := c113_0.wr W115
  have c115_2 := c113_2.wr W115
  have c115_3 := c113_3.other W115 (Ne.symm (Nat.ne_of_lt lt106_b105_b106))
  have c115_4 := c113_4.wr W115
  have c115_5 := c113_5.other W115 (Ne.symm (Nat.ne_of_lt lt107_b105_b107))
  have KK115 : Keep h0 h115 [] := KK113.wr W115 (Or.inr SZ_b105)
  have ZN115 : n0 ≤ h115.size := Nat.le_trans ZN113 (Keep.of_wr W115).1
  have NN115 := Fr.snoc X115 N114 G_b105
  refine go st115 ?_
  show Go _ p e below s _ _ _ (T115.setTop (mkF m 57 #[.val (.long q1), .second, .val (.long q2), .second, .val (.int p3), .val (.int p4), .val (.int p5), .val (.ref b105), .val (.ref b106), .val (.ref b107), .unset, .unset, .unset, .unset, .unset, .unset, .unset, .unset, .unset] []))
  refine go (fun _ => XS.aload X115.here hx rfl (hb hby at_57) rfl rfl) ?_
  show Go _ p e below s _ _ _ (T115.setTop (mkF m 59 #[.val (.long q1), .second, .val (.long q2), .second, .val (.int p3), .val (.int p4), .val (.int p5), .val (.ref b105), .val (.ref b106), .val (.ref b107), .unset, .unset, .unset, .unset, .unset, .unset, .unset, .unset, .unset] [(.ref b106)]))
  refine go (fun _ => XS.iconst X115.here hx rfl (hb hby at_59)) ?_
  show Go _ p e below s _ _ _ (T115.setTop (mkF m 60 #[.val (.long q1), .second, .val (.long q2), .second, .val (.int p3), .val (.int p4), .val (.int p5), .val (.ref b105), .val (.ref b106), .val (.ref b107), .unset, .unset, .unset, .unset, .unset, .unset, .unset, .unset, .unset] [(.int (0 : Int32)), (.ref b106)]))
  refine go (fun _ => XS.lloadN X115.here hx rfl (hb hby at_60) rfl) ?_
  show Go _ p e below s _ _ _ (T115.setTop (mkF m 61 #[.val (.long q1), .second, .val (.long q2), .second, .val (.int p3), .val (.int p4), .val (.int p5), .val (.ref b105), .val (.ref b106), .val (.ref b107), .unset, .unset, .unset, .unset, .unset, .unset, .unset, .unset, .unset] [(.long q2), (.int (0 : Int32)), (.ref b106)]))
  obtain ⟨_, _, ⟨T116, L116, k116, n116⟩, -, X116, ⟨Lc116, hQ116, l116, y116, z116⟩, st116⟩ := Jvm.LawKit.callS X115 hx (y := (⟨"com/example/dosisbog/dosisbog/HeadEndResetPinLaw", "pick", "(J)B"⟩ : MethodName)) hown (mvT hZ (hw _ (List.mem_of_getElem? (i := 2) rfl))) (mvT hZ (hw _ (List.mem_of_getElem? (i := 3) rfl))) (mvT hZ (hw _ (List.mem_of_getElem? (i := 4) rfl))) (mvT hZ (hw _ (List.mem_of_getElem? (i := 5) rfl))) (by decide) (backOf (W := 2) (rm1 l Z a0 hw [] q2 h115 n0 ZN115 ) hZ (hw _ (List.mem_of_getElem? (i := 5) rfl)) (hw _ (List.mem_of_getElem? (i := 4) rfl)) (by decide) (by decide)) (g := (mkF m 61 #[.val (.long q1), .second, .val (.long q2), .second, .val (.int p3), .val (.int p4), .val (.int p5), .val (.ref b105), .val (.ref b106), .val (.ref b107), .unset, .unset, .unset, .unset, .unset, .unset, .unset, .unset, .unset] [(.long q2), (.int (0 : Int32)), (.ref b106)])) rfl (by rw [hml]; rfl) (argsL := [(.long q2)]) (rest := [(.int (0 : Int32)), (.ref b106)]) (lenOf pd_0_0 rfl) rfl (by show 2 * 0 + _ ≤ _; exact Nat.le_of_eq rfl) (hb hby at_61) (fun _ _ => ⟨rfl, e115, (by decide : 3 + 0 ≤ _), (by decide : 65545 + 0 ≤ _)⟩)
  dsimp only [Pt.U, Pt.locs, Pt.cells, Pt.slots] at X116 l116 y116 z116 st116 hQ116
  subst l116 y116 z116
  obtain ⟨z116, rfl, N116q, e116⟩ := hQ116
  have N116 := Fr.app NN115 N116q
  refine go st116 ?_
  show Go _ p e below s _ _ _ (T116.setTop (mkF m 64 #[.val (.long q1), .second, .val (.long q2), .second, .val (.int p3), .val (.int p4), .val (.int p5), .val (.ref b105), .val (.ref b106), .val (.ref b107), .unset, .unset, .unset, .unset, .unset, .unset, .unset, .unset, .unset] [(.int z116), (.int (0 : Int32)), (.ref b106)]))
  obtain ⟨cl117, Ar117, q117, Sz117, Nz117, Hs117, Gs117⟩ := id c115_3
  have hin117 : ¬ ((0 : Int32) < 0 ∨ cl117.slots.size ≤ ((0 : Int32)).toNatClampNeg) := inb_of Sz117 ⟨by decide, by decide⟩
  obtain ⟨T117, h117, X117, e117, W117, st117⟩ := stB X116 hx hZ e116 Ar117 (j := (0 : Int32)) hin117 (g := (mkF m 64 #[.val (.long q1), .second, .val (.long q2), .second, .val (.int p3), .val (.int p4), .val (.int p5), .val (.ref b105), .val (.ref b106), .val (.ref b107), .unset, .unset, .unset, .unset, .unset, .unset, .unset, .unset, .unset] [(.int z116), (.int (0 : Int32)), (.ref b106)])) rfl rfl (hb hby at_64)
  have V117 := Arv.set Ar117 q117 Sz117 Nz117 Hs117 Gs117 (fits_nar_byte _) W117 0 rfl (Nat.le_of_ble_eq_true rfl)
  have VV117 : Arv Z h117 b106 k106 .byte (4 : Int32) [(.int (nar .byte z116)), (.int (0 : Int32)), (.int (0 : Int32)), (.int (0 : Int32))] (.int (0 : Int32)) := V117
  have c117_0 := c115_0.wr W117
  have c117_1 := VV115.other W117 (Nat.ne_of_lt lt106_b105_b106)
  have c117_2 := c115_2.wr W117
  have c117_4 := c115_4.wr W117
  have c117_5 := c115_5.other W117 (Ne.symm (Nat.ne_of_lt lt107_b106_b107))
  have KK117 : Keep h0 h117 [] := KK115.wr W117 (Or.inr SZ_b106)
  have ZN117 : n0 ≤ h117.size := Nat.le_trans ZN115 (Keep.of_wr W117).1
  have NN117 := Fr.snoc X117 N116 G_b106
  refine go st117 ?_
  show Go _ p e below s _ _ _ (T117.setTop (mkF m 65 #[.val (.long q1), .second, .val (.long q2), .second, .val (.int p3), .val (.int p4), .val (.int p5), .val (.ref b105), .val (.ref b106), .val (.ref b107), .unset, .unset, .unset, .unset, .unset, .unset, .unset, .unset, .unset] []))
  refine go (fun _ => XS.aload X117.here hx rfl (hb hby at_65) rfl rfl) ?_
  show Go _ p e below s _ _ _ (T117.setTop (mkF m 67 #[.val (.long q1), .second, .val (.long q2), .second, .val (.int p3), .val (.int p4), .val (.int p5), .val (.ref b105), .val (.ref b106), .val (.ref b107), .unset, .unset, .unset, .unset, .unset, .unset, .unset, .unset, .unset] [(.ref b106)]))
  refine go (fun _ => XS.iconst X117.here hx rfl (hb hby at_67)) ?_
  show Go _ p e below s _ _ _ (T117.setTop (mkF m 68 #[.val (.long q1), .second, .val (.long q2), .second, .val (.int p3), .val (.int p4), .val (.int p5), .val (.ref b105), .val (.ref b106), .val (.ref b107), .unset, .unset, .unset, .unset, .unset, .unset, .unset, .unset, .unset] [(.int (1 : Int32)), (.ref b106)]))
  refine go (fun _ => XS.lloadN X117.here hx rfl (hb hby at_68) rfl) ?_
  show Go _ p e below s _ _ _ (T117.setTop (mkF m 69 #[.val (.long q1), .second, .val (.long q2), .second, .val (.int p3), .val (.int p4), .val (.int p5), .val (.ref b105), .val (.ref b106), .val (.ref b107), .unset, .unset, .unset, .unset, .unset, .unset, .unset, .unset, .unset] [(.long q2), (.int (1 : Int32)), (.ref b106)]))
  refine go (fun _ => XS.bipush X117.here hx rfl (hb hby at_69)) ?_
  show Go _ p e below s _ _ _ (T117.setTop (mkF m 71 #[.val (.long q1), .second, .val (.long q2), .second, .val (.int p3), .val (.int p4), .val (.int p5), .val (.ref b105), .val (.ref b106), .val (.ref b107), .unset, .unset, .unset, .unset, .unset, .unset, .unset, .unset, .unset] [(.int (16 : Int32)), (.long q2), (.int (1 : Int32)), (.ref b106)]))
  refine go (fun _ => XS.lushr X117.here hx rfl (hb hby at_71) rfl) ?_
  show Go _ p e below s _ _ _ (T117.setTop (mkF m 72 #[.val (.long q1), .second, .val (.long q2), .second, .val (.int p3), .val (.int p4), .val (.int p5), .val (.ref b105), .val (.ref b106), .val (.ref b107), .unset, .unset, .unset, .unset, .unset, .unset, .unset, .unset, .unset] [(.long ((q2.toUInt64 >>> ((16 : Int32) &&& 0x3f).toInt64.toUInt64).toInt64)), (.int (1 : Int32)), (.ref b106)]))
  obtain ⟨_, _, ⟨T118, L118, k118, n118⟩, -, X118, ⟨Lc118, hQ118, l118, y118, z118⟩, st118⟩ := Jvm.LawKit.callS X117 hx (y := (⟨"com/example/dosisbog/dosisbog/HeadEndResetPinLaw", "pick", "(J)B"⟩ : MethodName)) hown (mvT hZ (hw _ (List.mem_of_getElem? (i := 2) rfl))) (mvT hZ (hw _ (List.mem_of_getElem? (i := 3) rfl))) (mvT hZ (hw _ (List.mem_of_getElem? (i := 4) rfl))) (mvT hZ (hw _ (List.mem_of_getElem? (i := 5) rfl))) (by decide) (backOf (W := 2) (rm1 l Z a0 hw [] ((q2.toUInt64 >>> ((16 : Int32) &&& 0x3f).toInt64.toUInt64).toInt64) h117 n0 ZN117 ) hZ (hw _ (List.mem_of_getElem? (i := 5) rfl)) (hw _ (List.mem_of_getElem? (i := 4) rfl)) (by decide) (by decide)) (g := (mkF m 72 #[.val (.long q1), .second, .val (.long q2), .second, .val (.int p3), .val (.int p4), .val (.int p5), .val (.ref b105), .val (.ref b106), .val (.ref b107), .unset, .unset, .unset, .unset, .unset, .unset, .unset, .unset, .unset] [(.long ((q2.toUInt64 >>> ((16 : Int32) &&& 0x3f).toInt64.toUInt64).toInt64)), (.int (1 : Int32)), (.ref b106)])) rfl (by rw [hml]; rfl) (argsL := [(.long ((q2.toUInt64 >>> ((16 : Int32) &&& 0x3f).toInt64.toUInt64).toInt64))]) (rest := [(.int (1 : Int32)), (.ref b106)]) (lenOf pd_0_0 rfl) rfl (by show 2 * 0 + _ ≤ _; exact Nat.le_of_eq rfl) (hb hby at_72) (fun _ _ => ⟨rfl, e117, (by decide : 3 + 0 ≤ _), (by decide : 65545 + 0 ≤ _)⟩)
  dsimp only [Pt.U, Pt.locs, Pt.cells, Pt.slots] at X118 l118 y118 z118 st118 hQ118
  subst l118 y118 z118
  obtain ⟨z118, rfl, N118q, e118⟩ := hQ118
  have N118 := Fr.app NN117 N118q
  refine go st118 ?_
  show Go _ p e below s _ _ _ (T118.setTop (mkF m 75 #[.val (.long q1), .second, .val (.long q2), .second, .val (.int p3), .val (.int p4), .val (.int p5), .val (.ref b105), .val (.ref b106), .val (.ref b107), .unset, .unset, .unset, .unset, .unset, .unset, .unset, .unset, .unset] [(.int z118), (.int (1 : Int32)), (.ref b106)]))
  obtain ⟨cl119, Ar119, q119, Sz119, Nz119, Hs119, Gs119⟩ := id VV117
  have hin119 : ¬ ((1 : Int32) < 0 ∨ cl119.slots.size ≤ ((1 : Int32)).toNatClampNeg) := inb_of Sz119 ⟨by decide, by decide⟩
  obtain ⟨T119, h119, X119, e119, W119, st119⟩ := stB X118 hx hZ e118 Ar119 (j := (1 : Int32)) hin119 (g := (mkF m 75 #[.val (.long q1), .second, .val (.long q2), .second, .val (.int p3), .val (.int p4), .val (.int p5), .val (.ref b105), .val (.ref b106), .val (.ref b107), .unset, .unset, .unset, .unset, .unset, .unset, .unset, .unset, .unset] [(.int z118), (.int (1 : Int32)), (.ref b106)])) rfl rfl (hb hby at_75)
  have V119 := Arv.set Ar119 q119 Sz119 Nz119 Hs119 Gs119 (fits_nar_byte _) W119 1 rfl (Nat.le_of_ble_eq_true rfl)
  have VV119 : Arv Z h119 b106 k106 .byte (4 : Int32) [(.int (nar .byte z116)), (.int (nar .byte z118)), (.int (0 : Int32)), (.int (0 : Int32))] (.int (0 : Int32)) := V119
  have c119_0 := c117_0.wr W119
  have c119_1 := c117_1.other W119 (Nat.ne_of_lt lt106_b105_b106)
  have c119_2 := c117_2.wr W119
  have c119_4 := c117_4.wr W119
  have c119_5 := c117_5.other W119 (Ne.symm (Nat.ne_of_lt lt107_b106_b107))
  have KK119 : Keep h0 h119 [] := KK117.wr W119 (Or.inr SZ_b106)
  have ZN119 : n0 ≤ h119.size := Nat.le_trans ZN117 (Keep.of_wr W119).1
  have NN119 := Fr.snoc X119 N118 G_b106
  refine go st119 ?_
  show Go _ p e below s _ _ _ (T119.setTop (mkF m 76 #[.val (.long q1), .second, .val (.long q2), .second, .val (.int p3), .val (.int p4), .val (.int p5), .val (.ref b105), .val (.ref b106), .val (.ref b107), .unset, .unset, .unset, .unset, .unset, .unset, .unset, .unset, .unset] []))
  refine go (fun _ => XS.aload X119.here hx rfl (hb hby at_76) rfl rfl) ?_
  show Go _ p e below s _ _ _ (T119.setTop (mkF m 78 #[.val (.long q1), .second, .val (.long q2), .second, .val (.int p3), .val (.int p4), .val (.int p5), .val (.ref b105), .val (.ref b106), .val (.ref b107), .unset, .unset, .unset, .unset, .unset, .unset, .unset, .unset, .unset] [(.ref b106)]))
  refine go (fun _ => XS.iconst X119.here hx rfl (hb hby at_78)) ?_
  show Go _ p e below s _ _ _ (T119.setTop (mkF m 79 #[.val (.long q1), .second, .val (.long q2), .second, .val (.int p3), .val (.int p4), .val (.int p5), .val (.ref b105), .val (.ref b106), .val (.ref b107), .unset, .unset, .unset, .unset, .unset, .unset, .unset, .unset, .unset] [(.int (2 : Int32)), (.ref b106)]))
  refine go (fun _ => XS.lloadN X119.here hx rfl (hb hby at_79) rfl) ?_
  show Go _ p e below s _ _ _ (T119.setTop (mkF m 80 #[.val (.long q1), .second, .val (.long q2), .second, .val (.int p3), .val (.int p4), .val (.int p5), .val (.ref b105), .val (.ref b106), .val (.ref b107), .unset, .unset, .unset, .unset, .unset, .unset, .unset, .unset, .unset] [(.long q2), (.int (2 : Int32)), (.ref b106)]))
  refine go (fun _ => XS.bipush X119.here hx rfl (hb hby at_80)) ?_
  show Go _ p e below s _ _ _ (T119.setTop (mkF m 82 #[.val (.long q1), .second, .val (.long q2), .second, .val (.int p3), .val (.int p4), .val (.int p5), .val (.ref b105), .val (.ref b106), .val (.ref b107), .unset, .unset, .unset, .unset, .unset, .unset, .unset, .unset, .unset] [(.int (32 : Int32)), (.long q2), (.int (2 : Int32)), (.ref b106)]))
  refine go (fun _ => XS.lushr X119.here hx rfl (hb hby at_82) rfl) ?_
  show Go _ p e below s _ _ _ (T119.setTop (mkF m 83 #[.val (.long q1), .second, .val (.long q2), .second, .val (.int p3), .val (.int p4), .val (.int p5), .val (.ref b105), .val (.ref b106), .val (.ref b107), .unset, .unset, .unset, .unset, .unset, .unset, .unset, .unset, .unset] [(.long ((q2.toUInt64 >>> ((32 : Int32) &&& 0x3f).toInt64.toUInt64).toInt64)), (.int (2 : Int32)), (.ref b106)]))
  obtain ⟨_, _, ⟨T120, L120, k120, n120⟩, -, X120, ⟨Lc120, hQ120, l120, y120, z120⟩, st120⟩ := Jvm.LawKit.callS X119 hx (y := (⟨"com/example/dosisbog/dosisbog/HeadEndResetPinLaw", "pick", "(J)B"⟩ : MethodName)) hown (mvT hZ (hw _ (List.mem_of_getElem? (i := 2) rfl))) (mvT hZ (hw _ (List.mem_of_getElem? (i := 3) rfl))) (mvT hZ (hw _ (List.mem_of_getElem? (i := 4) rfl))) (mvT hZ (hw _ (List.mem_of_getElem? (i := 5) rfl))) (by decide) (backOf (W := 2) (rm1 l Z a0 hw [] ((q2.toUInt64 >>> ((32 : Int32) &&& 0x3f).toInt64.toUInt64).toInt64) h119 n0 ZN119 ) hZ (hw _ (List.mem_of_getElem? (i := 5) rfl)) (hw _ (List.mem_of_getElem? (i := 4) rfl)) (by decide) (by decide)) (g := (mkF m 83 #[.val (.long q1), .second, .val (.long q2), .second, .val (.int p3), .val (.int p4), .val (.int p5), .val (.ref b105), .val (.ref b106), .val (.ref b107), .unset, .unset, .unset, .unset, .unset, .unset, .unset, .unset, .unset] [(.long ((q2.toUInt64 >>> ((32 : Int32) &&& 0x3f).toInt64.toUInt64).toInt64)), (.int (2 : Int32)), (.ref b106)])) rfl (by rw [hml]; rfl) (argsL := [(.long ((q2.toUInt64 >>> ((32 : Int32) &&& 0x3f).toInt64.toUInt64).toInt64))]) (rest := [(.int (2 : Int32)), (.ref b106)]) (lenOf pd_0_0 rfl) rfl (by show 2 * 0 + _ ≤ _; exact Nat.le_of_eq rfl) (hb hby at_83) (fun _ _ => ⟨rfl, e119, (by decide : 3 + 0 ≤ _), (by decide : 65545 + 0 ≤ _)⟩)
  dsimp only [Pt.U, Pt.locs, Pt.cells, Pt.slots] at X120 l120 y120 z120 st120 hQ120
  subst l120 y120 z120
  obtain ⟨z120, rfl, N120q, e120⟩ := hQ120
  have N120 := Fr.app NN119 N120q
  refine go st120 ?_
  show Go _ p e below s _ _ _ (T120.setTop (mkF m 86 #[.val (.long q1), .second, .val (.long q2), .second, .val (.int p3), .val (.int p4), .val (.int p5), .val (.ref b105), .val (.ref b106), .val (.ref b107), .unset, .unset, .unset, .unset, .unset, .unset, .unset, .unset, .unset] [(.int z120), (.int (2 : Int32)), (.ref b106)]))
  obtain ⟨cl121, Ar121, q121, Sz121, Nz121, Hs121, Gs121⟩ := id VV119
  have hin121 : ¬ ((2 : Int32) < 0 ∨ cl121.slots.size ≤ ((2 : Int32)).toNatClampNeg) := inb_of Sz121 ⟨by decide, by decide⟩
  obtain ⟨T121, h121, X121, e121, W121, st121⟩ := stB X120 hx hZ e120 Ar121 (j := (2 : Int32)) hin121 (g := (mkF m 86 #[.val (.long q1), .second, .val (.long q2), .second, .val (.int p3), .val (.int p4), .val (.int p5), .val (.ref b105), .val (.ref b106), .val (.ref b107), .unset, .unset, .unset, .unset, .unset, .unset, .unset, .unset, .unset] [(.int z120), (.int (2 : Int32)), (.ref b106)])) rfl rfl (hb hby at_86)
  have V121 := Arv.set Ar121 q121 Sz121 Nz121 Hs121 Gs121 (fits_nar_byte _) W121 2 rfl (Nat.le_of_ble_eq_true rfl)
  have VV121 : Arv Z h121 b106 k106 .byte (4 : Int32) [(.int (nar .byte z116)), (.int (nar .byte z118)), (.int (nar .byte z120)), (.int (0 : Int32))] (.int (0 : Int32)) := V121
  have c121_0 := c119_0.wr W121
  have c121_1 := c119_1.other W121 (Nat.ne_of_lt lt106_b105_b106)
  have c121_2 := c119_2.wr W121
  have c121_4 := c119_4.wr W121
  have c121_5 := c119_5.other W121 (Ne.symm (Nat.ne_of_lt lt107_b106_b107))
  have KK121 : Keep h0 h121 [] := KK119.wr W121 (Or.inr SZ_b106)
  have ZN121 : n0 ≤ h121.size := Nat.le_trans ZN119 (Keep.of_wr W121).1
  have NN121 := Fr.snoc X121 N120 G_b106
  refine go st121 ?_
  show Go _ p e below s _ _ _ (T121.setTop (mkF m 87 #[.val (.long q1), .second, .val (.long q2), .second, .val (.int p3), .val (.int p4), .val (.int p5), .val (.ref b105), .val (.ref b106), .val (.ref b107), .unset, .unset, .unset, .unset, .unset, .unset, .unset, .unset, .unset] []))
  refine go (fun _ => XS.aload X121.here hx rfl (hb hby at_87) rfl rfl) ?_
  show Go _ p e below s _ _ _ (T121.setTop (mkF m 89 #[.val (.long q1), .second, .val (.long q2), .second, .val (.int p3), .val (.int p4), .val (.int p5), .val (.ref b105), .val (.ref b106), .val (.ref b107), .unset, .unset, .unset, .unset, .unset, .unset, .unset, .unset, .unset] [(.ref b106)]))
  refine go (fun _ => XS.iconst X121.here hx rfl (hb hby at_89)) ?_
  show Go _ p e below s _ _ _ (T121.setTop (mkF m 90 #[.val (.long q1), .second, .val (.long q2), .second, .val (.int p3), .val (.int p4), .val (.int p5), .val (.ref b105), .val (.ref b106), .val (.ref b107), .unset, .unset, .unset, .unset, .unset, .unset, .unset, .unset, .unset] [(.int (3 : Int32)), (.ref b106)]))
  refine go (fun _ => XS.lloadN X121.here hx rfl (hb hby at_90) rfl) ?_
  show Go _ p e below s _ _ _ (T121.setTop (mkF m 91 #[.val (.long q1), .second, .val (.long q2), .second, .val (.int p3), .val (.int p4), .val (.int p5), .val (.ref b105), .val (.ref b106), .val (.ref b107), .unset, .unset, .unset, .unset, .unset, .unset, .unset, .unset, .unset] [(.long q2), (.int (3 : Int32)), (.ref b106)]))
  refine go (fun _ => XS.bipush X121.here hx rfl (hb hby at_91)) ?_
  show Go _ p e below s _ _ _ (T121.setTop (mkF m 93 #[.val (.long q1), .second, .val (.long q2), .second, .val (.int p3), .val (.int p4), .val (.int p5), .val (.ref b105), .val (.ref b106), .val (.ref b107), .unset, .unset, .unset, .unset, .unset, .unset, .unset, .unset, .unset] [(.int (48 : Int32)), (.long q2), (.int (3 : Int32)), (.ref b106)]))
  refine go (fun _ => XS.lushr X121.here hx rfl (hb hby at_93) rfl) ?_
  show Go _ p e below s _ _ _ (T121.setTop (mkF m 94 #[.val (.long q1), .second, .val (.long q2), .second, .val (.int p3), .val (.int p4), .val (.int p5), .val (.ref b105), .val (.ref b106), .val (.ref b107), .unset, .unset, .unset, .unset, .unset, .unset, .unset, .unset, .unset] [(.long ((q2.toUInt64 >>> ((48 : Int32) &&& 0x3f).toInt64.toUInt64).toInt64)), (.int (3 : Int32)), (.ref b106)]))
  obtain ⟨_, _, ⟨T122, L122, k122, n122⟩, -, X122, ⟨Lc122, hQ122, l122, y122, z122⟩, st122⟩ := Jvm.LawKit.callS X121 hx (y := (⟨"com/example/dosisbog/dosisbog/HeadEndResetPinLaw", "pick", "(J)B"⟩ : MethodName)) hown (mvT hZ (hw _ (List.mem_of_getElem? (i := 2) rfl))) (mvT hZ (hw _ (List.mem_of_getElem? (i := 3) rfl))) (mvT hZ (hw _ (List.mem_of_getElem? (i := 4) rfl))) (mvT hZ (hw _ (List.mem_of_getElem? (i := 5) rfl))) (by decide) (backOf (W := 2) (rm1 l Z a0 hw [] ((q2.toUInt64 >>> ((48 : Int32) &&& 0x3f).toInt64.toUInt64).toInt64) h121 n0 ZN121 ) hZ (hw _ (List.mem_of_getElem? (i := 5) rfl)) (hw _ (List.mem_of_getElem? (i := 4) rfl)) (by decide) (by decide)) (g := (mkF m 94 #[.val (.long q1), .second, .val (.long q2), .second, .val (.int p3), .val (.int p4), .val (.int p5), .val (.ref b105), .val (.ref b106), .val (.ref b107), .unset, .unset, .unset, .unset, .unset, .unset, .unset, .unset, .unset] [(.long ((q2.toUInt64 >>> ((48 : Int32) &&& 0x3f).toInt64.toUInt64).toInt64)), (.int (3 : Int32)), (.ref b106)])) rfl (by rw [hml]; rfl) (argsL := [(.long ((q2.toUInt64 >>> ((48 : Int32) &&& 0x3f).toInt64.toUInt64).toInt64))]) (rest := [(.int (3 : Int32)), (.ref b106)]) (lenOf pd_0_0 rfl) rfl (by show 2 * 0 + _ ≤ _; exact Nat.le_of_eq rfl) (hb hby at_94) (fun _ _ => ⟨rfl, e121, (by decide : 3 + 0 ≤ _), (by decide : 65545 + 0 ≤ _)⟩)
  dsimp only [Pt.U, Pt.locs, Pt.cells, Pt.slots] at X122 l122 y122 z122 st122 hQ122
  subst l122 y122 z122
  obtain ⟨z122, rfl, N122q, e122⟩ := hQ122
  have N122 := Fr.app NN121 N122q
  refine go st122 ?_
  show Go _ p e below s _ _ _ (T122.setTop (mkF m 97 #[.val (.long q1), .second, .val (.long q2), .second, .val (.int p3), .val (.int p4), .val (.int p5), .val (.ref b105), .val (.ref b106), .val (.ref b107), .unset, .unset, .unset, .unset, .unset, .unset, .unset, .unset, .unset] [(.int z122), (.int (3 : Int32)), (.ref b106)]))
  obtain ⟨cl123, Ar123, q123, Sz123, Nz123, Hs123, Gs123⟩ := id VV121
  have hin123 : ¬ ((3 : Int32) < 0 ∨ cl123.slots.size ≤ ((3 : Int32)).toNatClampNeg) := inb_of Sz123 ⟨by decide, by decide⟩
  obtain ⟨T123, h123, X123, e123, W123, st123⟩ := stB X122 hx hZ e122 Ar123 (j := (3 : Int32)) hin123 (g := (mkF m 97 #[.val (.long q1), .second, .val (.long q2), .second, .val (.int p3), .val (.int p4), .val (.int p5), .val (.ref b105), .val (.ref b106), .val (.ref b107), .unset, .unset, .unset, .unset, .unset, .unset, .unset, .unset, .unset] [(.int z122), (.int (3 : Int32)), (.ref b106)])) rfl rfl (hb hby at_97)
  have V123 := Arv.set Ar123 q123 Sz123 Nz123 Hs123 Gs123 (fits_nar_byte _) W123 3 rfl (Nat.le_of_ble_eq_true rfl)
  have VV123 : Arv Z h123 b106 k106 .byte (4 : Int32) [(.int (nar .byte z116)), (.int (nar .byte z118)), (.int (nar .byte z120)), (.int (nar .byte z122))] (.int (0 : Int32)) := V123
  have c123_0 := c121_0.wr W123
  have c123_1 := c121_1.other W123 (Nat.ne_of_lt lt106_b105_b106)
  have c123_2 := c121_2.wr W123
  have c123_4 := c121_4.wr W123
  have c123_5 := c121_5.other W123 (Ne.symm (Nat.ne_of_lt lt107_b106_b107))
  have KK123 : Keep h0 h123 [] := KK121.wr W123 (Or.inr SZ_b106)
  have ZN123 : n0 ≤ h123.size := Nat.le_trans ZN121 (Keep.of_wr W123).1
  have NN123 := Fr.snoc X123 N122 G_b106
  refine go st123 ?_
  show Go _ p e below s _ _ _ (T123.setTop (mkF m 98 #[.val (.long q1), .second, .val (.long q2), .second, .val (.int p3), .val (.int p4), .val (.int p5), .val (.ref b105), .val (.ref b106), .val (.ref b107), .unset, .unset, .unset, .unset, .unset, .unset, .unset, .unset, .unset] []))
  refine go (fun _ => XS.iload X123.here hx rfl (hb hby at_98) rfl) ?_
  show Go _ p e below s _ _ _ (T123.setTop (mkF m 100 #[.val (.long q1), .second, .val (.long q2), .second, .val (.int p3), .val (.int p4), .val (.int p5), .val (.ref b105), .val (.ref b106), .val (.ref b107), .unset, .unset, .unset, .unset, .unset, .unset, .unset, .unset, .unset] [(.int p3)]))
  refine go (X123.ldcInt hx hown (mvT hZ (hw _ (List.mem_of_getElem? (i := 7) rfl))) (g := (mkF m 100 #[.val (.long q1), .second, .val (.long q2), .second, .val (.int p3), .val (.int p4), .val (.int p5), .val (.ref b105), .val (.ref b106), .val (.ref b107), .unset, .unset, .unset, .unset, .unset, .unset, .unset, .unset, .unset] [(.int p3)])) rfl (hb hby at_100)) ?_
  show Go _ p e below s _ _ _ (T123.setTop (mkF m 102 #[.val (.long q1), .second, .val (.long q2), .second, .val (.int p3), .val (.int p4), .val (.int p5), .val (.ref b105), .val (.ref b106), .val (.ref b107), .unset, .unset, .unset, .unset, .unset, .unset, .unset, .unset, .unset] [(.int (2147483647 : Int32)), (.int p3)]))
  refine go (fun _ => XS.iand X123.here hx rfl (hb hby at_102) rfl) ?_
  show Go _ p e below s _ _ _ (T123.setTop (mkF m 103 #[.val (.long q1), .second, .val (.long q2), .second, .val (.int p3), .val (.int p4), .val (.int p5), .val (.ref b105), .val (.ref b106), .val (.ref b107), .unset, .unset, .unset, .unset, .unset, .unset, .unset, .unset, .unset] [(.int (p3 &&& (2147483647 : Int32)))]))
  refine go (fun _ => XS.iconst X123.here hx rfl (hb hby at_103)) ?_
  show Go _ p e below s _ _ _ (T123.setTop (mkF m 104 #[.val (.long q1), .second, .val (.long q2), .second, .val (.int p3), .val (.int p4), .val (.int p5), .val (.ref b105), .val (.ref b106), .val (.ref b107), .unset, .unset, .unset, .unset, .unset, .unset, .unset, .unset, .unset] [(.int (5 : Int32)), (.int (p3 &&& (2147483647 : Int32)))]))
  refine go (fun _ => iremM X123 hx rfl (hb hby at_104) rfl (by decide)) ?_
  show Go _ p e below s _ _ _ (T123.setTop (mkF m 105 #[.val (.long q1), .second, .val (.long q2), .second, .val (.int p3), .val (.int p4), .val (.int p5), .val (.ref b105), .val (.ref b106), .val (.ref b107), .unset, .unset, .unset, .unset, .unset, .unset, .unset, .unset, .unset] [(.int ((p3 &&& (2147483647 : Int32)) % (5 : Int32)))]))
  refine go (fun _ => XS.istore X123.here hx rfl (hb hby at_105) rfl (l' := #[.val (.long q1), .second, .val (.long q2), .second, .val (.int p3), .val (.int p4), .val (.int p5), .val (.ref b105), .val (.ref b106), .val (.ref b107), .val (.int ((p3 &&& (2147483647 : Int32)) % (5 : Int32))), .unset, .unset, .unset, .unset, .unset, .unset, .unset, .unset]) rfl) ?_
  show Go _ p e below s _ _ _ (T123.setTop (mkF m 107 #[.val (.long q1), .second, .val (.long q2), .second, .val (.int p3), .val (.int p4), .val (.int p5), .val (.ref b105), .val (.ref b106), .val (.ref b107), .val (.int ((p3 &&& (2147483647 : Int32)) % (5 : Int32))), .unset, .unset, .unset, .unset, .unset, .unset, .unset, .unset] []))
  obtain ⟨raN, hra, hral⟩ := own_mod p3 5 5 (by decide) (by decide)
  generalize ((p3 &&& (2147483647 : Int32)) % (5 : Int32)) = raV at hra ⊢
  show Go _ p e below s _ _ _ (T123.setTop (mkF m 107 #[.val (.long q1), .second, .val (.long q2), .second, .val (.int p3), .val (.int p4), .val (.int p5), .val (.ref b105), .val (.ref b106), .val (.ref b107), .val (.int raV), .unset, .unset, .unset, .unset, .unset, .unset, .unset, .unset] []))
  refine go (fun _ => XS.iload X123.here hx rfl (hb hby at_107) rfl) ?_
  show Go _ p e below s _ _ _ (T123.setTop (mkF m 109 #[.val (.long q1), .second, .val (.long q2), .second, .val (.int p3), .val (.int p4), .val (.int p5), .val (.ref b105), .val (.ref b106), .val (.ref b107), .val (.int raV), .unset, .unset, .unset, .unset, .unset, .unset, .unset, .unset] [(.int p4)]))
  refine go (X123.ldcInt hx hown (mvT hZ (hw _ (List.mem_of_getElem? (i := 7) rfl))) (g := (mkF m 109 #[.val (.long q1), .second, .val (.long q2), .second, .val (.int p3), .val (.int p4), .val (.int p5), .val (.ref b105), .val (.ref b106), .val (.ref b107), .val (.int raV), .unset, .unset, .unset, .unset, .unset, .unset, .unset, .unset] [(.int p4)])) rfl (hb hby at_109)) ?_
  show Go _ p e below s _ _ _ (T123.setTop (mkF m 111 #[.val (.long q1), .second, .val (.long q2), .second, .val (.int p3), .val (.int p4), .val (.int p5), .val (.ref b105), .val (.ref b106), .val (.ref b107), .val (.int raV), .unset, .unset, .unset, .unset, .unset, .unset, .unset, .unset] [(.int (2147483647 : Int32)), (.int p4)]))
  refine go (fun _ => XS.iand X123.here hx rfl (hb hby at_111) rfl) ?_
  show Go _ p e below s _ _ _ (T123.setTop (mkF m 112 #[.val (.long q1), .second, .val (.long q2), .second, .val (.int p3), .val (.int p4), .val (.int p5), .val (.ref b105), .val (.ref b106), .val (.ref b107), .val (.int raV), .unset, .unset, .unset, .unset, .unset, .unset, .unset, .unset] [(.int (p4 &&& (2147483647 : Int32)))]))
  refine go (X123.ldcInt hx hown (mvT hZ (hw _ (List.mem_of_getElem? (i := 8) rfl))) (g := (mkF m 112 #[.val (.long q1), .second, .val (.long q2), .second, .val (.int p3), .val (.int p4), .val (.int p5), .val (.ref b105), .val (.ref b106), .val (.ref b107), .val (.int raV), .unset, .unset, .unset, .unset, .unset, .unset, .unset, .unset] [(.int (p4 &&& (2147483647 : Int32)))])) rfl (hb hby at_112)) ?_
  show Go _ p e below s _ _ _ (T123.setTop (mkF m 114 #[.val (.long q1), .second, .val (.long q2), .second, .val (.int p3), .val (.int p4), .val (.int p5), .val (.ref b105), .val (.ref b106), .val (.ref b107), .val (.int raV), .unset, .unset, .unset, .unset, .unset, .unset, .unset, .unset] [(.int (65538 : Int32)), (.int (p4 &&& (2147483647 : Int32)))]))
  refine go (fun _ => iremM X123 hx rfl (hb hby at_114) rfl (by decide)) ?_
  show Go _ p e below s _ _ _ (T123.setTop (mkF m 115 #[.val (.long q1), .second, .val (.long q2), .second, .val (.int p3), .val (.int p4), .val (.int p5), .val (.ref b105), .val (.ref b106), .val (.ref b107), .val (.int raV), .unset, .unset, .unset, .unset, .unset, .unset, .unset, .unset] [(.int ((p4 &&& (2147483647 : Int32)) % (65538 : Int32)))]))
  refine go (fun _ => XS.istore X123.here hx rfl (hb hby at_115) rfl (l' := #[.val (.long q1), .second, .val (.long q2), .second, .val (.int p3), .val (.int p4), .val (.int p5), .val (.ref b105), .val (.ref b106), .val (.ref b107), .val (.int raV), .val (.int ((p4 &&& (2147483647 : Int32)) % (65538 : Int32))), .unset, .unset, .unset, .unset, .unset, .unset, .unset]) rfl) ?_
  show Go _ p e below s _ _ _ (T123.setTop (mkF m 117 #[.val (.long q1), .second, .val (.long q2), .second, .val (.int p3), .val (.int p4), .val (.int p5), .val (.ref b105), .val (.ref b106), .val (.ref b107), .val (.int raV), .val (.int ((p4 &&& (2147483647 : Int32)) % (65538 : Int32))), .unset, .unset, .unset, .unset, .unset, .unset, .unset] []))
  obtain ⟨rbN, hrb, hrbl⟩ := own_mod p4 65538 65538 (by decide) (by decide)
  generalize ((p4 &&& (2147483647 : Int32)) % (65538 : Int32)) = rbV at hrb ⊢
  show Go _ p e below s _ _ _ (T123.setTop (mkF m 117 #[.val (.long q1), .second, .val (.long q2), .second, .val (.int p3), .val (.int p4), .val (.int p5), .val (.ref b105), .val (.ref b106), .val (.ref b107), .val (.int raV), .val (.int rbV), .unset, .unset, .unset, .unset, .unset, .unset, .unset] []))
  refine go (fun _ => XS.iload X123.here hx rfl (hb hby at_117) rfl) ?_
  show Go _ p e below s _ _ _ (T123.setTop (mkF m 119 #[.val (.long q1), .second, .val (.long q2), .second, .val (.int p3), .val (.int p4), .val (.int p5), .val (.ref b105), .val (.ref b106), .val (.ref b107), .val (.int raV), .val (.int rbV), .unset, .unset, .unset, .unset, .unset, .unset, .unset] [(.int p5)]))
  refine go (X123.ldcInt hx hown (mvT hZ (hw _ (List.mem_of_getElem? (i := 7) rfl))) (g := (mkF m 119 #[.val (.long q1), .second, .val (.long q2), .second, .val (.int p3), .val (.int p4), .val (.int p5), .val (.ref b105), .val (.ref b106), .val (.ref b107), .val (.int raV), .val (.int rbV), .unset, .unset, .unset, .unset, .unset, .unset, .unset] [(.int p5)])) rfl (hb hby at_119)) ?_
  show Go _ p e below s _ _ _ (T123.setTop (mkF m 121 #[.val (.long q1), .second, .val (.long q2), .second, .val (.int p3), .val (.int p4), .val (.int p5), .val (.ref b105), .val (.ref b106), .val (.ref b107), .val (.int raV), .val (.int rbV), .unset, .unset, .unset, .unset, .unset, .unset, .unset] [(.int (2147483647 : Int32)), (.int p5)]))
  refine go (fun _ => XS.iand X123.here hx rfl (hb hby at_121) rfl) ?_
  show Go _ p e below s _ _ _ (T123.setTop (mkF m 122 #[.val (.long q1), .second, .val (.long q2), .second, .val (.int p3), .val (.int p4), .val (.int p5), .val (.ref b105), .val (.ref b106), .val (.ref b107), .val (.int raV), .val (.int rbV), .unset, .unset, .unset, .unset, .unset, .unset, .unset] [(.int (p5 &&& (2147483647 : Int32)))]))
  refine go (fun _ => XS.iconst X123.here hx rfl (hb hby at_122)) ?_
  show Go _ p e below s _ _ _ (T123.setTop (mkF m 123 #[.val (.long q1), .second, .val (.long q2), .second, .val (.int p3), .val (.int p4), .val (.int p5), .val (.ref b105), .val (.ref b106), .val (.ref b107), .val (.int raV), .val (.int rbV), .unset, .unset, .unset, .unset, .unset, .unset, .unset] [(.int (5 : Int32)), (.int (p5 &&& (2147483647 : Int32)))]))
  refine go (fun _ => iremM X123 hx rfl (hb hby at_123) rfl (by decide)) ?_
  show Go _ p e below s _ _ _ (T123.setTop (mkF m 124 #[.val (.long q1), .second, .val (.long q2), .second, .val (.int p3), .val (.int p4), .val (.int p5), .val (.ref b105), .val (.ref b106), .val (.ref b107), .val (.int raV), .val (.int rbV), .unset, .unset, .unset, .unset, .unset, .unset, .unset] [(.int ((p5 &&& (2147483647 : Int32)) % (5 : Int32)))]))
  refine go (fun _ => XS.istore X123.here hx rfl (hb hby at_124) rfl (l' := #[.val (.long q1), .second, .val (.long q2), .second, .val (.int p3), .val (.int p4), .val (.int p5), .val (.ref b105), .val (.ref b106), .val (.ref b107), .val (.int raV), .val (.int rbV), .val (.int ((p5 &&& (2147483647 : Int32)) % (5 : Int32))), .unset, .unset, .unset, .unset, .unset, .unset]) rfl) ?_
  show Go _ p e below s _ _ _ (T123.setTop (mkF m 126 #[.val (.long q1), .second, .val (.long q2), .second, .val (.int p3), .val (.int p4), .val (.int p5), .val (.ref b105), .val (.ref b106), .val (.ref b107), .val (.int raV), .val (.int rbV), .val (.int ((p5 &&& (2147483647 : Int32)) % (5 : Int32))), .unset, .unset, .unset, .unset, .unset, .unset] []))
  obtain ⟨rcN, hrc, hrcl⟩ := own_mod p5 5 5 (by decide) (by decide)
  generalize ((p5 &&& (2147483647 : Int32)) % (5 : Int32)) = rcV at hrc ⊢
  show Go _ p e below s _ _ _ (T123.setTop (mkF m 126 #[.val (.long q1), .second, .val (.long q2), .second, .val (.int p3), .val (.int p4), .val (.int p5), .val (.ref b105), .val (.ref b106), .val (.ref b107), .val (.int raV), .val (.int rbV), .val (.int rcV), .unset, .unset, .unset, .unset, .unset, .unset] []))
  obtain ⟨T124, h124, X124, e124, E124, A124, D124, -, st124⟩ := newO X123 hx hZ hown (hw _ (List.mem_of_getElem? (i := 9) rfl)) (hw _ (List.mem_of_getElem? (i := 10) rfl)) (hw _ (List.mem_of_getElem? (i := 11) rfl)) e123 (g := (mkF m 126 #[.val (.long q1), .second, .val (.long q2), .second, .val (.int p3), .val (.int p4), .val (.int p5), .val (.ref b105), .val (.ref b106), .val (.ref b107), .val (.int raV), .val (.int rbV), .val (.int rcV), .unset, .unset, .unset, .unset, .unset, .unset] [])) rfl (hb hby at_126) (by decide) (by decide)
  obtain ⟨b124, g124⟩ : ∃ z, z = h123.size := ⟨_, rfl⟩
  rw [← g124] at A124 D124 st124
  have lt124_b105_b124 : b105 < b124 := Nat.lt_of_lt_of_le c123_0.lt (Nat.le_of_eq g124.symm)
  have lt124_b106_b124 : b106 < b124 := Nat.lt_of_lt_of_le c123_2.lt (Nat.le_of_eq g124.symm)
  have lt124_b107_b124 : b107 < b124 := Nat.lt_of_lt_of_le c123_4.lt (Nat.le_of_eq g124.symm)
  have G_b124 : n0 ≤ b124 := Nat.le_trans ZN123 (Nat.le_of_eq g124.symm)
  have SZ_b124 : h0.size ≤ b124 := Nat.le_trans KK123.1 (Nat.le_of_eq g124.symm)
  have c124_0 := c123_0.ext E124
  have c124_1 := c123_1.ext E124
  have c124_2 := c123_2.ext E124
  have c124_3 := VV123.ext E124
  have c124_4 := c123_4.ext E124
  have c124_5 := c123_5.ext E124
  have KK124 : Keep h0 h124 [] := KK123.ext E124
  have ZN124 : n0 ≤ h124.size := Nat.le_trans ZN123 E124.1
  have F124_24 : Fld Z h124 b124 "com/example/dosisbog/dosisbog/HttpRequest$HeadEnd" "found" "Z" (.int (0 : Int32)) := D124 (Or.inl (hw _ (List.mem_of_getElem? (i := 24) rfl))) (ty := .boolean) (by decide)
  have F124_26 : Fld Z h124 b124 "com/example/dosisbog/dosisbog/HttpRequest$HeadEnd" "looked" "I" (.int (0 : Int32)) := D124 (Or.inl (hw _ (List.mem_of_getElem? (i := 26) rfl))) (ty := .int) (by decide)
  have F124_28 : Fld Z h124 b124 "com/example/dosisbog/dosisbog/HttpRequest$HeadEnd" "inLine" "I" (.int (0 : Int32)) := D124 (Or.inl (hw _ (List.mem_of_getElem? (i := 28) rfl))) (ty := .int) (by decide)
  have F124_30 : Fld Z h124 b124 "com/example/dosisbog/dosisbog/HttpRequest$HeadEnd" "carriageReturn" "Z" (.int (0 : Int32)) := D124 (Or.inl (hw _ (List.mem_of_getElem? (i := 30) rfl))) (ty := .boolean) (by decide)
  have F124_38 : Fld Z h124 b124 "com/example/dosisbog/dosisbog/HttpRequest$HeadEnd" "requestLine" "Z" (.int (0 : Int32)) := D124 (Or.inl (hw _ (List.mem_of_getElem? (i := 38) rfl))) (ty := .boolean) (by decide)
  refine go st124 ?_
  show Go _ p e below s _ _ _ (T124.setTop (mkF m 129 #[.val (.long q1), .second, .val (.long q2), .second, .val (.int p3), .val (.int p4), .val (.int p5), .val (.ref b105), .val (.ref b106), .val (.ref b107), .val (.int raV), .val (.int rbV), .val (.int rcV), .unset, .unset, .unset, .unset, .unset, .unset] [(.ref b124)]))
  refine go (fun _ => XS.dup X124.here hx rfl (hb hby at_129) rfl rfl) ?_
  show Go _ p e below s _ _ _ (T124.setTop (mkF m 130 #[.val (.long q1), .second, .val (.long q2), .second, .val (.int p3), .val (.int p4), .val (.int p5), .val (.ref b105), .val (.ref b106), .val (.ref b107), .val (.int raV), .val (.int rbV), .val (.int rcV), .unset, .unset, .unset, .unset, .unset, .unset] [(.ref b124), (.ref b124)]))
  obtain ⟨_, _, ⟨T125, L125, k125, n125⟩, -, X125, ⟨Lc125, hQ125, l125, y125, z125⟩, st125⟩ := X124.specialBack hx (y := (⟨"com/example/dosisbog/dosisbog/HttpRequest$HeadEnd", "<init>", "()V"⟩ : MethodName)) rfl hown (mvT hZ (hw _ (List.mem_of_getElem? (i := 12) rfl))) (mvT hZ (hw _ (List.mem_of_getElem? (i := 13) rfl))) (mvT hZ (hw _ (List.mem_of_getElem? (i := 14) rfl))) (by decide) (backOf (W := 1) (rm2 l Z a0 hw [] b124 h124 n0 ZN124 ) hZ (hw _ (List.mem_of_getElem? (i := 14) rfl)) (hw _ (List.mem_of_getElem? (i := 11) rfl)) (by decide) (by decide)) (g := (mkF m 130 #[.val (.long q1), .second, .val (.long q2), .second, .val (.int p3), .val (.int p4), .val (.int p5), .val (.ref b105), .val (.ref b106), .val (.ref b107), .val (.int raV), .val (.int rbV), .val (.int rcV), .unset, .unset, .unset, .unset, .unset, .unset] [(.ref b124), (.ref b124)])) rfl (by rw [hml]; rfl) (Steps.refl _) (a := b124) (argsL := []) (rest := [(.ref b124)]) (lenOf pd_0_1 rfl) rfl (by show 2 * 0 + _ ≤ _; exact Nat.le_of_eq rfl) (hb hby at_130) (fun _ _ => ⟨rfl, e124, (by decide : 4 + 0 ≤ _), (by decide : 65550 + 0 ≤ _)⟩)
  dsimp only [Pt.U, Pt.locs, Pt.cells, Pt.slots] at X125 l125 y125 z125 st125 hQ125
  subst l125 y125 z125
  obtain ⟨rfl, N125q, e125⟩ := hQ125
  have N125 := Fr.app NN123 N125q
  refine goT st125 ?_
  show Go _ p e below s _ _ _ (T125.setTop (mkF m 133 #[.val (.long q1), .second, .val (.long q2), .second, .val (.int p3), .val (.int p4), .val (.int p5), .val (.ref b105), .val (.ref b106), .val (.ref b107), .val (.int raV), .val (.int rbV), .val (.int rcV), .unset, .unset, .unset, .unset, .unset, .unset] [(.ref b124)]))
  refine go (fun _ => XS.astore X125.here hx rfl (hb hby at_133) rfl rfl (l' := #[.val (.long q1), .second, .val (.long q2), .second, .val (.int p3), .val (.int p4), .val (.int p5), .val (.ref b105), .val (.ref b106), .val (.ref b107), .val (.int raV), .val (.int rbV), .val (.int rcV), .val (.ref b124), .unset, .unset, .unset, .unset, .unset]) rfl) ?_
  show Go _ p e below s _ _ _ (T125.setTop (mkF m 135 #[.val (.long q1), .second, .val (.long q2), .second, .val (.int p3), .val (.int p4), .val (.int p5), .val (.ref b105), .val (.ref b106), .val (.ref b107), .val (.int raV), .val (.int rbV), .val (.int rcV), .val (.ref b124), .unset, .unset, .unset, .unset, .unset] []))
  obtain ⟨T126, h126, X126, e126, E126, A126, D126, -, st126⟩ := newO X125 hx hZ hown (hw _ (List.mem_of_getElem? (i := 9) rfl)) (hw _ (List.mem_of_getElem? (i := 10) rfl)) (hw _ (List.mem_of_getElem? (i := 11) rfl)) e125 (g := (mkF m 135 #[.val (.long q1), .second, .val (.long q2), .second, .val (.int p3), .val (.int p4), .val (.int p5), .val (.ref b105), .val (.ref b106), .val (.ref b107), .val (.int raV), .val (.int rbV), .val (.int rcV), .val (.ref b124), .unset, .unset, .unset, .unset, .unset] [])) rfl (hb hby at_135) (by decide) (by decide)
  obtain ⟨b126, g126⟩ : ∃ z, z = h124.size := ⟨_, rfl⟩
  rw [← g126] at A126 D126 st126
  have lt126_b105_b126 : b105 < b126 := Nat.lt_of_lt_of_le c124_0.lt (Nat.le_of_eq g126.symm)
  have lt126_b106_b126 : b106 < b126 := Nat.lt_of_lt_of_le c124_2.lt (Nat.le_of_eq g126.symm)
  have lt126_b107_b126 : b107 < b126 := Nat.lt_of_lt_of_le c124_4.lt (Nat.le_of_eq g126.symm)
  have lt126_b124_b126 : b124 < b126 := Nat.lt_of_lt_of_le A124.lt (Nat.le_of_eq g126.symm)
  have G_b126 : n0 ≤ b126 := Nat.le_trans ZN124 (Nat.le_of_eq g126.symm)
  have SZ_b126 : h0.size ≤ b126 := Nat.le_trans KK124.1 (Nat.le_of_eq g126.symm)
  have c126_0 := c124_0.ext E126
  have c126_1 := c124_1.ext E126
  have c126_2 := c124_2.ext E126
  have c126_3 := c124_3.ext E126
  have c126_4 := c124_4.ext E126
  have c126_5 := c124_5.ext E126
  have c126_6 := A124.ext E126
  have c126_7 := F124_24.ext E126
  have c126_8 := F124_26.ext E126
  have c126_9 := F124_28.ext E126
  have c126_10 := F124_30.ext E126
  have c126_11 := F124_38.ext E126
  have KK126 : Keep h0 h126 [] := KK124.ext E126
  have ZN126 : n0 ≤ h126.size := Nat.le_trans ZN124 E126.1
  have F126_24 : Fld Z h126 b126 "com/example/dosisbog/dosisbog/HttpRequest$HeadEnd" "found" "Z" (.int (0 : Int32)) := D126 (Or.inl (hw _ (List.mem_of_getElem? (i := 24) rfl))) (ty := .boolean) (by decide)
  have F126_26 : Fld Z h126 b126 "com/example/dosisbog/dosisbog/HttpRequest$HeadEnd" "looked" "I" (.int (0 : Int32)) := D126 (Or.inl (hw _ (List.mem_of_getElem? (i := 26) rfl))) (ty := .int) (by decide)
  have F126_28 : Fld Z h126 b126 "com/example/dosisbog/dosisbog/HttpRequest$HeadEnd" "inLine" "I" (.int (0 : Int32)) := D126 (Or.inl (hw _ (List.mem_of_getElem? (i := 28) rfl))) (ty := .int) (by decide)
  have F126_30 : Fld Z h126 b126 "com/example/dosisbog/dosisbog/HttpRequest$HeadEnd" "carriageReturn" "Z" (.int (0 : Int32)) := D126 (Or.inl (hw _ (List.mem_of_getElem? (i := 30) rfl))) (ty := .boolean) (by decide)
  have F126_38 : Fld Z h126 b126 "com/example/dosisbog/dosisbog/HttpRequest$HeadEnd" "requestLine" "Z" (.int (0 : Int32)) := D126 (Or.inl (hw _ (List.mem_of_getElem? (i := 38) rfl))) (ty := .boolean) (by decide)
  refine go st126 ?_
  show Go _ p e below s _ _ _ (T126.setTop (mkF m 138 #[.val (.long q1), .second, .val (.long q2), .second, .val (.int p3), .val (.int p4), .val (.int p5), .val (.ref b105), .val (.ref b106), .val (.ref b107), .val (.int raV), .val (.int rbV), .val (.int rcV), .val (.ref b124), .unset, .unset, .unset, .unset, .unset] [(.ref b126)]))
  refine go (fun _ => XS.dup X126.here hx rfl (hb hby at_138) rfl rfl) ?_
  show Go _ p e below s _ _ _ (T126.setTop (mkF m 139 #[.val (.long q1), .second, .val (.long q2), .second, .val (.int p3), .val (.int p4), .val (.int p5), .val (.ref b105), .val (.ref b106), .val (.ref b107), .val (.int raV), .val (.int rbV), .val (.int rcV), .val (.ref b124), .unset, .unset, .unset, .unset, .unset] [(.ref b126), (.ref b126)]))
  obtain ⟨_, _, ⟨T127, L127, k127, n127⟩, -, X127, ⟨Lc127, hQ127, l127, y127, z127⟩, st127⟩ := X126.specialBack hx (y := (⟨"com/example/dosisbog/dosisbog/HttpRequest$HeadEnd", "<init>", "()V"⟩ : MethodName)) rfl hown (mvT hZ (hw _ (List.mem_of_getElem? (i := 12) rfl))) (mvT hZ (hw _ (List.mem_of_getElem? (i := 13) rfl))) (mvT hZ (hw _ (List.mem_of_getElem? (i := 14) rfl))) (by decide) (backOf (W := 1) (rm2 l Z a0 hw [] b126 h126 n0 ZN126 ) hZ (hw _ (List.mem_of_getElem? (i := 14) rfl)) (hw _ (List.mem_of_getElem? (i := 11) rfl)) (by decide) (by decide)) (g := (mkF m 139 #[.val (.long q1), .second, .val (.long q2), .second, .val (.int p3), .val (.int p4), .val (.int p5), .val (.ref b105), .val (.ref b106), .val (.ref b107), .val (.int raV), .val (.int rbV), .val (.int rcV), .val (.ref b124), .unset, .unset, .unset, .unset, .unset] [(.ref b126), (.ref b126)])) rfl (by rw [hml]; rfl) (Steps.refl _) (a := b126) (argsL := []) (rest := [(.ref b126)]) (lenOf pd_0_1 rfl) rfl (by show 2 * 0 + _ ≤ _; exact Nat.le_of_eq rfl) (hb hby at_139) (fun _ _ => ⟨rfl, e126, (by decide : 5 + 0 ≤ _), (by decide : 65555 + 0 ≤ _)⟩)
  dsimp only [Pt.U, Pt.locs, Pt.cells, Pt.slots] at X127 l127 y127 z127 st127 hQ127
  subst l127 y127 z127
  obtain ⟨rfl, N127q, e127⟩ := hQ127
  have N127 := Fr.app N125 N127q
  refine goT st127 ?_
  show Go _ p e below s _ _ _ (T127.setTop (mkF m 142 #[.val (.long q1), .second, .val (.long q2), .second, .val (.int p3), .val (.int p4), .val (.int p5), .val (.ref b105), .val (.ref b106), .val (.ref b107), .val (.int raV), .val (.int rbV), .val (.int rcV), .val (.ref b124), .unset, .unset, .unset, .unset, .unset] [(.ref b126)]))
  refine go (fun _ => XS.astore X127.here hx rfl (hb hby at_142) rfl rfl (l' := #[.val (.long q1), .second, .val (.long q2), .second, .val (.int p3), .val (.int p4), .val (.int p5), .val (.ref b105), .val (.ref b106), .val (.ref b107), .val (.int raV), .val (.int rbV), .val (.int rcV), .val (.ref b124), .val (.ref b126), .unset, .unset, .unset, .unset]) rfl) ?_
  show Go _ p e below s _ _ _ (T127.setTop (mkF m 144 #[.val (.long q1), .second, .val (.long q2), .second, .val (.int p3), .val (.int p4), .val (.int p5), .val (.ref b105), .val (.ref b106), .val (.ref b107), .val (.int raV), .val (.int rbV), .val (.int rcV), .val (.ref b124), .val (.ref b126), .unset, .unset, .unset, .unset] []))
  refine go (fun _ => XS.aload X127.here hx rfl (hb hby at_144) rfl rfl) ?_
  show Go _ p e below s _ _ _ (T127.setTop (mkF m 146 #[.val (.long q1), .second, .val (.long q2), .second, .val (.int p3), .val (.int p4), .val (.int p5), .val (.ref b105), .val (.ref b106), .val (.ref b107), .val (.int raV), .val (.int rbV), .val (.int rcV), .val (.ref b124), .val (.ref b126), .unset, .unset, .unset, .unset] [(.ref b124)]))
  refine go (fun _ => XS.aload X127.here hx rfl (hb hby at_146) rfl rfl) ?_
  show Go _ p e below s _ _ _ (T127.setTop (mkF m 148 #[.val (.long q1), .second, .val (.long q2), .second, .val (.int p3), .val (.int p4), .val (.int p5), .val (.ref b105), .val (.ref b106), .val (.ref b107), .val (.int raV), .val (.int rbV), .val (.int rcV), .val (.ref b124), .val (.ref b126), .unset, .unset, .unset, .unset] [(.ref b105), (.ref b124)]))
  refine go (fun _ => XS.iconst X127.here hx rfl (hb hby at_148)) ?_
  show Go _ p e below s _ _ _ (T127.setTop (mkF m 149 #[.val (.long q1), .second, .val (.long q2), .second, .val (.int p3), .val (.int p4), .val (.int p5), .val (.ref b105), .val (.ref b106), .val (.ref b107), .val (.int raV), .val (.int rbV), .val (.int rcV), .val (.ref b124), .val (.ref b126), .unset, .unset, .unset, .unset] [(.int (0 : Int32)), (.ref b105), (.ref b124)]))
  refine go (fun _ => XS.iload X127.here hx rfl (hb hby at_149) rfl) ?_
  show Go _ p e below s _ _ _ (T127.setTop (mkF m 151 #[.val (.long q1), .second, .val (.long q2), .second, .val (.int p3), .val (.int p4), .val (.int p5), .val (.ref b105), .val (.ref b106), .val (.ref b107), .val (.int raV), .val (.int rbV), .val (.int rcV), .val (.ref b124), .val (.ref b126), .unset, .unset, .unset, .unset] [(.int raV), (.int (0 : Int32)), (.ref b105), (.ref b124)]))
  obtain ⟨cq128, kq128, q128a, q128b, q128c⟩ := isOf hZ e127 c126_6
  obtain ⟨_, _, ⟨T128, L128, k128, n128⟩, -, X128, ⟨Lc128, hQ128, l128, y128, z128⟩, st128⟩ := X127.virtualBack hx (y := (⟨"com/example/dosisbog/dosisbog/HttpRequest$HeadEnd", "whole", "([BII)Z"⟩ : MethodName)) (z := (⟨"com/example/dosisbog/dosisbog/HttpRequest$HeadEnd", "whole", "([BII)Z"⟩ : MethodName)) hown (mvT hZ (hw _ (List.mem_of_getElem? (i := 18) rfl))) (mvT hZ (hw _ (List.mem_of_getElem? (i := 19) rfl))) (notFace_of_selects (args := #[]) (mvT hZ (hw _ (List.mem_of_getElem? (i := 21) rfl)))) (mvT hZ (hw _ (List.mem_of_getElem? (i := 21) rfl))) (mvT hZ (hw _ (List.mem_of_getElem? (i := 20) rfl))) (by decide) (backOf (W := 0) (rm4 l Z a0 hw [] b124 b105 (0 : Int32) raV k105 (4 : Int32) [(.int (nar .byte z108)), (.int (nar .byte z110)), (.int (nar .byte z112)), (.int (nar .byte z114))] (.int (0 : Int32)) (fun j => [(nar .byte z108), (nar .byte z110), (nar .byte z112), (nar .byte z114)].getD j 0) raN 0 (0 : Int32) (0 : Int32) (0 : Int32) (0 : Int32) (0 : Int32) h126 n0 ZN126 c126_6 G_b124 c126_1 (Ne.symm (Nat.ne_of_lt lt124_b105_b124)) c126_8 c126_9 c126_10 c126_11 c126_7 (by decide) (by omega) (by have : (4 : Int32).toInt = 4 := (by decide); omega) (own_getD [(nar .byte z108), (nar .byte z110), (nar .byte z112), (nar .byte z114)])) hZ (hw _ (List.mem_of_getElem? (i := 22) rfl)) (hw _ (List.mem_of_getElem? (i := 11) rfl)) (by decide) (by decide)) q128a q128c (g := (mkF m 151 #[.val (.long q1), .second, .val (.long q2), .second, .val (.int p3), .val (.int p4), .val (.int p5), .val (.ref b105), .val (.ref b106), .val (.ref b107), .val (.int raV), .val (.int rbV), .val (.int rcV), .val (.ref b124), .val (.ref b126), .unset, .unset, .unset, .unset] [(.int raV), (.int (0 : Int32)), (.ref b105), (.ref b124)])) rfl (by rw [hml]; rfl) (Steps.refl _) (argsL := [(.ref b105), (.int (0 : Int32)), (.int raV)]) (rest := []) (lenOf pd_0_2 rfl) rfl (by show 2 * 0 + _ ≤ _; exact Nat.le_of_eq rfl) (hb hby at_151) (fun _ _ => ⟨rfl, e127, (by decide : 5 + 0 ≤ _), (by decide : 65555 + 0 ≤ _)⟩)
  dsimp only [Pt.U, Pt.locs, Pt.cells, Pt.slots] at X128 l128 y128 z128 st128 hQ128
  subst l128 y128 z128
  obtain ⟨rfl, N128q, K128, u128_1, u128_2, u128_3, u128_4, u128_5⟩ := hQ128
  have N128 := Fr.app N127 N128q
  have c128_0 := c126_0.keep K128
  have c128_1 := c126_1.keep K128 (ninS (Nat.ne_of_lt lt124_b105_b124) nin0)
  have c128_2 := c126_2.keep K128
  have c128_3 := c126_3.keep K128 (ninS (Nat.ne_of_lt lt124_b106_b124) nin0)
  have c128_4 := c126_4.keep K128
  have c128_5 := c126_5.keep K128 (ninS (Nat.ne_of_lt lt124_b107_b124) nin0)
  have c128_6 := c126_6.keep K128
  have c128_7 := A126.keep K128
  have c128_8 := F126_24.keep K128 (ninS (Ne.symm (Nat.ne_of_lt lt126_b124_b126)) nin0)
  have c128_9 := F126_26.keep K128 (ninS (Ne.symm (Nat.ne_of_lt lt126_b124_b126)) nin0)
  have c128_10 := F126_28.keep K128 (ninS (Ne.symm (Nat.ne_of_lt lt126_b124_b126)) nin0)
  have c128_11 := F126_30.keep K128 (ninS (Ne.symm (Nat.ne_of_lt lt126_b124_b126)) nin0)
  have c128_12 := F126_38.keep K128 (ninS (Ne.symm (Nat.ne_of_lt lt126_b124_b126)) nin0)
  have KK128 : Keep h0 T128.heap [] := KK126.trans K128 (allS (P := fun x => x ∈ [] ∨ h0.size ≤ x) (Or.inr SZ_b124) all0)
  have ZN128 : n0 ≤ T128.heap.size := Nat.le_trans ZN126 K128.1
  refine goT st128 ?_
  show Go _ p e below s _ _ _ (T128.setTop (mkF m 154 #[.val (.long q1), .second, .val (.long q2), .second, .val (.int p3), .val (.int p4), .val (.int p5), .val (.ref b105), .val (.ref b106), .val (.ref b107), .val (.int raV), .val (.int rbV), .val (.int rcV), .val (.ref b124), .val (.ref b126), .unset, .unset, .unset, .unset] [(.int (nar .boolean (own_run (fun j => [(nar .byte z108), (nar .byte z110), (nar .byte z112), (nar .byte z114)].getD j 0) raN 0 ((0 : Int32), (0 : Int32), (0 : Int32), (0 : Int32), (0 : Int32))).2.2.2.2))]))
  refine go (fun _ => XS.pop X128.here hx rfl (hb hby at_154) rfl rfl) ?_
  show Go _ p e below s _ _ _ (T128.setTop (mkF m 155 #[.val (.long q1), .second, .val (.long q2), .second, .val (.int p3), .val (.int p4), .val (.int p5), .val (.ref b105), .val (.ref b106), .val (.ref b107), .val (.int raV), .val (.int rbV), .val (.int rcV), .val (.ref b124), .val (.ref b126), .unset, .unset, .unset, .unset] []))
  refine go (fun _ => XS.aload X128.here hx rfl (hb hby at_155) rfl rfl) ?_
  show Go _ p e below s _ _ _ (T128.setTop (mkF m 157 #[.val (.long q1), .second, .val (.long q2), .second, .val (.int p3), .val (.int p4), .val (.int p5), .val (.ref b105), .val (.ref b106), .val (.ref b107), .val (.int raV), .val (.int rbV), .val (.int rcV), .val (.ref b124), .val (.ref b126), .unset, .unset, .unset, .unset] [(.ref b124)]))
  refine go (fun _ => XS.aload X128.here hx rfl (hb hby at_157) rfl rfl) ?_
  show Go _ p e below s _ _ _ (T128.setTop (mkF m 159 #[.val (.long q1), .second, .val (.long q2), .second, .val (.int p3), .val (.int p4), .val (.int p5), .val (.ref b105), .val (.ref b106), .val (.ref b107), .val (.int raV), .val (.int rbV), .val (.int rcV), .val (.ref b124), .val (.ref b126), .unset, .unset, .unset, .unset] [(.ref b107), (.ref b124)]))
  refine go (fun _ => XS.iconst X128.here hx rfl (hb hby at_159)) ?_
  show Go _ p e below s _ _ _ (T128.setTop (mkF m 160 #[.val (.long q1), .second, .val (.long q2), .second, .val (.int p3), .val (.int p4), .val (.int p5), .val (.ref b105), .val (.ref b106), .val (.ref b107), .val (.int raV), .val (.int rbV), .val (.int rcV), .val (.ref b124), .val (.ref b126), .unset, .unset, .unset, .unset] [(.int (0 : Int32)), (.ref b107), (.ref b124)]))
  refine go (fun _ => XS.iload X128.here hx rfl (hb hby at_160) rfl) ?_
  show Go _ p e below s _ _ _ (T128.setTop (mkF m 162 #[.val (.long q1), .second, .val (.long q2), .second, .val (.int p3), .val (.int p4), .val (.int p5), .val (.ref b105), .val (.ref b106), .val (.ref b107), .val (.int raV), .val (.int rbV), .val (.int rcV), .val (.ref b124), .val (.ref b126), .unset, .unset, .unset, .unset] [(.int rbV), (.int (0 : Int32)), (.ref b107), (.ref b124)]))
  obtain ⟨cq129, kq129, q129a, q129b, q129c⟩ := isOf hZ rfl c128_6
  obtain ⟨_, _, ⟨T129, L129, k129, n129⟩, -, X129, ⟨Lc129, hQ129, l129, y129, z129⟩, st129⟩ := X128.virtualBack hx (y := (⟨"com/example/dosisbog/dosisbog/HttpRequest$HeadEnd", "whole", "([BII)Z"⟩ : MethodName)) (z := (⟨"com/example/dosisbog/dosisbog/HttpRequest$HeadEnd", "whole", "([BII)Z"⟩ : MethodName)) hown (mvT hZ (hw _ (List.mem_of_getElem? (i := 18) rfl))) (mvT hZ (hw _ (List.mem_of_getElem? (i := 19) rfl))) (notFace_of_selects (args := #[]) (mvT hZ (hw _ (List.mem_of_getElem? (i := 21) rfl)))) (mvT hZ (hw _ (List.mem_of_getElem? (i := 21) rfl))) (mvT hZ (hw _ (List.mem_of_getElem? (i := 20) rfl))) (by decide) (backOf (W := 0) (rm4 l Z a0 hw [] b124 b107 (0 : Int32) rbV k107 (65537 : Int32) [] (.int (0 : Int32)) (fun _ => 0) rbN 0 (own_run (fun j => [(nar .byte z108), (nar .byte z110), (nar .byte z112), (nar .byte z114)].getD j 0) raN 0 ((0 : Int32), (0 : Int32), (0 : Int32), (0 : Int32), (0 : Int32))).1 (own_run (fun j => [(nar .byte z108), (nar .byte z110), (nar .byte z112), (nar .byte z114)].getD j 0) raN 0 ((0 : Int32), (0 : Int32), (0 : Int32), (0 : Int32), (0 : Int32))).2.1 (own_run (fun j => [(nar .byte z108), (nar .byte z110), (nar .byte z112), (nar .byte z114)].getD j 0) raN 0 ((0 : Int32), (0 : Int32), (0 : Int32), (0 : Int32), (0 : Int32))).2.2.1 (own_run (fun j => [(nar .byte z108), (nar .byte z110), (nar .byte z112), (nar .byte z114)].getD j 0) raN 0 ((0 : Int32), (0 : Int32), (0 : Int32), (0 : Int32), (0 : Int32))).2.2.2.1 (own_run (fun j => [(nar .byte z108), (nar .byte z110), (nar .byte z112), (nar .byte z114)].getD j 0) raN 0 ((0 : Int32), (0 : Int32), (0 : Int32), (0 : Int32), (0 : Int32))).2.2.2.2 (T128.heap) n0 ZN128 c128_6 G_b124 c128_5 (Ne.symm (Nat.ne_of_lt lt124_b107_b124)) u128_1 u128_2 u128_3 u128_4 u128_5 (by decide) (by omega) (by have : (65537 : Int32).toInt = 65537 := (by decide); omega) (fun _ => rfl)) hZ (hw _ (List.mem_of_getElem? (i := 22) rfl)) (hw _ (List.mem_of_getElem? (i := 11) rfl)) (by decide) (by decide)) q129a q129c (g := (mkF m 162 #[.val (.long q1), .second, .val (.long q2), .second, .val (.int p3), .val (.int p4), .val (.int p5), .val (.ref b105), .val (.ref b106), .val (.ref b107), .val (.int raV), .val (.int rbV), .val (.int rcV), .val (.ref b124), .val (.ref b126), .unset, .unset, .unset, .unset] [(.int rbV), (.int (0 : Int32)), (.ref b107), (.ref b124)])) rfl (by rw [hml]; rfl) (Steps.refl _) (argsL := [(.ref b107), (.int (0 : Int32)), (.int rbV)]) (rest := []) (lenOf pd_0_2 rfl) rfl (by show 2 * 0 + _ ≤ _; exact Nat.le_of_eq rfl) (hb hby at_162) (fun _ _ => ⟨rfl, rfl, (by decide : 5 + 0 ≤ _), (by decide : 65555 + 0 ≤ _)⟩)
  dsimp only [Pt.U, Pt.locs, Pt.cells, Pt.slots] at X129 l129 y129 z129 st129 hQ129
  subst l129 y129 z129
  obtain ⟨rfl, N129q, K129, u129_1, u129_2, u129_3, u129_4, u129_5⟩ := hQ129
  have N129 := Fr.app N128 N129q
  have c129_0 := c128_0.keep K129
  have c129_1 := c128_1.keep K129 (ninS (Nat.ne_of_lt lt124_b105_b124) nin0)
  have c129_2 := c128_2.keep K129
  have c129_3 := c128_3.keep K129 (ninS (Nat.ne_of_lt lt124_b106_b124) nin0)
  have c129_4 := c128_4.keep K129
  have c129_5 := c128_5.keep K129 (ninS (Nat.ne_of_lt lt124_b107_b124) nin0)
  have c129_6 := c128_6.keep K129
  have c129_7 := c128_7.keep K129
  have c129_8 := c128_8.keep K129 (ninS (Ne.symm (Nat.ne_of_lt lt126_b124_b126)) nin0)
  have c129_9 := c128_9.keep K129 (ninS (Ne.symm (Nat.ne_of_lt lt126_b124_b126)) nin0)
  have c129_10 := c128_10.keep K129 (ninS (Ne.symm (Nat.ne_of_lt lt126_b124_b126)) nin0)
  have c129_11 := c128_11.keep K129 (ninS (Ne.symm (Nat.ne_of_lt lt126_b124_b126)) nin0)
  have c129_12 := c128_12.keep K129 (ninS (Ne.symm (Nat.ne_of_lt lt126_b124_b126)) nin0)
  have KK129 : Keep h0 T129.heap [] := KK128.trans K129 (allS (P := fun x => x ∈ [] ∨ h0.size ≤ x) (Or.inr SZ_b124) all0)
  have ZN129 : n0 ≤ T129.heap.size := Nat.le_trans ZN128 K129.1
  refine goT st129 ?_
  show Go _ p e below s _ _ _ (T129.setTop (mkF m 165 #[.val (.long q1), .second, .val (.long q2), .second, .val (.int p3), .val (.int p4), .val (.int p5), .val (.ref b105), .val (.ref b106), .val (.ref b107), .val (.int raV), .val (.int rbV), .val (.int rcV), .val (.ref b124), .val (.ref b126), .unset, .unset, .unset, .unset] [(.int (nar .boolean (own_run (fun _ => 0) rbN 0 ((own_run (fun j => [(nar .byte z108), (nar .byte z110), (nar .byte z112), (nar .byte z114)].getD j 0) raN 0 ((0 : Int32), (0 : Int32), (0 : Int32), (0 : Int32), (0 : Int32))).1, (own_run (fun j => [(nar .byte z108), (nar .byte z110), (nar .byte z112), (nar .byte z114)].getD j 0) raN 0 ((0 : Int32), (0 : Int32), (0 : Int32), (0 : Int32), (0 : Int32))).2.1, (own_run (fun j => [(nar .byte z108), (nar .byte z110), (nar .byte z112), (nar .byte z114)].getD j 0) raN 0 ((0 : Int32), (0 : Int32), (0 : Int32), (0 : Int32), (0 : Int32))).2.2.1, (own_run (fun j => [(nar .byte z108), (nar .byte z110), (nar .byte z112), (nar .byte z114)].getD j 0) raN 0 ((0 : Int32), (0 : Int32), (0 : Int32), (0 : Int32), (0 : Int32))).2.2.2.1, (own_run (fun j => [(nar .byte z108), (nar .byte z110), (nar .byte z112), (nar .byte z114)].getD j 0) raN 0 ((0 : Int32), (0 : Int32), (0 : Int32), (0 : Int32), (0 : Int32))).2.2.2.2)).2.2.2.2))]))
  refine go (fun _ => XS.pop X129.here hx rfl (hb hby at_165) rfl rfl) ?_
  show Go _ p e below s _ _ _ (T129.setTop (mkF m 166 #[.val (.long q1), .second, .val (.long q2), .second, .val (.int p3), .val (.int p4), .val (.int p5), .val (.ref b105), .val (.ref b106), .val (.ref b107), .val (.int raV), .val (.int rbV), .val (.int rcV), .val (.ref b124), .val (.ref b126), .unset, .unset, .unset, .unset] []))
  refine go (fun _ => XS.aload X129.here hx rfl (hb hby at_166) rfl rfl) ?_
  show Go _ p e below s _ _ _ (T129.setTop (mkF m 168 #[.val (.long q1), .second, .val (.long q2), .second, .val (.int p3), .val (.int p4), .val (.int p5), .val (.ref b105), .val (.ref b106), .val (.ref b107), .val (.int raV), .val (.int rbV), .val (.int rcV), .val (.ref b124), .val (.ref b126), .unset, .unset, .unset, .unset] [(.ref b124)]))
  obtain ⟨cq130, kq130, q130a, q130b, q130c⟩ := isOf hZ rfl c129_6
  obtain ⟨_, _, ⟨T130, L130, k130, n130⟩, -, X130, ⟨Lc130, hQ130, l130, y130, z130⟩, st130⟩ := X129.virtualBack hx (y := (⟨"com/example/dosisbog/dosisbog/HttpRequest$HeadEnd", "reset", "()V"⟩ : MethodName)) (z := (⟨"com/example/dosisbog/dosisbog/HttpRequest$HeadEnd", "reset", "()V"⟩ : MethodName)) hown (mvT hZ (hw _ (List.mem_of_getElem? (i := 32) rfl))) (mvT hZ (hw _ (List.mem_of_getElem? (i := 33) rfl))) (notFace_of_selects (args := #[]) (mvT hZ (hw _ (List.mem_of_getElem? (i := 35) rfl)))) (mvT hZ (hw _ (List.mem_of_getElem? (i := 35) rfl))) (mvT hZ (hw _ (List.mem_of_getElem? (i := 34) rfl))) (by decide) (backOf (W := 0) (rm5 l Z a0 hw [] b124 (.int (own_run (fun _ => 0) rbN 0 ((own_run (fun j => [(nar .byte z108), (nar .byte z110), (nar .byte z112), (nar .byte z114)].getD j 0) raN 0 ((0 : Int32), (0 : Int32), (0 : Int32), (0 : Int32), (0 : Int32))).1, (own_run (fun j => [(nar .byte z108), (nar .byte z110), (nar .byte z112), (nar .byte z114)].getD j 0) raN 0 ((0 : Int32), (0 : Int32), (0 : Int32), (0 : Int32), (0 : Int32))).2.1, (own_run (fun j => [(nar .byte z108), (nar .byte z110), (nar .byte z112), (nar .byte z114)].getD j 0) raN 0 ((0 : Int32), (0 : Int32), (0 : Int32), (0 : Int32), (0 : Int32))).2.2.1, (own_run (fun j => [(nar .byte z108), (nar .byte z110), (nar .byte z112), (nar .byte z114)].getD j 0) raN 0 ((0 : Int32), (0 : Int32), (0 : Int32), (0 : Int32), (0 : Int32))).2.2.2.1, (own_run (fun j => [(nar .byte z108), (nar .byte z110), (nar .byte z112), (nar .byte z114)].getD j 0) raN 0 ((0 : Int32), (0 : Int32), (0 : Int32), (0 : Int32), (0 : Int32))).2.2.2.2)).1) (.int (own_run (fun _ => 0) rbN 0 ((own_run (fun j => [(nar .byte z108), (nar .byte z110), (nar .byte z112), (nar .byte z114)].getD j 0) raN 0 ((0 : Int32), (0 : Int32), (0 : Int32), (0 : Int32), (0 : Int32))).1, (own_run (fun j => [(nar .byte z108), (nar .byte z110), (nar .byte z112), (nar .byte z114)].getD j 0) raN 0 ((0 : Int32), (0 : Int32), (0 : Int32), (0 : Int32), (0 : Int32))).2.1, (own_run (fun j => [(nar .byte z108), (nar .byte z110), (nar .byte z112), (nar .byte z114)].getD j 0) raN 0 ((0 : Int32), (0 : Int32), (0 : Int32), (0 : Int32), (0 : Int32))).2.2.1, (own_run (fun j => [(nar .byte z108), (nar .byte z110), (nar .byte z112), (nar .byte z114)].getD j 0) raN 0 ((0 : Int32), (0 : Int32), (0 : Int32), (0 : Int32), (0 : Int32))).2.2.2.1, (own_run (fun j => [(nar .byte z108), (nar .byte z110), (nar .byte z112), (nar .byte z114)].getD j 0) raN 0 ((0 : Int32), (0 : Int32), (0 : Int32), (0 : Int32), (0 : Int32))).2.2.2.2)).2.1) (.int (own_run (fun _ => 0) rbN 0 ((own_run (fun j => [(nar .byte z108), (nar .byte z110), (nar .byte z112), (nar .byte z114)].getD j 0) raN 0 ((0 : Int32), (0 : Int32), (0 : Int32), (0 : Int32), (0 : Int32))).1, (own_run (fun j => [(nar .byte z108), (nar .byte z110), (nar .byte z112), (nar .byte z114)].getD j 0) raN 0 ((0 : Int32), (0 : Int32), (0 : Int32), (0 : Int32), (0 : Int32))).2.1, (own_run (fun j => [(nar .byte z108), (nar .byte z110), (nar .byte z112), (nar .byte z114)].getD j 0) raN 0 ((0 : Int32), (0 : Int32), (0 : Int32), (0 : Int32), (0 : Int32))).2.2.1, (own_run (fun j => [(nar .byte z108), (nar .byte z110), (nar .byte z112), (nar .byte z114)].getD j 0) raN 0 ((0 : Int32), (0 : Int32), (0 : Int32), (0 : Int32), (0 : Int32))).2.2.2.1, (own_run (fun j => [(nar .byte z108), (nar .byte z110), (nar .byte z112), (nar .byte z114)].getD j 0) raN 0 ((0 : Int32), (0 : Int32), (0 : Int32), (0 : Int32), (0 : Int32))).2.2.2.2)).2.2.1) (.int (own_run (fun _ => 0) rbN 0 ((own_run (fun j => [(nar .byte z108), (nar .byte z110), (nar .byte z112), (nar .byte z114)].getD j 0) raN 0 ((0 : Int32), (0 : Int32), (0 : Int32), (0 : Int32), (0 : Int32))).1, (own_run (fun j => [(nar .byte z108), (nar .byte z110), (nar .byte z112), (nar .byte z114)].getD j 0) raN 0 ((0 : Int32), (0 : Int32), (0 : Int32), (0 : Int32), (0 : Int32))).2.1, (own_run (fun j => [(nar .byte z108), (nar .byte z110), (nar .byte z112), (nar .byte z114)].getD j 0) raN 0 ((0 : Int32), (0 : Int32), (0 : Int32), (0 : Int32), (0 : Int32))).2.2.1, (own_run (fun j => [(nar .byte z108), (nar .byte z110), (nar .byte z112), (nar .byte z114)].getD j 0) raN 0 ((0 : Int32), (0 : Int32), (0 : Int32), (0 : Int32), (0 : Int32))).2.2.2.1, (own_run (fun j => [(nar .byte z108), (nar .byte z110), (nar .byte z112), (nar .byte z114)].getD j 0) raN 0 ((0 : Int32), (0 : Int32), (0 : Int32), (0 : Int32), (0 : Int32))).2.2.2.2)).2.2.2.1) (.int (own_run (fun _ => 0) rbN 0 ((own_run (fun j => [(nar .byte z108), (nar .byte z110), (nar .byte z112), (nar .byte z114)].getD j 0) raN 0 ((0 : Int32), (0 : Int32), (0 : Int32), (0 : Int32), (0 : Int32))).1, (own_run (fun j => [(nar .byte z108), (nar .byte z110), (nar .byte z112), (nar .byte z114)].getD j 0) raN 0 ((0 : Int32), (0 : Int32), (0 : Int32), (0 : Int32), (0 : Int32))).2.1, (own_run (fun j => [(nar .byte z108), (nar .byte z110), (nar .byte z112), (nar .byte z114)].getD j 0) raN 0 ((0 : Int32), (0 : Int32), (0 : Int32), (0 : Int32), (0 : Int32))).2.2.1, (own_run (fun j => [(nar .byte z108), (nar .byte z110), (nar .byte z112), (nar .byte z114)].getD j 0) raN 0 ((0 : Int32), (0 : Int32), (0 : Int32), (0 : Int32), (0 : Int32))).2.2.2.1, (own_run (fun j => [(nar .byte z108), (nar .byte z110), (nar .byte z112), (nar .byte z114)].getD j 0) raN 0 ((0 : Int32), (0 : Int32), (0 : Int32), (0 : Int32), (0 : Int32))).2.2.2.2)).2.2.2.2) (T129.heap) n0 ZN129 c129_6 G_b124 u129_1 u129_2 u129_3 u129_4 u129_5) hZ (hw _ (List.mem_of_getElem? (i := 36) rfl)) (hw _ (List.mem_of_getElem? (i := 11) rfl)) (by decide) (by decide)) q130a q130c (g := (mkF m 168 #[.val (.long q1), .second, .val (.long q2), .second, .val (.int p3), .val (.int p4), .val (.int p5), .val (.ref b105), .val (.ref b106), .val (.ref b107), .val (.int raV), .val (.int rbV), .val (.int rcV), .val (.ref b124), .val (.ref b126), .unset, .unset, .unset, .unset] [(.ref b124)])) rfl (by rw [hml]; rfl) (Steps.refl _) (argsL := []) (rest := []) (lenOf pd_0_1 rfl) rfl (by show 2 * 0 + _ ≤ _; exact Nat.le_of_eq rfl) (hb hby at_168) (fun _ _ => ⟨rfl, rfl, (by decide : 5 + 0 ≤ _), (by decide : 65555 + 0 ≤ _)⟩)
  dsimp only [Pt.U, Pt.locs, Pt.cells, Pt.slots] at X130 l130 y130 z130 st130 hQ130
  subst l130 y130 z130
  obtain ⟨rfl, N130q, K130, u130_1, u130_2, u130_3, u130_4, u130_5⟩ := hQ130
  have N130 := Fr.app N129 N130q
  have c130_0 := c129_0.keep K130
  have c130_1 := c129_1.keep K130 (ninS (Nat.ne_of_lt lt124_b105_b124) nin0)
  have c130_2 := c129_2.keep K130
  have c130_3 := c129_3.keep K130 (ninS (Nat.ne_of_lt lt124_b106_b124) nin0)
  have c130_4 := c129_4.keep K130
  have c130_5 := c129_5.keep K130 (ninS (Nat.ne_of_lt lt124_b107_b124) nin0)
  have c130_6 := c129_6.keep K130
  have c130_7 := c129_7.keep K130
  have c130_8 := c129_8.keep K130 (ninS (Ne.symm (Nat.ne_of_lt lt126_b124_b126)) nin0)
  have c130_9 := c129_9.keep K130 (ninS (Ne.symm (Nat.ne_of_lt lt126_b124_b126)) nin0)
  have c130_10 := c129_10.keep K130 (ninS (Ne.symm (Nat.ne_of_lt lt126_b124_b126)) nin0)
  have c130_11 := c129_11.keep K130 (ninS (Ne.symm (Nat.ne_of_lt lt126_b124_b126)) nin0)
  have c130_12 := c129_12.keep K130 (ninS (Ne.symm (Nat.ne_of_lt lt126_b124_b126)) nin0)
  have KK130 : Keep h0 T130.heap [] := KK129.trans K130 (allS (P := fun x => x ∈ [] ∨ h0.size ≤ x) (Or.inr SZ_b124) all0)
  have ZN130 : n0 ≤ T130.heap.size := Nat.le_trans ZN129 K130.1
  refine goT st130 ?_
  show Go _ p e below s _ _ _ (T130.setTop (mkF m 171 #[.val (.long q1), .second, .val (.long q2), .second, .val (.int p3), .val (.int p4), .val (.int p5), .val (.ref b105), .val (.ref b106), .val (.ref b107), .val (.int raV), .val (.int rbV), .val (.int rcV), .val (.ref b124), .val (.ref b126), .unset, .unset, .unset, .unset] []))
  refine go (fun _ => XS.aload X130.here hx rfl (hb hby at_171) rfl rfl) ?_
  show Go _ p e below s _ _ _ (T130.setTop (mkF m 173 #[.val (.long q1), .second, .val (.long q2), .second, .val (.int p3), .val (.int p4), .val (.int p5), .val (.ref b105), .val (.ref b106), .val (.ref b107), .val (.int raV), .val (.int rbV), .val (.int rcV), .val (.ref b124), .val (.ref b126), .unset, .unset, .unset, .unset] [(.ref b124)]))
  refine go (fun _ => XS.aload X130.here hx rfl (hb hby at_173) rfl rfl) ?_
  show Go _ p e below s _ _ _ (T130.setTop (mkF m 175 #[.val (.long q1), .second, .val (.long q2), .second, .val (.int p3), .val (.int p4), .val (.int p5), .val (.ref b105), .val (.ref b106), .val (.ref b107), .val (.int raV), .val (.int rbV), .val (.int rcV), .val (.ref b124), .val (.ref b126), .unset, .unset, .unset, .unset] [(.ref b106), (.ref b124)]))
  refine go (fun _ => XS.iconst X130.here hx rfl (hb hby at_175)) ?_
  show Go _ p e below s _ _ _ (T130.setTop (mkF m 176 #[.val (.long q1), .second, .val (.long q2), .second, .val (.int p3), .val (.int p4), .val (.int p5), .val (.ref b105), .val (.ref b106), .val (.ref b107), .val (.int raV), .val (.int rbV), .val (.int rcV), .val (.ref b124), .val (.ref b126), .unset, .unset, .unset, .unset] [(.int (0 : Int32)), (.ref b106), (.ref b124)]))
  refine go (fun _ => XS.iload X130.here hx rfl (hb hby at_176) rfl) ?_
  show Go _ p e below s _ _ _ (T130.setTop (mkF m 178 #[.val (.long q1), .second, .val (.long q2), .second, .val (.int p3), .val (.int p4), .val (.int p5), .val (.ref b105), .val (.ref b106), .val (.ref b107), .val (.int raV), .val (.int rbV), .val (.int rcV), .val (.ref b124), .val (.ref b126), .unset, .unset, .unset, .unset] [(.int rcV), (.int (0 : Int32)), (.ref b106), (.ref b124)]))
  obtain ⟨cq131, kq131, q131a, q131b, q131c⟩ := isOf hZ rfl c130_6
  obtain ⟨_, _, ⟨T131, L131, k131, n131⟩, -, X131, ⟨Lc131, hQ131, l131, y131, z131⟩, st131⟩ := X130.virtualBack hx (y := (⟨"com/example/dosisbog/dosisbog/HttpRequest$HeadEnd", "whole", "([BII)Z"⟩ : MethodName)) (z := (⟨"com/example/dosisbog/dosisbog/HttpRequest$HeadEnd", "whole", "([BII)Z"⟩ : MethodName)) hown (mvT hZ (hw _ (List.mem_of_getElem? (i := 18) rfl))) (mvT hZ (hw _ (List.mem_of_getElem? (i := 19) rfl))) (notFace_of_selects (args := #[]) (mvT hZ (hw _ (List.mem_of_getElem? (i := 21) rfl)))) (mvT hZ (hw _ (List.mem_of_getElem? (i := 21) rfl))) (mvT hZ (hw _ (List.mem_of_getElem? (i := 20) rfl))) (by decide) (backOf (W := 0) (rm4 l Z a0 hw [] b124 b106 (0 : Int32) rcV k106 (4 : Int32) [(.int (nar .byte z116)), (.int (nar .byte z118)), (.int (nar .byte z120)), (.int (nar .byte z122))] (.int (0 : Int32)) (fun j => [(nar .byte z116), (nar .byte z118), (nar .byte z120), (nar .byte z122)].getD j 0) rcN 0 (0 : Int32) (0 : Int32) (0 : Int32) (0 : Int32) (0 : Int32) (T130.heap) n0 ZN130 c130_6 G_b124 c130_3 (Ne.symm (Nat.ne_of_lt lt124_b106_b124)) u130_1 u130_2 u130_3 u130_4 u130_5 (by decide) (by omega) (by have : (4 : Int32).toInt = 4 := (by decide); omega) (own_getD [(nar .byte z116), (nar .byte z118), (nar .byte z120), (nar .byte z122)])) hZ (hw _ (List.mem_of_getElem? (i := 22) rfl)) (hw _ (List.mem_of_getElem? (i := 11) rfl)) (by decide) (by decide)) q131a q131c (g := (mkF m 178 #[.val (.long q1), .second, .val (.long q2), .second, .val (.int p3), .val (.int p4), .val (.int p5), .val (.ref b105), .val (.ref b106), .val (.ref b107), .val (.int raV), .val (.int rbV), .val (.int rcV), .val (.ref b124), .val (.ref b126), .unset, .unset, .unset, .unset] [(.int rcV), (.int (0 : Int32)), (.ref b106), (.ref b124)])) rfl (by rw [hml]; rfl) (Steps.refl _) (argsL := [(.ref b106), (.int (0 : Int32)), (.int rcV)]) (rest := []) (lenOf pd_0_2 rfl) rfl (by show 2 * 0 + _ ≤ _; exact Nat.le_of_eq rfl) (hb hby at_178) (fun _ _ => ⟨rfl, rfl, (by decide : 5 + 0 ≤ _), (by decide : 65555 + 0 ≤ _)⟩)
  dsimp only [Pt.U, Pt.locs, Pt.cells, Pt.slots] at X131 l131 y131 z131 st131 hQ131
  subst l131 y131 z131
  obtain ⟨rfl, N131q, K131, u131_1, u131_2, u131_3, u131_4, u131_5⟩ := hQ131
  have N131 := Fr.app N130 N131q
  have c131_0 := c130_0.keep K131
  have c131_1 := c130_1.keep K131 (ninS (Nat.ne_of_lt lt124_b105_b124) nin0)
  have c131_2 := c130_2.keep K131
  have c131_3 := c130_3.keep K131 (ninS (Nat.ne_of_lt lt124_b106_b124) nin0)
  have c131_4 := c130_4.keep K131
  have c131_5 := c130_5.keep K131 (ninS (Nat.ne_of_lt lt124_b107_b124) nin0)
  have c131_6 := c130_6.keep K131
  have c131_7 := c130_7.keep K131
  have c131_8 := c130_8.keep K131 (ninS (Ne.symm (Nat.ne_of_lt lt126_b124_b126)) nin0)
  have c131_9 := c130_9.keep K131 (ninS (Ne.symm (Nat.ne_of_lt lt126_b124_b126)) nin0)
  have c131_10 := c130_10.keep K131 (ninS (Ne.symm (Nat.ne_of_lt lt126_b124_b126)) nin0)
  have c131_11 := c130_11.keep K131 (ninS (Ne.symm (Nat.ne_of_lt lt126_b124_b126)) nin0)
  have c131_12 := c130_12.keep K131 (ninS (Ne.symm (Nat.ne_of_lt lt126_b124_b126)) nin0)
  have KK131 : Keep h0 T131.heap [] := KK130.trans K131 (allS (P := fun x => x ∈ [] ∨ h0.size ≤ x) (Or.inr SZ_b124) all0)
  have ZN131 : n0 ≤ T131.heap.size := Nat.le_trans ZN130 K131.1
  refine goT st131 ?_
  show Go _ p e below s _ _ _ (T131.setTop (mkF m 181 #[.val (.long q1), .second, .val (.long q2), .second, .val (.int p3), .val (.int p4), .val (.int p5), .val (.ref b105), .val (.ref b106), .val (.ref b107), .val (.int raV), .val (.int rbV), .val (.int rcV), .val (.ref b124), .val (.ref b126), .unset, .unset, .unset, .unset] [(.int (nar .boolean (own_run (fun j => [(nar .byte z116), (nar .byte z118), (nar .byte z120), (nar .byte z122)].getD j 0) rcN 0 ((0 : Int32), (0 : Int32), (0 : Int32), (0 : Int32), (0 : Int32))).2.2.2.2))]))
  refine go (fun _ => XS.istore X131.here hx rfl (hb hby at_181) rfl (l' := #[.val (.long q1), .second, .val (.long q2), .second, .val (.int p3), .val (.int p4), .val (.int p5), .val (.ref b105), .val (.ref b106), .val (.ref b107), .val (.int raV), .val (.int rbV), .val (.int rcV), .val (.ref b124), .val (.ref b126), .val (.int (nar .boolean (own_run (fun j => [(nar .byte z116), (nar .byte z118), (nar .byte z120), (nar .byte z122)].getD j 0) rcN 0 ((0 : Int32), (0 : Int32), (0 : Int32), (0 : Int32), (0 : Int32))).2.2.2.2)), .unset, .unset, .unset]) rfl) ?_
  show Go _ p e below s _ _ _ (T131.setTop (mkF m 183 #[.val (.long q1), .second, .val (.long q2), .second, .val (.int p3), .val (.int p4), .val (.int p5), .val (.ref b105), .val (.ref b106), .val (.ref b107), .val (.int raV), .val (.int rbV), .val (.int rcV), .val (.ref b124), .val (.ref b126), .val (.int (nar .boolean (own_run (fun j => [(nar .byte z116), (nar .byte z118), (nar .byte z120), (nar .byte z122)].getD j 0) rcN 0 ((0 : Int32), (0 : Int32), (0 : Int32), (0 : Int32), (0 : Int32))).2.2.2.2)), .unset, .unset, .unset] []))
  refine go (fun _ => XS.aload X131.here hx rfl (hb hby at_183) rfl rfl) ?_
  show Go _ p e below s _ _ _ (T131.setTop (mkF m 185 #[.val (.long q1), .second, .val (.long q2), .second, .val (.int p3), .val (.int p4), .val (.int p5), .val (.ref b105), .val (.ref b106), .val (.ref b107), .val (.int raV), .val (.int rbV), .val (.int rcV), .val (.ref b124), .val (.ref b126), .val (.int (nar .boolean (own_run (fun j => [(nar .byte z116), (nar .byte z118), (nar .byte z120), (nar .byte z122)].getD j 0) rcN 0 ((0 : Int32), (0 : Int32), (0 : Int32), (0 : Int32), (0 : Int32))).2.2.2.2)), .unset, .unset, .unset] [(.ref b126)]))
  refine go (fun _ => XS.aload X131.here hx rfl (hb hby at_185) rfl rfl) ?_
  show Go _ p e below s _ _ _ (T131.setTop (mkF m 187 #[.val (.long q1), .second, .val (.long q2), .second, .val (.int p3), .val (.int p4), .val (.int p5), .val (.ref b105), .val (.ref b106), .val (.ref b107), .val (.int raV), .val (.int rbV), .val (.int rcV), .val (.ref b124), .val (.ref b126), .val (.int (nar .boolean (own_run (fun j => [(nar .byte z116), (nar .byte z118), (nar .byte z120), (nar .byte z122)].getD j 0) rcN 0 ((0 : Int32), (0 : Int32), (0 : Int32), (0 : Int32), (0 : Int32))).2.2.2.2)), .unset, .unset, .unset] [(.ref b106), (.ref b126)]))
  refine go (fun _ => XS.iconst X131.here hx rfl (hb hby at_187)) ?_
  show Go _ p e below s _ _ _ (T131.setTop (mkF m 188 #[.val (.long q1), .second, .val (.long q2), .second, .val (.int p3), .val (.int p4), .val (.int p5), .val (.ref b105), .val (.ref b106), .val (.ref b107), .val (.int raV), .val (.int rbV), .val (.int rcV), .val (.ref b124), .val (.ref b126), .val (.int (nar .boolean (own_run (fun j => [(nar .byte z116), (nar .byte z118), (nar .byte z120), (nar .byte z122)].getD j 0) rcN 0 ((0 : Int32), (0 : Int32), (0 : Int32), (0 : Int32), (0 : Int32))).2.2.2.2)), .unset, .unset, .unset] [(.int (0 : Int32)), (.ref b106), (.ref b126)]))
  refine go (fun _ => XS.iload X131.here hx rfl (hb hby at_188) rfl) ?_
  show Go _ p e below s _ _ _ (T131.setTop (mkF m 190 #[.val (.long q1), .second, .val (.long q2), .second, .val (.int p3), .val (.int p4), .val (.int p5), .val (.ref b105), .val (.ref b106), .val (.ref b107), .val (.int raV), .val (.int rbV), .val (.int rcV), .val (.ref b124), .val (.ref b126), .val (.int (nar .boolean (own_run (fun j => [(nar .byte z116), (nar .byte z118), (nar .byte z120), (nar .byte z122)].getD j 0) rcN 0 ((0 : Int32), (0 : Int32), (0 : Int32), (0 : Int32), (0 : Int32))).2.2.2.2)), .unset, .unset, .unset] [(.int rcV), (.int (0 : Int32)), (.ref b106), (.ref b126)]))
  obtain ⟨cq132, kq132, q132a, q132b, q132c⟩ := isOf hZ rfl c131_7
  obtain ⟨_, _, ⟨T132, L132, k132, n132⟩, -, X132, ⟨Lc132, hQ132, l132, y132, z132⟩, st132⟩ := X131.virtualBack hx (y := (⟨"com/example/dosisbog/dosisbog/HttpRequest$HeadEnd", "whole", "([BII)Z"⟩ : MethodName)) (z := (⟨"com/example/dosisbog/dosisbog/HttpRequest$HeadEnd", "whole", "([BII)Z"⟩ : MethodName)) hown (mvT hZ (hw _ (List.mem_of_getElem? (i := 18) rfl))) (mvT hZ (hw _ (List.mem_of_getElem? (i := 19) rfl))) (notFace_of_selects (args := #[]) (mvT hZ (hw _ (List.mem_of_getElem? (i := 21) rfl)))) (mvT hZ (hw _ (List.mem_of_getElem? (i := 21) rfl))) (mvT hZ (hw _ (List.mem_of_getElem? (i := 20) rfl))) (by decide) (backOf (W := 0) (rm4 l Z a0 hw [] b126 b106 (0 : Int32) rcV k106 (4 : Int32) [(.int (nar .byte z116)), (.int (nar .byte z118)), (.int (nar .byte z120)), (.int (nar .byte z122))] (.int (0 : Int32)) (fun j => [(nar .byte z116), (nar .byte z118), (nar .byte z120), (nar .byte z122)].getD j 0) rcN 0 (0 : Int32) (0 : Int32) (0 : Int32) (0 : Int32) (0 : Int32) (T131.heap) n0 ZN131 c131_7 G_b126 c131_3 (Ne.symm (Nat.ne_of_lt lt126_b106_b126)) c131_9 c131_10 c131_11 c131_12 c131_8 (by decide) (by omega) (by have : (4 : Int32).toInt = 4 := (by decide); omega) (own_getD [(nar .byte z116), (nar .byte z118), (nar .byte z120), (nar .byte z122)])) hZ (hw _ (List.mem_of_getElem? (i := 22) rfl)) (hw _ (List.mem_of_getElem? (i := 11) rfl)) (by decide) (by decide)) q132a q132c (g := (mkF m 190 #[.val (.long q1), .second, .val (.long q2), .second, .val (.int p3), .val (.int p4), .val (.int p5), .val (.ref b105), .val (.ref b106), .val (.ref b107), .val (.int raV), .val (.int rbV), .val (.int rcV), .val (.ref b124), .val (.ref b126), .val (.int (nar .boolean (own_run (fun j => [(nar .byte z116), (nar .byte z118), (nar .byte z120), (nar .byte z122)].getD j 0) rcN 0 ((0 : Int32), (0 : Int32), (0 : Int32), (0 : Int32), (0 : Int32))).2.2.2.2)), .unset, .unset, .unset] [(.int rcV), (.int (0 : Int32)), (.ref b106), (.ref b126)])) rfl (by rw [hml]; rfl) (Steps.refl _) (argsL := [(.ref b106), (.int (0 : Int32)), (.int rcV)]) (rest := []) (lenOf pd_0_2 rfl) rfl (by show 2 * 0 + _ ≤ _; exact Nat.le_of_eq rfl) (hb hby at_190) (fun _ _ => ⟨rfl, rfl, (by decide : 5 + 0 ≤ _), (by decide : 65555 + 0 ≤ _)⟩)
  dsimp only [Pt.U, Pt.locs, Pt.cells, Pt.slots] at X132 l132 y132 z132 st132 hQ132
  subst l132 y132 z132
  obtain ⟨rfl, N132q, K132, u132_1, u132_2, u132_3, u132_4, u132_5⟩ := hQ132
  have N132 := Fr.app N131 N132q
  have c132_0 := c131_0.keep K132
  have c132_1 := c131_1.keep K132 (ninS (Nat.ne_of_lt lt126_b105_b126) nin0)
  have c132_2 := c131_2.keep K132
  have c132_3 := c131_3.keep K132 (ninS (Nat.ne_of_lt lt126_b106_b126) nin0)
  have c132_4 := c131_4.keep K132
  have c132_5 := c131_5.keep K132 (ninS (Nat.ne_of_lt lt126_b107_b126) nin0)
  have c132_6 := c131_6.keep K132
  have c132_7 := c131_7.keep K132
  have c132_8 := u131_1.keep K132 (ninS (Nat.ne_of_lt lt126_b124_b126) nin0)
  have c132_9 := u131_2.keep K132 (ninS (Nat.ne_of_lt lt126_b124_b126) nin0)
  have c132_10 := u131_3.keep K132 (ninS (Nat.ne_of_lt lt126_b124_b126) nin0)
  have c132_11 := u131_4.keep K132 (ninS (Nat.ne_of_lt lt126_b124_b126) nin0)
  have c132_12 := u131_5.keep K132 (ninS (Nat.ne_of_lt lt126_b124_b126) nin0)
  have KK132 : Keep h0 T132.heap [] := KK131.trans K132 (allS (P := fun x => x ∈ [] ∨ h0.size ≤ x) (Or.inr SZ_b126) all0)
  have ZN132 : n0 ≤ T132.heap.size := Nat.le_trans ZN131 K132.1
  refine goT st132 ?_
  show Go _ p e below s _ _ _ (T132.setTop (mkF m 193 #[.val (.long q1), .second, .val (.long q2), .second, .val (.int p3), .val (.int p4), .val (.int p5), .val (.ref b105), .val (.ref b106), .val (.ref b107), .val (.int raV), .val (.int rbV), .val (.int rcV), .val (.ref b124), .val (.ref b126), .val (.int (nar .boolean (own_run (fun j => [(nar .byte z116), (nar .byte z118), (nar .byte z120), (nar .byte z122)].getD j 0) rcN 0 ((0 : Int32), (0 : Int32), (0 : Int32), (0 : Int32), (0 : Int32))).2.2.2.2)), .unset, .unset, .unset] [(.int (nar .boolean (own_run (fun j => [(nar .byte z116), (nar .byte z118), (nar .byte z120), (nar .byte z122)].getD j 0) rcN 0 ((0 : Int32), (0 : Int32), (0 : Int32), (0 : Int32), (0 : Int32))).2.2.2.2))]))
  refine go (fun _ => XS.istore X132.here hx rfl (hb hby at_193) rfl (l' := #[.val (.long q1), .second, .val (.long q2), .second, .val (.int p3), .val (.int p4), .val (.int p5), .val (.ref b105), .val (.ref b106), .val (.ref b107), .val (.int raV), .val (.int rbV), .val (.int rcV), .val (.ref b124), .val (.ref b126), .val (.int (nar .boolean (own_run (fun j => [(nar .byte z116), (nar .byte z118), (nar .byte z120), (nar .byte z122)].getD j 0) rcN 0 ((0 : Int32), (0 : Int32), (0 : Int32), (0 : Int32), (0 : Int32))).2.2.2.2)), .val (.int (nar .boolean (own_run (fun j => [(nar .byte z116), (nar .byte z118), (nar .byte z120), (nar .byte z122)].getD j 0) rcN 0 ((0 : Int32), (0 : Int32), (0 : Int32), (0 : Int32), (0 : Int32))).2.2.2.2)), .unset, .unset]) rfl) ?_
  show Go _ p e below s _ _ _ (T132.setTop (mkF m 195 #[.val (.long q1), .second, .val (.long q2), .second, .val (.int p3), .val (.int p4), .val (.int p5), .val (.ref b105), .val (.ref b106), .val (.ref b107), .val (.int raV), .val (.int rbV), .val (.int rcV), .val (.ref b124), .val (.ref b126), .val (.int (nar .boolean (own_run (fun j => [(nar .byte z116), (nar .byte z118), (nar .byte z120), (nar .byte z122)].getD j 0) rcN 0 ((0 : Int32), (0 : Int32), (0 : Int32), (0 : Int32), (0 : Int32))).2.2.2.2)), .val (.int (nar .boolean (own_run (fun j => [(nar .byte z116), (nar .byte z118), (nar .byte z120), (nar .byte z122)].getD j 0) rcN 0 ((0 : Int32), (0 : Int32), (0 : Int32), (0 : Int32), (0 : Int32))).2.2.2.2)), .unset, .unset] []))
  refine go (fun _ => XS.aload X132.here hx rfl (hb hby at_195) rfl rfl) ?_
  show Go _ p e below s _ _ _ (T132.setTop (mkF m 197 #[.val (.long q1), .second, .val (.long q2), .second, .val (.int p3), .val (.int p4), .val (.int p5), .val (.ref b105), .val (.ref b106), .val (.ref b107), .val (.int raV), .val (.int rbV), .val (.int rcV), .val (.ref b124), .val (.ref b126), .val (.int (nar .boolean (own_run (fun j => [(nar .byte z116), (nar .byte z118), (nar .byte z120), (nar .byte z122)].getD j 0) rcN 0 ((0 : Int32), (0 : Int32), (0 : Int32), (0 : Int32), (0 : Int32))).2.2.2.2)), .val (.int (nar .boolean (own_run (fun j => [(nar .byte z116), (nar .byte z118), (nar .byte z120), (nar .byte z122)].getD j 0) rcN 0 ((0 : Int32), (0 : Int32), (0 : Int32), (0 : Int32), (0 : Int32))).2.2.2.2)), .unset, .unset] [(.ref b124)]))
  refine go (fun _ => XS.aload X132.here hx rfl (hb hby at_197) rfl rfl) ?_
  show Go _ p e below s _ _ _ (T132.setTop (mkF m 199 #[.val (.long q1), .second, .val (.long q2), .second, .val (.int p3), .val (.int p4), .val (.int p5), .val (.ref b105), .val (.ref b106), .val (.ref b107), .val (.int raV), .val (.int rbV), .val (.int rcV), .val (.ref b124), .val (.ref b126), .val (.int (nar .boolean (own_run (fun j => [(nar .byte z116), (nar .byte z118), (nar .byte z120), (nar .byte z122)].getD j 0) rcN 0 ((0 : Int32), (0 : Int32), (0 : Int32), (0 : Int32), (0 : Int32))).2.2.2.2)), .val (.int (nar .boolean (own_run (fun j => [(nar .byte z116), (nar .byte z118), (nar .byte z120), (nar .byte z122)].getD j 0) rcN 0 ((0 : Int32), (0 : Int32), (0 : Int32), (0 : Int32), (0 : Int32))).2.2.2.2)), .unset, .unset] [(.ref b106), (.ref b124)]))
  refine go (fun _ => XS.iload X132.here hx rfl (hb hby at_199) rfl) ?_
  show Go _ p e below s _ _ _ (T132.setTop (mkF m 201 #[.val (.long q1), .second, .val (.long q2), .second, .val (.int p3), .val (.int p4), .val (.int p5), .val (.ref b105), .val (.ref b106), .val (.ref b107), .val (.int raV), .val (.int rbV), .val (.int rcV), .val (.ref b124), .val (.ref b126), .val (.int (nar .boolean (own_run (fun j => [(nar .byte z116), (nar .byte z118), (nar .byte z120), (nar .byte z122)].getD j 0) rcN 0 ((0 : Int32), (0 : Int32), (0 : Int32), (0 : Int32), (0 : Int32))).2.2.2.2)), .val (.int (nar .boolean (own_run (fun j => [(nar .byte z116), (nar .byte z118), (nar .byte z120), (nar .byte z122)].getD j 0) rcN 0 ((0 : Int32), (0 : Int32), (0 : Int32), (0 : Int32), (0 : Int32))).2.2.2.2)), .unset, .unset] [(.int rcV), (.ref b106), (.ref b124)]))
  refine go (fun _ => XS.iconst X132.here hx rfl (hb hby at_201)) ?_
  show Go _ p e below s _ _ _ (T132.setTop (mkF m 202 #[.val (.long q1), .second, .val (.long q2), .second, .val (.int p3), .val (.int p4), .val (.int p5), .val (.ref b105), .val (.ref b106), .val (.ref b107), .val (.int raV), .val (.int rbV), .val (.int rcV), .val (.ref b124), .val (.ref b126), .val (.int (nar .boolean (own_run (fun j => [(nar .byte z116), (nar .byte z118), (nar .byte z120), (nar .byte z122)].getD j 0) rcN 0 ((0 : Int32), (0 : Int32), (0 : Int32), (0 : Int32), (0 : Int32))).2.2.2.2)), .val (.int (nar .boolean (own_run (fun j => [(nar .byte z116), (nar .byte z118), (nar .byte z120), (nar .byte z122)].getD j 0) rcN 0 ((0 : Int32), (0 : Int32), (0 : Int32), (0 : Int32), (0 : Int32))).2.2.2.2)), .unset, .unset] [(.int (4 : Int32)), (.int rcV), (.ref b106), (.ref b124)]))
  obtain ⟨cq133, kq133, q133a, q133b, q133c⟩ := isOf hZ rfl c132_6
  obtain ⟨_, _, ⟨T133, L133, k133, n133⟩, -, X133, ⟨Lc133, hQ133, l133, y133, z133⟩, st133⟩ := X132.virtualBack hx (y := (⟨"com/example/dosisbog/dosisbog/HttpRequest$HeadEnd", "whole", "([BII)Z"⟩ : MethodName)) (z := (⟨"com/example/dosisbog/dosisbog/HttpRequest$HeadEnd", "whole", "([BII)Z"⟩ : MethodName)) hown (mvT hZ (hw _ (List.mem_of_getElem? (i := 18) rfl))) (mvT hZ (hw _ (List.mem_of_getElem? (i := 19) rfl))) (notFace_of_selects (args := #[]) (mvT hZ (hw _ (List.mem_of_getElem? (i := 21) rfl)))) (mvT hZ (hw _ (List.mem_of_getElem? (i := 21) rfl))) (mvT hZ (hw _ (List.mem_of_getElem? (i := 20) rfl))) (by decide) (backOf (W := 0) (rm4 l Z a0 hw [] b124 b106 rcV (4 : Int32) k106 (4 : Int32) [(.int (nar .byte z116)), (.int (nar .byte z118)), (.int (nar .byte z120)), (.int (nar .byte z122))] (.int (0 : Int32)) (fun j => [(nar .byte z116), (nar .byte z118), (nar .byte z120), (nar .byte z122)].getD j 0) (4 - rcN) rcN (own_run (fun j => [(nar .byte z116), (nar .byte z118), (nar .byte z120), (nar .byte z122)].getD j 0) rcN 0 ((0 : Int32), (0 : Int32), (0 : Int32), (0 : Int32), (0 : Int32))).1 (own_run (fun j => [(nar .byte z116), (nar .byte z118), (nar .byte z120), (nar .byte z122)].getD j 0) rcN 0 ((0 : Int32), (0 : Int32), (0 : Int32), (0 : Int32), (0 : Int32))).2.1 (own_run (fun j => [(nar .byte z116), (nar .byte z118), (nar .byte z120), (nar .byte z122)].getD j 0) rcN 0 ((0 : Int32), (0 : Int32), (0 : Int32), (0 : Int32), (0 : Int32))).2.2.1 (own_run (fun j => [(nar .byte z116), (nar .byte z118), (nar .byte z120), (nar .byte z122)].getD j 0) rcN 0 ((0 : Int32), (0 : Int32), (0 : Int32), (0 : Int32), (0 : Int32))).2.2.2.1 (own_run (fun j => [(nar .byte z116), (nar .byte z118), (nar .byte z120), (nar .byte z122)].getD j 0) rcN 0 ((0 : Int32), (0 : Int32), (0 : Int32), (0 : Int32), (0 : Int32))).2.2.2.2 (T132.heap) n0 ZN132 c132_6 G_b124 c132_3 (Ne.symm (Nat.ne_of_lt lt124_b106_b124)) c132_8 c132_9 c132_10 c132_11 c132_12 hrc (by have : (4 : Int32).toInt = 4 := (by decide); omega) (by have : (4 : Int32).toInt = 4 := (by decide); omega) (own_getD [(nar .byte z116), (nar .byte z118), (nar .byte z120), (nar .byte z122)])) hZ (hw _ (List.mem_of_getElem? (i := 22) rfl)) (hw _ (List.mem_of_getElem? (i := 11) rfl)) (by decide) (by decide)) q133a q133c (g := (mkF m 202 #[.val (.long q1), .second, .val (.long q2), .second, .val (.int p3), .val (.int p4), .val (.int p5), .val (.ref b105), .val (.ref b106), .val (.ref b107), .val (.int raV), .val (.int rbV), .val (.int rcV), .val (.ref b124), .val (.ref b126), .val (.int (nar .boolean (own_run (fun j => [(nar .byte z116), (nar .byte z118), (nar .byte z120), (nar .byte z122)].getD j 0) rcN 0 ((0 : Int32), (0 : Int32), (0 : Int32), (0 : Int32), (0 : Int32))).2.2.2.2)), .val (.int (nar .boolean (own_run (fun j => [(nar .byte z116), (nar .byte z118), (nar .byte z120), (nar .byte z122)].getD j 0) rcN 0 ((0 : Int32), (0 : Int32), (0 : Int32), (0 : Int32), (0 : Int32))).2.2.2.2)), .unset, .unset] [(.int (4 : Int32)), (.int rcV), (.ref b106), (.ref b124)])) rfl (by rw [hml]; rfl) (Steps.refl _) (argsL := [(.ref b106), (.int rcV), (.int (4 : Int32))]) (rest := []) (lenOf pd_0_2 rfl) rfl (by show 2 * 0 + _ ≤ _; exact Nat.le_of_eq rfl) (hb hby at_202) (fun _ _ => ⟨rfl, rfl, (by decide : 5 + 0 ≤ _), (by decide : 65555 + 0 ≤ _)⟩)
  dsimp only [Pt.U, Pt.locs, Pt.cells, Pt.slots] at X133 l133 y133 z133 st133 hQ133
  subst l133 y133 z133
  obtain ⟨rfl, N133q, K133, u133_1, u133_2, u133_3, u133_4, u133_5⟩ := hQ133
  have N133 := Fr.app N132 N133q
  have c133_0 := c132_0.keep K133
  have c133_1 := c132_1.keep K133 (ninS (Nat.ne_of_lt lt124_b105_b124) nin0)
  have c133_2 := c132_2.keep K133
  have c133_3 := c132_3.keep K133 (ninS (Nat.ne_of_lt lt124_b106_b124) nin0)
  have c133_4 := c132_4.keep K133
  have c133_5 := c132_5.keep K133 (ninS (Nat.ne_of_lt lt124_b107_b124) nin0)
  have c133_6 := c132_6.keep K133
  have c133_7 := c132_7.keep K133
  have c133_8 := u132_1.keep K133 (ninS (Ne.symm (Nat.ne_of_lt lt126_b124_b126)) nin0)
  have c133_9 := u132_2.keep K133 (ninS (Ne.symm (Nat.ne_of_lt lt126_b124_b126)) nin0)
  have c133_10 := u132_3.keep K133 (ninS (Ne.symm (Nat.ne_of_lt lt126_b124_b126)) nin0)
  have c133_11 := u132_4.keep K133 (ninS (Ne.symm (Nat.ne_of_lt lt126_b124_b126)) nin0)
  have c133_12 := u132_5.keep K133 (ninS (Ne.symm (Nat.ne_of_lt lt126_b124_b126)) nin0)
  have KK133 : Keep h0 T133.heap [] := KK132.trans K133 (allS (P := fun x => x ∈ [] ∨ h0.size ≤ x) (Or.inr SZ_b124) all0)
  have ZN133 : n0 ≤ T133.heap.size := Nat.le_trans ZN132 K133.1
  refine goT st133 ?_
  show Go _ p e below s _ _ _ (T133.setTop (mkF m 205 #[.val (.long q1), .second, .val (.long q2), .second, .val (.int p3), .val (.int p4), .val (.int p5), .val (.ref b105), .val (.ref b106), .val (.ref b107), .val (.int raV), .val (.int rbV), .val (.int rcV), .val (.ref b124), .val (.ref b126), .val (.int (nar .boolean (own_run (fun j => [(nar .byte z116), (nar .byte z118), (nar .byte z120), (nar .byte z122)].getD j 0) rcN 0 ((0 : Int32), (0 : Int32), (0 : Int32), (0 : Int32), (0 : Int32))).2.2.2.2)), .val (.int (nar .boolean (own_run (fun j => [(nar .byte z116), (nar .byte z118), (nar .byte z120), (nar .byte z122)].getD j 0) rcN 0 ((0 : Int32), (0 : Int32), (0 : Int32), (0 : Int32), (0 : Int32))).2.2.2.2)), .unset, .unset] [(.int (nar .boolean (own_run (fun j => [(nar .byte z116), (nar .byte z118), (nar .byte z120), (nar .byte z122)].getD j 0) (4 - rcN) rcN ((own_run (fun j => [(nar .byte z116), (nar .byte z118), (nar .byte z120), (nar .byte z122)].getD j 0) rcN 0 ((0 : Int32), (0 : Int32), (0 : Int32), (0 : Int32), (0 : Int32))).1, (own_run (fun j => [(nar .byte z116), (nar .byte z118), (nar .byte z120), (nar .byte z122)].getD j 0) rcN 0 ((0 : Int32), (0 : Int32), (0 : Int32), (0 : Int32), (0 : Int32))).2.1, (own_run (fun j => [(nar .byte z116), (nar .byte z118), (nar .byte z120), (nar .byte z122)].getD j 0) rcN 0 ((0 : Int32), (0 : Int32), (0 : Int32), (0 : Int32), (0 : Int32))).2.2.1, (own_run (fun j => [(nar .byte z116), (nar .byte z118), (nar .byte z120), (nar .byte z122)].getD j 0) rcN 0 ((0 : Int32), (0 : Int32), (0 : Int32), (0 : Int32), (0 : Int32))).2.2.2.1, (own_run (fun j => [(nar .byte z116), (nar .byte z118), (nar .byte z120), (nar .byte z122)].getD j 0) rcN 0 ((0 : Int32), (0 : Int32), (0 : Int32), (0 : Int32), (0 : Int32))).2.2.2.2)).2.2.2.2))]))
  refine go (fun _ => XS.istore X133.here hx rfl (hb hby at_205) rfl (l' := #[.val (.long q1), .second, .val (.long q2), .second, .val (.int p3), .val (.int p4), .val (.int p5), .val (.ref b105), .val (.ref b106), .val (.ref b107), .val (.int raV), .val (.int rbV), .val (.int rcV), .val (.ref b124), .val (.ref b126), .val (.int (nar .boolean (own_run (fun j => [(nar .byte z116), (nar .byte z118), (nar .byte z120), (nar .byte z122)].getD j 0) rcN 0 ((0 : Int32), (0 : Int32), (0 : Int32), (0 : Int32), (0 : Int32))).2.2.2.2)), .val (.int (nar .boolean (own_run (fun j => [(nar .byte z116), (nar .byte z118), (nar .byte z120), (nar .byte z122)].getD j 0) rcN 0 ((0 : Int32), (0 : Int32), (0 : Int32), (0 : Int32), (0 : Int32))).2.2.2.2)), .val (.int (nar .boolean (own_run (fun j => [(nar .byte z116), (nar .byte z118), (nar .byte z120), (nar .byte z122)].getD j 0) (4 - rcN) rcN ((own_run (fun j => [(nar .byte z116), (nar .byte z118), (nar .byte z120), (nar .byte z122)].getD j 0) rcN 0 ((0 : Int32), (0 : Int32), (0 : Int32), (0 : Int32), (0 : Int32))).1, (own_run (fun j => [(nar .byte z116), (nar .byte z118), (nar .byte z120), (nar .byte z122)].getD j 0) rcN 0 ((0 : Int32), (0 : Int32), (0 : Int32), (0 : Int32), (0 : Int32))).2.1, (own_run (fun j => [(nar .byte z116), (nar .byte z118), (nar .byte z120), (nar .byte z122)].getD j 0) rcN 0 ((0 : Int32), (0 : Int32), (0 : Int32), (0 : Int32), (0 : Int32))).2.2.1, (own_run (fun j => [(nar .byte z116), (nar .byte z118), (nar .byte z120), (nar .byte z122)].getD j 0) rcN 0 ((0 : Int32), (0 : Int32), (0 : Int32), (0 : Int32), (0 : Int32))).2.2.2.1, (own_run (fun j => [(nar .byte z116), (nar .byte z118), (nar .byte z120), (nar .byte z122)].getD j 0) rcN 0 ((0 : Int32), (0 : Int32), (0 : Int32), (0 : Int32), (0 : Int32))).2.2.2.2)).2.2.2.2)), .unset]) rfl) ?_
  show Go _ p e below s _ _ _ (T133.setTop (mkF m 207 #[.val (.long q1), .second, .val (.long q2), .second, .val (.int p3), .val (.int p4), .val (.int p5), .val (.ref b105), .val (.ref b106), .val (.ref b107), .val (.int raV), .val (.int rbV), .val (.int rcV), .val (.ref b124), .val (.ref b126), .val (.int (nar .boolean (own_run (fun j => [(nar .byte z116), (nar .byte z118), (nar .byte z120), (nar .byte z122)].getD j 0) rcN 0 ((0 : Int32), (0 : Int32), (0 : Int32), (0 : Int32), (0 : Int32))).2.2.2.2)), .val (.int (nar .boolean (own_run (fun j => [(nar .byte z116), (nar .byte z118), (nar .byte z120), (nar .byte z122)].getD j 0) rcN 0 ((0 : Int32), (0 : Int32), (0 : Int32), (0 : Int32), (0 : Int32))).2.2.2.2)), .val (.int (nar .boolean (own_run (fun j => [(nar .byte z116), (nar .byte z118), (nar .byte z120), (nar .byte z122)].getD j 0) (4 - rcN) rcN ((own_run (fun j => [(nar .byte z116), (nar .byte z118), (nar .byte z120), (nar .byte z122)].getD j 0) rcN 0 ((0 : Int32), (0 : Int32), (0 : Int32), (0 : Int32), (0 : Int32))).1, (own_run (fun j => [(nar .byte z116), (nar .byte z118), (nar .byte z120), (nar .byte z122)].getD j 0) rcN 0 ((0 : Int32), (0 : Int32), (0 : Int32), (0 : Int32), (0 : Int32))).2.1, (own_run (fun j => [(nar .byte z116), (nar .byte z118), (nar .byte z120), (nar .byte z122)].getD j 0) rcN 0 ((0 : Int32), (0 : Int32), (0 : Int32), (0 : Int32), (0 : Int32))).2.2.1, (own_run (fun j => [(nar .byte z116), (nar .byte z118), (nar .byte z120), (nar .byte z122)].getD j 0) rcN 0 ((0 : Int32), (0 : Int32), (0 : Int32), (0 : Int32), (0 : Int32))).2.2.2.1, (own_run (fun j => [(nar .byte z116), (nar .byte z118), (nar .byte z120), (nar .byte z122)].getD j 0) rcN 0 ((0 : Int32), (0 : Int32), (0 : Int32), (0 : Int32), (0 : Int32))).2.2.2.2)).2.2.2.2)), .unset] []))
  refine go (fun _ => XS.aload X133.here hx rfl (hb hby at_207) rfl rfl) ?_
  show Go _ p e below s _ _ _ (T133.setTop (mkF m 209 #[.val (.long q1), .second, .val (.long q2), .second, .val (.int p3), .val (.int p4), .val (.int p5), .val (.ref b105), .val (.ref b106), .val (.ref b107), .val (.int raV), .val (.int rbV), .val (.int rcV), .val (.ref b124), .val (.ref b126), .val (.int (nar .boolean (own_run (fun j => [(nar .byte z116), (nar .byte z118), (nar .byte z120), (nar .byte z122)].getD j 0) rcN 0 ((0 : Int32), (0 : Int32), (0 : Int32), (0 : Int32), (0 : Int32))).2.2.2.2)), .val (.int (nar .boolean (own_run (fun j => [(nar .byte z116), (nar .byte z118), (nar .byte z120), (nar .byte z122)].getD j 0) rcN 0 ((0 : Int32), (0 : Int32), (0 : Int32), (0 : Int32), (0 : Int32))).2.2.2.2)), .val (.int (nar .boolean (own_run (fun j => [(nar .byte z116), (nar .byte z118), (nar .byte z120), (nar .byte z122)].getD j 0) (4 - rcN) rcN ((own_run (fun j => [(nar .byte z116), (nar .byte z118), (nar .byte z120), (nar .byte z122)].getD j 0) rcN 0 ((0 : Int32), (0 : Int32), (0 : Int32), (0 : Int32), (0 : Int32))).1, (own_run (fun j => [(nar .byte z116), (nar .byte z118), (nar .byte z120), (nar .byte z122)].getD j 0) rcN 0 ((0 : Int32), (0 : Int32), (0 : Int32), (0 : Int32), (0 : Int32))).2.1, (own_run (fun j => [(nar .byte z116), (nar .byte z118), (nar .byte z120), (nar .byte z122)].getD j 0) rcN 0 ((0 : Int32), (0 : Int32), (0 : Int32), (0 : Int32), (0 : Int32))).2.2.1, (own_run (fun j => [(nar .byte z116), (nar .byte z118), (nar .byte z120), (nar .byte z122)].getD j 0) rcN 0 ((0 : Int32), (0 : Int32), (0 : Int32), (0 : Int32), (0 : Int32))).2.2.2.1, (own_run (fun j => [(nar .byte z116), (nar .byte z118), (nar .byte z120), (nar .byte z122)].getD j 0) rcN 0 ((0 : Int32), (0 : Int32), (0 : Int32), (0 : Int32), (0 : Int32))).2.2.2.2)).2.2.2.2)), .unset] [(.ref b126)]))
  refine go (fun _ => XS.aload X133.here hx rfl (hb hby at_209) rfl rfl) ?_
  show Go _ p e below s _ _ _ (T133.setTop (mkF m 211 #[.val (.long q1), .second, .val (.long q2), .second, .val (.int p3), .val (.int p4), .val (.int p5), .val (.ref b105), .val (.ref b106), .val (.ref b107), .val (.int raV), .val (.int rbV), .val (.int rcV), .val (.ref b124), .val (.ref b126), .val (.int (nar .boolean (own_run (fun j => [(nar .byte z116), (nar .byte z118), (nar .byte z120), (nar .byte z122)].getD j 0) rcN 0 ((0 : Int32), (0 : Int32), (0 : Int32), (0 : Int32), (0 : Int32))).2.2.2.2)), .val (.int (nar .boolean (own_run (fun j => [(nar .byte z116), (nar .byte z118), (nar .byte z120), (nar .byte z122)].getD j 0) rcN 0 ((0 : Int32), (0 : Int32), (0 : Int32), (0 : Int32), (0 : Int32))).2.2.2.2)), .val (.int (nar .boolean (own_run (fun j => [(nar .byte z116), (nar .byte z118), (nar .byte z120), (nar .byte z122)].getD j 0) (4 - rcN) rcN ((own_run (fun j => [(nar .byte z116), (nar .byte z118), (nar .byte z120), (nar .byte z122)].getD j 0) rcN 0 ((0 : Int32), (0 : Int32), (0 : Int32), (0 : Int32), (0 : Int32))).1, (own_run (fun j => [(nar .byte z116), (nar .byte z118), (nar .byte z120), (nar .byte z122)].getD j 0) rcN 0 ((0 : Int32), (0 : Int32), (0 : Int32), (0 : Int32), (0 : Int32))).2.1, (own_run (fun j => [(nar .byte z116), (nar .byte z118), (nar .byte z120), (nar .byte z122)].getD j 0) rcN 0 ((0 : Int32), (0 : Int32), (0 : Int32), (0 : Int32), (0 : Int32))).2.2.1, (own_run (fun j => [(nar .byte z116), (nar .byte z118), (nar .byte z120), (nar .byte z122)].getD j 0) rcN 0 ((0 : Int32), (0 : Int32), (0 : Int32), (0 : Int32), (0 : Int32))).2.2.2.1, (own_run (fun j => [(nar .byte z116), (nar .byte z118), (nar .byte z120), (nar .byte z122)].getD j 0) rcN 0 ((0 : Int32), (0 : Int32), (0 : Int32), (0 : Int32), (0 : Int32))).2.2.2.2)).2.2.2.2)), .unset] [(.ref b106), (.ref b126)]))
  refine go (fun _ => XS.iload X133.here hx rfl (hb hby at_211) rfl) ?_
  show Go _ p e below s _ _ _ (T133.setTop (mkF m 213 #[.val (.long q1), .second, .val (.long q2), .second, .val (.int p3), .val (.int p4), .val (.int p5), .val (.ref b105), .val (.ref b106), .val (.ref b107), .val (.int raV), .val (.int rbV), .val (.int rcV), .val (.ref b124), .val (.ref b126), .val (.int (nar .boolean (own_run (fun j => [(nar .byte z116), (nar .byte z118), (nar .byte z120), (nar .byte z122)].getD j 0) rcN 0 ((0 : Int32), (0 : Int32), (0 : Int32), (0 : Int32), (0 : Int32))).2.2.2.2)), .val (.int (nar .boolean (own_run (fun j => [(nar .byte z116), (nar .byte z118), (nar .byte z120), (nar .byte z122)].getD j 0) rcN 0 ((0 : Int32), (0 : Int32), (0 : Int32), (0 : Int32), (0 : Int32))).2.2.2.2)), .val (.int (nar .boolean (own_run (fun j => [(nar .byte z116), (nar .byte z118), (nar .byte z120), (nar .byte z122)].getD j 0) (4 - rcN) rcN ((own_run (fun j => [(nar .byte z116), (nar .byte z118), (nar .byte z120), (nar .byte z122)].getD j 0) rcN 0 ((0 : Int32), (0 : Int32), (0 : Int32), (0 : Int32), (0 : Int32))).1, (own_run (fun j => [(nar .byte z116), (nar .byte z118), (nar .byte z120), (nar .byte z122)].getD j 0) rcN 0 ((0 : Int32), (0 : Int32), (0 : Int32), (0 : Int32), (0 : Int32))).2.1, (own_run (fun j => [(nar .byte z116), (nar .byte z118), (nar .byte z120), (nar .byte z122)].getD j 0) rcN 0 ((0 : Int32), (0 : Int32), (0 : Int32), (0 : Int32), (0 : Int32))).2.2.1, (own_run (fun j => [(nar .byte z116), (nar .byte z118), (nar .byte z120), (nar .byte z122)].getD j 0) rcN 0 ((0 : Int32), (0 : Int32), (0 : Int32), (0 : Int32), (0 : Int32))).2.2.2.1, (own_run (fun j => [(nar .byte z116), (nar .byte z118), (nar .byte z120), (nar .byte z122)].getD j 0) rcN 0 ((0 : Int32), (0 : Int32), (0 : Int32), (0 : Int32), (0 : Int32))).2.2.2.2)).2.2.2.2)), .unset] [(.int rcV), (.ref b106), (.ref b126)]))
  refine go (fun _ => XS.iconst X133.here hx rfl (hb hby at_213)) ?_
  show Go _ p e below s _ _ _ (T133.setTop (mkF m 214 #[.val (.long q1), .second, .val (.long q2), .second, .val (.int p3), .val (.int p4), .val (.int p5), .val (.ref b105), .val (.ref b106), .val (.ref b107), .val (.int raV), .val (.int rbV), .val (.int rcV), .val (.ref b124), .val (.ref b126), .val (.int (nar .boolean (own_run (fun j => [(nar .byte z116), (nar .byte z118), (nar .byte z120), (nar .byte z122)].getD j 0) rcN 0 ((0 : Int32), (0 : Int32), (0 : Int32), (0 : Int32), (0 : Int32))).2.2.2.2)), .val (.int (nar .boolean (own_run (fun j => [(nar .byte z116), (nar .byte z118), (nar .byte z120), (nar .byte z122)].getD j 0) rcN 0 ((0 : Int32), (0 : Int32), (0 : Int32), (0 : Int32), (0 : Int32))).2.2.2.2)), .val (.int (nar .boolean (own_run (fun j => [(nar .byte z116), (nar .byte z118), (nar .byte z120), (nar .byte z122)].getD j 0) (4 - rcN) rcN ((own_run (fun j => [(nar .byte z116), (nar .byte z118), (nar .byte z120), (nar .byte z122)].getD j 0) rcN 0 ((0 : Int32), (0 : Int32), (0 : Int32), (0 : Int32), (0 : Int32))).1, (own_run (fun j => [(nar .byte z116), (nar .byte z118), (nar .byte z120), (nar .byte z122)].getD j 0) rcN 0 ((0 : Int32), (0 : Int32), (0 : Int32), (0 : Int32), (0 : Int32))).2.1, (own_run (fun j => [(nar .byte z116), (nar .byte z118), (nar .byte z120), (nar .byte z122)].getD j 0) rcN 0 ((0 : Int32), (0 : Int32), (0 : Int32), (0 : Int32), (0 : Int32))).2.2.1, (own_run (fun j => [(nar .byte z116), (nar .byte z118), (nar .byte z120), (nar .byte z122)].getD j 0) rcN 0 ((0 : Int32), (0 : Int32), (0 : Int32), (0 : Int32), (0 : Int32))).2.2.2.1, (own_run (fun j => [(nar .byte z116), (nar .byte z118), (nar .byte z120), (nar .byte z122)].getD j 0) rcN 0 ((0 : Int32), (0 : Int32), (0 : Int32), (0 : Int32), (0 : Int32))).2.2.2.2)).2.2.2.2)), .unset] [(.int (4 : Int32)), (.int rcV), (.ref b106), (.ref b126)]))
  obtain ⟨cq134, kq134, q134a, q134b, q134c⟩ := isOf hZ rfl c133_7
  obtain ⟨_, _, ⟨T134, L134, k134, n134⟩, -, X134, ⟨Lc134, hQ134, l134, y134, z134⟩, st134⟩ := X133.virtualBack hx (y := (⟨"com/example/dosisbog/dosisbog/HttpRequest$HeadEnd", "whole", "([BII)Z"⟩ : MethodName)) (z := (⟨"com/example/dosisbog/dosisbog/HttpRequest$HeadEnd", "whole", "([BII)Z"⟩ : MethodName)) hown (mvT hZ (hw _ (List.mem_of_getElem? (i := 18) rfl))) (mvT hZ (hw _ (List.mem_of_getElem? (i := 19) rfl))) (notFace_of_selects (args := #[]) (mvT hZ (hw _ (List.mem_of_getElem? (i := 21) rfl)))) (mvT hZ (hw _ (List.mem_of_getElem? (i := 21) rfl))) (mvT hZ (hw _ (List.mem_of_getElem? (i := 20) rfl))) (by decide) (backOf (W := 0) (rm4 l Z a0 hw [] b126 b106 rcV (4 : Int32) k106 (4 : Int32) [(.int (nar .byte z116)), (.int (nar .byte z118)), (.int (nar .byte z120)), (.int (nar .byte z122))] (.int (0 : Int32)) (fun j => [(nar .byte z116), (nar .byte z118), (nar .byte z120), (nar .byte z122)].getD j 0) (4 - rcN) rcN (own_run (fun j => [(nar .byte z116), (nar .byte z118), (nar .byte z120), (nar .byte z122)].getD j 0) rcN 0 ((0 : Int32), (0 : Int32), (0 : Int32), (0 : Int32), (0 : Int32))).1 (own_run (fun j => [(nar .byte z116), (nar .byte z118), (nar .byte z120), (nar .byte z122)].getD j 0) rcN 0 ((0 : Int32), (0 : Int32), (0 : Int32), (0 : Int32), (0 : Int32))).2.1 (own_run (fun j => [(nar .byte z116), (nar .byte z118), (nar .byte z120), (nar .byte z122)].getD j 0) rcN 0 ((0 : Int32), (0 : Int32), (0 : Int32), (0 : Int32), (0 : Int32))).2.2.1 (own_run (fun j => [(nar .byte z116), (nar .byte z118), (nar .byte z120), (nar .byte z122)].getD j 0) rcN 0 ((0 : Int32), (0 : Int32), (0 : Int32), (0 : Int32), (0 : Int32))).2.2.2.1 (own_run (fun j => [(nar .byte z116), (nar .byte z118), (nar .byte z120), (nar .byte z122)].getD j 0) rcN 0 ((0 : Int32), (0 : Int32), (0 : Int32), (0 : Int32), (0 : Int32))).2.2.2.2 (T133.heap) n0 ZN133 c133_7 G_b126 c133_3 (Ne.symm (Nat.ne_of_lt lt126_b106_b126)) c133_8 c133_9 c133_10 c133_11 c133_12 hrc (by have : (4 : Int32).toInt = 4 := (by decide); omega) (by have : (4 : Int32).toInt = 4 := (by decide); omega) (own_getD [(nar .byte z116), (nar .byte z118), (nar .byte z120), (nar .byte z122)])) hZ (hw _ (List.mem_of_getElem? (i := 22) rfl)) (hw _ (List.mem_of_getElem? (i := 11) rfl)) (by decide) (by decide)) q134a q134c (g := (mkF m 214 #[.val (.long q1), .second, .val (.long q2), .second, .val (.int p3), .val (.int p4), .val (.int p5), .val (.ref b105), .val (.ref b106), .val (.ref b107), .val (.int raV), .val (.int rbV), .val (.int rcV), .val (.ref b124), .val (.ref b126), .val (.int (nar .boolean (own_run (fun j => [(nar .byte z116), (nar .byte z118), (nar .byte z120), (nar .byte z122)].getD j 0) rcN 0 ((0 : Int32), (0 : Int32), (0 : Int32), (0 : Int32), (0 : Int32))).2.2.2.2)), .val (.int (nar .boolean (own_run (fun j => [(nar .byte z116), (nar .byte z118), (nar .byte z120), (nar .byte z122)].getD j 0) rcN 0 ((0 : Int32), (0 : Int32), (0 : Int32), (0 : Int32), (0 : Int32))).2.2.2.2)), .val (.int (nar .boolean (own_run (fun j => [(nar .byte z116), (nar .byte z118), (nar .byte z120), (nar .byte z122)].getD j 0) (4 - rcN) rcN ((own_run (fun j => [(nar .byte z116), (nar .byte z118), (nar .byte z120), (nar .byte z122)].getD j 0) rcN 0 ((0 : Int32), (0 : Int32), (0 : Int32), (0 : Int32), (0 : Int32))).1, (own_run (fun j => [(nar .byte z116), (nar .byte z118), (nar .byte z120), (nar .byte z122)].getD j 0) rcN 0 ((0 : Int32), (0 : Int32), (0 : Int32), (0 : Int32), (0 : Int32))).2.1, (own_run (fun j => [(nar .byte z116), (nar .byte z118), (nar .byte z120), (nar .byte z122)].getD j 0) rcN 0 ((0 : Int32), (0 : Int32), (0 : Int32), (0 : Int32), (0 : Int32))).2.2.1, (own_run (fun j => [(nar .byte z116), (nar .byte z118), (nar .byte z120), (nar .byte z122)].getD j 0) rcN 0 ((0 : Int32), (0 : Int32), (0 : Int32), (0 : Int32), (0 : Int32))).2.2.2.1, (own_run (fun j => [(nar .byte z116), (nar .byte z118), (nar .byte z120), (nar .byte z122)].getD j 0) rcN 0 ((0 : Int32), (0 : Int32), (0 : Int32), (0 : Int32), (0 : Int32))).2.2.2.2)).2.2.2.2)), .unset] [(.int (4 : Int32)), (.int rcV), (.ref b106), (.ref b126)])) rfl (by rw [hml]; rfl) (Steps.refl _) (argsL := [(.ref b106), (.int rcV), (.int (4 : Int32))]) (rest := []) (lenOf pd_0_2 rfl) rfl (by show 2 * 0 + _ ≤ _; exact Nat.le_of_eq rfl) (hb hby at_214) (fun _ _ => ⟨rfl, rfl, (by decide : 5 + 0 ≤ _), (by decide : 65555 + 0 ≤ _)⟩)
  dsimp only [Pt.U, Pt.locs, Pt.cells, Pt.slots] at X134 l134 y134 z134 st134 hQ134
  subst l134 y134 z134
  obtain ⟨rfl, N134q, K134, u134_1, u134_2, u134_3, u134_4, u134_5⟩ := hQ134
  have N134 := Fr.app N133 N134q
  have c134_0 := c133_0.keep K134
  have c134_1 := c133_1.keep K134 (ninS (Nat.ne_of_lt lt126_b105_b126) nin0)
  have c134_2 := c133_2.keep K134
  have c134_3 := c133_3.keep K134 (ninS (Nat.ne_of_lt lt126_b106_b126) nin0)
  have c134_4 := c133_4.keep K134
  have c134_5 := c133_5.keep K134 (ninS (Nat.ne_of_lt lt126_b107_b126) nin0)
  have c134_6 := c133_6.keep K134
  have c134_7 := c133_7.keep K134
  have c134_8 := u133_1.keep K134 (ninS (Nat.ne_of_lt lt126_b124_b126) nin0)
  have c134_9 := u133_2.keep K134 (ninS (Nat.ne_of_lt lt126_b124_b126) nin0)
  have c134_10 := u133_3.keep K134 (ninS (Nat.ne_of_lt lt126_b124_b126) nin0)
  have c134_11 := u133_4.keep K134 (ninS (Nat.ne_of_lt lt126_b124_b126) nin0)
  have c134_12 := u133_5.keep K134 (ninS (Nat.ne_of_lt lt126_b124_b126) nin0)
  have KK134 : Keep h0 T134.heap [] := KK133.trans K134 (allS (P := fun x => x ∈ [] ∨ h0.size ≤ x) (Or.inr SZ_b126) all0)
  have ZN134 : n0 ≤ T134.heap.size := Nat.le_trans ZN133 K134.1
  refine goT st134 ?_
  show Go _ p e below s _ _ _ (T134.setTop (mkF m 217 #[.val (.long q1), .second, .val (.long q2), .second, .val (.int p3), .val (.int p4), .val (.int p5), .val (.ref b105), .val (.ref b106), .val (.ref b107), .val (.int raV), .val (.int rbV), .val (.int rcV), .val (.ref b124), .val (.ref b126), .val (.int (nar .boolean (own_run (fun j => [(nar .byte z116), (nar .byte z118), (nar .byte z120), (nar .byte z122)].getD j 0) rcN 0 ((0 : Int32), (0 : Int32), (0 : Int32), (0 : Int32), (0 : Int32))).2.2.2.2)), .val (.int (nar .boolean (own_run (fun j => [(nar .byte z116), (nar .byte z118), (nar .byte z120), (nar .byte z122)].getD j 0) rcN 0 ((0 : Int32), (0 : Int32), (0 : Int32), (0 : Int32), (0 : Int32))).2.2.2.2)), .val (.int (nar .boolean (own_run (fun j => [(nar .byte z116), (nar .byte z118), (nar .byte z120), (nar .byte z122)].getD j 0) (4 - rcN) rcN ((own_run (fun j => [(nar .byte z116), (nar .byte z118), (nar .byte z120), (nar .byte z122)].getD j 0) rcN 0 ((0 : Int32), (0 : Int32), (0 : Int32), (0 : Int32), (0 : Int32))).1, (own_run (fun j => [(nar .byte z116), (nar .byte z118), (nar .byte z120), (nar .byte z122)].getD j 0) rcN 0 ((0 : Int32), (0 : Int32), (0 : Int32), (0 : Int32), (0 : Int32))).2.1, (own_run (fun j => [(nar .byte z116), (nar .byte z118), (nar .byte z120), (nar .byte z122)].getD j 0) rcN 0 ((0 : Int32), (0 : Int32), (0 : Int32), (0 : Int32), (0 : Int32))).2.2.1, (own_run (fun j => [(nar .byte z116), (nar .byte z118), (nar .byte z120), (nar .byte z122)].getD j 0) rcN 0 ((0 : Int32), (0 : Int32), (0 : Int32), (0 : Int32), (0 : Int32))).2.2.2.1, (own_run (fun j => [(nar .byte z116), (nar .byte z118), (nar .byte z120), (nar .byte z122)].getD j 0) rcN 0 ((0 : Int32), (0 : Int32), (0 : Int32), (0 : Int32), (0 : Int32))).2.2.2.2)).2.2.2.2)), .unset] [(.int (nar .boolean (own_run (fun j => [(nar .byte z116), (nar .byte z118), (nar .byte z120), (nar .byte z122)].getD j 0) (4 - rcN) rcN ((own_run (fun j => [(nar .byte z116), (nar .byte z118), (nar .byte z120), (nar .byte z122)].getD j 0) rcN 0 ((0 : Int32), (0 : Int32), (0 : Int32), (0 : Int32), (0 : Int32))).1, (own_run (fun j => [(nar .byte z116), (nar .byte z118), (nar .byte z120), (nar .byte z122)].getD j 0) rcN 0 ((0 : Int32), (0 : Int32), (0 : Int32), (0 : Int32), (0 : Int32))).2.1, (own_run (fun j => [(nar .byte z116), (nar .byte z118), (nar .byte z120), (nar .byte z122)].getD j 0) rcN 0 ((0 : Int32), (0 : Int32), (0 : Int32), (0 : Int32), (0 : Int32))).2.2.1, (own_run (fun j => [(nar .byte z116), (nar .byte z118), (nar .byte z120), (nar .byte z122)].getD j 0) rcN 0 ((0 : Int32), (0 : Int32), (0 : Int32), (0 : Int32), (0 : Int32))).2.2.2.1, (own_run (fun j => [(nar .byte z116), (nar .byte z118), (nar .byte z120), (nar .byte z122)].getD j 0) rcN 0 ((0 : Int32), (0 : Int32), (0 : Int32), (0 : Int32), (0 : Int32))).2.2.2.2)).2.2.2.2))]))
  refine go (fun _ => XS.istore X134.here hx rfl (hb hby at_217) rfl (l' := #[.val (.long q1), .second, .val (.long q2), .second, .val (.int p3), .val (.int p4), .val (.int p5), .val (.ref b105), .val (.ref b106), .val (.ref b107), .val (.int raV), .val (.int rbV), .val (.int rcV), .val (.ref b124), .val (.ref b126), .val (.int (nar .boolean (own_run (fun j => [(nar .byte z116), (nar .byte z118), (nar .byte z120), (nar .byte z122)].getD j 0) rcN 0 ((0 : Int32), (0 : Int32), (0 : Int32), (0 : Int32), (0 : Int32))).2.2.2.2)), .val (.int (nar .boolean (own_run (fun j => [(nar .byte z116), (nar .byte z118), (nar .byte z120), (nar .byte z122)].getD j 0) rcN 0 ((0 : Int32), (0 : Int32), (0 : Int32), (0 : Int32), (0 : Int32))).2.2.2.2)), .val (.int (nar .boolean (own_run (fun j => [(nar .byte z116), (nar .byte z118), (nar .byte z120), (nar .byte z122)].getD j 0) (4 - rcN) rcN ((own_run (fun j => [(nar .byte z116), (nar .byte z118), (nar .byte z120), (nar .byte z122)].getD j 0) rcN 0 ((0 : Int32), (0 : Int32), (0 : Int32), (0 : Int32), (0 : Int32))).1, (own_run (fun j => [(nar .byte z116), (nar .byte z118), (nar .byte z120), (nar .byte z122)].getD j 0) rcN 0 ((0 : Int32), (0 : Int32), (0 : Int32), (0 : Int32), (0 : Int32))).2.1, (own_run (fun j => [(nar .byte z116), (nar .byte z118), (nar .byte z120), (nar .byte z122)].getD j 0) rcN 0 ((0 : Int32), (0 : Int32), (0 : Int32), (0 : Int32), (0 : Int32))).2.2.1, (own_run (fun j => [(nar .byte z116), (nar .byte z118), (nar .byte z120), (nar .byte z122)].getD j 0) rcN 0 ((0 : Int32), (0 : Int32), (0 : Int32), (0 : Int32), (0 : Int32))).2.2.2.1, (own_run (fun j => [(nar .byte z116), (nar .byte z118), (nar .byte z120), (nar .byte z122)].getD j 0) rcN 0 ((0 : Int32), (0 : Int32), (0 : Int32), (0 : Int32), (0 : Int32))).2.2.2.2)).2.2.2.2)), .val (.int (nar .boolean (own_run (fun j => [(nar .byte z116), (nar .byte z118), (nar .byte z120), (nar .byte z122)].getD j 0) (4 - rcN) rcN ((own_run (fun j => [(nar .byte z116), (nar .byte z118), (nar .byte z120), (nar .byte z122)].getD j 0) rcN 0 ((0 : Int32), (0 : Int32), (0 : Int32), (0 : Int32), (0 : Int32))).1, (own_run (fun j => [(nar .byte z116), (nar .byte z118), (nar .byte z120), (nar .byte z122)].getD j 0) rcN 0 ((0 : Int32), (0 : Int32), (0 : Int32), (0 : Int32), (0 : Int32))).2.1, (own_run (fun j => [(nar .byte z116), (nar .byte z118), (nar .byte z120), (nar .byte z122)].getD j 0) rcN 0 ((0 : Int32), (0 : Int32), (0 : Int32), (0 : Int32), (0 : Int32))).2.2.1, (own_run (fun j => [(nar .byte z116), (nar .byte z118), (nar .byte z120), (nar .byte z122)].getD j 0) rcN 0 ((0 : Int32), (0 : Int32), (0 : Int32), (0 : Int32), (0 : Int32))).2.2.2.1, (own_run (fun j => [(nar .byte z116), (nar .byte z118), (nar .byte z120), (nar .byte z122)].getD j 0) rcN 0 ((0 : Int32), (0 : Int32), (0 : Int32), (0 : Int32), (0 : Int32))).2.2.2.2)).2.2.2.2))]) rfl) ?_
  show Go _ p e below s _ _ _ (T134.setTop (mkF m 219 #[.val (.long q1), .second, .val (.long q2), .second, .val (.int p3), .val (.int p4), .val (.int p5), .val (.ref b105), .val (.ref b106), .val (.ref b107), .val (.int raV), .val (.int rbV), .val (.int rcV), .val (.ref b124), .val (.ref b126), .val (.int (nar .boolean (own_run (fun j => [(nar .byte z116), (nar .byte z118), (nar .byte z120), (nar .byte z122)].getD j 0) rcN 0 ((0 : Int32), (0 : Int32), (0 : Int32), (0 : Int32), (0 : Int32))).2.2.2.2)), .val (.int (nar .boolean (own_run (fun j => [(nar .byte z116), (nar .byte z118), (nar .byte z120), (nar .byte z122)].getD j 0) rcN 0 ((0 : Int32), (0 : Int32), (0 : Int32), (0 : Int32), (0 : Int32))).2.2.2.2)), .val (.int (nar .boolean (own_run (fun j => [(nar .byte z116), (nar .byte z118), (nar .byte z120), (nar .byte z122)].getD j 0) (4 - rcN) rcN ((own_run (fun j => [(nar .byte z116), (nar .byte z118), (nar .byte z120), (nar .byte z122)].getD j 0) rcN 0 ((0 : Int32), (0 : Int32), (0 : Int32), (0 : Int32), (0 : Int32))).1, (own_run (fun j => [(nar .byte z116), (nar .byte z118), (nar .byte z120), (nar .byte z122)].getD j 0) rcN 0 ((0 : Int32), (0 : Int32), (0 : Int32), (0 : Int32), (0 : Int32))).2.1, (own_run (fun j => [(nar .byte z116), (nar .byte z118), (nar .byte z120), (nar .byte z122)].getD j 0) rcN 0 ((0 : Int32), (0 : Int32), (0 : Int32), (0 : Int32), (0 : Int32))).2.2.1, (own_run (fun j => [(nar .byte z116), (nar .byte z118), (nar .byte z120), (nar .byte z122)].getD j 0) rcN 0 ((0 : Int32), (0 : Int32), (0 : Int32), (0 : Int32), (0 : Int32))).2.2.2.1, (own_run (fun j => [(nar .byte z116), (nar .byte z118), (nar .byte z120), (nar .byte z122)].getD j 0) rcN 0 ((0 : Int32), (0 : Int32), (0 : Int32), (0 : Int32), (0 : Int32))).2.2.2.2)).2.2.2.2)), .val (.int (nar .boolean (own_run (fun j => [(nar .byte z116), (nar .byte z118), (nar .byte z120), (nar .byte z122)].getD j 0) (4 - rcN) rcN ((own_run (fun j => [(nar .byte z116), (nar .byte z118), (nar .byte z120), (nar .byte z122)].getD j 0) rcN 0 ((0 : Int32), (0 : Int32), (0 : Int32), (0 : Int32), (0 : Int32))).1, (own_run (fun j => [(nar .byte z116), (nar .byte z118), (nar .byte z120), (nar .byte z122)].getD j 0) rcN 0 ((0 : Int32), (0 : Int32), (0 : Int32), (0 : Int32), (0 : Int32))).2.1, (own_run (fun j => [(nar .byte z116), (nar .byte z118), (nar .byte z120), (nar .byte z122)].getD j 0) rcN 0 ((0 : Int32), (0 : Int32), (0 : Int32), (0 : Int32), (0 : Int32))).2.2.1, (own_run (fun j => [(nar .byte z116), (nar .byte z118), (nar .byte z120), (nar .byte z122)].getD j 0) rcN 0 ((0 : Int32), (0 : Int32), (0 : Int32), (0 : Int32), (0 : Int32))).2.2.2.1, (own_run (fun j => [(nar .byte z116), (nar .byte z118), (nar .byte z120), (nar .byte z122)].getD j 0) rcN 0 ((0 : Int32), (0 : Int32), (0 : Int32), (0 : Int32), (0 : Int32))).2.2.2.2)).2.2.2.2))] []))
  refine go (fun _ => XS.iload X134.here hx rfl (hb hby at_219) rfl) ?_
  show Go _ p e below s _ _ _ (T134.setTop (mkF m 221 #[.val (.long q1), .second, .val (.long q2), .second, .val (.int p3), .val (.int p4), .val (.int p5), .val (.ref b105), .val (.ref b106), .val (.ref b107), .val (.int raV), .val (.int rbV), .val (.int rcV), .val (.ref b124), .val (.ref b126), .val (.int (nar .boolean (own_run (fun j => [(nar .byte z116), (nar .byte z118), (nar .byte z120), (nar .byte z122)].getD j 0) rcN 0 ((0 : Int32), (0 : Int32), (0 : Int32), (0 : Int32), (0 : Int32))).2.2.2.2)), .val (.int (nar .boolean (own_run (fun j => [(nar .byte z116), (nar .byte z118), (nar .byte z120), (nar .byte z122)].getD j 0) rcN 0 ((0 : Int32), (0 : Int32), (0 : Int32), (0 : Int32), (0 : Int32))).2.2.2.2)), .val (.int (nar .boolean (own_run (fun j => [(nar .byte z116), (nar .byte z118), (nar .byte z120), (nar .byte z122)].getD j 0) (4 - rcN) rcN ((own_run (fun j => [(nar .byte z116), (nar .byte z118), (nar .byte z120), (nar .byte z122)].getD j 0) rcN 0 ((0 : Int32), (0 : Int32), (0 : Int32), (0 : Int32), (0 : Int32))).1, (own_run (fun j => [(nar .byte z116), (nar .byte z118), (nar .byte z120), (nar .byte z122)].getD j 0) rcN 0 ((0 : Int32), (0 : Int32), (0 : Int32), (0 : Int32), (0 : Int32))).2.1, (own_run (fun j => [(nar .byte z116), (nar .byte z118), (nar .byte z120), (nar .byte z122)].getD j 0) rcN 0 ((0 : Int32), (0 : Int32), (0 : Int32), (0 : Int32), (0 : Int32))).2.2.1, (own_run (fun j => [(nar .byte z116), (nar .byte z118), (nar .byte z120), (nar .byte z122)].getD j 0) rcN 0 ((0 : Int32), (0 : Int32), (0 : Int32), (0 : Int32), (0 : Int32))).2.2.2.1, (own_run (fun j => [(nar .byte z116), (nar .byte z118), (nar .byte z120), (nar .byte z122)].getD j 0) rcN 0 ((0 : Int32), (0 : Int32), (0 : Int32), (0 : Int32), (0 : Int32))).2.2.2.2)).2.2.2.2)), .val (.int (nar .boolean (own_run (fun j => [(nar .byte z116), (nar .byte z118), (nar .byte z120), (nar .byte z122)].getD j 0) (4 - rcN) rcN ((own_run (fun j => [(nar .byte z116), (nar .byte z118), (nar .byte z120), (nar .byte z122)].getD j 0) rcN 0 ((0 : Int32), (0 : Int32), (0 : Int32), (0 : Int32), (0 : Int32))).1, (own_run (fun j => [(nar .byte z116), (nar .byte z118), (nar .byte z120), (nar .byte z122)].getD j 0) rcN 0 ((0 : Int32), (0 : Int32), (0 : Int32), (0 : Int32), (0 : Int32))).2.1, (own_run (fun j => [(nar .byte z116), (nar .byte z118), (nar .byte z120), (nar .byte z122)].getD j 0) rcN 0 ((0 : Int32), (0 : Int32), (0 : Int32), (0 : Int32), (0 : Int32))).2.2.1, (own_run (fun j => [(nar .byte z116), (nar .byte z118), (nar .byte z120), (nar .byte z122)].getD j 0) rcN 0 ((0 : Int32), (0 : Int32), (0 : Int32), (0 : Int32), (0 : Int32))).2.2.2.1, (own_run (fun j => [(nar .byte z116), (nar .byte z118), (nar .byte z120), (nar .byte z122)].getD j 0) rcN 0 ((0 : Int32), (0 : Int32), (0 : Int32), (0 : Int32), (0 : Int32))).2.2.2.2)).2.2.2.2))] [(.int (nar .boolean (own_run (fun j => [(nar .byte z116), (nar .byte z118), (nar .byte z120), (nar .byte z122)].getD j 0) rcN 0 ((0 : Int32), (0 : Int32), (0 : Int32), (0 : Int32), (0 : Int32))).2.2.2.2))]))
  refine go (fun _ => XS.iload X134.here hx rfl (hb hby at_221) rfl) ?_
  show Go _ p e below s _ _ _ (T134.setTop (mkF m 223 #[.val (.long q1), .second, .val (.long q2), .second, .val (.int p3), .val (.int p4), .val (.int p5), .val (.ref b105), .val (.ref b106), .val (.ref b107), .val (.int raV), .val (.int rbV), .val (.int rcV), .val (.ref b124), .val (.ref b126), .val (.int (nar .boolean (own_run (fun j => [(nar .byte z116), (nar .byte z118), (nar .byte z120), (nar .byte z122)].getD j 0) rcN 0 ((0 : Int32), (0 : Int32), (0 : Int32), (0 : Int32), (0 : Int32))).2.2.2.2)), .val (.int (nar .boolean (own_run (fun j => [(nar .byte z116), (nar .byte z118), (nar .byte z120), (nar .byte z122)].getD j 0) rcN 0 ((0 : Int32), (0 : Int32), (0 : Int32), (0 : Int32), (0 : Int32))).2.2.2.2)), .val (.int (nar .boolean (own_run (fun j => [(nar .byte z116), (nar .byte z118), (nar .byte z120), (nar .byte z122)].getD j 0) (4 - rcN) rcN ((own_run (fun j => [(nar .byte z116), (nar .byte z118), (nar .byte z120), (nar .byte z122)].getD j 0) rcN 0 ((0 : Int32), (0 : Int32), (0 : Int32), (0 : Int32), (0 : Int32))).1, (own_run (fun j => [(nar .byte z116), (nar .byte z118), (nar .byte z120), (nar .byte z122)].getD j 0) rcN 0 ((0 : Int32), (0 : Int32), (0 : Int32), (0 : Int32), (0 : Int32))).2.1, (own_run (fun j => [(nar .byte z116), (nar .byte z118), (nar .byte z120), (nar .byte z122)].getD j 0) rcN 0 ((0 : Int32), (0 : Int32), (0 : Int32), (0 : Int32), (0 : Int32))).2.2.1, (own_run (fun j => [(nar .byte z116), (nar .byte z118), (nar .byte z120), (nar .byte z122)].getD j 0) rcN 0 ((0 : Int32), (0 : Int32), (0 : Int32), (0 : Int32), (0 : Int32))).2.2.2.1, (own_run (fun j => [(nar .byte z116), (nar .byte z118), (nar .byte z120), (nar .byte z122)].getD j 0) rcN 0 ((0 : Int32), (0 : Int32), (0 : Int32), (0 : Int32), (0 : Int32))).2.2.2.2)).2.2.2.2)), .val (.int (nar .boolean (own_run (fun j => [(nar .byte z116), (nar .byte z118), (nar .byte z120), (nar .byte z122)].getD j 0) (4 - rcN) rcN ((own_run (fun j => [(nar .byte z116), (nar .byte z118), (nar .byte z120), (nar .byte z122)].getD j 0) rcN 0 ((0 : Int32), (0 : Int32), (0 : Int32), (0 : Int32), (0 : Int32))).1, (own_run (fun j => [(nar .byte z116), (nar .byte z118), (nar .byte z120), (nar .byte z122)].getD j 0) rcN 0 ((0 : Int32), (0 : Int32), (0 : Int32), (0 : Int32), (0 : Int32))).2.1, (own_run (fun j => [(nar .byte z116), (nar .byte z118), (nar .byte z120), (nar .byte z122)].getD j 0) rcN 0 ((0 : Int32), (0 : Int32), (0 : Int32), (0 : Int32), (0 : Int32))).2.2.1, (own_run (fun j => [(nar .byte z116), (nar .byte z118), (nar .byte z120), (nar .byte z122)].getD j 0) rcN 0 ((0 : Int32), (0 : Int32), (0 : Int32), (0 : Int32), (0 : Int32))).2.2.2.1, (own_run (fun j => [(nar .byte z116), (nar .byte z118), (nar .byte z120), (nar .byte z122)].getD j 0) rcN 0 ((0 : Int32), (0 : Int32), (0 : Int32), (0 : Int32), (0 : Int32))).2.2.2.2)).2.2.2.2))] [(.int (nar .boolean (own_run (fun j => [(nar .byte z116), (nar .byte z118), (nar .byte z120), (nar .byte z122)].getD j 0) rcN 0 ((0 : Int32), (0 : Int32), (0 : Int32), (0 : Int32), (0 : Int32))).2.2.2.2)), (.int (nar .boolean (own_run (fun j => [(nar .byte z116), (nar .byte z118), (nar .byte z120), (nar .byte z122)].getD j 0) rcN 0 ((0 : Int32), (0 : Int32), (0 : Int32), (0 : Int32), (0 : Int32))).2.2.2.2))]))
  refine go (fun _ => XS.icmpNo X134.here hx rfl (hb hby at_223) rfl (teq (rfl : (nar .boolean (own_run (fun j => [(nar .byte z116), (nar .byte z118), (nar .byte z120), (nar .byte z122)].getD j 0) rcN 0 ((0 : Int32), (0 : Int32), (0 : Int32), (0 : Int32), (0 : Int32))).2.2.2.2) = (nar .boolean (own_run (fun j => [(nar .byte z116), (nar .byte z118), (nar .byte z120), (nar .byte z122)].getD j 0) rcN 0 ((0 : Int32), (0 : Int32), (0 : Int32), (0 : Int32), (0 : Int32))).2.2.2.2))).2) ?_
  show Go _ p e below s _ _ _ (T134.setTop (mkF m 226 #[.val (.long q1), .second, .val (.long q2), .second, .val (.int p3), .val (.int p4), .val (.int p5), .val (.ref b105), .val (.ref b106), .val (.ref b107), .val (.int raV), .val (.int rbV), .val (.int rcV), .val (.ref b124), .val (.ref b126), .val (.int (nar .boolean (own_run (fun j => [(nar .byte z116), (nar .byte z118), (nar .byte z120), (nar .byte z122)].getD j 0) rcN 0 ((0 : Int32), (0 : Int32), (0 : Int32), (0 : Int32), (0 : Int32))).2.2.2.2)), .val (.int (nar .boolean (own_run (fun j => [(nar .byte z116), (nar .byte z118), (nar .byte z120), (nar .byte z122)].getD j 0) rcN 0 ((0 : Int32), (0 : Int32), (0 : Int32), (0 : Int32), (0 : Int32))).2.2.2.2)), .val (.int (nar .boolean (own_run (fun j => [(nar .byte z116), (nar .byte z118), (nar .byte z120), (nar .byte z122)].getD j 0) (4 - rcN) rcN ((own_run (fun j => [(nar .byte z116), (nar .byte z118), (nar .byte z120), (nar .byte z122)].getD j 0) rcN 0 ((0 : Int32), (0 : Int32), (0 : Int32), (0 : Int32), (0 : Int32))).1, (own_run (fun j => [(nar .byte z116), (nar .byte z118), (nar .byte z120), (nar .byte z122)].getD j 0) rcN 0 ((0 : Int32), (0 : Int32), (0 : Int32), (0 : Int32), (0 : Int32))).2.1, (own_run (fun j => [(nar .byte z116), (nar .byte z118), (nar .byte z120), (nar .byte z122)].getD j 0) rcN 0 ((0 : Int32), (0 : Int32), (0 : Int32), (0 : Int32), (0 : Int32))).2.2.1, (own_run (fun j => [(nar .byte z116), (nar .byte z118), (nar .byte z120), (nar .byte z122)].getD j 0) rcN 0 ((0 : Int32), (0 : Int32), (0 : Int32), (0 : Int32), (0 : Int32))).2.2.2.1, (own_run (fun j => [(nar .byte z116), (nar .byte z118), (nar .byte z120), (nar .byte z122)].getD j 0) rcN 0 ((0 : Int32), (0 : Int32), (0 : Int32), (0 : Int32), (0 : Int32))).2.2.2.2)).2.2.2.2)), .val (.int (nar .boolean (own_run (fun j => [(nar .byte z116), (nar .byte z118), (nar .byte z120), (nar .byte z122)].getD j 0) (4 - rcN) rcN ((own_run (fun j => [(nar .byte z116), (nar .byte z118), (nar .byte z120), (nar .byte z122)].getD j 0) rcN 0 ((0 : Int32), (0 : Int32), (0 : Int32), (0 : Int32), (0 : Int32))).1, (own_run (fun j => [(nar .byte z116), (nar .byte z118), (nar .byte z120), (nar .byte z122)].getD j 0) rcN 0 ((0 : Int32), (0 : Int32), (0 : Int32), (0 : Int32), (0 : Int32))).2.1, (own_run (fun j => [(nar .byte z116), (nar .byte z118), (nar .byte z120), (nar .byte z122)].getD j 0) rcN 0 ((0 : Int32), (0 : Int32), (0 : Int32), (0 : Int32), (0 : Int32))).2.2.1, (own_run (fun j => [(nar .byte z116), (nar .byte z118), (nar .byte z120), (nar .byte z122)].getD j 0) rcN 0 ((0 : Int32), (0 : Int32), (0 : Int32), (0 : Int32), (0 : Int32))).2.2.2.1, (own_run (fun j => [(nar .byte z116), (nar .byte z118), (nar .byte z120), (nar .byte z122)].getD j 0) rcN 0 ((0 : Int32), (0 : Int32), (0 : Int32), (0 : Int32), (0 : Int32))).2.2.2.2)).2.2.2.2))] []))
  refine go (fun _ => XS.iload X134.here hx rfl (hb hby at_226) rfl) ?_
  show Go _ p e below s _ _ _ (T134.setTop (mkF m 228 #[.val (.long q1), .second, .val (.long q2), .second, .val (.int p3), .val (.int p4), .val (.int p5), .val (.ref b105), .val (.ref b106), .val (.ref b107), .val (.int raV), .val (.int rbV), .val (.int rcV), .val (.ref b124), .val (.ref b126), .val (.int (nar .boolean (own_run (fun j => [(nar .byte z116), (nar .byte z118), (nar .byte z120), (nar .byte z122)].getD j 0) rcN 0 ((0 : Int32), (0 : Int32), (0 : Int32), (0 : Int32), (0 : Int32))).2.2.2.2)), .val (.int (nar .boolean (own_run (fun j => [(nar .byte z116), (nar .byte z118), (nar .byte z120), (nar .byte z122)].getD j 0) rcN 0 ((0 : Int32), (0 : Int32), (0 : Int32), (0 : Int32), (0 : Int32))).2.2.2.2)), .val (.int (nar .boolean (own_run (fun j => [(nar .byte z116), (nar .byte z118), (nar .byte z120), (nar .byte z122)].getD j 0) (4 - rcN) rcN ((own_run (fun j => [(nar .byte z116), (nar .byte z118), (nar .byte z120), (nar .byte z122)].getD j 0) rcN 0 ((0 : Int32), (0 : Int32), (0 : Int32), (0 : Int32), (0 : Int32))).1, (own_run (fun j => [(nar .byte z116), (nar .byte z118), (nar .byte z120), (nar .byte z122)].getD j 0) rcN 0 ((0 : Int32), (0 : Int32), (0 : Int32), (0 : Int32), (0 : Int32))).2.1, (own_run (fun j => [(nar .byte z116), (nar .byte z118), (nar .byte z120), (nar .byte z122)].getD j 0) rcN 0 ((0 : Int32), (0 : Int32), (0 : Int32), (0 : Int32), (0 : Int32))).2.2.1, (own_run (fun j => [(nar .byte z116), (nar .byte z118), (nar .byte z120), (nar .byte z122)].getD j 0) rcN 0 ((0 : Int32), (0 : Int32), (0 : Int32), (0 : Int32), (0 : Int32))).2.2.2.1, (own_run (fun j => [(nar .byte z116), (nar .byte z118), (nar .byte z120), (nar .byte z122)].getD j 0) rcN 0 ((0 : Int32), (0 : Int32), (0 : Int32), (0 : Int32), (0 : Int32))).2.2.2.2)).2.2.2.2)), .val (.int (nar .boolean (own_run (fun j => [(nar .byte z116), (nar .byte z118), (nar .byte z120), (nar .byte z122)].getD j 0) (4 - rcN) rcN ((own_run (fun j => [(nar .byte z116), (nar .byte z118), (nar .byte z120), (nar .byte z122)].getD j 0) rcN 0 ((0 : Int32), (0 : Int32), (0 : Int32), (0 : Int32), (0 : Int32))).1, (own_run (fun j => [(nar .byte z116), (nar .byte z118), (nar .byte z120), (nar .byte z122)].getD j 0) rcN 0 ((0 : Int32), (0 : Int32), (0 : Int32), (0 : Int32), (0 : Int32))).2.1, (own_run (fun j => [(nar .byte z116), (nar .byte z118), (nar .byte z120), (nar .byte z122)].getD j 0) rcN 0 ((0 : Int32), (0 : Int32), (0 : Int32), (0 : Int32), (0 : Int32))).2.2.1, (own_run (fun j => [(nar .byte z116), (nar .byte z118), (nar .byte z120), (nar .byte z122)].getD j 0) rcN 0 ((0 : Int32), (0 : Int32), (0 : Int32), (0 : Int32), (0 : Int32))).2.2.2.1, (own_run (fun j => [(nar .byte z116), (nar .byte z118), (nar .byte z120), (nar .byte z122)].getD j 0) rcN 0 ((0 : Int32), (0 : Int32), (0 : Int32), (0 : Int32), (0 : Int32))).2.2.2.2)).2.2.2.2))] [(.int (nar .boolean (own_run (fun j => [(nar .byte z116), (nar .byte z118), (nar .byte z120), (nar .byte z122)].getD j 0) (4 - rcN) rcN ((own_run (fun j => [(nar .byte z116), (nar .byte z118), (nar .byte z120), (nar .byte z122)].getD j 0) rcN 0 ((0 : Int32), (0 : Int32), (0 : Int32), (0 : Int32), (0 : Int32))).1, (own_run (fun j => [(nar .byte z116), (nar .byte z118), (nar .byte z120), (nar .byte z122)].getD j 0) rcN 0 ((0 : Int32), (0 : Int32), (0 : Int32), (0 : Int32), (0 : Int32))).2.1, (own_run (fun j => [(nar .byte z116), (nar .byte z118), (nar .byte z120), (nar .byte z122)].getD j 0) rcN 0 ((0 : Int32), (0 : Int32), (0 : Int32), (0 : Int32), (0 : Int32))).2.2.1, (own_run (fun j => [(nar .byte z116), (nar .byte z118), (nar .byte z120), (nar .byte z122)].getD j 0) rcN 0 ((0 : Int32), (0 : Int32), (0 : Int32), (0 : Int32), (0 : Int32))).2.2.2.1, (own_run (fun j => [(nar .byte z116), (nar .byte z118), (nar .byte z120), (nar .byte z122)].getD j 0) rcN 0 ((0 : Int32), (0 : Int32), (0 : Int32), (0 : Int32), (0 : Int32))).2.2.2.2)).2.2.2.2))]))
  refine go (fun _ => XS.iload X134.here hx rfl (hb hby at_228) rfl) ?_
  show Go _ p e below s _ _ _ (T134.setTop (mkF m 230 #[.val (.long q1), .second, .val (.long q2), .second, .val (.int p3), .val (.int p4), .val (.int p5), .val (.ref b105), .val (.ref b106), .val (.ref b107), .val (.int raV), .val (.int rbV), .val (.int rcV), .val (.ref b124), .val (.ref b126), .val (.int (nar .boolean (own_run (fun j => [(nar .byte z116), (nar .byte z118), (nar .byte z120), (nar .byte z122)].getD j 0) rcN 0 ((0 : Int32), (0 : Int32), (0 : Int32), (0 : Int32), (0 : Int32))).2.2.2.2)), .val (.int (nar .boolean (own_run (fun j => [(nar .byte z116), (nar .byte z118), (nar .byte z120), (nar .byte z122)].getD j 0) rcN 0 ((0 : Int32), (0 : Int32), (0 : Int32), (0 : Int32), (0 : Int32))).2.2.2.2)), .val (.int (nar .boolean (own_run (fun j => [(nar .byte z116), (nar .byte z118), (nar .byte z120), (nar .byte z122)].getD j 0) (4 - rcN) rcN ((own_run (fun j => [(nar .byte z116), (nar .byte z118), (nar .byte z120), (nar .byte z122)].getD j 0) rcN 0 ((0 : Int32), (0 : Int32), (0 : Int32), (0 : Int32), (0 : Int32))).1, (own_run (fun j => [(nar .byte z116), (nar .byte z118), (nar .byte z120), (nar .byte z122)].getD j 0) rcN 0 ((0 : Int32), (0 : Int32), (0 : Int32), (0 : Int32), (0 : Int32))).2.1, (own_run (fun j => [(nar .byte z116), (nar .byte z118), (nar .byte z120), (nar .byte z122)].getD j 0) rcN 0 ((0 : Int32), (0 : Int32), (0 : Int32), (0 : Int32), (0 : Int32))).2.2.1, (own_run (fun j => [(nar .byte z116), (nar .byte z118), (nar .byte z120), (nar .byte z122)].getD j 0) rcN 0 ((0 : Int32), (0 : Int32), (0 : Int32), (0 : Int32), (0 : Int32))).2.2.2.1, (own_run (fun j => [(nar .byte z116), (nar .byte z118), (nar .byte z120), (nar .byte z122)].getD j 0) rcN 0 ((0 : Int32), (0 : Int32), (0 : Int32), (0 : Int32), (0 : Int32))).2.2.2.2)).2.2.2.2)), .val (.int (nar .boolean (own_run (fun j => [(nar .byte z116), (nar .byte z118), (nar .byte z120), (nar .byte z122)].getD j 0) (4 - rcN) rcN ((own_run (fun j => [(nar .byte z116), (nar .byte z118), (nar .byte z120), (nar .byte z122)].getD j 0) rcN 0 ((0 : Int32), (0 : Int32), (0 : Int32), (0 : Int32), (0 : Int32))).1, (own_run (fun j => [(nar .byte z116), (nar .byte z118), (nar .byte z120), (nar .byte z122)].getD j 0) rcN 0 ((0 : Int32), (0 : Int32), (0 : Int32), (0 : Int32), (0 : Int32))).2.1, (own_run (fun j => [(nar .byte z116), (nar .byte z118), (nar .byte z120), (nar .byte z122)].getD j 0) rcN 0 ((0 : Int32), (0 : Int32), (0 : Int32), (0 : Int32), (0 : Int32))).2.2.1, (own_run (fun j => [(nar .byte z116), (nar .byte z118), (nar .byte z120), (nar .byte z122)].getD j 0) rcN 0 ((0 : Int32), (0 : Int32), (0 : Int32), (0 : Int32), (0 : Int32))).2.2.2.1, (own_run (fun j => [(nar .byte z116), (nar .byte z118), (nar .byte z120), (nar .byte z122)].getD j 0) rcN 0 ((0 : Int32), (0 : Int32), (0 : Int32), (0 : Int32), (0 : Int32))).2.2.2.2)).2.2.2.2))] [(.int (nar .boolean (own_run (fun j => [(nar .byte z116), (nar .byte z118), (nar .byte z120), (nar .byte z122)].getD j 0) (4 - rcN) rcN ((own_run (fun j => [(nar .byte z116), (nar .byte z118), (nar .byte z120), (nar .byte z122)].getD j 0) rcN 0 ((0 : Int32), (0 : Int32), (0 : Int32), (0 : Int32), (0 : Int32))).1, (own_run (fun j => [(nar .byte z116), (nar .byte z118), (nar .byte z120), (nar .byte z122)].getD j 0) rcN 0 ((0 : Int32), (0 : Int32), (0 : Int32), (0 : Int32), (0 : Int32))).2.1, (own_run (fun j => [(nar .byte z116), (nar .byte z118), (nar .byte z120), (nar .byte z122)].getD j 0) rcN 0 ((0 : Int32), (0 : Int32), (0 : Int32), (0 : Int32), (0 : Int32))).2.2.1, (own_run (fun j => [(nar .byte z116), (nar .byte z118), (nar .byte z120), (nar .byte z122)].getD j 0) rcN 0 ((0 : Int32), (0 : Int32), (0 : Int32), (0 : Int32), (0 : Int32))).2.2.2.1, (own_run (fun j => [(nar .byte z116), (nar .byte z118), (nar .byte z120), (nar .byte z122)].getD j 0) rcN 0 ((0 : Int32), (0 : Int32), (0 : Int32), (0 : Int32), (0 : Int32))).2.2.2.2)).2.2.2.2)), (.int (nar .boolean (own_run (fun j => [(nar .byte z116), (nar .byte z118), (nar .byte z120), (nar .byte z122)].getD j 0) (4 - rcN) rcN ((own_run (fun j => [(nar .byte z116), (nar .byte z118), (nar .byte z120), (nar .byte z122)].getD j 0) rcN 0 ((0 : Int32), (0 : Int32), (0 : Int32), (0 : Int32), (0 : Int32))).1, (own_run (fun j => [(nar .byte z116), (nar .byte z118), (nar .byte z120), (nar .byte z122)].getD j 0) rcN 0 ((0 : Int32), (0 : Int32), (0 : Int32), (0 : Int32), (0 : Int32))).2.1, (own_run (fun j => [(nar .byte z116), (nar .byte z118), (nar .byte z120), (nar .byte z122)].getD j 0) rcN 0 ((0 : Int32), (0 : Int32), (0 : Int32), (0 : Int32), (0 : Int32))).2.2.1, (own_run (fun j => [(nar .byte z116), (nar .byte z118), (nar .byte z120), (nar .byte z122)].getD j 0) rcN 0 ((0 : Int32), (0 : Int32), (0 : Int32), (0 : Int32), (0 : Int32))).2.2.2.1, (own_run (fun j => [(nar .byte z116), (nar .byte z118), (nar .byte z120), (nar .byte z122)].getD j 0) rcN 0 ((0 : Int32), (0 : Int32), (0 : Int32), (0 : Int32), (0 : Int32))).2.2.2.2)).2.2.2.2))]))
  refine go (fun _ => XS.icmpNo X134.here hx rfl (hb hby at_230) rfl (teq (rfl : (nar .boolean (own_run (fun j => [(nar .byte z116), (nar .byte z118), (nar .byte z120), (nar .byte z122)].getD j 0) (4 - rcN) rcN ((own_run (fun j => [(nar .byte z116), (nar .byte z118), (nar .byte z120), (nar .byte z122)].getD j 0) rcN 0 ((0 : Int32), (0 : Int32), (0 : Int32), (0 : Int32), (0 : Int32))).1, (own_run (fun j => [(nar .byte z116), (nar .byte z118), (nar .byte z120), (nar .byte z122)].getD j 0) rcN 0 ((0 : Int32), (0 : Int32), (0 : Int32), (0 : Int32), (0 : Int32))).2.1, (own_run (fun j => [(nar .byte z116), (nar .byte z118), (nar .byte z120), (nar .byte z122)].getD j 0) rcN 0 ((0 : Int32), (0 : Int32), (0 : Int32), (0 : Int32), (0 : Int32))).2.2.1, (own_run (fun j => [(nar .byte z116), (nar .byte z118), (nar .byte z120), (nar .byte z122)].getD j 0) rcN 0 ((0 : Int32), (0 : Int32), (0 : Int32), (0 : Int32), (0 : Int32))).2.2.2.1, (own_run (fun j => [(nar .byte z116), (nar .byte z118), (nar .byte z120), (nar .byte z122)].getD j 0) rcN 0 ((0 : Int32), (0 : Int32), (0 : Int32), (0 : Int32), (0 : Int32))).2.2.2.2)).2.2.2.2) = (nar .boolean (own_run (fun j => [(nar .byte z116), (nar .byte z118), (nar .byte z120), (nar .byte z122)].getD j 0) (4 - rcN) rcN ((own_run (fun j => [(nar .byte z116), (nar .byte z118), (nar .byte z120), (nar .byte z122)].getD j 0) rcN 0 ((0 : Int32), (0 : Int32), (0 : Int32), (0 : Int32), (0 : Int32))).1, (own_run (fun j => [(nar .byte z116), (nar .byte z118), (nar .byte z120), (nar .byte z122)].getD j 0) rcN 0 ((0 : Int32), (0 : Int32), (0 : Int32), (0 : Int32), (0 : Int32))).2.1, (own_run (fun j => [(nar .byte z116), (nar .byte z118), (nar .byte z120), (nar .byte z122)].getD j 0) rcN 0 ((0 : Int32), (0 : Int32), (0 : Int32), (0 : Int32), (0 : Int32))).2.2.1, (own_run (fun j => [(nar .byte z116), (nar .byte z118), (nar .byte z120), (nar .byte z122)].getD j 0) rcN 0 ((0 : Int32), (0 : Int32), (0 : Int32), (0 : Int32), (0 : Int32))).2.2.2.1, (own_run (fun j => [(nar .byte z116), (nar .byte z118), (nar .byte z120), (nar .byte z122)].getD j 0) rcN 0 ((0 : Int32), (0 : Int32), (0 : Int32), (0 : Int32), (0 : Int32))).2.2.2.2)).2.2.2.2))).2) ?_
  show Go _ p e below s _ _ _ (T134.setTop (mkF m 233 #[.val (.long q1), .second, .val (.long q2), .second, .val (.int p3), .val (.int p4), .val (.int p5), .val (.ref b105), .val (.ref b106), .val (.ref b107), .val (.int raV), .val (.int rbV), .val (.int rcV), .val (.ref b124), .val (.ref b126), .val (.int (nar .boolean (own_run (fun j => [(nar .byte z116), (nar .byte z118), (nar .byte z120), (nar .byte z122)].getD j 0) rcN 0 ((0 : Int32), (0 : Int32), (0 : Int32), (0 : Int32), (0 : Int32))).2.2.2.2)), .val (.int (nar .boolean (own_run (fun j => [(nar .byte z116), (nar .byte z118), (nar .byte z120), (nar .byte z122)].getD j 0) rcN 0 ((0 : Int32), (0 : Int32), (0 : Int32), (0 : Int32), (0 : Int32))).2.2.2.2)), .val (.int (nar .boolean (own_run (fun j => [(nar .byte z116), (nar .byte z118), (nar .byte z120), (nar .byte z122)].getD j 0) (4 - rcN) rcN ((own_run (fun j => [(nar .byte z116), (nar .byte z118), (nar .byte z120), (nar .byte z122)].getD j 0) rcN 0 ((0 : Int32), (0 : Int32), (0 : Int32), (0 : Int32), (0 : Int32))).1, (own_run (fun j => [(nar .byte z116), (nar .byte z118), (nar .byte z120), (nar .byte z122)].getD j 0) rcN 0 ((0 : Int32), (0 : Int32), (0 : Int32), (0 : Int32), (0 : Int32))).2.1, (own_run (fun j => [(nar .byte z116), (nar .byte z118), (nar .byte z120), (nar .byte z122)].getD j 0) rcN 0 ((0 : Int32), (0 : Int32), (0 : Int32), (0 : Int32), (0 : Int32))).2.2.1, (own_run (fun j => [(nar .byte z116), (nar .byte z118), (nar .byte z120), (nar .byte z122)].getD j 0) rcN 0 ((0 : Int32), (0 : Int32), (0 : Int32), (0 : Int32), (0 : Int32))).2.2.2.1, (own_run (fun j => [(nar .byte z116), (nar .byte z118), (nar .byte z120), (nar .byte z122)].getD j 0) rcN 0 ((0 : Int32), (0 : Int32), (0 : Int32), (0 : Int32), (0 : Int32))).2.2.2.2)).2.2.2.2)), .val (.int (nar .boolean (own_run (fun j => [(nar .byte z116), (nar .byte z118), (nar .byte z120), (nar .byte z122)].getD j 0) (4 - rcN) rcN ((own_run (fun j => [(nar .byte z116), (nar .byte z118), (nar .byte z120), (nar .byte z122)].getD j 0) rcN 0 ((0 : Int32), (0 : Int32), (0 : Int32), (0 : Int32), (0 : Int32))).1, (own_run (fun j => [(nar .byte z116), (nar .byte z118), (nar .byte z120), (nar .byte z122)].getD j 0) rcN 0 ((0 : Int32), (0 : Int32), (0 : Int32), (0 : Int32), (0 : Int32))).2.1, (own_run (fun j => [(nar .byte z116), (nar .byte z118), (nar .byte z120), (nar .byte z122)].getD j 0) rcN 0 ((0 : Int32), (0 : Int32), (0 : Int32), (0 : Int32), (0 : Int32))).2.2.1, (own_run (fun j => [(nar .byte z116), (nar .byte z118), (nar .byte z120), (nar .byte z122)].getD j 0) rcN 0 ((0 : Int32), (0 : Int32), (0 : Int32), (0 : Int32), (0 : Int32))).2.2.2.1, (own_run (fun j => [(nar .byte z116), (nar .byte z118), (nar .byte z120), (nar .byte z122)].getD j 0) rcN 0 ((0 : Int32), (0 : Int32), (0 : Int32), (0 : Int32), (0 : Int32))).2.2.2.2)).2.2.2.2))] []))
  refine go (fun _ => XS.iconst X134.here hx rfl (hb hby at_233)) ?_
  show Go _ p e below s _ _ _ (T134.setTop (mkF m 234 #[.val (.long q1), .second, .val (.long q2), .second, .val (.int p3), .val (.int p4), .val (.int p5), .val (.ref b105), .val (.ref b106), .val (.ref b107), .val (.int raV), .val (.int rbV), .val (.int rcV), .val (.ref b124), .val (.ref b126), .val (.int (nar .boolean (own_run (fun j => [(nar .byte z116), (nar .byte z118), (nar .byte z120), (nar .byte z122)].getD j 0) rcN 0 ((0 : Int32), (0 : Int32), (0 : Int32), (0 : Int32), (0 : Int32))).2.2.2.2)), .val (.int (nar .boolean (own_run (fun j => [(nar .byte z116), (nar .byte z118), (nar .byte z120), (nar .byte z122)].getD j 0) rcN 0 ((0 : Int32), (0 : Int32), (0 : Int32), (0 : Int32), (0 : Int32))).2.2.2.2)), .val (.int (nar .boolean (own_run (fun j => [(nar .byte z116), (nar .byte z118), (nar .byte z120), (nar .byte z122)].getD j 0) (4 - rcN) rcN ((own_run (fun j => [(nar .byte z116), (nar .byte z118), (nar .byte z120), (nar .byte z122)].getD j 0) rcN 0 ((0 : Int32), (0 : Int32), (0 : Int32), (0 : Int32), (0 : Int32))).1, (own_run (fun j => [(nar .byte z116), (nar .byte z118), (nar .byte z120), (nar .byte z122)].getD j 0) rcN 0 ((0 : Int32), (0 : Int32), (0 : Int32), (0 : Int32), (0 : Int32))).2.1, (own_run (fun j => [(nar .byte z116), (nar .byte z118), (nar .byte z120), (nar .byte z122)].getD j 0) rcN 0 ((0 : Int32), (0 : Int32), (0 : Int32), (0 : Int32), (0 : Int32))).2.2.1, (own_run (fun j => [(nar .byte z116), (nar .byte z118), (nar .byte z120), (nar .byte z122)].getD j 0) rcN 0 ((0 : Int32), (0 : Int32), (0 : Int32), (0 : Int32), (0 : Int32))).2.2.2.1, (own_run (fun j => [(nar .byte z116), (nar .byte z118), (nar .byte z120), (nar .byte z122)].getD j 0) rcN 0 ((0 : Int32), (0 : Int32), (0 : Int32), (0 : Int32), (0 : Int32))).2.2.2.2)).2.2.2.2)), .val (.int (nar .boolean (own_run (fun j => [(nar .byte z116), (nar .byte z118), (nar .byte z120), (nar .byte z122)].getD j 0) (4 - rcN) rcN ((own_run (fun j => [(nar .byte z116), (nar .byte z118), (nar .byte z120), (nar .byte z122)].getD j 0) rcN 0 ((0 : Int32), (0 : Int32), (0 : Int32), (0 : Int32), (0 : Int32))).1, (own_run (fun j => [(nar .byte z116), (nar .byte z118), (nar .byte z120), (nar .byte z122)].getD j 0) rcN 0 ((0 : Int32), (0 : Int32), (0 : Int32), (0 : Int32), (0 : Int32))).2.1, (own_run (fun j => [(nar .byte z116), (nar .byte z118), (nar .byte z120), (nar .byte z122)].getD j 0) rcN 0 ((0 : Int32), (0 : Int32), (0 : Int32), (0 : Int32), (0 : Int32))).2.2.1, (own_run (fun j => [(nar .byte z116), (nar .byte z118), (nar .byte z120), (nar .byte z122)].getD j 0) rcN 0 ((0 : Int32), (0 : Int32), (0 : Int32), (0 : Int32), (0 : Int32))).2.2.2.1, (own_run (fun j => [(nar .byte z116), (nar .byte z118), (nar .byte z120), (nar .byte z122)].getD j 0) rcN 0 ((0 : Int32), (0 : Int32), (0 : Int32), (0 : Int32), (0 : Int32))).2.2.2.2)).2.2.2.2))] [(.int (1 : Int32))]))
  refine go (fun _ => XS.goto X134.here hx rfl (pc0 := 234) (pc' := 238) rfl (hb hby at_234) (by decide) (by decide)) ?_
  show Go _ p e below s _ _ _ (T134.setTop (mkF m 238 #[.val (.long q1), .second, .val (.long q2), .second, .val (.int p3), .val (.int p4), .val (.int p5), .val (.ref b105), .val (.ref b106), .val (.ref b107), .val (.int raV), .val (.int rbV), .val (.int rcV), .val (.ref b124), .val (.ref b126), .val (.int (nar .boolean (own_run (fun j => [(nar .byte z116), (nar .byte z118), (nar .byte z120), (nar .byte z122)].getD j 0) rcN 0 ((0 : Int32), (0 : Int32), (0 : Int32), (0 : Int32), (0 : Int32))).2.2.2.2)), .val (.int (nar .boolean (own_run (fun j => [(nar .byte z116), (nar .byte z118), (nar .byte z120), (nar .byte z122)].getD j 0) rcN 0 ((0 : Int32), (0 : Int32), (0 : Int32), (0 : Int32), (0 : Int32))).2.2.2.2)), .val (.int (nar .boolean (own_run (fun j => [(nar .byte z116), (nar .byte z118), (nar .byte z120), (nar .byte z122)].getD j 0) (4 - rcN) rcN ((own_run (fun j => [(nar .byte z116), (nar .byte z118), (nar .byte z120), (nar .byte z122)].getD j 0) rcN 0 ((0 : Int32), (0 : Int32), (0 : Int32), (0 : Int32), (0 : Int32))).1, (own_run (fun j => [(nar .byte z116), (nar .byte z118), (nar .byte z120), (nar .byte z122)].getD j 0) rcN 0 ((0 : Int32), (0 : Int32), (0 : Int32), (0 : Int32), (0 : Int32))).2.1, (own_run (fun j => [(nar .byte z116), (nar .byte z118), (nar .byte z120), (nar .byte z122)].getD j 0) rcN 0 ((0 : Int32), (0 : Int32), (0 : Int32), (0 : Int32), (0 : Int32))).2.2.1, (own_run (fun j => [(nar .byte z116), (nar .byte z118), (nar .byte z120), (nar .byte z122)].getD j 0) rcN 0 ((0 : Int32), (0 : Int32), (0 : Int32), (0 : Int32), (0 : Int32))).2.2.2.1, (own_run (fun j => [(nar .byte z116), (nar .byte z118), (nar .byte z120), (nar .byte z122)].getD j 0) rcN 0 ((0 : Int32), (0 : Int32), (0 : Int32), (0 : Int32), (0 : Int32))).2.2.2.2)).2.2.2.2)), .val (.int (nar .boolean (own_run (fun j => [(nar .byte z116), (nar .byte z118), (nar .byte z120), (nar .byte z122)].getD j 0) (4 - rcN) rcN ((own_run (fun j => [(nar .byte z116), (nar .byte z118), (nar .byte z120), (nar .byte z122)].getD j 0) rcN 0 ((0 : Int32), (0 : Int32), (0 : Int32), (0 : Int32), (0 : Int32))).1, (own_run (fun j => [(nar .byte z116), (nar .byte z118), (nar .byte z120), (nar .byte z122)].getD j 0) rcN 0 ((0 : Int32), (0 : Int32), (0 : Int32), (0 : Int32), (0 : Int32))).2.1, (own_run (fun j => [(nar .byte z116), (nar .byte z118), (nar .byte z120), (nar .byte z122)].getD j 0) rcN 0 ((0 : Int32), (0 : Int32), (0 : Int32), (0 : Int32), (0 : Int32))).2.2.1, (own_run (fun j => [(nar .byte z116), (nar .byte z118), (nar .byte z120), (nar .byte z122)].getD j 0) rcN 0 ((0 : Int32), (0 : Int32), (0 : Int32), (0 : Int32), (0 : Int32))).2.2.2.1, (own_run (fun j => [(nar .byte z116), (nar .byte z118), (nar .byte z120), (nar .byte z122)].getD j 0) rcN 0 ((0 : Int32), (0 : Int32), (0 : Int32), (0 : Int32), (0 : Int32))).2.2.2.2)).2.2.2.2))] [(.int (1 : Int32))]))
  refine goRet X134 hx Bd.notSynchronized Bd.returns rfl (Or.inl ⟨rfl, Or.inr (Or.inl rfl), _, rfl⟩) (hb hby at_238) (by decide) (by decide) (by refine ⟨rfl, N134⟩)
set_option maxRecDepth 65536 in
set_option maxHeartbeats 40000000 in
theorem comes_1 {Post : Tables → Env → Array Value → State → Outcome → State → Prop} (hpost : ∀ tb e args s v u, (limb_1_1.after args s (.returned v) u = true ∧ limb_1_2.after args s (.returned v) u = true ∧ True) → FrameEnd s (.returned v) u (Jvm.fieldLocs frame_1_writes args s ++ Jvm.arrayLocs frame_1_arrays args s ++ Jvm.staticLocs frame_1_statics s) 24 131200 → Post tb e args s (.returned v) u) :
    ArmFor flags0 classFile x code maxLocals ret World_1 tables_1 room_1 Calls_1 rest_1 Pre_1 Post := by
  intro l hfl _ _ p e ha hc hk s m args below hf hA hF happ hP
  obtain ⟨hcalls, hrest, hpre⟩ := hP
  obtain ⟨-, -, -, hnamed, -, -, -, hat⟩ := (Spec.applies_iff hf).mp happ
  obtain ⟨hg, hn⟩ := and_e (Cond.before_iff.mp (show (Jvm.Cond.and given_1 narrow_1).before args s = true from hpre))
  obtain ⟨q0, r0⟩ := and_e hg
  obtain ⟨q1, r1⟩ := and_e r0
  obtain ⟨q2, r2⟩ := and_e r1
  obtain ⟨q3, r3⟩ := and_e r2
  obtain ⟨q4, r4⟩ := and_e r3
  obtain ⟨w0, w1, w2, w3, w4, rfl⟩ : ∃ w0 w1 w2 w3 w4 : Value, args = #[w0, w1, w2, w3, w4] := by
    have hs : args.size = 5 := by simpa [Cond.value, given_1] using q0
    obtain ⟨L⟩ := args
    match L, hs with
    | [w0, w1, w2, w3, w4], _ => exact ⟨w0, w1, w2, w3, w4, rfl⟩
  have hw := fun d (hd : d ∈ tables_1) => atoms_spec (ws := Jvm.Cond.code x code maxLocals ret :: tables_1) hat d (List.mem_cons_of_mem _ hd)
  have hfit : Fit s := fun {y c} hc i hi => by
    obtain ⟨ha, rfl⟩ := Array.getElem?_eq_some_iff.mp hc
    have q := List.all_eq_true.mp ((Array.all_eq_true_iff_forall_mem.mp hF) _ (Array.getElem_mem ha)) i (List.mem_range.mpr hi)
    simpa [Array.getElem?_eq_getElem hi] using q
  obtain ⟨i0, ei0⟩ := isL_v q1
  obtain rfl : w0 = (.long i0) := Option.some.inj ei0
  obtain ⟨i1, ei1⟩ := isL_v q2
  obtain rfl : w1 = (.long i1) := Option.some.inj ei1
  obtain ⟨i2, ei2⟩ := is_v q3
  obtain rfl : w2 = (.int i2) := Option.some.inj ei2
  obtain ⟨i3, ei3⟩ := is_v q4
  obtain rfl : w3 = (.int i3) := Option.some.inj ei3
  obtain ⟨i4, ei4⟩ := is_v r4
  obtain rfl : w4 = (.int i4) := Option.some.inj ei4
  obtain ⟨n, o, h1, h2, h3, _, L, rfl, ⟨rfl, N⟩, hq⟩ := rm0 l s _ hw tables_1 i0 i1 i2 i3 i4  s.heap s.heap.size (Nat.le_refl _)  p e ha hc hk s m _ below hf ((Spec.applies_iff_loose hf).mp happ).1 ⟨rfl, State.Warmed39.refl s, rfl⟩ trivial
  refine ⟨n, _, h1, h2, h3, hpost _ _ _ _ _ _ ⟨Cond.after_iff.mpr rfl, Cond.after_iff.mpr (eq_i res_at (Term.int_eval (1)) rfl), trivial⟩ ⟨hq.1, hq.2.1, (hq.2.2.sift fun y hy => Or.inr (N y hy)).mono (by decide) (by decide)⟩⟩
theorem main_1_1 : Claimed_1_1 := comes_1 fun _ _ _ _ _ _ h hF => ⟨h.1, hF⟩
theorem main_1_2 : Claimed_1_2 := comes_1 fun _ _ _ _ _ _ h hF => ⟨h.2.1, hF⟩
end Jvm.Pilot.@@N@@
namespace Jvm.Pilot.@@N@@
open Jvm Jvm.ClassFile Sem Op Lib Jvm.Free Jvm.Stand Jvm.Pilot.@@N@@.Jvm.D
/-! MADE BY PROGRAM (witnessworld.py) out of the Statement's table words and the real class files: 9 classes; the members and pool entries that the words name. The judged class is class 1, her method 1. -/
namespace start1
open Jvm.ClassFile
def u (s : String) : CpInfo := .utf8 (stringToUtf16 s)
/-- a pool by its gaps: so many unusable entries, then the entry; so many at the end -/
def gap : Nat → List CpInfo → List CpInfo
  | 0, r => r
  | n + 1, r => .unusable :: gap n r
def poolList (es : List (Nat × CpInfo)) (last : Nat) : List CpInfo := es.foldr (fun e r => gap e.1 (e.2 :: r)) (gap last [])
def pool (es : List (Nat × CpInfo)) (last : Nat) : Array CpInfo := ⟨poolList es last⟩
def fileOf (pool : Array CpInfo) (this : Nat) (attrs : Array Attribute := #[]) (ms : Array MethodInfo := #[]) (fl : Nat := 33) (sup : Nat := 0) (ifs : Array Nat := #[]) (fds : Array FieldInfo := #[]) : ClassFile where
  minorVersion := 0
  majorVersion := 65
  constantPool := pool
  accessFlags := fl
  thisClass := this
  superClass := sup
  interfaces := ifs
  fields := fds
  methods := ms
  attributes := attrs
def plain (name : String) (sup : Option ClassId) : Class where
  name := name
  kind := .ordinary
  loader := none
  accessFlags := 33
  super := sup
  interfaces := #[]
  cf := none
  fields := #[]
  methods := #[]
  instanceTypes := #[]
  staticTypes := #[]
  resolved := #[]
  callSites := []
  init := .initialized
  statics := none
  mirror := none

def pool0 : Array CpInfo := pool [(5, u "<init>"), (0, u "()V"), (1, .class_ 10), (1, u "java/lang/Object")] 113

def k0c0 : Code := { maxStack := 0, maxLocals := 1, code := object_method_1_code, exceptionTable := #[], attributes := #[] }
def k0m0 : Method := { name := "<init>", desc := "()V", sig := { parameters := [], returnType := none }, accessFlags := 1, code := some k0c0 }
/-- java/lang/Object -/
def k0 : Class := { plain "java/lang/Object" none with
  accessFlags := 33
  interfaces := #[]
  cf := some (fileOf pool0 8 #[] #[{ accessFlags := 1, nameIndex := 5, descriptorIndex := 6, attributes := #[] }] 33 0 #[] #[])
  fields := #[]
  methods := #[k0m0]
  instanceTypes := #[]
  staticTypes := #[]
  resolved := Array.replicate 124 none
  statics := none }

def pool1 : Array CpInfo := pool [(2, .class_ 4), (0, .nameAndType 5 6), (0, u "java/lang/Object"), (0, u "<init>"), (0, u "()V"), (0, .class_ 8), (0, u "com/example/dosisbog/dosisbog/HttpRequest$HeadEnd"), (0, .integer 65537), (0, .methodref 11 12), (0, .class_ 13), (0, .nameAndType 14 15), (0, u "com/example/dosisbog/dosisbog/HeadEndResetPinLaw"), (0, u "pick"), (0, u "(J)B"), (0, .integer 2147483647), (0, .integer 65538), (0, .methodref 7 3), (0, .methodref 7 20), (0, .nameAndType 21 22), (0, u "whole"), (0, u "([BII)Z"), (0, .methodref 7 24), (0, .nameAndType 25 6), (0, u "reset"), (0, .long 3), (3, u "law"), (0, u "(JJIII)Z")] 9

def k1m0 : Method := { name := "<init>", desc := "()V", sig := { parameters := [], returnType := none }, accessFlags := 1, code := none }
def k1c1 : Code := { maxStack := 5, maxLocals := 19, code := code, exceptionTable := #[], attributes := #[] }
def k1m1 : Method := { name := "law", desc := "(JJIII)Z", sig := { parameters := [.long, .long, .int, .int, .int], returnType := some .boolean }, accessFlags := 9, code := some k1c1 }
def k1c2 : Code := { maxStack := 4, maxLocals := 3, code := method_3_code, exceptionTable := #[], attributes := #[] }
def k1m2 : Method := { name := "pick", desc := "(J)B", sig := { parameters := [.long], returnType := some .byte }, accessFlags := 10, code := some k1c2 }
/-- com/example/dosisbog/dosisbog/HeadEndResetPinLaw -/
def k1 : Class := { plain "com/example/dosisbog/dosisbog/HeadEndResetPinLaw" (some 0) with
  accessFlags := 49
  interfaces := #[]
  cf := some (fileOf pool1 11 #[] #[{ accessFlags := 1, nameIndex := 5, descriptorIndex := 6, attributes := #[] }, { accessFlags := 9, nameIndex := 30, descriptorIndex := 31, attributes := #[] }, { accessFlags := 10, nameIndex := 14, descriptorIndex := 15, attributes := #[] }] 49 2 #[] #[])
  fields := #[]
  methods := #[k1m0, k1m1, k1m2]
  instanceTypes := #[]
  staticTypes := #[]
  resolved := Array.replicate 41 none
  statics := none }

def pool2 : Array CpInfo := pool [(1, .class_ 2), (0, u "com/example/dosisbog/dosisbog/HttpRequest"), (0, .methodref 4 5), (0, .class_ 6), (0, .nameAndType 7 8), (0, u "java/lang/Object"), (0, u "<init>"), (0, u "()V"), (0, .fieldref 10 11), (0, .class_ 12), (0, .nameAndType 13 14), (0, u "com/example/dosisbog/dosisbog/HttpRequest$HeadEnd"), (0, u "looked"), (0, u "I"), (0, .fieldref 10 16), (0, .nameAndType 17 14), (0, u "inLine"), (0, .fieldref 10 19), (0, .nameAndType 20 21), (0, u "carriageReturn"), (0, u "Z"), (0, .fieldref 10 23), (0, .nameAndType 24 21), (0, u "requestLine"), (0, .fieldref 10 26), (0, .nameAndType 27 21), (0, u "found"), (0, .integer 65537), (0, u "MOST"), (3, u "reset"), (0, u "whole"), (0, u "([BII)Z")] 8

def k2c0 : Code := { maxStack := 1, maxLocals := 1, code := prog_37_method_1_code, exceptionTable := #[], attributes := #[] }
def k2m0 : Method := { name := "<init>", desc := "()V", sig := { parameters := [], returnType := none }, accessFlags := 0, code := some k2c0 }
def k2c1 : Code := { maxStack := 2, maxLocals := 1, code := prog_37_method_2_code, exceptionTable := #[], attributes := #[] }
def k2m1 : Method := { name := "reset", desc := "()V", sig := { parameters := [], returnType := none }, accessFlags := 0, code := some k2c1 }
def k2c2 : Code := { maxStack := 4, maxLocals := 6, code := prog_37_method_3_code, exceptionTable := #[], attributes := #[] }
def k2m2 : Method := { name := "whole", desc := "([BII)Z", sig := { parameters := [(.array .byte), .int, .int], returnType := some .boolean }, accessFlags := 0, code := some k2c2 }
/-- com/example/dosisbog/dosisbog/HttpRequest$HeadEnd -/
def k2 : Class := { plain "com/example/dosisbog/dosisbog/HttpRequest$HeadEnd" (some 0) with
  accessFlags := 48
  interfaces := #[]
  cf := some (fileOf pool2 10 #[.nestHost 1] #[{ accessFlags := 0, nameIndex := 7, descriptorIndex := 8, attributes := #[] }, { accessFlags := 0, nameIndex := 33, descriptorIndex := 8, attributes := #[] }, { accessFlags := 0, nameIndex := 34, descriptorIndex := 35, attributes := #[] }] 48 4 #[] #[{ accessFlags := 24, nameIndex := 29, descriptorIndex := 14, attributes := #[] }, { accessFlags := 2, nameIndex := 13, descriptorIndex := 14, attributes := #[] }, { accessFlags := 2, nameIndex := 17, descriptorIndex := 14, attributes := #[] }, { accessFlags := 2, nameIndex := 20, descriptorIndex := 21, attributes := #[] }, { accessFlags := 2, nameIndex := 24, descriptorIndex := 21, attributes := #[] }, { accessFlags := 2, nameIndex := 27, descriptorIndex := 21, attributes := #[] }])
  fields := #[{ name := "MOST", type := .int, accessFlags := 24, slot := 0, constantValue := 0 }, { name := "looked", type := .int, accessFlags := 2, slot := 0, constantValue := 0 }, { name := "inLine", type := .int, accessFlags := 2, slot := 1, constantValue := 0 }, { name := "carriageReturn", type := .boolean, accessFlags := 2, slot := 2, constantValue := 0 }, { name := "requestLine", type := .boolean, accessFlags := 2, slot := 3, constantValue := 0 }, { name := "found", type := .boolean, accessFlags := 2, slot := 4, constantValue := 0 }]
  methods := #[k2m0, k2m1, k2m2]
  instanceTypes := #[.int, .int, .boolean, .boolean, .boolean]
  staticTypes := #[.int]
  resolved := Array.replicate 44 none
  statics := none }

def pool3 : Array CpInfo := pool [(1, u "java/lang/Cloneable"), (0, .class_ 1), (0, u "java/lang/Object"), (0, .class_ 3)] 3

/-- java/lang/Cloneable -/
def k3 : Class := { plain "java/lang/Cloneable" (some 0) with
  accessFlags := 1537
  interfaces := #[]
  cf := some (fileOf pool3 2 #[] #[] 1537 4 #[] #[])
  fields := #[]
  methods := #[]
  instanceTypes := #[]
  staticTypes := #[]
  resolved := Array.replicate 8 none
  statics := none }

def pool4 : Array CpInfo := pool [(1, u "java/io/Serializable"), (0, .class_ 1), (0, u "java/lang/Object"), (0, .class_ 3)] 3

/-- java/io/Serializable -/
def k4 : Class := { plain "java/io/Serializable" (some 0) with
  accessFlags := 1537
  interfaces := #[]
  cf := some (fileOf pool4 2 #[] #[] 1537 4 #[] #[])
  fields := #[]
  methods := #[]
  instanceTypes := #[]
  staticTypes := #[]
  resolved := Array.replicate 8 none
  statics := none }

/-- the primitive byte -/
def k5 : Class := { plain "byte" none with kind := .primitive 'B', accessFlags := 0x411 }
/-- [B -/
def k6 : Class := { plain "[B" (some 0) with kind := .array 5 .byte, interfaces := #[3, 4], accessFlags := 1041 }

/-- the primitive int -/
def k7 : Class := { plain "int" none with kind := .primitive 'I', accessFlags := 0x411 }
/-- [I -/
def k8 : Class := { plain "[I" (some 0) with kind := .array 7 .int, interfaces := #[3, 4], accessFlags := 1041 }

def heap : Heap := #[]
def classes : Array Class := #[k0, k1, k2, k3, k4, k5, k6, k7, k8]
def interned : List (Array UInt16 × Addr) := []
def slotsUsed : Nat := 0
def theMethod : MethodId := ⟨1, 1⟩
def args0 : Array Value := #[.long 5, .long 7, .int (-3), .int 4, .int 9]
def aboutOver (below : List Frame) : State where
  vm := { classes := classes, interned := interned.toArray }
  heap := heap
  slotsUsed := slotsUsed
  threads := #[{ frames := .invoking theMethod args0 :: below }]
def below0 : List Frame := [.native { method := ⟨0, 0⟩, args := #[] }]
def about1 : State := aboutOver below0
def p0 : Program := .bare "" "" ""
def e0 : Env := launch0.env 0 0 0
theorem w_frames : about1.frames = Frame.invoking theMethod args0 :: below0 := rfl
set_option maxRecDepth 65536 in
theorem w_args : argsFit about1.vm theMethod args0 = true := by decide +kernel
set_option maxRecDepth 65536 in
theorem w_heap : heapFits about1 = true := by decide +kernel
set_option maxRecDepth 65536 in
theorem w_runnable : about1.curStatus? = some .runnable := by decide +kernel
set_option maxRecDepth 65536 in
theorem w_alone : about1.alone = true := by decide +kernel
set_option maxRecDepth 65536 in
theorem w_named : about1.methodNamed? x = some theMethod := by decide +kernel
set_option maxRecDepth 65536 in
theorem w_hears : about1.hears theMethod below0 = true := by decide +kernel
set_option maxRecDepth 65536 in
theorem w_ripe : about1.ripe theMethod args0 below0 = true := by decide +kernel
theorem w_running : about1.status = .running := rfl
set_option maxRecDepth 65536 in
theorem w_room : about1.hasRoom e0.platform room_1 = true :=
  launch0.hasRoom_least _ room_1 (by decide +kernel) (by decide +kernel) (by decide +kernel) (by decide +kernel) (by decide +kernel) (by decide +kernel)
theorem allAtoms_all (ts : List Jvm.Cond) (a : Array Jvm.Value) (st : Jvm.State) : (allAtoms ts).before a st = ts.all (fun c => c.before a st) := by
  induction ts with
  | nil => rfl
  | cons c t ih =>
    show (Jvm.Cond.and c (allAtoms t)).before a st = _
    rw [Jvm.Cond.before_and, ih, List.all_cons]
def words1 : List Jvm.Cond := Jvm.Cond.code x code maxLocals ret :: tables_1
/-- a 'code' word, met by the world's own term for the bytes: nothing is compared byte by byte -/
theorem code_word {y : MethodName} {bytes : ByteArray} {mx : Nat} {rt : Option FieldType} {a : Array Value} {s : State} {m : MethodId} {meth : Method} {c : Code} (h1 : s.methodNamed? y = some m) (h2 : s.vm.method? m = some meth) (h3 : meth.code = some c) (h4 : c.code = bytes)
    (h5 : (c.maxLocals == mx && c.exceptionTable.isEmpty && decide (c.maxStack ≤ mostOperands) && decide (meth.sig.returnType = rt) && !meth.locks && decide (parseMethodDescriptor y.desc = some meth.sig)) = true) : (Jvm.Cond.code y bytes mx rt).before a s = true := by
  simp only [Bool.and_eq_true, beq_iff_eq, Bool.not_eq_true', decide_eq_true_eq] at h5
  obtain ⟨⟨⟨⟨⟨g1, g2⟩, g3⟩, g4⟩, g5⟩, g6⟩ := h5
  simp [Cond.before, Cond.holds, Cond.value, h1, h2, h3, h4, g1, g2, g3, g4, g5, g6]
def isCode : Jvm.Cond → Bool
  | .code _ _ _ _ => true
  | _ => false
theorem all_split {L : List Jvm.Cond} {P : Jvm.Cond → Bool} (h1 : L.all (fun c => isCode c || P c) = true) (h2 : ∀ c ∈ L.filter isCode, P c = true) : L.all P = true := by
  refine List.all_eq_true.mpr fun c hc => ?_
  have h := List.all_eq_true.mp h1 c hc
  rcases Bool.eq_false_or_eq_true (isCode c) with hi | hi
  · exact h2 c (List.mem_filter.mpr ⟨hc, hi⟩)
  · simpa [hi] using h
set_option maxRecDepth 65536 in
theorem w_c0 : (Jvm.Cond.code x code maxLocals ret).before args0 about1 = true := code_word (m := ⟨1, 1⟩) (meth := k1m1) (c := k1c1) (by decide +kernel) rfl rfl rfl (by decide +kernel)
set_option maxRecDepth 65536 in
theorem w_c1 : (Jvm.Cond.code ({ cls := "com/example/dosisbog/dosisbog/HeadEndResetPinLaw", name := "pick", desc := "(J)B" } : Jvm.MethodName) method_3_code (3 : Nat) (Option.some Jvm.ClassFile.FieldType.byte)).before args0 about1 = true := code_word (m := ⟨1, 2⟩) (meth := k1m2) (c := k1c2) (by decide +kernel) rfl rfl rfl (by decide +kernel)
set_option maxRecDepth 65536 in
theorem w_c2 : (Jvm.Cond.code ({ cls := "com/example/dosisbog/dosisbog/HttpRequest$HeadEnd", name := "<init>", desc := "()V" } : Jvm.MethodName) prog_37_method_1_code (1 : Nat) (Option.none : Option Jvm.ClassFile.FieldType)).before args0 about1 = true := code_word (m := ⟨2, 0⟩) (meth := k2m0) (c := k2c0) (by decide +kernel) rfl rfl rfl (by decide +kernel)
set_option maxRecDepth 65536 in
theorem w_c3 : (Jvm.Cond.code ({ cls := "java/lang/Object", name := "<init>", desc := "()V" } : Jvm.MethodName) object_method_1_code (1 : Nat) (Option.none : Option Jvm.ClassFile.FieldType)).before args0 about1 = true := code_word (m := ⟨0, 0⟩) (meth := k0m0) (c := k0c0) (by decide +kernel) rfl rfl rfl (by decide +kernel)
set_option maxRecDepth 65536 in
theorem w_c4 : (Jvm.Cond.code ({ cls := "com/example/dosisbog/dosisbog/HttpRequest$HeadEnd", name := "whole", desc := "([BII)Z" } : Jvm.MethodName) prog_37_method_3_code (6 : Nat) (Option.some Jvm.ClassFile.FieldType.boolean)).before args0 about1 = true := code_word (m := ⟨2, 2⟩) (meth := k2m2) (c := k2c2) (by decide +kernel) rfl rfl rfl (by decide +kernel)
set_option maxRecDepth 65536 in
theorem w_c5 : (Jvm.Cond.code ({ cls := "com/example/dosisbog/dosisbog/HttpRequest$HeadEnd", name := "reset", desc := "()V" } : Jvm.MethodName) prog_37_method_2_code (1 : Nat) (Option.none : Option Jvm.ClassFile.FieldType)).before args0 about1 = true := code_word (m := ⟨2, 1⟩) (meth := k2m1) (c := k2c1) (by decide +kernel) rfl rfl rfl (by decide +kernel)
def codes1 : List Jvm.Cond := [Jvm.Cond.code x code maxLocals ret, Jvm.Cond.code ({ cls := "com/example/dosisbog/dosisbog/HeadEndResetPinLaw", name := "pick", desc := "(J)B" } : Jvm.MethodName) method_3_code (3 : Nat) (Option.some Jvm.ClassFile.FieldType.byte), Jvm.Cond.code ({ cls := "com/example/dosisbog/dosisbog/HttpRequest$HeadEnd", name := "<init>", desc := "()V" } : Jvm.MethodName) prog_37_method_1_code (1 : Nat) (Option.none : Option Jvm.ClassFile.FieldType), Jvm.Cond.code ({ cls := "java/lang/Object", name := "<init>", desc := "()V" } : Jvm.MethodName) object_method_1_code (1 : Nat) (Option.none : Option Jvm.ClassFile.FieldType), Jvm.Cond.code ({ cls := "com/example/dosisbog/dosisbog/HttpRequest$HeadEnd", name := "whole", desc := "([BII)Z" } : Jvm.MethodName) prog_37_method_3_code (6 : Nat) (Option.some Jvm.ClassFile.FieldType.boolean), Jvm.Cond.code ({ cls := "com/example/dosisbog/dosisbog/HttpRequest$HeadEnd", name := "reset", desc := "()V" } : Jvm.MethodName) prog_37_method_2_code (1 : Nat) (Option.none : Option Jvm.ClassFile.FieldType)]
set_option maxRecDepth 65536 in
theorem codes_eq : words1.filter isCode = codes1 := rfl
theorem w_codes : ∀ c ∈ words1.filter isCode, c.before args0 about1 = true := by
  rw [codes_eq]
  intro c hc
  simp only [codes1, List.mem_cons, List.not_mem_nil, or_false] at hc
  rcases hc with rfl | rfl | rfl | rfl | rfl | rfl
  · exact w_c0
  · exact w_c1
  · exact w_c2
  · exact w_c3
  · exact w_c4
  · exact w_c5
set_option maxRecDepth 65536 in
theorem w_t1 : (words1.take 24).all (fun c => isCode c || c.before args0 about1) = true := by decide +kernel
set_option maxRecDepth 65536 in
theorem w_t2 : (words1.drop 24).all (fun c => isCode c || c.before args0 about1) = true := by decide +kernel
theorem w_tables : (allAtoms (Jvm.Cond.code x code maxLocals ret :: tables_1)).before args0 about1 = true := by
  rw [allAtoms_all]
  show words1.all (fun c => c.before args0 about1) = true
  refine all_split ?_ w_codes
  rw [← List.take_append_drop 24 words1, List.all_append, w_t1, w_t2]
  rfl
set_option maxRecDepth 65536 in
theorem w_case : (Jvm.Cond.and given_1 narrow_1).before args0 about1 = true := by decide +kernel
theorem w_applies : (headSpec (Jvm.Cond.code x code maxLocals ret :: tables_1) room_1).applies x e0.platform about1 = true :=
  (Spec.applies_iff w_frames).mpr ⟨w_running, w_runnable, w_alone, w_named, w_hears, w_ripe, w_room, w_tables⟩
theorem atStart : AtStart classFile x code maxLocals ret World_1 tables_1 room_1 Calls_1 rest_1 Pre_1 launch0 p0 e0 about1 theMethod args0 below0 :=
  ⟨lists_1, trivial, launch0.admits_env _ _ _, launch0.least_env, fairChoices_fair.cas, fairChoices_fair.clock, w_frames, w_args, w_heap, w_applies, trivial, trivial, w_case⟩
end start1
theorem witness_1 : WitnessClaimed_1 := ⟨start1.p0, start1.e0, start1.about1, start1.theMethod, start1.args0, start1.below0, start1.atStart⟩
end Jvm.Pilot.@@N@@
