import JvmDerived
import JvmDerived.Pilot.@@N@@Statement
import JvmDerived.Pilot.@@N@@Code
set_option linter.unusedVariables false
set_option linter.unusedSimpArgs false
@@BLOCK:NumsL.lean.txt@@
@@BLOCK:Masks.lean.txt@@
namespace Jvm.Pilot.@@N@@
open Jvm Jvm.ClassFile Sem Op Lib Jvm.Free Jvm.Stand Jvm.LawKit Jvm.RoadKit Bundle Jvm.Pilot.@@N@@.Jvm.D
section Own
variable {p : Program} {l : Launch} {e : Env} {R : Room} {s : State} {m : MethodId} {args : Array Value} {below : List Frame} {meth : Method} {c : Code} {T : State} {locs : List Loc} {cells slots : Nat}
/-- the walk from the state t ends as the contract Q says; End: the narrow frame or the wide one -/
def Go (End : State → Outcome → State → List Loc → Nat → Nat → Prop) (p : Program) (e : Env) (below : List Frame) (s : State) (rc rs : Nat) (Q : Option Value → Heap → List Loc → Prop) (t : State) : Prop :=
  ∃ s₂ o, Steps p.tables e below t s₂ ∧ s₂.status = .running ∧ Ended s₂ below o ∧ ∃ v L, o = .returned v ∧ Q v s₂.heap L ∧ End s o s₂ L rc rs
variable {End : State → Outcome → State → List Loc → Nat → Nat → Prop}
theorem go {rc rs : Nat} {Q : Option Value → Heap → List Loc → Prop} {t t' : State} (k : ∀ target, Steps p.tables e below t' target → Steps p.tables e below t target) (h : Go End p e below s rc rs Q t') : Go End p e below s rc rs Q t := by
  obtain ⟨s₂, o, h1, h2⟩ := h
  exact ⟨s₂, o, k _ h1, h2⟩
theorem goT {rc rs : Nat} {Q : Option Value → Heap → List Loc → Prop} {t t' : State} (k : Steps p.tables e below t t') (h : Go End p e below s rc rs Q t') : Go End p e below s rc rs Q t := by
  obtain ⟨s₂, o, h1, h2⟩ := h
  exact ⟨s₂, o, k.trans h1, h2⟩
theorem goRet {rc rs : Nat} {Q : Option Value → Heap → List Loc → Prop} (X : Stand p l e R s m args below meth c T locs cells slots) (hx : p.tables.exec = Jvm.exec) (hlk : meth.locks = false) {pc : Nat} {Ls : Array Slot} {w : Value} {t : FieldType} {i : Instr} {rest : List Value} (hret : meth.sig.returnType = some t) (hn : narrow t w = w)
    (hi : (i = .ireturn ∧ (t = .int ∨ t = .boolean ∨ t = .byte ∨ t = .char ∨ t = .short) ∧ ∃ z, w = .int z) ∨ (i = .lreturn ∧ t = .long ∧ ∃ z, w = .long z) ∨ (i = .dreturn ∧ t = .double ∧ ∃ z, w = .double z) ∨ (i = .freturn ∧ t = .float ∧ ∃ z, w = .float z) ∨ (i = .areturn ∧ t.isReference = true ∧ w.isRef = true))
    (hd : decode c.code pc = .ok (i, 1)) (hc : cells ≤ rc) (hs : slots ≤ rs) (hq : Q (some w) T.heap locs) : Go FrameEnd p e below s rc rs Q (T.setTop (mkF m pc Ls (w :: rest))) := by
  obtain ⟨fs, hr, hrun, hended, hW, hsame⟩ := X.leave (v := some w) (fun h => by rw [hret] at h; cases h) hlk
  refine ⟨_, _, retOut X hx hret hn hi hd hr, hrun, hended, _, _, rfl, ?_, ⟨_, rfl⟩, hW, hsame.mono hc hs⟩
  show Q _ T.heap _
  exact hq
theorem goRet0 {rc rs : Nat} {Q : Option Value → Heap → List Loc → Prop} (X : Stand p l e R s m args below meth c T locs cells slots) (hx : p.tables.exec = Jvm.exec) (hlk : meth.locks = false) {pc : Nat} {Ls : Array Slot} (hret : meth.sig.returnType = none)
    (hd : decode c.code pc = .ok (.return_, 1)) (hc : cells ≤ rc) (hs : slots ≤ rs) (hq : Q none T.heap locs) : Go FrameEnd p e below s rc rs Q (T.setTop (mkF m pc Ls [])) := by
  obtain ⟨fs, hr, hrun, hended, hW, hsame⟩ := X.leave (v := none) (fun _ => rfl) hlk
  refine ⟨_, _, X.returnOut hx hret hd hr, hrun, hended, _, _, rfl, ?_, ⟨_, rfl⟩, hW, hsame.mono hc hs⟩
  show Q _ T.heap _
  exact hq
end Own
def own_in (s c e : Int32) : Int32 := if c < s then 0 else if e < c then 0 else 1
def own_or (x y z : Int32) : Int32 := if x = 0 then (if y = 0 then (if z = 0 then 0 else 1) else 1) else 1
def own_h0 (c : Int32) : Int32 := 0
def own_h2 (v0 v1 : Int32) (c : Int32) : Int32 := (if c < v0 then 0 else if v1 < c then 0 else 1)
def own_h4 (v0 v1 v2 v3 : Int32) (c : Int32) : Int32 := (if c < v0 then 0 else if v1 < c then (if c < v2 then 0 else if v3 < c then 0 else 1) else 1)
def own_h6 (v0 v1 v2 v3 v4 v5 : Int32) (c : Int32) : Int32 := (if c < v0 then 0 else if v1 < c then (if c < v2 then 0 else if v3 < c then (if c < v4 then 0 else if v5 < c then 0 else 1) else 1) else 1)
theorem own_fin0 {v0 v1 v2 v3 v4 v5 : Int32} (h : v0 ≤ v1 ∧ v1 < v2 ∧ v2 ≤ v3 ∧ v3 < v4 ∧ v4 ≤ v5) (c : Int32) : own_h0  c = own_or 0 0 0 := by
  simp only [Int32.le_iff_toInt_le, Int32.lt_iff_toInt_lt] at h
  unfold own_h0 own_or
  try unfold own_in
  simp only [Int32.lt_iff_toInt_lt]
  repeat' split
  all_goals first | rfl | (exfalso; omega) | simp_all | (exfalso; simp_all; omega)
theorem own_fin2 {v0 v1 v2 v3 v4 v5 : Int32} (h : v0 ≤ v1 ∧ v1 < v2 ∧ v2 ≤ v3 ∧ v3 < v4 ∧ v4 ≤ v5) (c : Int32) : own_h2 v0 v1 c = own_or (own_in v0 c v1) 0 0 := by
  simp only [Int32.le_iff_toInt_le, Int32.lt_iff_toInt_lt] at h
  unfold own_h2 own_or
  try unfold own_in
  simp only [Int32.lt_iff_toInt_lt]
  repeat' split
  all_goals first | rfl | (exfalso; omega) | simp_all | (exfalso; simp_all; omega)
theorem own_fin4 {v0 v1 v2 v3 v4 v5 : Int32} (h : v0 ≤ v1 ∧ v1 < v2 ∧ v2 ≤ v3 ∧ v3 < v4 ∧ v4 ≤ v5) (c : Int32) : own_h4 v0 v1 v2 v3 c = own_or (own_in v0 c v1) (own_in v2 c v3) 0 := by
  simp only [Int32.le_iff_toInt_le, Int32.lt_iff_toInt_lt] at h
  unfold own_h4 own_or
  try unfold own_in
  simp only [Int32.lt_iff_toInt_lt]
  repeat' split
  all_goals first | rfl | (exfalso; omega) | simp_all | (exfalso; simp_all; omega)
theorem own_fin6 {v0 v1 v2 v3 v4 v5 : Int32} (h : v0 ≤ v1 ∧ v1 < v2 ∧ v2 ≤ v3 ∧ v3 < v4 ∧ v4 ≤ v5) (c : Int32) : own_h6 v0 v1 v2 v3 v4 v5 c = own_or (own_in v0 c v1) (own_in v2 c v3) (own_in v4 c v5) := by
  simp only [Int32.le_iff_toInt_le, Int32.lt_iff_toInt_lt] at h
  unfold own_h6 own_or
  try unfold own_in
  simp only [Int32.lt_iff_toInt_lt]
  repeat' split
  all_goals first | rfl | (exfalso; omega) | simp_all | (exfalso; simp_all; omega)
theorem own_b (x : Int32) (n : UInt32) : 0 ≤ ((x.toUInt32 >>> n).toInt32 &&& 255).toInt ∧ ((x.toUInt32 >>> n).toInt32 &&& 255).toInt ≤ 255 := by
  rw [Jvm.Kit.i32_mask _ 255 (k := 8) (by decide) (by decide)]; omega
theorem own_b0 (x : Int32) : 0 ≤ (x &&& 255).toInt ∧ (x &&& 255).toInt ≤ 255 := by
  rw [Jvm.Kit.i32_mask _ 255 (k := 8) (by decide) (by decide)]; omega
theorem own_ord {a b1 b2 b3 b4 b5 : Int32} (ha : 0 ≤ a.toInt ∧ a.toInt ≤ 2097151) (h1 : 0 ≤ b1.toInt ∧ b1.toInt ≤ 255) (h2 : 0 ≤ b2.toInt ∧ b2.toInt ≤ 255) (h3 : 0 ≤ b3.toInt ∧ b3.toInt ≤ 255) (h4 : 0 ≤ b4.toInt ∧ b4.toInt ≤ 255) (h5 : 0 ≤ b5.toInt ∧ b5.toInt ≤ 255) :
    a ≤ a + b1 ∧ a + b1 < a + b1 + 2 + b2 ∧ a + b1 + 2 + b2 ≤ a + b1 + 2 + b2 + b3 ∧ a + b1 + 2 + b2 + b3 < a + b1 + 2 + b2 + b3 + 2 + b4 ∧ a + b1 + 2 + b2 + b3 + 2 + b4 ≤ a + b1 + 2 + b2 + b3 + 2 + b4 + b5 := by
  have e2 : (2 : Int32).toInt = 2 := by decide
  have s1 := Jvm.Kit.i32_add (p := a) (q := b1) (by omega) (by omega)
  have s2 := Jvm.Kit.i32_add (p := a + b1) (q := 2) (by omega) (by omega)
  have s3 := Jvm.Kit.i32_add (p := a + b1 + 2) (q := b2) (by omega) (by omega)
  have s4 := Jvm.Kit.i32_add (p := a + b1 + 2 + b2) (q := b3) (by omega) (by omega)
  have s5 := Jvm.Kit.i32_add (p := a + b1 + 2 + b2 + b3) (q := 2) (by omega) (by omega)
  have s6 := Jvm.Kit.i32_add (p := a + b1 + 2 + b2 + b3 + 2) (q := b4) (by omega) (by omega)
  have s7 := Jvm.Kit.i32_add (p := a + b1 + 2 + b2 + b3 + 2 + b4) (q := b5) (by omega) (by omega)
  simp only [Int32.le_iff_toInt_le, Int32.lt_iff_toInt_lt]
  omega
theorem own_k (x : Int32) : (x &&& 3) = 0 ∨ (x &&& 3) = 1 ∨ (x &&& 3) = 2 ∨ (x &&& 3) = 3 := by
  have h := Jvm.Kit.i32_mask x 3 (k := 2) (by decide) (by decide)
  have e0 : (0 : Int32).toInt = 0 := by decide
  have e1 : (1 : Int32).toInt = 1 := by decide
  have e2 : (2 : Int32).toInt = 2 := by decide
  have e3 : (3 : Int32).toInt = 3 := by decide
  simp only [← Int32.toInt_inj, e0, e1, e2, e3, h]
  omega
theorem d1_0 : decode prog_20_method_4_code 0 = .ok (.iconst 0, 1) := by decide +kernel
theorem d1_1 : decode prog_20_method_4_code 1 = .ok (.istore_n 2, 1) := by decide +kernel
theorem d1_2 : decode prog_20_method_4_code 2 = .ok (.iload_n 2, 1) := by decide +kernel
theorem d1_3 : decode prog_20_method_4_code 3 = .ok (.aload_n 0, 1) := by decide +kernel
theorem d1_4 : decode prog_20_method_4_code 4 = .ok (.arraylength, 1) := by decide +kernel
theorem d1_5 : decode prog_20_method_4_code 5 = .ok (.if_icmp .ge 27, 3) := by decide +kernel
theorem d1_32 : decode prog_20_method_4_code 32 = .ok (.iconst 0, 1) := by decide +kernel
theorem d1_33 : decode prog_20_method_4_code 33 = .ok (.ireturn, 1) := by decide +kernel
theorem pn_1h0 : plainName "com/example/raccordo/raccordo/flow/PatternSyntax" = true := by first | (simp [plainName, overriddenIn]; done) | decide +kernel
theorem ef_1h0 (m : MethodId) (a1 : Addr) (cp : Int32) : entryFrame m #[(.ref a1), (.int cp)] 3 = mkF m 0 #[.val (.ref a1), .val (.int cp), .unset] [] := by first | (simp [entryFrame, mkF, argsToLocals, Value.category]; done) | rfl
def Q1h0 (Z : State) (a1 : Addr) (cp : Int32) (k1 : ClassId) (dv : Value) (h0 : Heap) (n0 : Nat) (v : Option Value) (h : Heap) (L : List Loc) : Prop := v = some (.int (own_h0 cp)) ∧ Fr n0 L ∧ (h = h0)
set_option maxRecDepth 65536 in
set_option maxHeartbeats 40000000 in
theorem rm1h0 (l : Launch) (Z : State) (a0 : Array Value) (hw : ∀ d ∈ tables_1, d.before a0 Z = true) (ws : List Jvm.Cond) (a1 : Addr) (cp : Int32) (k1 : ClassId) (dv : Value) (h0 : Heap) (n0 : Nat) (Z0 : n0 ≤ h0.size) (P0 : Arv Z h0 a1 k1 .int (0 : Int32) [] dv) :
    MetFree l (⟨"com/example/raccordo/raccordo/flow/PatternSyntax", "holds", "([II)Z"⟩ : MethodName) (head1 (Jvm.Cond.code (⟨"com/example/raccordo/raccordo/flow/PatternSyntax", "holds", "([II)Z"⟩ : MethodName) prog_20_method_4_code 3 (some .boolean) :: ws) ({ frames := 0, cells := 0, slots := 0, locals := 0 } : Room)) (fun a U => a = #[(.ref a1), (.int cp)] ∧ Z.Warmed39 U.vm ∧ U.heap = h0) (fun _ _ _ _ _ => True) (fun _ U o U' => ∃ v L, o = .returned v ∧ Q1h0 Z a1 cp k1 dv h0 n0 v U'.heap L ∧ FrameEnd U o U' L ({ frames := 0, cells := 0, slots := 0, locals := 0 } : Room).cells ({ frames := 0, cells := 0, slots := 0, locals := 0 } : Room).slots) := by
  refine MetFree.of_bodySF (plainFor_of_name pn_1h0) hisR ?_
  intro p e s m args below meth c s₁ Bd hml0 hP hK
  obtain ⟨rfl, hZ, hh⟩ := hP
  have hx := Bd.exec
  have hby := Bd.bytes
  have hml : c.maxLocals = 3 := hml0
  have hown : s.vm.findClass "com/example/raccordo/raccordo/flow/PatternSyntax" = some m.cls := findClass_of_methodNamed Bd.named
  have hnm := (name_of_methodNamed Bd.named Bd.method).1
  have X0 : Stand p l e ({ frames := 0, cells := 0, slots := 0, locals := 0 } : Room) s m #[(.ref a1), (.int cp)] below meth c s₁ [] 0 0 := Stand.of_body Bd
  have e0 : s₁.heap = h0 := by rw [← hh, Bd.state]; rfl
  have N0 := Fr.nil n0
  have hS0 : s.Since s.vm 0 := (State.WarmedH.refl s).since 0
  show Go FrameEnd p e below s ({ frames := 0, cells := 0, slots := 0, locals := 0 } : Room).cells ({ frames := 0, cells := 0, slots := 0, locals := 0 } : Room).slots (Q1h0 Z a1 cp k1 dv h0 n0) (s₁.setTop (entryFrame m #[(.ref a1), (.int cp)] 3))
  refine go (fun _ k => castTop (ef_1h0 m a1 cp) k) ?_
  show Go _ p e below s _ _ _ (s₁.setTop (mkF m 0 #[.val (.ref a1), .val (.int cp), .unset] []))
  refine go (fun _ => XS.iconst X0.here hx rfl (hb hby d1_0)) ?_
  show Go _ p e below s _ _ _ (s₁.setTop (mkF m 1 #[.val (.ref a1), .val (.int cp), .unset] [(.int (0 : Int32))]))
  refine go (fun _ => XS.istoreN X0.here hx rfl (hb hby d1_1) rfl (l' := #[.val (.ref a1), .val (.int cp), .val (.int (0 : Int32))]) rfl) ?_
  show Go _ p e below s _ _ _ (s₁.setTop (mkF m 2 #[.val (.ref a1), .val (.int cp), .val (.int (0 : Int32))] []))
  refine go (fun _ => XS.iloadN X0.here hx rfl (hb hby d1_2) rfl) ?_
  show Go _ p e below s _ _ _ (s₁.setTop (mkF m 3 #[.val (.ref a1), .val (.int cp), .val (.int (0 : Int32))] [(.int (0 : Int32))]))
  refine go (fun _ => XS.aloadN X0.here hx rfl (hb hby d1_3) rfl rfl) ?_
  show Go _ p e below s _ _ _ (s₁.setTop (mkF m 4 #[.val (.ref a1), .val (.int cp), .val (.int (0 : Int32))] [(.ref a1), (.int (0 : Int32))]))
  obtain ⟨cl2, Ar2, -, Sz2, Nz2, -, -⟩ := id P0
  refine go (X0.arraylength hx (by rw [e0]; exact Ar2.1) (State.isArrayOf_alike hZ.alike Ar2.2.1) (g := (mkF m 4 #[.val (.ref a1), .val (.int cp), .val (.int (0 : Int32))] [(.ref a1), (.int (0 : Int32))])) rfl rfl (hb hby d1_4)) ?_
  rw [len_of Sz2 Nz2]
  show Go _ p e below s _ _ _ (s₁.setTop (mkF m 5 #[.val (.ref a1), .val (.int cp), .val (.int (0 : Int32))] [(.int (0 : Int32)), (.int (0 : Int32))]))
  refine go (fun _ => XS.icmpYes X0.here hx rfl (pc0 := 5) (pc' := 32) rfl (hb hby d1_5) rfl (flt (by decide : ¬ ((0 : Int32) < (0 : Int32)))).2.1 (by decide) (by decide)) ?_
  show Go _ p e below s _ _ _ (s₁.setTop (mkF m 32 #[.val (.ref a1), .val (.int cp), .val (.int (0 : Int32))] []))
  refine go (fun _ => XS.iconst X0.here hx rfl (hb hby d1_32)) ?_
  show Go _ p e below s _ _ _ (s₁.setTop (mkF m 33 #[.val (.ref a1), .val (.int cp), .val (.int (0 : Int32))] [(.int (0 : Int32))]))
  refine goRet X0 hx Bd.notSynchronized Bd.returns rfl (Or.inl ⟨rfl, Or.inr (Or.inl rfl), _, rfl⟩) (hb hby d1_33) (by decide) (by decide) (by rw [e0]; refine ⟨rfl, N0, rfl⟩)
theorem d1_8 : decode prog_20_method_4_code 8 = .ok (.aload_n 0, 1) := by decide +kernel
theorem d1_9 : decode prog_20_method_4_code 9 = .ok (.iload_n 2, 1) := by decide +kernel
theorem d1_10 : decode prog_20_method_4_code 10 = .ok (.iaload, 1) := by decide +kernel
theorem d1_11 : decode prog_20_method_4_code 11 = .ok (.iload_n 1, 1) := by decide +kernel
theorem d1_12 : decode prog_20_method_4_code 12 = .ok (.if_icmp .gt 20, 3) := by decide +kernel
theorem d1_15 : decode prog_20_method_4_code 15 = .ok (.iload_n 1, 1) := by decide +kernel
theorem d1_16 : decode prog_20_method_4_code 16 = .ok (.aload_n 0, 1) := by decide +kernel
theorem d1_17 : decode prog_20_method_4_code 17 = .ok (.iload_n 2, 1) := by decide +kernel
theorem d1_18 : decode prog_20_method_4_code 18 = .ok (.iconst 1, 1) := by decide +kernel
theorem d1_19 : decode prog_20_method_4_code 19 = .ok (.iadd, 1) := by decide +kernel
theorem d1_20 : decode prog_20_method_4_code 20 = .ok (.iaload, 1) := by decide +kernel
theorem d1_21 : decode prog_20_method_4_code 21 = .ok (.if_icmp .gt 5, 3) := by decide +kernel
theorem d1_24 : decode prog_20_method_4_code 24 = .ok (.iconst 1, 1) := by decide +kernel
theorem d1_25 : decode prog_20_method_4_code 25 = .ok (.ireturn, 1) := by decide +kernel
theorem d1_26 : decode prog_20_method_4_code 26 = .ok (.iinc 2 2, 3) := by decide +kernel
theorem d1_29 : decode prog_20_method_4_code 29 = .ok (.goto (-27), 3) := by decide +kernel
theorem pn_1h2 : plainName "com/example/raccordo/raccordo/flow/PatternSyntax" = true := by first | (simp [plainName, overriddenIn]; done) | decide +kernel
theorem ef_1h2 (m : MethodId) (a1 : Addr) (cp : Int32) : entryFrame m #[(.ref a1), (.int cp)] 3 = mkF m 0 #[.val (.ref a1), .val (.int cp), .unset] [] := by first | (simp [entryFrame, mkF, argsToLocals, Value.category]; done) | rfl
def Q1h2 (Z : State) (a1 : Addr) (cp : Int32) (k1 : ClassId) (v0 : Int32) (v1 : Int32) (dv : Value) (h0 : Heap) (n0 : Nat) (v : Option Value) (h : Heap) (L : List Loc) : Prop := v = some (.int (own_h2 v0 v1 cp)) ∧ Fr n0 L ∧ (h = h0)
set_option maxRecDepth 65536 in
set_option maxHeartbeats 40000000 in
theorem rm1h2 (l : Launch) (Z : State) (a0 : Array Value) (hw : ∀ d ∈ tables_1, d.before a0 Z = true) (ws : List Jvm.Cond) (a1 : Addr) (cp : Int32) (k1 : ClassId) (v0 : Int32) (v1 : Int32) (dv : Value) (h0 : Heap) (n0 : Nat) (Z0 : n0 ≤ h0.size) (P0 : Arv Z h0 a1 k1 .int (2 : Int32) [(.int v0), (.int v1)] dv) :
    MetFree l (⟨"com/example/raccordo/raccordo/flow/PatternSyntax", "holds", "([II)Z"⟩ : MethodName) (head1 (Jvm.Cond.code (⟨"com/example/raccordo/raccordo/flow/PatternSyntax", "holds", "([II)Z"⟩ : MethodName) prog_20_method_4_code 3 (some .boolean) :: ws) ({ frames := 0, cells := 0, slots := 0, locals := 0 } : Room)) (fun a U => a = #[(.ref a1), (.int cp)] ∧ Z.Warmed39 U.vm ∧ U.heap = h0) (fun _ _ _ _ _ => True) (fun _ U o U' => ∃ v L, o = .returned v ∧ Q1h2 Z a1 cp k1 v0 v1 dv h0 n0 v U'.heap L ∧ FrameEnd U o U' L ({ frames := 0, cells := 0, slots := 0, locals := 0 } : Room).cells ({ frames := 0, cells := 0, slots := 0, locals := 0 } : Room).slots) := by
  refine MetFree.of_bodySF (plainFor_of_name pn_1h2) hisR ?_
  intro p e s m args below meth c s₁ Bd hml0 hP hK
  obtain ⟨rfl, hZ, hh⟩ := hP
  have hx := Bd.exec
  have hby := Bd.bytes
  have hml : c.maxLocals = 3 := hml0
  have hown : s.vm.findClass "com/example/raccordo/raccordo/flow/PatternSyntax" = some m.cls := findClass_of_methodNamed Bd.named
  have hnm := (name_of_methodNamed Bd.named Bd.method).1
  have X0 : Stand p l e ({ frames := 0, cells := 0, slots := 0, locals := 0 } : Room) s m #[(.ref a1), (.int cp)] below meth c s₁ [] 0 0 := Stand.of_body Bd
  have e0 : s₁.heap = h0 := by rw [← hh, Bd.state]; rfl
  have N0 := Fr.nil n0
  have hS0 : s.Since s.vm 0 := (State.WarmedH.refl s).since 0
  show Go FrameEnd p e below s ({ frames := 0, cells := 0, slots := 0, locals := 0 } : Room).cells ({ frames := 0, cells := 0, slots := 0, locals := 0 } : Room).slots (Q1h2 Z a1 cp k1 v0 v1 dv h0 n0) (s₁.setTop (entryFrame m #[(.ref a1), (.int cp)] 3))
  refine go (fun _ k => castTop (ef_1h2 m a1 cp) k) ?_
  show Go _ p e below s _ _ _ (s₁.setTop (mkF m 0 #[.val (.ref a1), .val (.int cp), .unset] []))
  refine go (fun _ => XS.iconst X0.here hx rfl (hb hby d1_0)) ?_
  show Go _ p e below s _ _ _ (s₁.setTop (mkF m 1 #[.val (.ref a1), .val (.int cp), .unset] [(.int (0 : Int32))]))
  refine go (fun _ => XS.istoreN X0.here hx rfl (hb hby d1_1) rfl (l' := #[.val (.ref a1), .val (.int cp), .val (.int (0 : Int32))]) rfl) ?_
  show Go _ p e below s _ _ _ (s₁.setTop (mkF m 2 #[.val (.ref a1), .val (.int cp), .val (.int (0 : Int32))] []))
  refine go (fun _ => XS.iloadN X0.here hx rfl (hb hby d1_2) rfl) ?_
  show Go _ p e below s _ _ _ (s₁.setTop (mkF m 3 #[.val (.ref a1), .val (.int cp), .val (.int (0 : Int32))] [(.int (0 : Int32))]))
  refine go (fun _ => XS.aloadN X0.here hx rfl (hb hby d1_3) rfl rfl) ?_
  show Go _ p e below s _ _ _ (s₁.setTop (mkF m 4 #[.val (.ref a1), .val (.int cp), .val (.int (0 : Int32))] [(.ref a1), (.int (0 : Int32))]))
  obtain ⟨cl9, Ar9, -, Sz9, Nz9, -, -⟩ := id P0
  refine go (X0.arraylength hx (by rw [e0]; exact Ar9.1) (State.isArrayOf_alike hZ.alike Ar9.2.1) (g := (mkF m 4 #[.val (.ref a1), .val (.int cp), .val (.int (0 : Int32))] [(.ref a1), (.int (0 : Int32))])) rfl rfl (hb hby d1_4)) ?_
  rw [len_of Sz9 Nz9]
  show Go _ p e below s _ _ _ (s₁.setTop (mkF m 5 #[.val (.ref a1), .val (.int cp), .val (.int (0 : Int32))] [(.int (2 : Int32)), (.int (0 : Int32))]))
  refine go (fun _ => XS.icmpNo X0.here hx rfl (hb hby d1_5) rfl (tlt (by decide : ((0 : Int32) < (2 : Int32)))).2.1) ?_
  show Go _ p e below s _ _ _ (s₁.setTop (mkF m 8 #[.val (.ref a1), .val (.int cp), .val (.int (0 : Int32))] []))
  refine go (fun _ => XS.aloadN X0.here hx rfl (hb hby d1_8) rfl rfl) ?_
  show Go _ p e below s _ _ _ (s₁.setTop (mkF m 9 #[.val (.ref a1), .val (.int cp), .val (.int (0 : Int32))] [(.ref a1)]))
  refine go (fun _ => XS.iloadN X0.here hx rfl (hb hby d1_9) rfl) ?_
  show Go _ p e below s _ _ _ (s₁.setTop (mkF m 10 #[.val (.ref a1), .val (.int cp), .val (.int (0 : Int32))] [(.int (0 : Int32)), (.ref a1)]))
  obtain ⟨cl10, Ar10, q10, Sz10, Nz10, Hs10, Gs10⟩ := id P0
  have hin10 : ¬ ((0 : Int32) < 0 ∨ cl10.slots.size ≤ ((0 : Int32)).toNatClampNeg) := inb_of Sz10 ⟨by decide, by decide⟩
  refine go (X0.iaload hx (j := (0 : Int32)) (v := (.int v0)) (by rw [e0]; exact Ar10.1) (State.isArrayOf_alike hZ.alike Ar10.2.1) Ar10.2.2 hin10 (Hs10.at hin10 rfl) (g := (mkF m 10 #[.val (.ref a1), .val (.int cp), .val (.int (0 : Int32))] [(.int (0 : Int32)), (.ref a1)])) rfl rfl (hb hby d1_10)) ?_
  show Go _ p e below s _ _ _ (s₁.setTop (mkF m 11 #[.val (.ref a1), .val (.int cp), .val (.int (0 : Int32))] [(.int v0)]))
  refine go (fun _ => XS.iloadN X0.here hx rfl (hb hby d1_11) rfl) ?_
  show Go _ p e below s _ _ _ (s₁.setTop (mkF m 12 #[.val (.ref a1), .val (.int cp), .val (.int (0 : Int32))] [(.int cp), (.int v0)]))
  by_cases hc12_11 : cp < v0
  · refine go (fun _ => XS.icmpYes X0.here hx rfl (pc0 := 12) (pc' := 32) rfl (hb hby d1_12) rfl (tlt hc12_11).2.2.1 (by decide) (by decide)) ?_
    show Go _ p e below s _ _ _ (s₁.setTop (mkF m 32 #[.val (.ref a1), .val (.int cp), .val (.int (0 : Int32))] []))
    refine go (fun _ => XS.iconst X0.here hx rfl (hb hby d1_32)) ?_
    show Go _ p e below s _ _ _ (s₁.setTop (mkF m 33 #[.val (.ref a1), .val (.int cp), .val (.int (0 : Int32))] [(.int (0 : Int32))]))
    refine goRet X0 hx Bd.notSynchronized Bd.returns rfl (Or.inl ⟨rfl, Or.inr (Or.inl rfl), _, rfl⟩) (hb hby d1_33) (by decide) (by decide) (by rw [e0]; refine ⟨(by unfold own_h2; simp only [if_pos hc12_11]), N0, rfl⟩)
  · refine go (fun _ => XS.icmpNo X0.here hx rfl (hb hby d1_12) rfl (flt hc12_11).2.2.1) ?_
    show Go _ p e below s _ _ _ (s₁.setTop (mkF m 15 #[.val (.ref a1), .val (.int cp), .val (.int (0 : Int32))] []))
    refine go (fun _ => XS.iloadN X0.here hx rfl (hb hby d1_15) rfl) ?_
    show Go _ p e below s _ _ _ (s₁.setTop (mkF m 16 #[.val (.ref a1), .val (.int cp), .val (.int (0 : Int32))] [(.int cp)]))
    refine go (fun _ => XS.aloadN X0.here hx rfl (hb hby d1_16) rfl rfl) ?_
    show Go _ p e below s _ _ _ (s₁.setTop (mkF m 17 #[.val (.ref a1), .val (.int cp), .val (.int (0 : Int32))] [(.ref a1), (.int cp)]))
    refine go (fun _ => XS.iloadN X0.here hx rfl (hb hby d1_17) rfl) ?_
    show Go _ p e below s _ _ _ (s₁.setTop (mkF m 18 #[.val (.ref a1), .val (.int cp), .val (.int (0 : Int32))] [(.int (0 : Int32)), (.ref a1), (.int cp)]))
    refine go (fun _ => XS.iconst X0.here hx rfl (hb hby d1_18)) ?_
    show Go _ p e below s _ _ _ (s₁.setTop (mkF m 19 #[.val (.ref a1), .val (.int cp), .val (.int (0 : Int32))] [(.int (1 : Int32)), (.int (0 : Int32)), (.ref a1), (.int cp)]))
    refine go (fun _ => XS.iadd X0.here hx rfl (hb hby d1_19) rfl) ?_
    show Go _ p e below s _ _ _ (s₁.setTop (mkF m 20 #[.val (.ref a1), .val (.int cp), .val (.int (0 : Int32))] [(.int (1 : Int32)), (.ref a1), (.int cp)]))
    obtain ⟨cl12, Ar12, q12, Sz12, Nz12, Hs12, Gs12⟩ := id P0
    have hin12 : ¬ ((1 : Int32) < 0 ∨ cl12.slots.size ≤ ((1 : Int32)).toNatClampNeg) := inb_of Sz12 ⟨by decide, by decide⟩
    refine go (X0.iaload hx (j := (1 : Int32)) (v := (.int v1)) (by rw [e0]; exact Ar12.1) (State.isArrayOf_alike hZ.alike Ar12.2.1) Ar12.2.2 hin12 (Hs12.at hin12 rfl) (g := (mkF m 20 #[.val (.ref a1), .val (.int cp), .val (.int (0 : Int32))] [(.int (1 : Int32)), (.ref a1), (.int cp)])) rfl rfl (hb hby d1_20)) ?_
    show Go _ p e below s _ _ _ (s₁.setTop (mkF m 21 #[.val (.ref a1), .val (.int cp), .val (.int (0 : Int32))] [(.int v1), (.int cp)]))
    by_cases hc21_13 : v1 < cp
    · refine go (fun _ => XS.icmpYes X0.here hx rfl (pc0 := 21) (pc' := 26) rfl (hb hby d1_21) rfl (tlt hc21_13).2.2.1 (by decide) (by decide)) ?_
      show Go _ p e below s _ _ _ (s₁.setTop (mkF m 26 #[.val (.ref a1), .val (.int cp), .val (.int (0 : Int32))] []))
      refine go (fun _ => XS.iinc X0.here hx rfl (hb hby d1_26) rfl (l' := #[.val (.ref a1), .val (.int cp), .val (.int (2 : Int32))]) rfl) ?_
      show Go _ p e below s _ _ _ (s₁.setTop (mkF m 29 #[.val (.ref a1), .val (.int cp), .val (.int (2 : Int32))] []))
      refine go (fun _ => XS.goto X0.here hx rfl (pc0 := 29) (pc' := 2) rfl (hb hby d1_29) (by decide) (by decide)) ?_
      show Go _ p e below s _ _ _ (s₁.setTop (mkF m 2 #[.val (.ref a1), .val (.int cp), .val (.int (2 : Int32))] []))
      refine go (fun _ => XS.iloadN X0.here hx rfl (hb hby d1_2) rfl) ?_
      show Go _ p e below s _ _ _ (s₁.setTop (mkF m 3 #[.val (.ref a1), .val (.int cp), .val (.int (2 : Int32))] [(.int (2 : Int32))]))
      refine go (fun _ => XS.aloadN X0.here hx rfl (hb hby d1_3) rfl rfl) ?_
      show Go _ p e below s _ _ _ (s₁.setTop (mkF m 4 #[.val (.ref a1), .val (.int cp), .val (.int (2 : Int32))] [(.ref a1), (.int (2 : Int32))]))
      obtain ⟨cl14, Ar14, -, Sz14, Nz14, -, -⟩ := id P0
      refine go (X0.arraylength hx (by rw [e0]; exact Ar14.1) (State.isArrayOf_alike hZ.alike Ar14.2.1) (g := (mkF m 4 #[.val (.ref a1), .val (.int cp), .val (.int (2 : Int32))] [(.ref a1), (.int (2 : Int32))])) rfl rfl (hb hby d1_4)) ?_
      rw [len_of Sz14 Nz14]
      show Go _ p e below s _ _ _ (s₁.setTop (mkF m 5 #[.val (.ref a1), .val (.int cp), .val (.int (2 : Int32))] [(.int (2 : Int32)), (.int (2 : Int32))]))
      refine go (fun _ => XS.icmpYes X0.here hx rfl (pc0 := 5) (pc' := 32) rfl (hb hby d1_5) rfl (flt (by decide : ¬ ((2 : Int32) < (2 : Int32)))).2.1 (by decide) (by decide)) ?_
      show Go _ p e below s _ _ _ (s₁.setTop (mkF m 32 #[.val (.ref a1), .val (.int cp), .val (.int (2 : Int32))] []))
      refine go (fun _ => XS.iconst X0.here hx rfl (hb hby d1_32)) ?_
      show Go _ p e below s _ _ _ (s₁.setTop (mkF m 33 #[.val (.ref a1), .val (.int cp), .val (.int (2 : Int32))] [(.int (0 : Int32))]))
      refine goRet X0 hx Bd.notSynchronized Bd.returns rfl (Or.inl ⟨rfl, Or.inr (Or.inl rfl), _, rfl⟩) (hb hby d1_33) (by decide) (by decide) (by rw [e0]; refine ⟨(by unfold own_h2; simp only [if_neg hc12_11, if_pos hc21_13]), N0, rfl⟩)
    · refine go (fun _ => XS.icmpNo X0.here hx rfl (hb hby d1_21) rfl (flt hc21_13).2.2.1) ?_
      show Go _ p e below s _ _ _ (s₁.setTop (mkF m 24 #[.val (.ref a1), .val (.int cp), .val (.int (0 : Int32))] []))
      refine go (fun _ => XS.iconst X0.here hx rfl (hb hby d1_24)) ?_
      show Go _ p e below s _ _ _ (s₁.setTop (mkF m 25 #[.val (.ref a1), .val (.int cp), .val (.int (0 : Int32))] [(.int (1 : Int32))]))
      refine goRet X0 hx Bd.notSynchronized Bd.returns rfl (Or.inl ⟨rfl, Or.inr (Or.inl rfl), _, rfl⟩) (hb hby d1_25) (by decide) (by decide) (by rw [e0]; refine ⟨(by unfold own_h2; simp only [if_neg hc12_11, if_neg hc21_13]), N0, rfl⟩)
theorem pn_1h4 : plainName "com/example/raccordo/raccordo/flow/PatternSyntax" = true := by first | (simp [plainName, overriddenIn]; done) | decide +kernel
theorem ef_1h4 (m : MethodId) (a1 : Addr) (cp : Int32) : entryFrame m #[(.ref a1), (.int cp)] 3 = mkF m 0 #[.val (.ref a1), .val (.int cp), .unset] [] := by first | (simp [entryFrame, mkF, argsToLocals, Value.category]; done) | rfl
def Q1h4 (Z : State) (a1 : Addr) (cp : Int32) (k1 : ClassId) (v0 : Int32) (v1 : Int32) (v2 : Int32) (v3 : Int32) (dv : Value) (h0 : Heap) (n0 : Nat) (v : Option Value) (h : Heap) (L : List Loc) : Prop := v = some (.int (own_h4 v0 v1 v2 v3 cp)) ∧ Fr n0 L ∧ (h = h0)
set_option maxRecDepth 65536 in
set_option maxHeartbeats 40000000 in
theorem rm1h4 (l : Launch) (Z : State) (a0 : Array Value) (hw : ∀ d ∈ tables_1, d.before a0 Z = true) (ws : List Jvm.Cond) (a1 : Addr) (cp : Int32) (k1 : ClassId) (v0 : Int32) (v1 : Int32) (v2 : Int32) (v3 : Int32) (dv : Value) (h0 : Heap) (n0 : Nat) (Z0 : n0 ≤ h0.size) (P0 : Arv Z h0 a1 k1 .int (4 : Int32) [(.int v0), (.int v1), (.int v2), (.int v3)] dv) :
    MetFree l (⟨"com/example/raccordo/raccordo/flow/PatternSyntax", "holds", "([II)Z"⟩ : MethodName) (head1 (Jvm.Cond.code (⟨"com/example/raccordo/raccordo/flow/PatternSyntax", "holds", "([II)Z"⟩ : MethodName) prog_20_method_4_code 3 (some .boolean) :: ws) ({ frames := 0, cells := 0, slots := 0, locals := 0 } : Room)) (fun a U => a = #[(.ref a1), (.int cp)] ∧ Z.Warmed39 U.vm ∧ U.heap = h0) (fun _ _ _ _ _ => True) (fun _ U o U' => ∃ v L, o = .returned v ∧ Q1h4 Z a1 cp k1 v0 v1 v2 v3 dv h0 n0 v U'.heap L ∧ FrameEnd U o U' L ({ frames := 0, cells := 0, slots := 0, locals := 0 } : Room).cells ({ frames := 0, cells := 0, slots := 0, locals := 0 } : Room).slots) := by
  refine MetFree.of_bodySF (plainFor_of_name pn_1h4) hisR ?_
  intro p e s m args below meth c s₁ Bd hml0 hP hK
  obtain ⟨rfl, hZ, hh⟩ := hP
  have hx := Bd.exec
  have hby := Bd.bytes
  have hml : c.maxLocals = 3 := hml0
  have hown : s.vm.findClass "com/example/raccordo/raccordo/flow/PatternSyntax" = some m.cls := findClass_of_methodNamed Bd.named
  have hnm := (name_of_methodNamed Bd.named Bd.method).1
  have X0 : Stand p l e ({ frames := 0, cells := 0, slots := 0, locals := 0 } : Room) s m #[(.ref a1), (.int cp)] below meth c s₁ [] 0 0 := Stand.of_body Bd
  have e0 : s₁.heap = h0 := by rw [← hh, Bd.state]; rfl
  have N0 := Fr.nil n0
  have hS0 : s.Since s.vm 0 := (State.WarmedH.refl s).since 0
  show Go FrameEnd p e below s ({ frames := 0, cells := 0, slots := 0, locals := 0 } : Room).cells ({ frames := 0, cells := 0, slots := 0, locals := 0 } : Room).slots (Q1h4 Z a1 cp k1 v0 v1 v2 v3 dv h0 n0) (s₁.setTop (entryFrame m #[(.ref a1), (.int cp)] 3))
  refine go (fun _ k => castTop (ef_1h4 m a1 cp) k) ?_
  show Go _ p e below s _ _ _ (s₁.setTop (mkF m 0 #[.val (.ref a1), .val (.int cp), .unset] []))
  refine go (fun _ => XS.iconst X0.here hx rfl (hb hby d1_0)) ?_
  show Go _ p e below s _ _ _ (s₁.setTop (mkF m 1 #[.val (.ref a1), .val (.int cp), .unset] [(.int (0 : Int32))]))
  refine go (fun _ => XS.istoreN X0.here hx rfl (hb hby d1_1) rfl (l' := #[.val (.ref a1), .val (.int cp), .val (.int (0 : Int32))]) rfl) ?_
  show Go _ p e below s _ _ _ (s₁.setTop (mkF m 2 #[.val (.ref a1), .val (.int cp), .val (.int (0 : Int32))] []))
  refine go (fun _ => XS.iloadN X0.here hx rfl (hb hby d1_2) rfl) ?_
  show Go _ p e below s _ _ _ (s₁.setTop (mkF m 3 #[.val (.ref a1), .val (.int cp), .val (.int (0 : Int32))] [(.int (0 : Int32))]))
  refine go (fun _ => XS.aloadN X0.here hx rfl (hb hby d1_3) rfl rfl) ?_
  show Go _ p e below s _ _ _ (s₁.setTop (mkF m 4 #[.val (.ref a1), .val (.int cp), .val (.int (0 : Int32))] [(.ref a1), (.int (0 : Int32))]))
  obtain ⟨cl26, Ar26, -, Sz26, Nz26, -, -⟩ := id P0
  refine go (X0.arraylength hx (by rw [e0]; exact Ar26.1) (State.isArrayOf_alike hZ.alike Ar26.2.1) (g := (mkF m 4 #[.val (.ref a1), .val (.int cp), .val (.int (0 : Int32))] [(.ref a1), (.int (0 : Int32))])) rfl rfl (hb hby d1_4)) ?_
  rw [len_of Sz26 Nz26]
  show Go _ p e below s _ _ _ (s₁.setTop (mkF m 5 #[.val (.ref a1), .val (.int cp), .val (.int (0 : Int32))] [(.int (4 : Int32)), (.int (0 : Int32))]))
  refine go (fun _ => XS.icmpNo X0.here hx rfl (hb hby d1_5) rfl (tlt (by decide : ((0 : Int32) < (4 : Int32)))).2.1) ?_
  show Go _ p e below s _ _ _ (s₁.setTop (mkF m 8 #[.val (.ref a1), .val (.int cp), .val (.int (0 : Int32))] []))
  refine go (fun _ => XS.aloadN X0.here hx rfl (hb hby d1_8) rfl rfl) ?_
  show Go _ p e below s _ _ _ (s₁.setTop (mkF m 9 #[.val (.ref a1), .val (.int cp), .val (.int (0 : Int32))] [(.ref a1)]))
  refine go (fun _ => XS.iloadN X0.here hx rfl (hb hby d1_9) rfl) ?_
  show Go _ p e below s _ _ _ (s₁.setTop (mkF m 10 #[.val (.ref a1), .val (.int cp), .val (.int (0 : Int32))] [(.int (0 : Int32)), (.ref a1)]))
  obtain ⟨cl27, Ar27, q27, Sz27, Nz27, Hs27, Gs27⟩ := id P0
  have hin27 : ¬ ((0 : Int32) < 0 ∨ cl27.slots.size ≤ ((0 : Int32)).toNatClampNeg) := inb_of Sz27 ⟨by decide, by decide⟩
  refine go (X0.iaload hx (j := (0 : Int32)) (v := (.int v0)) (by rw [e0]; exact Ar27.1) (State.isArrayOf_alike hZ.alike Ar27.2.1) Ar27.2.2 hin27 (Hs27.at hin27 rfl) (g := (mkF m 10 #[.val (.ref a1), .val (.int cp), .val (.int (0 : Int32))] [(.int (0 : Int32)), (.ref a1)])) rfl rfl (hb hby d1_10)) ?_
  show Go _ p e below s _ _ _ (s₁.setTop (mkF m 11 #[.val (.ref a1), .val (.int cp), .val (.int (0 : Int32))] [(.int v0)]))
  refine go (fun _ => XS.iloadN X0.here hx rfl (hb hby d1_11) rfl) ?_
  show Go _ p e below s _ _ _ (s₁.setTop (mkF m 12 #[.val (.ref a1), .val (.int cp), .val (.int (0 : Int32))] [(.int cp), (.int v0)]))
  by_cases hc12_28 : cp < v0
  · refine go (fun _ => XS.icmpYes X0.here hx rfl (pc0 := 12) (pc' := 32) rfl (hb hby d1_12) rfl (tlt hc12_28).2.2.1 (by decide) (by decide)) ?_
    show Go _ p e below s _ _ _ (s₁.setTop (mkF m 32 #[.val (.ref a1), .val (.int cp), .val (.int (0 : Int32))] []))
    refine go (fun _ => XS.iconst X0.here hx rfl (hb hby d1_32)) ?_
    show Go _ p e below s _ _ _ (s₁.setTop (mkF m 33 #[.val (.ref a1), .val (.int cp), .val (.int (0 : Int32))] [(.int (0 : Int32))]))
    refine goRet X0 hx Bd.notSynchronized Bd.returns rfl (Or.inl ⟨rfl, Or.inr (Or.inl rfl), _, rfl⟩) (hb hby d1_33) (by decide) (by decide) (by rw [e0]; refine ⟨(by unfold own_h4; simp only [if_pos hc12_28]), N0, rfl⟩)
  · refine go (fun _ => XS.icmpNo X0.here hx rfl (hb hby d1_12) rfl (flt hc12_28).2.2.1) ?_
    show Go _ p e below s _ _ _ (s₁.setTop (mkF m 15 #[.val (.ref a1), .val (.int cp), .val (.int (0 : Int32))] []))
    refine go (fun _ => XS.iloadN X0.here hx rfl (hb hby d1_15) rfl) ?_
    show Go _ p e below s _ _ _ (s₁.setTop (mkF m 16 #[.val (.ref a1), .val (.int cp), .val (.int (0 : Int32))] [(.int cp)]))
    refine go (fun _ => XS.aloadN X0.here hx rfl (hb hby d1_16) rfl rfl) ?_
    show Go _ p e below s _ _ _ (s₁.setTop (mkF m 17 #[.val (.ref a1), .val (.int cp), .val (.int (0 : Int32))] [(.ref a1), (.int cp)]))
    refine go (fun _ => XS.iloadN X0.here hx rfl (hb hby d1_17) rfl) ?_
    show Go _ p e below s _ _ _ (s₁.setTop (mkF m 18 #[.val (.ref a1), .val (.int cp), .val (.int (0 : Int32))] [(.int (0 : Int32)), (.ref a1), (.int cp)]))
    refine go (fun _ => XS.iconst X0.here hx rfl (hb hby d1_18)) ?_
    show Go _ p e below s _ _ _ (s₁.setTop (mkF m 19 #[.val (.ref a1), .val (.int cp), .val (.int (0 : Int32))] [(.int (1 : Int32)), (.int (0 : Int32)), (.ref a1), (.int cp)]))
    refine go (fun _ => XS.iadd X0.here hx rfl (hb hby d1_19) rfl) ?_
    show Go _ p e below s _ _ _ (s₁.setTop (mkF m 20 #[.val (.ref a1), .val (.int cp), .val (.int (0 : Int32))] [(.int (1 : Int32)), (.ref a1), (.int cp)]))
    obtain ⟨cl29, Ar29, q29, Sz29, Nz29, Hs29, Gs29⟩ := id P0
    have hin29 : ¬ ((1 : Int32) < 0 ∨ cl29.slots.size ≤ ((1 : Int32)).toNatClampNeg) := inb_of Sz29 ⟨by decide, by decide⟩
    refine go (X0.iaload hx (j := (1 : Int32)) (v := (.int v1)) (by rw [e0]; exact Ar29.1) (State.isArrayOf_alike hZ.alike Ar29.2.1) Ar29.2.2 hin29 (Hs29.at hin29 rfl) (g := (mkF m 20 #[.val (.ref a1), .val (.int cp), .val (.int (0 : Int32))] [(.int (1 : Int32)), (.ref a1), (.int cp)])) rfl rfl (hb hby d1_20)) ?_
    show Go _ p e below s _ _ _ (s₁.setTop (mkF m 21 #[.val (.ref a1), .val (.int cp), .val (.int (0 : Int32))] [(.int v1), (.int cp)]))
    by_cases hc21_30 : v1 < cp
    · refine go (fun _ => XS.icmpYes X0.here hx rfl (pc0 := 21) (pc' := 26) rfl (hb hby d1_21) rfl (tlt hc21_30).2.2.1 (by decide) (by decide)) ?_
      show Go _ p e below s _ _ _ (s₁.setTop (mkF m 26 #[.val (.ref a1), .val (.int cp), .val (.int (0 : Int32))] []))
      refine go (fun _ => XS.iinc X0.here hx rfl (hb hby d1_26) rfl (l' := #[.val (.ref a1), .val (.int cp), .val (.int (2 : Int32))]) rfl) ?_
      show Go _ p e below s _ _ _ (s₁.setTop (mkF m 29 #[.val (.ref a1), .val (.int cp), .val (.int (2 : Int32))] []))
      refine go (fun _ => XS.goto X0.here hx rfl (pc0 := 29) (pc' := 2) rfl (hb hby d1_29) (by decide) (by decide)) ?_
      show Go _ p e below s _ _ _ (s₁.setTop (mkF m 2 #[.val (.ref a1), .val (.int cp), .val (.int (2 : Int32))] []))
      refine go (fun _ => XS.iloadN X0.here hx rfl (hb hby d1_2) rfl) ?_
      show Go _ p e below s _ _ _ (s₁.setTop (mkF m 3 #[.val (.ref a1), .val (.int cp), .val (.int (2 : Int32))] [(.int (2 : Int32))]))
      refine go (fun _ => XS.aloadN X0.here hx rfl (hb hby d1_3) rfl rfl) ?_
      show Go _ p e below s _ _ _ (s₁.setTop (mkF m 4 #[.val (.ref a1), .val (.int cp), .val (.int (2 : Int32))] [(.ref a1), (.int (2 : Int32))]))
      obtain ⟨cl31, Ar31, -, Sz31, Nz31, -, -⟩ := id P0
      refine go (X0.arraylength hx (by rw [e0]; exact Ar31.1) (State.isArrayOf_alike hZ.alike Ar31.2.1) (g := (mkF m 4 #[.val (.ref a1), .val (.int cp), .val (.int (2 : Int32))] [(.ref a1), (.int (2 : Int32))])) rfl rfl (hb hby d1_4)) ?_
      rw [len_of Sz31 Nz31]
      show Go _ p e below s _ _ _ (s₁.setTop (mkF m 5 #[.val (.ref a1), .val (.int cp), .val (.int (2 : Int32))] [(.int (4 : Int32)), (.int (2 : Int32))]))
      refine go (fun _ => XS.icmpNo X0.here hx rfl (hb hby d1_5) rfl (tlt (by decide : ((2 : Int32) < (4 : Int32)))).2.1) ?_
      show Go _ p e below s _ _ _ (s₁.setTop (mkF m 8 #[.val (.ref a1), .val (.int cp), .val (.int (2 : Int32))] []))
      refine go (fun _ => XS.aloadN X0.here hx rfl (hb hby d1_8) rfl rfl) ?_
      show Go _ p e below s _ _ _ (s₁.setTop (mkF m 9 #[.val (.ref a1), .val (.int cp), .val (.int (2 : Int32))] [(.ref a1)]))
      refine go (fun _ => XS.iloadN X0.here hx rfl (hb hby d1_9) rfl) ?_
      show Go _ p e below s _ _ _ (s₁.setTop (mkF m 10 #[.val (.ref a1), .val (.int cp), .val (.int (2 : Int32))] [(.int (2 : Int32)), (.ref a1)]))
      obtain ⟨cl32, Ar32, q32, Sz32, Nz32, Hs32, Gs32⟩ := id P0
      have hin32 : ¬ ((2 : Int32) < 0 ∨ cl32.slots.size ≤ ((2 : Int32)).toNatClampNeg) := inb_of Sz32 ⟨by decide, by decide⟩
      refine go (X0.iaload hx (j := (2 : Int32)) (v := (.int v2)) (by rw [e0]; exact Ar32.1) (State.isArrayOf_alike hZ.alike Ar32.2.1) Ar32.2.2 hin32 (Hs32.at hin32 rfl) (g := (mkF m 10 #[.val (.ref a1), .val (.int cp), .val (.int (2 : Int32))] [(.int (2 : Int32)), (.ref a1)])) rfl rfl (hb hby d1_10)) ?_
      show Go _ p e below s _ _ _ (s₁.setTop (mkF m 11 #[.val (.ref a1), .val (.int cp), .val (.int (2 : Int32))] [(.int v2)]))
      refine go (fun _ => XS.iloadN X0.here hx rfl (hb hby d1_11) rfl) ?_
      show Go _ p e below s _ _ _ (s₁.setTop (mkF m 12 #[.val (.ref a1), .val (.int cp), .val (.int (2 : Int32))] [(.int cp), (.int v2)]))
      by_cases hc12_33 : cp < v2
      · refine go (fun _ => XS.icmpYes X0.here hx rfl (pc0 := 12) (pc' := 32) rfl (hb hby d1_12) rfl (tlt hc12_33).2.2.1 (by decide) (by decide)) ?_
        show Go _ p e below s _ _ _ (s₁.setTop (mkF m 32 #[.val (.ref a1), .val (.int cp), .val (.int (2 : Int32))] []))
        refine go (fun _ => XS.iconst X0.here hx rfl (hb hby d1_32)) ?_
        show Go _ p e below s _ _ _ (s₁.setTop (mkF m 33 #[.val (.ref a1), .val (.int cp), .val (.int (2 : Int32))] [(.int (0 : Int32))]))
        refine goRet X0 hx Bd.notSynchronized Bd.returns rfl (Or.inl ⟨rfl, Or.inr (Or.inl rfl), _, rfl⟩) (hb hby d1_33) (by decide) (by decide) (by rw [e0]; refine ⟨(by unfold own_h4; simp only [if_neg hc12_28, if_pos hc21_30, if_pos hc12_33]), N0, rfl⟩)
      · refine go (fun _ => XS.icmpNo X0.here hx rfl (hb hby d1_12) rfl (flt hc12_33).2.2.1) ?_
        show Go _ p e below s _ _ _ (s₁.setTop (mkF m 15 #[.val (.ref a1), .val (.int cp), .val (.int (2 : Int32))] []))
        refine go (fun _ => XS.iloadN X0.here hx rfl (hb hby d1_15) rfl) ?_
        show Go _ p e below s _ _ _ (s₁.setTop (mkF m 16 #[.val (.ref a1), .val (.int cp), .val (.int (2 : Int32))] [(.int cp)]))
        refine go (fun _ => XS.aloadN X0.here hx rfl (hb hby d1_16) rfl rfl) ?_
        show Go _ p e below s _ _ _ (s₁.setTop (mkF m 17 #[.val (.ref a1), .val (.int cp), .val (.int (2 : Int32))] [(.ref a1), (.int cp)]))
        refine go (fun _ => XS.iloadN X0.here hx rfl (hb hby d1_17) rfl) ?_
        show Go _ p e below s _ _ _ (s₁.setTop (mkF m 18 #[.val (.ref a1), .val (.int cp), .val (.int (2 : Int32))] [(.int (2 : Int32)), (.ref a1), (.int cp)]))
        refine go (fun _ => XS.iconst X0.here hx rfl (hb hby d1_18)) ?_
        show Go _ p e below s _ _ _ (s₁.setTop (mkF m 19 #[.val (.ref a1), .val (.int cp), .val (.int (2 : Int32))] [(.int (1 : Int32)), (.int (2 : Int32)), (.ref a1), (.int cp)]))
        refine go (fun _ => XS.iadd X0.here hx rfl (hb hby d1_19) rfl) ?_
        show Go _ p e below s _ _ _ (s₁.setTop (mkF m 20 #[.val (.ref a1), .val (.int cp), .val (.int (2 : Int32))] [(.int (3 : Int32)), (.ref a1), (.int cp)]))
        obtain ⟨cl34, Ar34, q34, Sz34, Nz34, Hs34, Gs34⟩ := id P0
        have hin34 : ¬ ((3 : Int32) < 0 ∨ cl34.slots.size ≤ ((3 : Int32)).toNatClampNeg) := inb_of Sz34 ⟨by decide, by decide⟩
        refine go (X0.iaload hx (j := (3 : Int32)) (v := (.int v3)) (by rw [e0]; exact Ar34.1) (State.isArrayOf_alike hZ.alike Ar34.2.1) Ar34.2.2 hin34 (Hs34.at hin34 rfl) (g := (mkF m 20 #[.val (.ref a1), .val (.int cp), .val (.int (2 : Int32))] [(.int (3 : Int32)), (.ref a1), (.int cp)])) rfl rfl (hb hby d1_20)) ?_
        show Go _ p e below s _ _ _ (s₁.setTop (mkF m 21 #[.val (.ref a1), .val (.int cp), .val (.int (2 : Int32))] [(.int v3), (.int cp)]))
        by_cases hc21_35 : v3 < cp
        · refine go (fun _ => XS.icmpYes X0.here hx rfl (pc0 := 21) (pc' := 26) rfl (hb hby d1_21) rfl (tlt hc21_35).2.2.1 (by decide) (by decide)) ?_
          show Go _ p e below s _ _ _ (s₁.setTop (mkF m 26 #[.val (.ref a1), .val (.int cp), .val (.int (2 : Int32))] []))
          refine go (fun _ => XS.iinc X0.here hx rfl (hb hby d1_26) rfl (l' := #[.val (.ref a1), .val (.int cp), .val (.int (4 : Int32))]) rfl) ?_
          show Go _ p e below s _ _ _ (s₁.setTop (mkF m 29 #[.val (.ref a1), .val (.int cp), .val (.int (4 : Int32))] []))
          refine go (fun _ => XS.goto X0.here hx rfl (pc0 := 29) (pc' := 2) rfl (hb hby d1_29) (by decide) (by decide)) ?_
          show Go _ p e below s _ _ _ (s₁.setTop (mkF m 2 #[.val (.ref a1), .val (.int cp), .val (.int (4 : Int32))] []))
          refine go (fun _ => XS.iloadN X0.here hx rfl (hb hby d1_2) rfl) ?_
          show Go _ p e below s _ _ _ (s₁.setTop (mkF m 3 #[.val (.ref a1), .val (.int cp), .val (.int (4 : Int32))] [(.int (4 : Int32))]))
          refine go (fun _ => XS.aloadN X0.here hx rfl (hb hby d1_3) rfl rfl) ?_
          show Go _ p e below s _ _ _ (s₁.setTop (mkF m 4 #[.val (.ref a1), .val (.int cp), .val (.int (4 : Int32))] [(.ref a1), (.int (4 : Int32))]))
          obtain ⟨cl36, Ar36, -, Sz36, Nz36, -, -⟩ := id P0
          refine go (X0.arraylength hx (by rw [e0]; exact Ar36.1) (State.isArrayOf_alike hZ.alike Ar36.2.1) (g := (mkF m 4 #[.val (.ref a1), .val (.int cp), .val (.int (4 : Int32))] [(.ref a1), (.int (4 : Int32))])) rfl rfl (hb hby d1_4)) ?_
          rw [len_of Sz36 Nz36]
          show Go _ p e below s _ _ _ (s₁.setTop (mkF m 5 #[.val (.ref a1), .val (.int cp), .val (.int (4 : Int32))] [(.int (4 : Int32)), (.int (4 : Int32))]))
          refine go (fun _ => XS.icmpYes X0.here hx rfl (pc0 := 5) (pc' := 32) rfl (hb hby d1_5) rfl (flt (by decide : ¬ ((4 : Int32) < (4 : Int32)))).2.1 (by decide) (by decide)) ?_
          show Go _ p e below s _ _ _ (s₁.setTop (mkF m 32 #[.val (.ref a1), .val (.int cp), .val (.int (4 : Int32))] []))
          refine go (fun _ => XS.iconst X0.here hx rfl (hb hby d1_32)) ?_
          show Go _ p e below s _ _ _ (s₁.setTop (mkF m 33 #[.val (.ref a1), .val (.int cp), .val (.int (4 : Int32))] [(.int (0 : Int32))]))
          refine goRet X0 hx Bd.notSynchronized Bd.returns rfl (Or.inl ⟨rfl, Or.inr (Or.inl rfl), _, rfl⟩) (hb hby d1_33) (by decide) (by decide) (by rw [e0]; refine ⟨(by unfold own_h4; simp only [if_neg hc12_28, if_pos hc21_30, if_neg hc12_33, if_pos hc21_35]), N0, rfl⟩)
        · refine go (fun _ => XS.icmpNo X0.here hx rfl (hb hby d1_21) rfl (flt hc21_35).2.2.1) ?_
          show Go _ p e below s _ _ _ (s₁.setTop (mkF m 24 #[.val (.ref a1), .val (.int cp), .val (.int (2 : Int32))] []))
          refine go (fun _ => XS.iconst X0.here hx rfl (hb hby d1_24)) ?_
          show Go _ p e below s _ _ _ (s₁.setTop (mkF m 25 #[.val (.ref a1), .val (.int cp), .val (.int (2 : Int32))] [(.int (1 : Int32))]))
          refine goRet X0 hx Bd.notSynchronized Bd.returns rfl (Or.inl ⟨rfl, Or.inr (Or.inl rfl), _, rfl⟩) (hb hby d1_25) (by decide) (by decide) (by rw [e0]; refine ⟨(by unfold own_h4; simp only [if_neg hc12_28, if_pos hc21_30, if_neg hc12_33, if_neg hc21_35]), N0, rfl⟩)
    · refine go (fun _ => XS.icmpNo X0.here hx rfl (hb hby d1_21) rfl (flt hc21_30).2.2.1) ?_
      show Go _ p e below s _ _ _ (s₁.setTop (mkF m 24 #[.val (.ref a1), .val (.int cp), .val (.int (0 : Int32))] []))
      refine go (fun _ => XS.iconst X0.here hx rfl (hb hby d1_24)) ?_
      show Go _ p e below s _ _ _ (s₁.setTop (mkF m 25 #[.val (.ref a1), .val (.int cp), .val (.int (0 : Int32))] [(.int (1 : Int32))]))
      refine goRet X0 hx Bd.notSynchronized Bd.returns rfl (Or.inl ⟨rfl, Or.inr (Or.inl rfl), _, rfl⟩) (hb hby d1_25) (by decide) (by decide) (by rw [e0]; refine ⟨(by unfold own_h4; simp only [if_neg hc12_28, if_neg hc21_30]), N0, rfl⟩)
theorem pn_1h6 : plainName "com/example/raccordo/raccordo/flow/PatternSyntax" = true := by first | (simp [plainName, overriddenIn]; done) | decide +kernel
theorem ef_1h6 (m : MethodId) (a1 : Addr) (cp : Int32) : entryFrame m #[(.ref a1), (.int cp)] 3 = mkF m 0 #[.val (.ref a1), .val (.int cp), .unset] [] := by first | (simp [entryFrame, mkF, argsToLocals, Value.category]; done) | rfl
def Q1h6 (Z : State) (a1 : Addr) (cp : Int32) (k1 : ClassId) (v0 : Int32) (v1 : Int32) (v2 : Int32) (v3 : Int32) (v4 : Int32) (v5 : Int32) (dv : Value) (h0 : Heap) (n0 : Nat) (v : Option Value) (h : Heap) (L : List Loc) : Prop := v = some (.int (own_h6 v0 v1 v2 v3 v4 v5 cp)) ∧ Fr n0 L ∧ (h = h0)
set_option maxRecDepth 65536 in
set_option maxHeartbeats 40000000 in
theorem rm1h6 (l : Launch) (Z : State) (a0 : Array Value) (hw : ∀ d ∈ tables_1, d.before a0 Z = true) (ws : List Jvm.Cond) (a1 : Addr) (cp : Int32) (k1 : ClassId) (v0 : Int32) (v1 : Int32) (v2 : Int32) (v3 : Int32) (v4 : Int32) (v5 : Int32) (dv : Value) (h0 : Heap) (n0 : Nat) (Z0 : n0 ≤ h0.size) (P0 : Arv Z h0 a1 k1 .int (6 : Int32) [(.int v0), (.int v1), (.int v2), (.int v3), (.int v4), (.int v5)] dv) :
    MetFree l (⟨"com/example/raccordo/raccordo/flow/PatternSyntax", "holds", "([II)Z"⟩ : MethodName) (head1 (Jvm.Cond.code (⟨"com/example/raccordo/raccordo/flow/PatternSyntax", "holds", "([II)Z"⟩ : MethodName) prog_20_method_4_code 3 (some .boolean) :: ws) ({ frames := 0, cells := 0, slots := 0, locals := 0 } : Room)) (fun a U => a = #[(.ref a1), (.int cp)] ∧ Z.Warmed39 U.vm ∧ U.heap = h0) (fun _ _ _ _ _ => True) (fun _ U o U' => ∃ v L, o = .returned v ∧ Q1h6 Z a1 cp k1 v0 v1 v2 v3 v4 v5 dv h0 n0 v U'.heap L ∧ FrameEnd U o U' L ({ frames := 0, cells := 0, slots := 0, locals := 0 } : Room).cells ({ frames := 0, cells := 0, slots := 0, locals := 0 } : Room).slots) := by
  refine MetFree.of_bodySF (plainFor_of_name pn_1h6) hisR ?_
  intro p e s m args below meth c s₁ Bd hml0 hP hK
  obtain ⟨rfl, hZ, hh⟩ := hP
  have hx := Bd.exec
  have hby := Bd.bytes
  have hml : c.maxLocals = 3 := hml0
  have hown : s.vm.findClass "com/example/raccordo/raccordo/flow/PatternSyntax" = some m.cls := findClass_of_methodNamed Bd.named
  have hnm := (name_of_methodNamed Bd.named Bd.method).1
  have X0 : Stand p l e ({ frames := 0, cells := 0, slots := 0, locals := 0 } : Room) s m #[(.ref a1), (.int cp)] below meth c s₁ [] 0 0 := Stand.of_body Bd
  have e0 : s₁.heap = h0 := by rw [← hh, Bd.state]; rfl
  have N0 := Fr.nil n0
  have hS0 : s.Since s.vm 0 := (State.WarmedH.refl s).since 0
  show Go FrameEnd p e below s ({ frames := 0, cells := 0, slots := 0, locals := 0 } : Room).cells ({ frames := 0, cells := 0, slots := 0, locals := 0 } : Room).slots (Q1h6 Z a1 cp k1 v0 v1 v2 v3 v4 v5 dv h0 n0) (s₁.setTop (entryFrame m #[(.ref a1), (.int cp)] 3))
  refine go (fun _ k => castTop (ef_1h6 m a1 cp) k) ?_
  show Go _ p e below s _ _ _ (s₁.setTop (mkF m 0 #[.val (.ref a1), .val (.int cp), .unset] []))
  refine go (fun _ => XS.iconst X0.here hx rfl (hb hby d1_0)) ?_
  show Go _ p e below s _ _ _ (s₁.setTop (mkF m 1 #[.val (.ref a1), .val (.int cp), .unset] [(.int (0 : Int32))]))
  refine go (fun _ => XS.istoreN X0.here hx rfl (hb hby d1_1) rfl (l' := #[.val (.ref a1), .val (.int cp), .val (.int (0 : Int32))]) rfl) ?_
  show Go _ p e below s _ _ _ (s₁.setTop (mkF m 2 #[.val (.ref a1), .val (.int cp), .val (.int (0 : Int32))] []))
  refine go (fun _ => XS.iloadN X0.here hx rfl (hb hby d1_2) rfl) ?_
  show Go _ p e below s _ _ _ (s₁.setTop (mkF m 3 #[.val (.ref a1), .val (.int cp), .val (.int (0 : Int32))] [(.int (0 : Int32))]))
  refine go (fun _ => XS.aloadN X0.here hx rfl (hb hby d1_3) rfl rfl) ?_
  show Go _ p e below s _ _ _ (s₁.setTop (mkF m 4 #[.val (.ref a1), .val (.int cp), .val (.int (0 : Int32))] [(.ref a1), (.int (0 : Int32))]))
  obtain ⟨cl53, Ar53, -, Sz53, Nz53, -, -⟩ := id P0
  refine go (X0.arraylength hx (by rw [e0]; exact Ar53.1) (State.isArrayOf_alike hZ.alike Ar53.2.1) (g := (mkF m 4 #[.val (.ref a1), .val (.int cp), .val (.int (0 : Int32))] [(.ref a1), (.int (0 : Int32))])) rfl rfl (hb hby d1_4)) ?_
  rw [len_of Sz53 Nz53]
  show Go _ p e below s _ _ _ (s₁.setTop (mkF m 5 #[.val (.ref a1), .val (.int cp), .val (.int (0 : Int32))] [(.int (6 : Int32)), (.int (0 : Int32))]))
  refine go (fun _ => XS.icmpNo X0.here hx rfl (hb hby d1_5) rfl (tlt (by decide : ((0 : Int32) < (6 : Int32)))).2.1) ?_
  show Go _ p e below s _ _ _ (s₁.setTop (mkF m 8 #[.val (.ref a1), .val (.int cp), .val (.int (0 : Int32))] []))
  refine go (fun _ => XS.aloadN X0.here hx rfl (hb hby d1_8) rfl rfl) ?_
  show Go _ p e below s _ _ _ (s₁.setTop (mkF m 9 #[.val (.ref a1), .val (.int cp), .val (.int (0 : Int32))] [(.ref a1)]))
  refine go (fun _ => XS.iloadN X0.here hx rfl (hb hby d1_9) rfl) ?_
  show Go _ p e below s _ _ _ (s₁.setTop (mkF m 10 #[.val (.ref a1), .val (.int cp), .val (.int (0 : Int32))] [(.int (0 : Int32)), (.ref a1)]))
  obtain ⟨cl54, Ar54, q54, Sz54, Nz54, Hs54, Gs54⟩ := id P0
  have hin54 : ¬ ((0 : Int32) < 0 ∨ cl54.slots.size ≤ ((0 : Int32)).toNatClampNeg) := inb_of Sz54 ⟨by decide, by decide⟩
  refine go (X0.iaload hx (j := (0 : Int32)) (v := (.int v0)) (by rw [e0]; exact Ar54.1) (State.isArrayOf_alike hZ.alike Ar54.2.1) Ar54.2.2 hin54 (Hs54.at hin54 rfl) (g := (mkF m 10 #[.val (.ref a1), .val (.int cp), .val (.int (0 : Int32))] [(.int (0 : Int32)), (.ref a1)])) rfl rfl (hb hby d1_10)) ?_
  show Go _ p e below s _ _ _ (s₁.setTop (mkF m 11 #[.val (.ref a1), .val (.int cp), .val (.int (0 : Int32))] [(.int v0)]))
  refine go (fun _ => XS.iloadN X0.here hx rfl (hb hby d1_11) rfl) ?_
  show Go _ p e below s _ _ _ (s₁.setTop (mkF m 12 #[.val (.ref a1), .val (.int cp), .val (.int (0 : Int32))] [(.int cp), (.int v0)]))
  by_cases hc12_55 : cp < v0
  · refine go (fun _ => XS.icmpYes X0.here hx rfl (pc0 := 12) (pc' := 32) rfl (hb hby d1_12) rfl (tlt hc12_55).2.2.1 (by decide) (by decide)) ?_
    show Go _ p e below s _ _ _ (s₁.setTop (mkF m 32 #[.val (.ref a1), .val (.int cp), .val (.int (0 : Int32))] []))
    refine go (fun _ => XS.iconst X0.here hx rfl (hb hby d1_32)) ?_
    show Go _ p e below s _ _ _ (s₁.setTop (mkF m 33 #[.val (.ref a1), .val (.int cp), .val (.int (0 : Int32))] [(.int (0 : Int32))]))
    refine goRet X0 hx Bd.notSynchronized Bd.returns rfl (Or.inl ⟨rfl, Or.inr (Or.inl rfl), _, rfl⟩) (hb hby d1_33) (by decide) (by decide) (by rw [e0]; refine ⟨(by unfold own_h6; simp only [if_pos hc12_55]), N0, rfl⟩)
  · refine go (fun _ => XS.icmpNo X0.here hx rfl (hb hby d1_12) rfl (flt hc12_55).2.2.1) ?_
    show Go _ p e below s _ _ _ (s₁.setTop (mkF m 15 #[.val (.ref a1), .val (.int cp), .val (.int (0 : Int32))] []))
    refine go (fun _ => XS.iloadN X0.here hx rfl (hb hby d1_15) rfl) ?_
    show Go _ p e below s _ _ _ (s₁.setTop (mkF m 16 #[.val (.ref a1), .val (.int cp), .val (.int (0 : Int32))] [(.int cp)]))
    refine go (fun _ => XS.aloadN X0.here hx rfl (hb hby d1_16) rfl rfl) ?_
    show Go _ p e below s _ _ _ (s₁.setTop (mkF m 17 #[.val (.ref a1), .val (.int cp), .val (.int (0 : Int32))] [(.ref a1), (.int cp)]))
    refine go (fun _ => XS.iloadN X0.here hx rfl (hb hby d1_17) rfl) ?_
    show Go _ p e below s _ _ _ (s₁.setTop (mkF m 18 #[.val (.ref a1), .val (.int cp), .val (.int (0 : Int32))] [(.int (0 : Int32)), (.ref a1), (.int cp)]))
    refine go (fun _ => XS.iconst X0.here hx rfl (hb hby d1_18)) ?_
    show Go _ p e below s _ _ _ (s₁.setTop (mkF m 19 #[.val (.ref a1), .val (.int cp), .val (.int (0 : Int32))] [(.int (1 : Int32)), (.int (0 : Int32)), (.ref a1), (.int cp)]))
    refine go (fun _ => XS.iadd X0.here hx rfl (hb hby d1_19) rfl) ?_
    show Go _ p e below s _ _ _ (s₁.setTop (mkF m 20 #[.val (.ref a1), .val (.int cp), .val (.int (0 : Int32))] [(.int (1 : Int32)), (.ref a1), (.int cp)]))
    obtain ⟨cl56, Ar56, q56, Sz56, Nz56, Hs56, Gs56⟩ := id P0
    have hin56 : ¬ ((1 : Int32) < 0 ∨ cl56.slots.size ≤ ((1 : Int32)).toNatClampNeg) := inb_of Sz56 ⟨by decide, by decide⟩
    refine go (X0.iaload hx (j := (1 : Int32)) (v := (.int v1)) (by rw [e0]; exact Ar56.1) (State.isArrayOf_alike hZ.alike Ar56.2.1) Ar56.2.2 hin56 (Hs56.at hin56 rfl) (g := (mkF m 20 #[.val (.ref a1), .val (.int cp), .val (.int (0 : Int32))] [(.int (1 : Int32)), (.ref a1), (.int cp)])) rfl rfl (hb hby d1_20)) ?_
    show Go _ p e below s _ _ _ (s₁.setTop (mkF m 21 #[.val (.ref a1), .val (.int cp), .val (.int (0 : Int32))] [(.int v1), (.int cp)]))
    by_cases hc21_57 : v1 < cp
    · refine go (fun _ => XS.icmpYes X0.here hx rfl (pc0 := 21) (pc' := 26) rfl (hb hby d1_21) rfl (tlt hc21_57).2.2.1 (by decide) (by decide)) ?_
      show Go _ p e below s _ _ _ (s₁.setTop (mkF m 26 #[.val (.ref a1), .val (.int cp), .val (.int (0 : Int32))] []))
      refine go (fun _ => XS.iinc X0.here hx rfl (hb hby d1_26) rfl (l' := #[.val (.ref a1), .val (.int cp), .val (.int (2 : Int32))]) rfl) ?_
      show Go _ p e below s _ _ _ (s₁.setTop (mkF m 29 #[.val (.ref a1), .val (.int cp), .val (.int (2 : Int32))] []))
      refine go (fun _ => XS.goto X0.here hx rfl (pc0 := 29) (pc' := 2) rfl (hb hby d1_29) (by decide) (by decide)) ?_
      show Go _ p e below s _ _ _ (s₁.setTop (mkF m 2 #[.val (.ref a1), .val (.int cp), .val (.int (2 : Int32))] []))
      refine go (fun _ => XS.iloadN X0.here hx rfl (hb hby d1_2) rfl) ?_
      show Go _ p e below s _ _ _ (s₁.setTop (mkF m 3 #[.val (.ref a1), .val (.int cp), .val (.int (2 : Int32))] [(.int (2 : Int32))]))
      refine go (fun _ => XS.aloadN X0.here hx rfl (hb hby d1_3) rfl rfl) ?_
      show Go _ p e below s _ _ _ (s₁.setTop (mkF m 4 #[.val (.ref a1), .val (.int cp), .val (.int (2 : Int32))] [(.ref a1), (.int (2 : Int32))]))
      obtain ⟨cl58, Ar58, -, Sz58, Nz58, -, -⟩ := id P0
      refine go (X0.arraylength hx (by rw [e0]; exact Ar58.1) (State.isArrayOf_alike hZ.alike Ar58.2.1) (g := (mkF m 4 #[.val (.ref a1), .val (.int cp), .val (.int (2 : Int32))] [(.ref a1), (.int (2 : Int32))])) rfl rfl (hb hby d1_4)) ?_
      rw [len_of Sz58 Nz58]
      show Go _ p e below s _ _ _ (s₁.setTop (mkF m 5 #[.val (.ref a1), .val (.int cp), .val (.int (2 : Int32))] [(.int (6 : Int32)), (.int (2 : Int32))]))
      refine go (fun _ => XS.icmpNo X0.here hx rfl (hb hby d1_5) rfl (tlt (by decide : ((2 : Int32) < (6 : Int32)))).2.1) ?_
      show Go _ p e below s _ _ _ (s₁.setTop (mkF m 8 #[.val (.ref a1), .val (.int cp), .val (.int (2 : Int32))] []))
      refine go (fun _ => XS.aloadN X0.here hx rfl (hb hby d1_8) rfl rfl) ?_
      show Go _ p e below s _ _ _ (s₁.setTop (mkF m 9 #[.val (.ref a1), .val (.int cp), .val (.int (2 : Int32))] [(.ref a1)]))
      refine go (fun _ => XS.iloadN X0.here hx rfl (hb hby d1_9) rfl) ?_
      show Go _ p e below s _ _ _ (s₁.setTop (mkF m 10 #[.val (.ref a1), .val (.int cp), .val (.int (2 : Int32))] [(.int (2 : Int32)), (.ref a1)]))
      obtain ⟨cl59, Ar59, q59, Sz59, Nz59, Hs59, Gs59⟩ := id P0
      have hin59 : ¬ ((2 : Int32) < 0 ∨ cl59.slots.size ≤ ((2 : Int32)).toNatClampNeg) := inb_of Sz59 ⟨by decide, by decide⟩
      refine go (X0.iaload hx (j := (2 : Int32)) (v := (.int v2)) (by rw [e0]; exact Ar59.1) (State.isArrayOf_alike hZ.alike Ar59.2.1) Ar59.2.2 hin59 (Hs59.at hin59 rfl) (g := (mkF m 10 #[.val (.ref a1), .val (.int cp), .val (.int (2 : Int32))] [(.int (2 : Int32)), (.ref a1)])) rfl rfl (hb hby d1_10)) ?_
      show Go _ p e below s _ _ _ (s₁.setTop (mkF m 11 #[.val (.ref a1), .val (.int cp), .val (.int (2 : Int32))] [(.int v2)]))
      refine go (fun _ => XS.iloadN X0.here hx rfl (hb hby d1_11) rfl) ?_
      show Go _ p e below s _ _ _ (s₁.setTop (mkF m 12 #[.val (.ref a1), .val (.int cp), .val (.int (2 : Int32))] [(.int cp), (.int v2)]))
      by_cases hc12_60 : cp < v2
      · refine go (fun _ => XS.icmpYes X0.here hx rfl (pc0 := 12) (pc' := 32) rfl (hb hby d1_12) rfl (tlt hc12_60).2.2.1 (by decide) (by decide)) ?_
        show Go _ p e below s _ _ _ (s₁.setTop (mkF m 32 #[.val (.ref a1), .val (.int cp), .val (.int (2 : Int32))] []))
        refine go (fun _ => XS.iconst X0.here hx rfl (hb hby d1_32)) ?_
        show Go _ p e below s _ _ _ (s₁.setTop (mkF m 33 #[.val (.ref a1), .val (.int cp), .val (.int (2 : Int32))] [(.int (0 : Int32))]))
        refine goRet X0 hx Bd.notSynchronized Bd.returns rfl (Or.inl ⟨rfl, Or.inr (Or.inl rfl), _, rfl⟩) (hb hby d1_33) (by decide) (by decide) (by rw [e0]; refine ⟨(by unfold own_h6; simp only [if_neg hc12_55, if_pos hc21_57, if_pos hc12_60]), N0, rfl⟩)
      · refine go (fun _ => XS.icmpNo X0.here hx rfl (hb hby d1_12) rfl (flt hc12_60).2.2.1) ?_
        show Go _ p e below s _ _ _ (s₁.setTop (mkF m 15 #[.val (.ref a1), .val (.int cp), .val (.int (2 : Int32))] []))
        refine go (fun _ => XS.iloadN X0.here hx rfl (hb hby d1_15) rfl) ?_
        show Go _ p e below s _ _ _ (s₁.setTop (mkF m 16 #[.val (.ref a1), .val (.int cp), .val (.int (2 : Int32))] [(.int cp)]))
        refine go (fun _ => XS.aloadN X0.here hx rfl (hb hby d1_16) rfl rfl) ?_
        show Go _ p e below s _ _ _ (s₁.setTop (mkF m 17 #[.val (.ref a1), .val (.int cp), .val (.int (2 : Int32))] [(.ref a1), (.int cp)]))
        refine go (fun _ => XS.iloadN X0.here hx rfl (hb hby d1_17) rfl) ?_
        show Go _ p e below s _ _ _ (s₁.setTop (mkF m 18 #[.val (.ref a1), .val (.int cp), .val (.int (2 : Int32))] [(.int (2 : Int32)), (.ref a1), (.int cp)]))
        refine go (fun _ => XS.iconst X0.here hx rfl (hb hby d1_18)) ?_
        show Go _ p e below s _ _ _ (s₁.setTop (mkF m 19 #[.val (.ref a1), .val (.int cp), .val (.int (2 : Int32))] [(.int (1 : Int32)), (.int (2 : Int32)), (.ref a1), (.int cp)]))
        refine go (fun _ => XS.iadd X0.here hx rfl (hb hby d1_19) rfl) ?_
        show Go _ p e below s _ _ _ (s₁.setTop (mkF m 20 #[.val (.ref a1), .val (.int cp), .val (.int (2 : Int32))] [(.int (3 : Int32)), (.ref a1), (.int cp)]))
        obtain ⟨cl61, Ar61, q61, Sz61, Nz61, Hs61, Gs61⟩ := id P0
        have hin61 : ¬ ((3 : Int32) < 0 ∨ cl61.slots.size ≤ ((3 : Int32)).toNatClampNeg) := inb_of Sz61 ⟨by decide, by decide⟩
        refine go (X0.iaload hx (j := (3 : Int32)) (v := (.int v3)) (by rw [e0]; exact Ar61.1) (State.isArrayOf_alike hZ.alike Ar61.2.1) Ar61.2.2 hin61 (Hs61.at hin61 rfl) (g := (mkF m 20 #[.val (.ref a1), .val (.int cp), .val (.int (2 : Int32))] [(.int (3 : Int32)), (.ref a1), (.int cp)])) rfl rfl (hb hby d1_20)) ?_
        show Go _ p e below s _ _ _ (s₁.setTop (mkF m 21 #[.val (.ref a1), .val (.int cp), .val (.int (2 : Int32))] [(.int v3), (.int cp)]))
        by_cases hc21_62 : v3 < cp
        · refine go (fun _ => XS.icmpYes X0.here hx rfl (pc0 := 21) (pc' := 26) rfl (hb hby d1_21) rfl (tlt hc21_62).2.2.1 (by decide) (by decide)) ?_
          show Go _ p e below s _ _ _ (s₁.setTop (mkF m 26 #[.val (.ref a1), .val (.int cp), .val (.int (2 : Int32))] []))
          refine go (fun _ => XS.iinc X0.here hx rfl (hb hby d1_26) rfl (l' := #[.val (.ref a1), .val (.int cp), .val (.int (4 : Int32))]) rfl) ?_
          show Go _ p e below s _ _ _ (s₁.setTop (mkF m 29 #[.val (.ref a1), .val (.int cp), .val (.int (4 : Int32))] []))
          refine go (fun _ => XS.goto X0.here hx rfl (pc0 := 29) (pc' := 2) rfl (hb hby d1_29) (by decide) (by decide)) ?_
          show Go _ p e below s _ _ _ (s₁.setTop (mkF m 2 #[.val (.ref a1), .val (.int cp), .val (.int (4 : Int32))] []))
          refine go (fun _ => XS.iloadN X0.here hx rfl (hb hby d1_2) rfl) ?_
          show Go _ p e below s _ _ _ (s₁.setTop (mkF m 3 #[.val (.ref a1), .val (.int cp), .val (.int (4 : Int32))] [(.int (4 : Int32))]))
          refine go (fun _ => XS.aloadN X0.here hx rfl (hb hby d1_3) rfl rfl) ?_
          show Go _ p e below s _ _ _ (s₁.setTop (mkF m 4 #[.val (.ref a1), .val (.int cp), .val (.int (4 : Int32))] [(.ref a1), (.int (4 : Int32))]))
          obtain ⟨cl63, Ar63, -, Sz63, Nz63, -, -⟩ := id P0
          refine go (X0.arraylength hx (by rw [e0]; exact Ar63.1) (State.isArrayOf_alike hZ.alike Ar63.2.1) (g := (mkF m 4 #[.val (.ref a1), .val (.int cp), .val (.int (4 : Int32))] [(.ref a1), (.int (4 : Int32))])) rfl rfl (hb hby d1_4)) ?_
          rw [len_of Sz63 Nz63]
          show Go _ p e below s _ _ _ (s₁.setTop (mkF m 5 #[.val (.ref a1), .val (.int cp), .val (.int (4 : Int32))] [(.int (6 : Int32)), (.int (4 : Int32))]))
          refine go (fun _ => XS.icmpNo X0.here hx rfl (hb hby d1_5) rfl (tlt (by decide : ((4 : Int32) < (6 : Int32)))).2.1) ?_
          show Go _ p e below s _ _ _ (s₁.setTop (mkF m 8 #[.val (.ref a1), .val (.int cp), .val (.int (4 : Int32))] []))
          refine go (fun _ => XS.aloadN X0.here hx rfl (hb hby d1_8) rfl rfl) ?_
          show Go _ p e below s _ _ _ (s₁.setTop (mkF m 9 #[.val (.ref a1), .val (.int cp), .val (.int (4 : Int32))] [(.ref a1)]))
          refine go (fun _ => XS.iloadN X0.here hx rfl (hb hby d1_9) rfl) ?_
          show Go _ p e below s _ _ _ (s₁.setTop (mkF m 10 #[.val (.ref a1), .val (.int cp), .val (.int (4 : Int32))] [(.int (4 : Int32)), (.ref a1)]))
          obtain ⟨cl64, Ar64, q64, Sz64, Nz64, Hs64, Gs64⟩ := id P0
          have hin64 : ¬ ((4 : Int32) < 0 ∨ cl64.slots.size ≤ ((4 : Int32)).toNatClampNeg) := inb_of Sz64 ⟨by decide, by decide⟩
          refine go (X0.iaload hx (j := (4 : Int32)) (v := (.int v4)) (by rw [e0]; exact Ar64.1) (State.isArrayOf_alike hZ.alike Ar64.2.1) Ar64.2.2 hin64 (Hs64.at hin64 rfl) (g := (mkF m 10 #[.val (.ref a1), .val (.int cp), .val (.int (4 : Int32))] [(.int (4 : Int32)), (.ref a1)])) rfl rfl (hb hby d1_10)) ?_
          show Go _ p e below s _ _ _ (s₁.setTop (mkF m 11 #[.val (.ref a1), .val (.int cp), .val (.int (4 : Int32))] [(.int v4)]))
          refine go (fun _ => XS.iloadN X0.here hx rfl (hb hby d1_11) rfl) ?_
          show Go _ p e below s _ _ _ (s₁.setTop (mkF m 12 #[.val (.ref a1), .val (.int cp), .val (.int (4 : Int32))] [(.int cp), (.int v4)]))
          by_cases hc12_65 : cp < v4
          · refine go (fun _ => XS.icmpYes X0.here hx rfl (pc0 := 12) (pc' := 32) rfl (hb hby d1_12) rfl (tlt hc12_65).2.2.1 (by decide) (by decide)) ?_
            show Go _ p e below s _ _ _ (s₁.setTop (mkF m 32 #[.val (.ref a1), .val (.int cp), .val (.int (4 : Int32))] []))
            refine go (fun _ => XS.iconst X0.here hx rfl (hb hby d1_32)) ?_
            show Go _ p e below s _ _ _ (s₁.setTop (mkF m 33 #[.val (.ref a1), .val (.int cp), .val (.int (4 : Int32))] [(.int (0 : Int32))]))
            refine goRet X0 hx Bd.notSynchronized Bd.returns rfl (Or.inl ⟨rfl, Or.inr (Or.inl rfl), _, rfl⟩) (hb hby d1_33) (by decide) (by decide) (by rw [e0]; refine ⟨(by unfold own_h6; simp only [if_neg hc12_55, if_pos hc21_57, if_neg hc12_60, if_pos hc21_62, if_pos hc12_65]), N0, rfl⟩)
          · refine go (fun _ => XS.icmpNo X0.here hx rfl (hb hby d1_12) rfl (flt hc12_65).2.2.1) ?_
            show Go _ p e below s _ _ _ (s₁.setTop (mkF m 15 #[.val (.ref a1), .val (.int cp), .val (.int (4 : Int32))] []))
            refine go (fun _ => XS.iloadN X0.here hx rfl (hb hby d1_15) rfl) ?_
            show Go _ p e below s _ _ _ (s₁.setTop (mkF m 16 #[.val (.ref a1), .val (.int cp), .val (.int (4 : Int32))] [(.int cp)]))
            refine go (fun _ => XS.aloadN X0.here hx rfl (hb hby d1_16) rfl rfl) ?_
            show Go _ p e below s _ _ _ (s₁.setTop (mkF m 17 #[.val (.ref a1), .val (.int cp), .val (.int (4 : Int32))] [(.ref a1), (.int cp)]))
            refine go (fun _ => XS.iloadN X0.here hx rfl (hb hby d1_17) rfl) ?_
            show Go _ p e below s _ _ _ (s₁.setTop (mkF m 18 #[.val (.ref a1), .val (.int cp), .val (.int (4 : Int32))] [(.int (4 : Int32)), (.ref a1), (.int cp)]))
            refine go (fun _ => XS.iconst X0.here hx rfl (hb hby d1_18)) ?_
            show Go _ p e below s _ _ _ (s₁.setTop (mkF m 19 #[.val (.ref a1), .val (.int cp), .val (.int (4 : Int32))] [(.int (1 : Int32)), (.int (4 : Int32)), (.ref a1), (.int cp)]))
            refine go (fun _ => XS.iadd X0.here hx rfl (hb hby d1_19) rfl) ?_
            show Go _ p e below s _ _ _ (s₁.setTop (mkF m 20 #[.val (.ref a1), .val (.int cp), .val (.int (4 : Int32))] [(.int (5 : Int32)), (.ref a1), (.int cp)]))
            obtain ⟨cl66, Ar66, q66, Sz66, Nz66, Hs66, Gs66⟩ := id P0
            have hin66 : ¬ ((5 : Int32) < 0 ∨ cl66.slots.size ≤ ((5 : Int32)).toNatClampNeg) := inb_of Sz66 ⟨by decide, by decide⟩
            refine go (X0.iaload hx (j := (5 : Int32)) (v := (.int v5)) (by rw [e0]; exact Ar66.1) (State.isArrayOf_alike hZ.alike Ar66.2.1) Ar66.2.2 hin66 (Hs66.at hin66 rfl) (g := (mkF m 20 #[.val (.ref a1), .val (.int cp), .val (.int (4 : Int32))] [(.int (5 : Int32)), (.ref a1), (.int cp)])) rfl rfl (hb hby d1_20)) ?_
            show Go _ p e below s _ _ _ (s₁.setTop (mkF m 21 #[.val (.ref a1), .val (.int cp), .val (.int (4 : Int32))] [(.int v5), (.int cp)]))
            by_cases hc21_67 : v5 < cp
            · refine go (fun _ => XS.icmpYes X0.here hx rfl (pc0 := 21) (pc' := 26) rfl (hb hby d1_21) rfl (tlt hc21_67).2.2.1 (by decide) (by decide)) ?_
              show Go _ p e below s _ _ _ (s₁.setTop (mkF m 26 #[.val (.ref a1), .val (.int cp), .val (.int (4 : Int32))] []))
              refine go (fun _ => XS.iinc X0.here hx rfl (hb hby d1_26) rfl (l' := #[.val (.ref a1), .val (.int cp), .val (.int (6 : Int32))]) rfl) ?_
              show Go _ p e below s _ _ _ (s₁.setTop (mkF m 29 #[.val (.ref a1), .val (.int cp), .val (.int (6 : Int32))] []))
              refine go (fun _ => XS.goto X0.here hx rfl (pc0 := 29) (pc' := 2) rfl (hb hby d1_29) (by decide) (by decide)) ?_
              show Go _ p e below s _ _ _ (s₁.setTop (mkF m 2 #[.val (.ref a1), .val (.int cp), .val (.int (6 : Int32))] []))
              refine go (fun _ => XS.iloadN X0.here hx rfl (hb hby d1_2) rfl) ?_
              show Go _ p e below s _ _ _ (s₁.setTop (mkF m 3 #[.val (.ref a1), .val (.int cp), .val (.int (6 : Int32))] [(.int (6 : Int32))]))
              refine go (fun _ => XS.aloadN X0.here hx rfl (hb hby d1_3) rfl rfl) ?_
              show Go _ p e below s _ _ _ (s₁.setTop (mkF m 4 #[.val (.ref a1), .val (.int cp), .val (.int (6 : Int32))] [(.ref a1), (.int (6 : Int32))]))
              obtain ⟨cl68, Ar68, -, Sz68, Nz68, -, -⟩ := id P0
              refine go (X0.arraylength hx (by rw [e0]; exact Ar68.1) (State.isArrayOf_alike hZ.alike Ar68.2.1) (g := (mkF m 4 #[.val (.ref a1), .val (.int cp), .val (.int (6 : Int32))] [(.ref a1), (.int (6 : Int32))])) rfl rfl (hb hby d1_4)) ?_
              rw [len_of Sz68 Nz68]
              show Go _ p e below s _ _ _ (s₁.setTop (mkF m 5 #[.val (.ref a1), .val (.int cp), .val (.int (6 : Int32))] [(.int (6 : Int32)), (.int (6 : Int32))]))
              refine go (fun _ => XS.icmpYes X0.here hx rfl (pc0 := 5) (pc' := 32) rfl (hb hby d1_5) rfl (flt (by decide : ¬ ((6 : Int32) < (6 : Int32)))).2.1 (by decide) (by decide)) ?_
              show Go _ p e below s _ _ _ (s₁.setTop (mkF m 32 #[.val (.ref a1), .val (.int cp), .val (.int (6 : Int32))] []))
              refine go (fun _ => XS.iconst X0.here hx rfl (hb hby d1_32)) ?_
              show Go _ p e below s _ _ _ (s₁.setTop (mkF m 33 #[.val (.ref a1), .val (.int cp), .val (.int (6 : Int32))] [(.int (0 : Int32))]))
              refine goRet X0 hx Bd.notSynchronized Bd.returns rfl (Or.inl ⟨rfl, Or.inr (Or.inl rfl), _, rfl⟩) (hb hby d1_33) (by decide) (by decide) (by rw [e0]; refine ⟨(by unfold own_h6; simp only [if_neg hc12_55, if_pos hc21_57, if_neg hc12_60, if_pos hc21_62, if_neg hc12_65, if_pos hc21_67]), N0, rfl⟩)
            · refine go (fun _ => XS.icmpNo X0.here hx rfl (hb hby d1_21) rfl (flt hc21_67).2.2.1) ?_
              show Go _ p e below s _ _ _ (s₁.setTop (mkF m 24 #[.val (.ref a1), .val (.int cp), .val (.int (4 : Int32))] []))
              refine go (fun _ => XS.iconst X0.here hx rfl (hb hby d1_24)) ?_
              show Go _ p e below s _ _ _ (s₁.setTop (mkF m 25 #[.val (.ref a1), .val (.int cp), .val (.int (4 : Int32))] [(.int (1 : Int32))]))
              refine goRet X0 hx Bd.notSynchronized Bd.returns rfl (Or.inl ⟨rfl, Or.inr (Or.inl rfl), _, rfl⟩) (hb hby d1_25) (by decide) (by decide) (by rw [e0]; refine ⟨(by unfold own_h6; simp only [if_neg hc12_55, if_pos hc21_57, if_neg hc12_60, if_pos hc21_62, if_neg hc12_65, if_neg hc21_67]), N0, rfl⟩)
        · refine go (fun _ => XS.icmpNo X0.here hx rfl (hb hby d1_21) rfl (flt hc21_62).2.2.1) ?_
          show Go _ p e below s _ _ _ (s₁.setTop (mkF m 24 #[.val (.ref a1), .val (.int cp), .val (.int (2 : Int32))] []))
          refine go (fun _ => XS.iconst X0.here hx rfl (hb hby d1_24)) ?_
          show Go _ p e below s _ _ _ (s₁.setTop (mkF m 25 #[.val (.ref a1), .val (.int cp), .val (.int (2 : Int32))] [(.int (1 : Int32))]))
          refine goRet X0 hx Bd.notSynchronized Bd.returns rfl (Or.inl ⟨rfl, Or.inr (Or.inl rfl), _, rfl⟩) (hb hby d1_25) (by decide) (by decide) (by rw [e0]; refine ⟨(by unfold own_h6; simp only [if_neg hc12_55, if_pos hc21_57, if_neg hc12_60, if_neg hc21_62]), N0, rfl⟩)
    · refine go (fun _ => XS.icmpNo X0.here hx rfl (hb hby d1_21) rfl (flt hc21_57).2.2.1) ?_
      show Go _ p e below s _ _ _ (s₁.setTop (mkF m 24 #[.val (.ref a1), .val (.int cp), .val (.int (0 : Int32))] []))
      refine go (fun _ => XS.iconst X0.here hx rfl (hb hby d1_24)) ?_
      show Go _ p e below s _ _ _ (s₁.setTop (mkF m 25 #[.val (.ref a1), .val (.int cp), .val (.int (0 : Int32))] [(.int (1 : Int32))]))
      refine goRet X0 hx Bd.notSynchronized Bd.returns rfl (Or.inl ⟨rfl, Or.inr (Or.inl rfl), _, rfl⟩) (hb hby d1_25) (by decide) (by decide) (by rw [e0]; refine ⟨(by unfold own_h6; simp only [if_neg hc12_55, if_neg hc21_57]), N0, rfl⟩)
theorem pn_0 : plainName "com/example/raccordo/raccordo/flow/PatternSyntaxHoldsPinLaw" = true := by first | (simp [plainName, overriddenIn]; done) | decide +kernel
theorem pd_0_0 : parseMethodDescriptor "([II)Z" = some ⟨[(.array .int), .int], some .boolean⟩ := by decide +kernel
theorem ef_0 (m : MethodId) (p1 : Int32) (p2 : Int32) (p3 : Int32) (p4 : Int32) (p5 : Int32) : entryFrame m #[(.int p1), (.int p2), (.int p3), (.int p4), (.int p5)] maxLocals = mkF m 0 #[.val (.int p1), .val (.int p2), .val (.int p3), .val (.int p4), .val (.int p5), .unset, .unset, .unset, .unset, .unset, .unset, .unset, .unset, .unset, .unset, .unset, .unset, .unset] [] := by first | (simp [entryFrame, mkF, argsToLocals, Value.category, maxLocals]; done) | rfl
def Q0 (Z : State) (p1 : Int32) (p2 : Int32) (p3 : Int32) (p4 : Int32) (p5 : Int32) (h0 : Heap) (n0 : Nat) (v : Option Value) (h : Heap) (L : List Loc) : Prop := v = some (.int (1 : Int32)) ∧ Fr n0 L
set_option maxRecDepth 65536 in
set_option maxHeartbeats 40000000 in
theorem rm0 (l : Launch) (Z : State) (a0 : Array Value) (hw : ∀ d ∈ tables_1, d.before a0 Z = true) (ws : List Jvm.Cond) (p1 : Int32) (p2 : Int32) (p3 : Int32) (p4 : Int32) (p5 : Int32) (h0 : Heap) (n0 : Nat) (Z0 : n0 ≤ h0.size)  :
    MetFree l x (head1 (Jvm.Cond.code x code maxLocals ret :: ws) room_1) (fun a U => a = #[(.int p1), (.int p2), (.int p3), (.int p4), (.int p5)] ∧ Z.Warmed39 U.vm ∧ U.heap = h0) (fun _ _ _ _ _ => True) (fun _ U o U' => ∃ v L, o = .returned v ∧ Q0 Z p1 p2 p3 p4 p5 h0 n0 v U'.heap L ∧ FrameEnd U o U' L room_1.cells room_1.slots) := by
  refine MetFree.of_bodySF (plainFor_of_name pn_0) hisR ?_
  intro p e s m args below meth c s₁ Bd hml0 hP hK
  obtain ⟨rfl, hZ, hh⟩ := hP
  have hx := Bd.exec
  have hby := Bd.bytes
  have hml : c.maxLocals = 18 := hml0
  have hown : s.vm.findClass "com/example/raccordo/raccordo/flow/PatternSyntaxHoldsPinLaw" = some m.cls := findClass_of_methodNamed Bd.named
  have hnm := (name_of_methodNamed Bd.named Bd.method).1
  have X0 : Stand p l e room_1 s m #[(.int p1), (.int p2), (.int p3), (.int p4), (.int p5)] below meth c s₁ [] 0 0 := Stand.of_body Bd
  have e0 : s₁.heap = h0 := by rw [← hh, Bd.state]; rfl
  have N0 := Fr.nil n0
  have hS0 : s.Since s.vm 0 := (State.WarmedH.refl s).since 0
  show Go FrameEnd p e below s room_1.cells room_1.slots (Q0 Z p1 p2 p3 p4 p5 h0 n0) (s₁.setTop (entryFrame m #[(.int p1), (.int p2), (.int p3), (.int p4), (.int p5)] maxLocals))
  refine go (fun _ k => castTop (ef_0 m p1 p2 p3 p4 p5) k) ?_
  show Go _ p e below s _ _ _ (s₁.setTop (mkF m 0 #[.val (.int p1), .val (.int p2), .val (.int p3), .val (.int p4), .val (.int p5), .unset, .unset, .unset, .unset, .unset, .unset, .unset, .unset, .unset, .unset, .unset, .unset, .unset] []))
  have J1 : ∀ (v0 : Int32) (v1 : Int32) (v2 : Int32) (v3 : Int32) (v4 : Int32) (v5 : Int32) (k : Int32) (cp : Int32), (v0 ≤ v1 ∧ v1 < v2 ∧ v2 ≤ v3 ∧ v3 < v4 ∧ v4 ≤ v5) → (k = 0 ∨ k = 1 ∨ k = 2 ∨ k = 3) → Go FrameEnd p e below s room_1.cells room_1.slots (Q0 Z p1 p2 p3 p4 p5 h0 n0) (s₁.setTop (mkF m 101 #[.val (.int p1), .val (.int p2), .val (.int p3), .val (.int p4), .val (.int p5), .val (.int v0), .val (.int v1), .val (.int v2), .val (.int v3), .val (.int v4), .val (.int v5), .val (.int k), .unset, .unset, .unset, .unset, .unset, .unset] [(.int cp)])) := by
    intro v0 v1 v2 v3 v4 v5 k cp ho hk
    show Go _ p e below s _ _ _ (s₁.setTop (mkF m 101 #[.val (.int p1), .val (.int p2), .val (.int p3), .val (.int p4), .val (.int p5), .val (.int v0), .val (.int v1), .val (.int v2), .val (.int v3), .val (.int v4), .val (.int v5), .val (.int k), .unset, .unset, .unset, .unset, .unset, .unset] [(.int cp)]))
    rcases hk with rfl | rfl | rfl | rfl
    · show Go _ p e below s _ _ _ (s₁.setTop (mkF m 101 #[.val (.int p1), .val (.int p2), .val (.int p3), .val (.int p4), .val (.int p5), .val (.int v0), .val (.int v1), .val (.int v2), .val (.int v3), .val (.int v4), .val (.int v5), .val (.int (0 : Int32)), .unset, .unset, .unset, .unset, .unset, .unset] [(.int cp)]))
      refine go (fun _ => XS.istore X0.here hx rfl (hb hby at_101) rfl (l' := #[.val (.int p1), .val (.int p2), .val (.int p3), .val (.int p4), .val (.int p5), .val (.int v0), .val (.int v1), .val (.int v2), .val (.int v3), .val (.int v4), .val (.int v5), .val (.int (0 : Int32)), .val (.int cp), .unset, .unset, .unset, .unset, .unset]) rfl) ?_
      show Go _ p e below s _ _ _ (s₁.setTop (mkF m 103 #[.val (.int p1), .val (.int p2), .val (.int p3), .val (.int p4), .val (.int p5), .val (.int v0), .val (.int v1), .val (.int v2), .val (.int v3), .val (.int v4), .val (.int v5), .val (.int (0 : Int32)), .val (.int cp), .unset, .unset, .unset, .unset, .unset] []))
      refine go (fun _ => XS.iload X0.here hx rfl (hb hby at_103) rfl) ?_
      show Go _ p e below s _ _ _ (s₁.setTop (mkF m 105 #[.val (.int p1), .val (.int p2), .val (.int p3), .val (.int p4), .val (.int p5), .val (.int v0), .val (.int v1), .val (.int v2), .val (.int v3), .val (.int v4), .val (.int v5), .val (.int (0 : Int32)), .val (.int cp), .unset, .unset, .unset, .unset, .unset] [(.int (0 : Int32))]))
      refine go (fun _ => XS.ifNo X0.here hx rfl (hb hby at_105) rfl ((if0 _ _).trans (teq (rfl : (0 : Int32) = (0 : Int32))).2)) ?_
      show Go _ p e below s _ _ _ (s₁.setTop (mkF m 108 #[.val (.int p1), .val (.int p2), .val (.int p3), .val (.int p4), .val (.int p5), .val (.int v0), .val (.int v1), .val (.int v2), .val (.int v3), .val (.int v4), .val (.int v5), .val (.int (0 : Int32)), .val (.int cp), .unset, .unset, .unset, .unset, .unset] []))
      refine go (fun _ => XS.iconst X0.here hx rfl (hb hby at_108)) ?_
      show Go _ p e below s _ _ _ (s₁.setTop (mkF m 109 #[.val (.int p1), .val (.int p2), .val (.int p3), .val (.int p4), .val (.int p5), .val (.int v0), .val (.int v1), .val (.int v2), .val (.int v3), .val (.int v4), .val (.int v5), .val (.int (0 : Int32)), .val (.int cp), .unset, .unset, .unset, .unset, .unset] [(.int (0 : Int32))]))
      obtain ⟨T69, h69, k69, X69, e69, E69, A69, AE69, st69⟩ := newPE X0 hx hZ (hw _ (List.mem_of_getElem? (i := 1) rfl)) e0 (g := (mkF m 109 #[.val (.int p1), .val (.int p2), .val (.int p3), .val (.int p4), .val (.int p5), .val (.int v0), .val (.int v1), .val (.int v2), .val (.int v3), .val (.int v4), .val (.int v5), .val (.int (0 : Int32)), .val (.int cp), .unset, .unset, .unset, .unset, .unset] [(.int (0 : Int32))])) rfl (hb hby at_109) rfl (by decide) (cap := 0) (by decide) (by decide) (by decide) (by decide) (ad := "[I") (by first | rfl | decide)
      obtain ⟨b69, g69⟩ : ∃ z, z = h0.size := ⟨_, rfl⟩
      rw [← g69] at A69 AE69 st69
      have G_b69 : n0 ≤ b69 := Nat.le_trans Z0 (Nat.le_of_eq g69.symm)
      have SZ_b69 : h0.size ≤ b69 := Nat.le_trans (Keep.refl h0 []).1 (Nat.le_of_eq g69.symm)
      have KK69 : Keep h0 h69 [] := (Keep.refl h0 []).ext E69
      have ZN69 : n0 ≤ h69.size := Nat.le_trans Z0 E69.1
      have V69 : Arv Z h69 b69 k69 .int (0 : Int32) [] (.int (0 : Int32)) := (Arv.new A69 (by decide)).pad (pad_rep [] (.int (0 : Int32)) 0)
      refine go st69 ?_
      show Go _ p e below s _ _ _ (T69.setTop (mkF m 111 #[.val (.int p1), .val (.int p2), .val (.int p3), .val (.int p4), .val (.int p5), .val (.int v0), .val (.int v1), .val (.int v2), .val (.int v3), .val (.int v4), .val (.int v5), .val (.int (0 : Int32)), .val (.int cp), .unset, .unset, .unset, .unset, .unset] [(.ref b69)]))
      refine go (fun _ => XS.astore X69.here hx rfl (hb hby at_111) rfl rfl (l' := #[.val (.int p1), .val (.int p2), .val (.int p3), .val (.int p4), .val (.int p5), .val (.int v0), .val (.int v1), .val (.int v2), .val (.int v3), .val (.int v4), .val (.int v5), .val (.int (0 : Int32)), .val (.int cp), .val (.ref b69), .unset, .unset, .unset, .unset]) rfl) ?_
      show Go _ p e below s _ _ _ (T69.setTop (mkF m 113 #[.val (.int p1), .val (.int p2), .val (.int p3), .val (.int p4), .val (.int p5), .val (.int v0), .val (.int v1), .val (.int v2), .val (.int v3), .val (.int v4), .val (.int v5), .val (.int (0 : Int32)), .val (.int cp), .val (.ref b69), .unset, .unset, .unset, .unset] []))
      refine go (fun _ => XS.goto X69.here hx rfl (pc0 := 113) (pc' := 210) rfl (hb hby at_113) (by decide) (by decide)) ?_
      show Go _ p e below s _ _ _ (T69.setTop (mkF m 210 #[.val (.int p1), .val (.int p2), .val (.int p3), .val (.int p4), .val (.int p5), .val (.int v0), .val (.int v1), .val (.int v2), .val (.int v3), .val (.int v4), .val (.int v5), .val (.int (0 : Int32)), .val (.int cp), .val (.ref b69), .unset, .unset, .unset, .unset] []))
      refine go (fun _ => XS.iload X69.here hx rfl (hb hby at_210) rfl) ?_
      show Go _ p e below s _ _ _ (T69.setTop (mkF m 212 #[.val (.int p1), .val (.int p2), .val (.int p3), .val (.int p4), .val (.int p5), .val (.int v0), .val (.int v1), .val (.int v2), .val (.int v3), .val (.int v4), .val (.int v5), .val (.int (0 : Int32)), .val (.int cp), .val (.ref b69), .unset, .unset, .unset, .unset] [(.int (0 : Int32))]))
      refine go (fun _ => XS.iconst X69.here hx rfl (hb hby at_212)) ?_
      show Go _ p e below s _ _ _ (T69.setTop (mkF m 213 #[.val (.int p1), .val (.int p2), .val (.int p3), .val (.int p4), .val (.int p5), .val (.int v0), .val (.int v1), .val (.int v2), .val (.int v3), .val (.int v4), .val (.int v5), .val (.int (0 : Int32)), .val (.int cp), .val (.ref b69), .unset, .unset, .unset, .unset] [(.int (1 : Int32)), (.int (0 : Int32))]))
      refine go (fun _ => XS.icmpYes X69.here hx rfl (pc0 := 213) (pc' := 234) rfl (hb hby at_213) rfl (tlt (by decide : ((0 : Int32) < (1 : Int32)))).1 (by decide) (by decide)) ?_
      show Go _ p e below s _ _ _ (T69.setTop (mkF m 234 #[.val (.int p1), .val (.int p2), .val (.int p3), .val (.int p4), .val (.int p5), .val (.int v0), .val (.int v1), .val (.int v2), .val (.int v3), .val (.int v4), .val (.int v5), .val (.int (0 : Int32)), .val (.int cp), .val (.ref b69), .unset, .unset, .unset, .unset] []))
      refine go (fun _ => XS.iconst X69.here hx rfl (hb hby at_234)) ?_
      show Go _ p e below s _ _ _ (T69.setTop (mkF m 235 #[.val (.int p1), .val (.int p2), .val (.int p3), .val (.int p4), .val (.int p5), .val (.int v0), .val (.int v1), .val (.int v2), .val (.int v3), .val (.int v4), .val (.int v5), .val (.int (0 : Int32)), .val (.int cp), .val (.ref b69), .unset, .unset, .unset, .unset] [(.int (0 : Int32))]))
      refine go (fun _ => XS.istore X69.here hx rfl (hb hby at_235) rfl (l' := #[.val (.int p1), .val (.int p2), .val (.int p3), .val (.int p4), .val (.int p5), .val (.int v0), .val (.int v1), .val (.int v2), .val (.int v3), .val (.int v4), .val (.int v5), .val (.int (0 : Int32)), .val (.int cp), .val (.ref b69), .val (.int (0 : Int32)), .unset, .unset, .unset]) rfl) ?_
      show Go _ p e below s _ _ _ (T69.setTop (mkF m 237 #[.val (.int p1), .val (.int p2), .val (.int p3), .val (.int p4), .val (.int p5), .val (.int v0), .val (.int v1), .val (.int v2), .val (.int v3), .val (.int v4), .val (.int v5), .val (.int (0 : Int32)), .val (.int cp), .val (.ref b69), .val (.int (0 : Int32)), .unset, .unset, .unset] []))
      refine go (fun _ => XS.iload X69.here hx rfl (hb hby at_237) rfl) ?_
      show Go _ p e below s _ _ _ (T69.setTop (mkF m 239 #[.val (.int p1), .val (.int p2), .val (.int p3), .val (.int p4), .val (.int p5), .val (.int v0), .val (.int v1), .val (.int v2), .val (.int v3), .val (.int v4), .val (.int v5), .val (.int (0 : Int32)), .val (.int cp), .val (.ref b69), .val (.int (0 : Int32)), .unset, .unset, .unset] [(.int (0 : Int32))]))
      refine go (fun _ => XS.iconst X69.here hx rfl (hb hby at_239)) ?_
      show Go _ p e below s _ _ _ (T69.setTop (mkF m 240 #[.val (.int p1), .val (.int p2), .val (.int p3), .val (.int p4), .val (.int p5), .val (.int v0), .val (.int v1), .val (.int v2), .val (.int v3), .val (.int v4), .val (.int v5), .val (.int (0 : Int32)), .val (.int cp), .val (.ref b69), .val (.int (0 : Int32)), .unset, .unset, .unset] [(.int (2 : Int32)), (.int (0 : Int32))]))
      refine go (fun _ => XS.icmpYes X69.here hx rfl (pc0 := 240) (pc' := 261) rfl (hb hby at_240) rfl (tlt (by decide : ((0 : Int32) < (2 : Int32)))).1 (by decide) (by decide)) ?_
      show Go _ p e below s _ _ _ (T69.setTop (mkF m 261 #[.val (.int p1), .val (.int p2), .val (.int p3), .val (.int p4), .val (.int p5), .val (.int v0), .val (.int v1), .val (.int v2), .val (.int v3), .val (.int v4), .val (.int v5), .val (.int (0 : Int32)), .val (.int cp), .val (.ref b69), .val (.int (0 : Int32)), .unset, .unset, .unset] []))
      refine go (fun _ => XS.iconst X69.here hx rfl (hb hby at_261)) ?_
      show Go _ p e below s _ _ _ (T69.setTop (mkF m 262 #[.val (.int p1), .val (.int p2), .val (.int p3), .val (.int p4), .val (.int p5), .val (.int v0), .val (.int v1), .val (.int v2), .val (.int v3), .val (.int v4), .val (.int v5), .val (.int (0 : Int32)), .val (.int cp), .val (.ref b69), .val (.int (0 : Int32)), .unset, .unset, .unset] [(.int (0 : Int32))]))
      refine go (fun _ => XS.istore X69.here hx rfl (hb hby at_262) rfl (l' := #[.val (.int p1), .val (.int p2), .val (.int p3), .val (.int p4), .val (.int p5), .val (.int v0), .val (.int v1), .val (.int v2), .val (.int v3), .val (.int v4), .val (.int v5), .val (.int (0 : Int32)), .val (.int cp), .val (.ref b69), .val (.int (0 : Int32)), .val (.int (0 : Int32)), .unset, .unset]) rfl) ?_
      show Go _ p e below s _ _ _ (T69.setTop (mkF m 264 #[.val (.int p1), .val (.int p2), .val (.int p3), .val (.int p4), .val (.int p5), .val (.int v0), .val (.int v1), .val (.int v2), .val (.int v3), .val (.int v4), .val (.int v5), .val (.int (0 : Int32)), .val (.int cp), .val (.ref b69), .val (.int (0 : Int32)), .val (.int (0 : Int32)), .unset, .unset] []))
      refine go (fun _ => XS.iload X69.here hx rfl (hb hby at_264) rfl) ?_
      show Go _ p e below s _ _ _ (T69.setTop (mkF m 266 #[.val (.int p1), .val (.int p2), .val (.int p3), .val (.int p4), .val (.int p5), .val (.int v0), .val (.int v1), .val (.int v2), .val (.int v3), .val (.int v4), .val (.int v5), .val (.int (0 : Int32)), .val (.int cp), .val (.ref b69), .val (.int (0 : Int32)), .val (.int (0 : Int32)), .unset, .unset] [(.int (0 : Int32))]))
      refine go (fun _ => XS.iconst X69.here hx rfl (hb hby at_266)) ?_
      show Go _ p e below s _ _ _ (T69.setTop (mkF m 267 #[.val (.int p1), .val (.int p2), .val (.int p3), .val (.int p4), .val (.int p5), .val (.int v0), .val (.int v1), .val (.int v2), .val (.int v3), .val (.int v4), .val (.int v5), .val (.int (0 : Int32)), .val (.int cp), .val (.ref b69), .val (.int (0 : Int32)), .val (.int (0 : Int32)), .unset, .unset] [(.int (3 : Int32)), (.int (0 : Int32))]))
      refine go (fun _ => XS.icmpYes X69.here hx rfl (pc0 := 267) (pc' := 288) rfl (hb hby at_267) rfl (tlt (by decide : ((0 : Int32) < (3 : Int32)))).1 (by decide) (by decide)) ?_
      show Go _ p e below s _ _ _ (T69.setTop (mkF m 288 #[.val (.int p1), .val (.int p2), .val (.int p3), .val (.int p4), .val (.int p5), .val (.int v0), .val (.int v1), .val (.int v2), .val (.int v3), .val (.int v4), .val (.int v5), .val (.int (0 : Int32)), .val (.int cp), .val (.ref b69), .val (.int (0 : Int32)), .val (.int (0 : Int32)), .unset, .unset] []))
      refine go (fun _ => XS.iconst X69.here hx rfl (hb hby at_288)) ?_
      show Go _ p e below s _ _ _ (T69.setTop (mkF m 289 #[.val (.int p1), .val (.int p2), .val (.int p3), .val (.int p4), .val (.int p5), .val (.int v0), .val (.int v1), .val (.int v2), .val (.int v3), .val (.int v4), .val (.int v5), .val (.int (0 : Int32)), .val (.int cp), .val (.ref b69), .val (.int (0 : Int32)), .val (.int (0 : Int32)), .unset, .unset] [(.int (0 : Int32))]))
      refine go (fun _ => XS.istore X69.here hx rfl (hb hby at_289) rfl (l' := #[.val (.int p1), .val (.int p2), .val (.int p3), .val (.int p4), .val (.int p5), .val (.int v0), .val (.int v1), .val (.int v2), .val (.int v3), .val (.int v4), .val (.int v5), .val (.int (0 : Int32)), .val (.int cp), .val (.ref b69), .val (.int (0 : Int32)), .val (.int (0 : Int32)), .val (.int (0 : Int32)), .unset]) rfl) ?_
      show Go _ p e below s _ _ _ (T69.setTop (mkF m 291 #[.val (.int p1), .val (.int p2), .val (.int p3), .val (.int p4), .val (.int p5), .val (.int v0), .val (.int v1), .val (.int v2), .val (.int v3), .val (.int v4), .val (.int v5), .val (.int (0 : Int32)), .val (.int cp), .val (.ref b69), .val (.int (0 : Int32)), .val (.int (0 : Int32)), .val (.int (0 : Int32)), .unset] []))
      refine go (fun _ => XS.iload X69.here hx rfl (hb hby at_291) rfl) ?_
      show Go _ p e below s _ _ _ (T69.setTop (mkF m 293 #[.val (.int p1), .val (.int p2), .val (.int p3), .val (.int p4), .val (.int p5), .val (.int v0), .val (.int v1), .val (.int v2), .val (.int v3), .val (.int v4), .val (.int v5), .val (.int (0 : Int32)), .val (.int cp), .val (.ref b69), .val (.int (0 : Int32)), .val (.int (0 : Int32)), .val (.int (0 : Int32)), .unset] [(.int (0 : Int32))]))
      refine go (fun _ => XS.ifNo X69.here hx rfl (hb hby at_293) rfl ((if0 _ _).trans (teq (rfl : (0 : Int32) = (0 : Int32))).2)) ?_
      show Go _ p e below s _ _ _ (T69.setTop (mkF m 296 #[.val (.int p1), .val (.int p2), .val (.int p3), .val (.int p4), .val (.int p5), .val (.int v0), .val (.int v1), .val (.int v2), .val (.int v3), .val (.int v4), .val (.int v5), .val (.int (0 : Int32)), .val (.int cp), .val (.ref b69), .val (.int (0 : Int32)), .val (.int (0 : Int32)), .val (.int (0 : Int32)), .unset] []))
      refine go (fun _ => XS.iload X69.here hx rfl (hb hby at_296) rfl) ?_
      show Go _ p e below s _ _ _ (T69.setTop (mkF m 298 #[.val (.int p1), .val (.int p2), .val (.int p3), .val (.int p4), .val (.int p5), .val (.int v0), .val (.int v1), .val (.int v2), .val (.int v3), .val (.int v4), .val (.int v5), .val (.int (0 : Int32)), .val (.int cp), .val (.ref b69), .val (.int (0 : Int32)), .val (.int (0 : Int32)), .val (.int (0 : Int32)), .unset] [(.int (0 : Int32))]))
      refine go (fun _ => XS.ifNo X69.here hx rfl (hb hby at_298) rfl ((if0 _ _).trans (teq (rfl : (0 : Int32) = (0 : Int32))).2)) ?_
      show Go _ p e below s _ _ _ (T69.setTop (mkF m 301 #[.val (.int p1), .val (.int p2), .val (.int p3), .val (.int p4), .val (.int p5), .val (.int v0), .val (.int v1), .val (.int v2), .val (.int v3), .val (.int v4), .val (.int v5), .val (.int (0 : Int32)), .val (.int cp), .val (.ref b69), .val (.int (0 : Int32)), .val (.int (0 : Int32)), .val (.int (0 : Int32)), .unset] []))
      refine go (fun _ => XS.iload X69.here hx rfl (hb hby at_301) rfl) ?_
      show Go _ p e below s _ _ _ (T69.setTop (mkF m 303 #[.val (.int p1), .val (.int p2), .val (.int p3), .val (.int p4), .val (.int p5), .val (.int v0), .val (.int v1), .val (.int v2), .val (.int v3), .val (.int v4), .val (.int v5), .val (.int (0 : Int32)), .val (.int cp), .val (.ref b69), .val (.int (0 : Int32)), .val (.int (0 : Int32)), .val (.int (0 : Int32)), .unset] [(.int (0 : Int32))]))
      refine go (fun _ => XS.ifYes X69.here hx rfl (pc0 := 303) (pc' := 310) rfl (hb hby at_303) rfl ((if0 _ _).trans (teq (rfl : (0 : Int32) = (0 : Int32))).1) (by decide) (by decide)) ?_
      show Go _ p e below s _ _ _ (T69.setTop (mkF m 310 #[.val (.int p1), .val (.int p2), .val (.int p3), .val (.int p4), .val (.int p5), .val (.int v0), .val (.int v1), .val (.int v2), .val (.int v3), .val (.int v4), .val (.int v5), .val (.int (0 : Int32)), .val (.int cp), .val (.ref b69), .val (.int (0 : Int32)), .val (.int (0 : Int32)), .val (.int (0 : Int32)), .unset] []))
      refine go (fun _ => XS.iconst X69.here hx rfl (hb hby at_310)) ?_
      show Go _ p e below s _ _ _ (T69.setTop (mkF m 311 #[.val (.int p1), .val (.int p2), .val (.int p3), .val (.int p4), .val (.int p5), .val (.int v0), .val (.int v1), .val (.int v2), .val (.int v3), .val (.int v4), .val (.int v5), .val (.int (0 : Int32)), .val (.int cp), .val (.ref b69), .val (.int (0 : Int32)), .val (.int (0 : Int32)), .val (.int (0 : Int32)), .unset] [(.int (0 : Int32))]))
      refine go (fun _ => XS.istore X69.here hx rfl (hb hby at_311) rfl (l' := #[.val (.int p1), .val (.int p2), .val (.int p3), .val (.int p4), .val (.int p5), .val (.int v0), .val (.int v1), .val (.int v2), .val (.int v3), .val (.int v4), .val (.int v5), .val (.int (0 : Int32)), .val (.int cp), .val (.ref b69), .val (.int (0 : Int32)), .val (.int (0 : Int32)), .val (.int (0 : Int32)), .val (.int (0 : Int32))]) rfl) ?_
      show Go _ p e below s _ _ _ (T69.setTop (mkF m 313 #[.val (.int p1), .val (.int p2), .val (.int p3), .val (.int p4), .val (.int p5), .val (.int v0), .val (.int v1), .val (.int v2), .val (.int v3), .val (.int v4), .val (.int v5), .val (.int (0 : Int32)), .val (.int cp), .val (.ref b69), .val (.int (0 : Int32)), .val (.int (0 : Int32)), .val (.int (0 : Int32)), .val (.int (0 : Int32))] []))
      refine go (fun _ => XS.aload X69.here hx rfl (hb hby at_313) rfl rfl) ?_
      show Go _ p e below s _ _ _ (T69.setTop (mkF m 315 #[.val (.int p1), .val (.int p2), .val (.int p3), .val (.int p4), .val (.int p5), .val (.int v0), .val (.int v1), .val (.int v2), .val (.int v3), .val (.int v4), .val (.int v5), .val (.int (0 : Int32)), .val (.int cp), .val (.ref b69), .val (.int (0 : Int32)), .val (.int (0 : Int32)), .val (.int (0 : Int32)), .val (.int (0 : Int32))] [(.ref b69)]))
      refine go (fun _ => XS.iload X69.here hx rfl (hb hby at_315) rfl) ?_
      show Go _ p e below s _ _ _ (T69.setTop (mkF m 317 #[.val (.int p1), .val (.int p2), .val (.int p3), .val (.int p4), .val (.int p5), .val (.int v0), .val (.int v1), .val (.int v2), .val (.int v3), .val (.int v4), .val (.int v5), .val (.int (0 : Int32)), .val (.int cp), .val (.ref b69), .val (.int (0 : Int32)), .val (.int (0 : Int32)), .val (.int (0 : Int32)), .val (.int (0 : Int32))] [(.int cp), (.ref b69)]))
      obtain ⟨_, _, ⟨T70, L70, k70, n70⟩, -, X70, ⟨Lc70, hQ70, l70, y70, z70⟩, st70⟩ := Jvm.LawKit.callS X69 hx (y := (⟨"com/example/raccordo/raccordo/flow/PatternSyntax", "holds", "([II)Z"⟩ : MethodName)) hown (mvT hZ (hw _ (List.mem_of_getElem? (i := 2) rfl))) (mvT hZ (hw _ (List.mem_of_getElem? (i := 3) rfl))) (mvT hZ (hw _ (List.mem_of_getElem? (i := 4) rfl))) (mvT hZ (hw _ (List.mem_of_getElem? (i := 5) rfl))) (by decide) (backOf (W := 0) (rm1h0 l Z a0 hw [] b69 cp k69 (.int (0 : Int32)) h69 n0 ZN69 V69) hZ (hw _ (List.mem_of_getElem? (i := 5) rfl)) (hw _ (List.mem_of_getElem? (i := 4) rfl)) (by decide) (by decide)) (g := (mkF m 317 #[.val (.int p1), .val (.int p2), .val (.int p3), .val (.int p4), .val (.int p5), .val (.int v0), .val (.int v1), .val (.int v2), .val (.int v3), .val (.int v4), .val (.int v5), .val (.int (0 : Int32)), .val (.int cp), .val (.ref b69), .val (.int (0 : Int32)), .val (.int (0 : Int32)), .val (.int (0 : Int32)), .val (.int (0 : Int32))] [(.int cp), (.ref b69)])) rfl (by rw [hml]; rfl) (argsL := [(.ref b69), (.int cp)]) (rest := []) (lenOf pd_0_0 rfl) rfl (by show 2 * 0 + _ ≤ _; exact Nat.le_of_eq rfl) (hb hby at_317) (fun _ _ => ⟨rfl, e69, (by decide : 1 + 0 ≤ _), (by decide : 0 + 0 ≤ _)⟩)
      dsimp only [Pt.U, Pt.locs, Pt.cells, Pt.slots] at X70 l70 y70 z70 st70 hQ70
      subst l70 y70 z70
      obtain ⟨rfl, N70q, e70⟩ := hQ70
      have N70 := Fr.app N0 N70q
      refine go st70 ?_
      show Go _ p e below s _ _ _ (T70.setTop (mkF m 320 #[.val (.int p1), .val (.int p2), .val (.int p3), .val (.int p4), .val (.int p5), .val (.int v0), .val (.int v1), .val (.int v2), .val (.int v3), .val (.int v4), .val (.int v5), .val (.int (0 : Int32)), .val (.int cp), .val (.ref b69), .val (.int (0 : Int32)), .val (.int (0 : Int32)), .val (.int (0 : Int32)), .val (.int (0 : Int32))] [(.int (own_h0 cp))]))
      refine go (fun _ => XS.iload X70.here hx rfl (hb hby at_320) rfl) ?_
      show Go _ p e below s _ _ _ (T70.setTop (mkF m 322 #[.val (.int p1), .val (.int p2), .val (.int p3), .val (.int p4), .val (.int p5), .val (.int v0), .val (.int v1), .val (.int v2), .val (.int v3), .val (.int v4), .val (.int v5), .val (.int (0 : Int32)), .val (.int cp), .val (.ref b69), .val (.int (0 : Int32)), .val (.int (0 : Int32)), .val (.int (0 : Int32)), .val (.int (0 : Int32))] [(.int (0 : Int32)), (.int (own_h0 cp))]))
      refine go (fun _ => XS.icmpNo X70.here hx rfl (hb hby at_322) rfl (teq (by exact own_fin0 ho cp)).2) ?_
      show Go _ p e below s _ _ _ (T70.setTop (mkF m 325 #[.val (.int p1), .val (.int p2), .val (.int p3), .val (.int p4), .val (.int p5), .val (.int v0), .val (.int v1), .val (.int v2), .val (.int v3), .val (.int v4), .val (.int v5), .val (.int (0 : Int32)), .val (.int cp), .val (.ref b69), .val (.int (0 : Int32)), .val (.int (0 : Int32)), .val (.int (0 : Int32)), .val (.int (0 : Int32))] []))
      refine go (fun _ => XS.iconst X70.here hx rfl (hb hby at_325)) ?_
      show Go _ p e below s _ _ _ (T70.setTop (mkF m 326 #[.val (.int p1), .val (.int p2), .val (.int p3), .val (.int p4), .val (.int p5), .val (.int v0), .val (.int v1), .val (.int v2), .val (.int v3), .val (.int v4), .val (.int v5), .val (.int (0 : Int32)), .val (.int cp), .val (.ref b69), .val (.int (0 : Int32)), .val (.int (0 : Int32)), .val (.int (0 : Int32)), .val (.int (0 : Int32))] [(.int (1 : Int32))]))
      refine go (fun _ => XS.goto X70.here hx rfl (pc0 := 326) (pc' := 330) rfl (hb hby at_326) (by decide) (by decide)) ?_
      show Go _ p e below s _ _ _ (T70.setTop (mkF m 330 #[.val (.int p1), .val (.int p2), .val (.int p3), .val (.int p4), .val (.int p5), .val (.int v0), .val (.int v1), .val (.int v2), .val (.int v3), .val (.int v4), .val (.int v5), .val (.int (0 : Int32)), .val (.int cp), .val (.ref b69), .val (.int (0 : Int32)), .val (.int (0 : Int32)), .val (.int (0 : Int32)), .val (.int (0 : Int32))] [(.int (1 : Int32))]))
      refine goRet X70 hx Bd.notSynchronized Bd.returns rfl (Or.inl ⟨rfl, Or.inr (Or.inl rfl), _, rfl⟩) (hb hby at_330) (by decide) (by decide) (by rw [e70]; refine ⟨rfl, N70⟩)
    · show Go _ p e below s _ _ _ (s₁.setTop (mkF m 101 #[.val (.int p1), .val (.int p2), .val (.int p3), .val (.int p4), .val (.int p5), .val (.int v0), .val (.int v1), .val (.int v2), .val (.int v3), .val (.int v4), .val (.int v5), .val (.int (1 : Int32)), .unset, .unset, .unset, .unset, .unset, .unset] [(.int cp)]))
      refine go (fun _ => XS.istore X0.here hx rfl (hb hby at_101) rfl (l' := #[.val (.int p1), .val (.int p2), .val (.int p3), .val (.int p4), .val (.int p5), .val (.int v0), .val (.int v1), .val (.int v2), .val (.int v3), .val (.int v4), .val (.int v5), .val (.int (1 : Int32)), .val (.int cp), .unset, .unset, .unset, .unset, .unset]) rfl) ?_
      show Go _ p e below s _ _ _ (s₁.setTop (mkF m 103 #[.val (.int p1), .val (.int p2), .val (.int p3), .val (.int p4), .val (.int p5), .val (.int v0), .val (.int v1), .val (.int v2), .val (.int v3), .val (.int v4), .val (.int v5), .val (.int (1 : Int32)), .val (.int cp), .unset, .unset, .unset, .unset, .unset] []))
      refine go (fun _ => XS.iload X0.here hx rfl (hb hby at_103) rfl) ?_
      show Go _ p e below s _ _ _ (s₁.setTop (mkF m 105 #[.val (.int p1), .val (.int p2), .val (.int p3), .val (.int p4), .val (.int p5), .val (.int v0), .val (.int v1), .val (.int v2), .val (.int v3), .val (.int v4), .val (.int v5), .val (.int (1 : Int32)), .val (.int cp), .unset, .unset, .unset, .unset, .unset] [(.int (1 : Int32))]))
      refine go (fun _ => XS.ifYes X0.here hx rfl (pc0 := 105) (pc' := 116) rfl (hb hby at_105) rfl ((if0 _ _).trans (feq (by decide : ¬ ((1 : Int32) = (0 : Int32)))).2) (by decide) (by decide)) ?_
      show Go _ p e below s _ _ _ (s₁.setTop (mkF m 116 #[.val (.int p1), .val (.int p2), .val (.int p3), .val (.int p4), .val (.int p5), .val (.int v0), .val (.int v1), .val (.int v2), .val (.int v3), .val (.int v4), .val (.int v5), .val (.int (1 : Int32)), .val (.int cp), .unset, .unset, .unset, .unset, .unset] []))
      refine go (fun _ => XS.iload X0.here hx rfl (hb hby at_116) rfl) ?_
      show Go _ p e below s _ _ _ (s₁.setTop (mkF m 118 #[.val (.int p1), .val (.int p2), .val (.int p3), .val (.int p4), .val (.int p5), .val (.int v0), .val (.int v1), .val (.int v2), .val (.int v3), .val (.int v4), .val (.int v5), .val (.int (1 : Int32)), .val (.int cp), .unset, .unset, .unset, .unset, .unset] [(.int (1 : Int32))]))
      refine go (fun _ => XS.iconst X0.here hx rfl (hb hby at_118)) ?_
      show Go _ p e below s _ _ _ (s₁.setTop (mkF m 119 #[.val (.int p1), .val (.int p2), .val (.int p3), .val (.int p4), .val (.int p5), .val (.int v0), .val (.int v1), .val (.int v2), .val (.int v3), .val (.int v4), .val (.int v5), .val (.int (1 : Int32)), .val (.int cp), .unset, .unset, .unset, .unset, .unset] [(.int (1 : Int32)), (.int (1 : Int32))]))
      refine go (fun _ => XS.icmpNo X0.here hx rfl (hb hby at_119) rfl (teq (rfl : (1 : Int32) = (1 : Int32))).2) ?_
      show Go _ p e below s _ _ _ (s₁.setTop (mkF m 122 #[.val (.int p1), .val (.int p2), .val (.int p3), .val (.int p4), .val (.int p5), .val (.int v0), .val (.int v1), .val (.int v2), .val (.int v3), .val (.int v4), .val (.int v5), .val (.int (1 : Int32)), .val (.int cp), .unset, .unset, .unset, .unset, .unset] []))
      refine go (fun _ => XS.iconst X0.here hx rfl (hb hby at_122)) ?_
      show Go _ p e below s _ _ _ (s₁.setTop (mkF m 123 #[.val (.int p1), .val (.int p2), .val (.int p3), .val (.int p4), .val (.int p5), .val (.int v0), .val (.int v1), .val (.int v2), .val (.int v3), .val (.int v4), .val (.int v5), .val (.int (1 : Int32)), .val (.int cp), .unset, .unset, .unset, .unset, .unset] [(.int (2 : Int32))]))
      obtain ⟨T71, h71, k71, X71, e71, E71, A71, AE71, st71⟩ := newPE X0 hx hZ (hw _ (List.mem_of_getElem? (i := 1) rfl)) e0 (g := (mkF m 123 #[.val (.int p1), .val (.int p2), .val (.int p3), .val (.int p4), .val (.int p5), .val (.int v0), .val (.int v1), .val (.int v2), .val (.int v3), .val (.int v4), .val (.int v5), .val (.int (1 : Int32)), .val (.int cp), .unset, .unset, .unset, .unset, .unset] [(.int (2 : Int32))])) rfl (hb hby at_123) rfl (by decide) (cap := 2) (by decide) (by decide) (by decide) (by decide) (ad := "[I") (by first | rfl | decide)
      obtain ⟨b71, g71⟩ : ∃ z, z = h0.size := ⟨_, rfl⟩
      rw [← g71] at A71 AE71 st71
      have G_b71 : n0 ≤ b71 := Nat.le_trans Z0 (Nat.le_of_eq g71.symm)
      have SZ_b71 : h0.size ≤ b71 := Nat.le_trans (Keep.refl h0 []).1 (Nat.le_of_eq g71.symm)
      have KK71 : Keep h0 h71 [] := (Keep.refl h0 []).ext E71
      have ZN71 : n0 ≤ h71.size := Nat.le_trans Z0 E71.1
      have V71 : Arv Z h71 b71 k71 .int (2 : Int32) [(.int (0 : Int32)), (.int (0 : Int32))] (.int (0 : Int32)) := (Arv.new A71 (by decide)).pad (pad_rep [] (.int (0 : Int32)) 2)
      refine go st71 ?_
      show Go _ p e below s _ _ _ (T71.setTop (mkF m 125 #[.val (.int p1), .val (.int p2), .val (.int p3), .val (.int p4), .val (.int p5), .val (.int v0), .val (.int v1), .val (.int v2), .val (.int v3), .val (.int v4), .val (.int v5), .val (.int (1 : Int32)), .val (.int cp), .unset, .unset, .unset, .unset, .unset] [(.ref b71)]))
      refine go (fun _ => XS.dup X71.here hx rfl (hb hby at_125) rfl rfl) ?_
      show Go _ p e below s _ _ _ (T71.setTop (mkF m 126 #[.val (.int p1), .val (.int p2), .val (.int p3), .val (.int p4), .val (.int p5), .val (.int v0), .val (.int v1), .val (.int v2), .val (.int v3), .val (.int v4), .val (.int v5), .val (.int (1 : Int32)), .val (.int cp), .unset, .unset, .unset, .unset, .unset] [(.ref b71), (.ref b71)]))
      refine go (fun _ => XS.iconst X71.here hx rfl (hb hby at_126)) ?_
      show Go _ p e below s _ _ _ (T71.setTop (mkF m 127 #[.val (.int p1), .val (.int p2), .val (.int p3), .val (.int p4), .val (.int p5), .val (.int v0), .val (.int v1), .val (.int v2), .val (.int v3), .val (.int v4), .val (.int v5), .val (.int (1 : Int32)), .val (.int cp), .unset, .unset, .unset, .unset, .unset] [(.int (0 : Int32)), (.ref b71), (.ref b71)]))
      refine go (fun _ => XS.iload X71.here hx rfl (hb hby at_127) rfl) ?_
      show Go _ p e below s _ _ _ (T71.setTop (mkF m 129 #[.val (.int p1), .val (.int p2), .val (.int p3), .val (.int p4), .val (.int p5), .val (.int v0), .val (.int v1), .val (.int v2), .val (.int v3), .val (.int v4), .val (.int v5), .val (.int (1 : Int32)), .val (.int cp), .unset, .unset, .unset, .unset, .unset] [(.int v0), (.int (0 : Int32)), (.ref b71), (.ref b71)]))
      obtain ⟨cl72, Ar72, q72, Sz72, Nz72, Hs72, Gs72⟩ := id V71
      have hin72 : ¬ ((0 : Int32) < 0 ∨ cl72.slots.size ≤ ((0 : Int32)).toNatClampNeg) := inb_of Sz72 ⟨by decide, by decide⟩
      obtain ⟨T72, h72, X72, e72, W72, st72⟩ := stI X71 hx hZ e71 Ar72 (j := (0 : Int32)) hin72 (g := (mkF m 129 #[.val (.int p1), .val (.int p2), .val (.int p3), .val (.int p4), .val (.int p5), .val (.int v0), .val (.int v1), .val (.int v2), .val (.int v3), .val (.int v4), .val (.int v5), .val (.int (1 : Int32)), .val (.int cp), .unset, .unset, .unset, .unset, .unset] [(.int v0), (.int (0 : Int32)), (.ref b71), (.ref b71)])) rfl rfl (hb hby at_129)
      have V72 := Arv.set Ar72 q72 Sz72 Nz72 Hs72 Gs72 rfl W72 0 rfl (Nat.le_of_ble_eq_true rfl)
      have VV72 : Arv Z h72 b71 k71 .int (2 : Int32) [(.int v0), (.int (0 : Int32))] (.int (0 : Int32)) := V72
      have c72_0 := AE71.wr W72
      have KK72 : Keep h0 h72 [] := KK71.wr W72 (Or.inr SZ_b71)
      have ZN72 : n0 ≤ h72.size := Nat.le_trans ZN71 (Keep.of_wr W72).1
      have NN72 := Fr.snoc X72 N0 G_b71
      refine go st72 ?_
      show Go _ p e below s _ _ _ (T72.setTop (mkF m 130 #[.val (.int p1), .val (.int p2), .val (.int p3), .val (.int p4), .val (.int p5), .val (.int v0), .val (.int v1), .val (.int v2), .val (.int v3), .val (.int v4), .val (.int v5), .val (.int (1 : Int32)), .val (.int cp), .unset, .unset, .unset, .unset, .unset] [(.ref b71)]))
      refine go (fun _ => XS.dup X72.here hx rfl (hb hby at_130) rfl rfl) ?_
      show Go _ p e below s _ _ _ (T72.setTop (mkF m 131 #[.val (.int p1), .val (.int p2), .val (.int p3), .val (.int p4), .val (.int p5), .val (.int v0), .val (.int v1), .val (.int v2), .val (.int v3), .val (.int v4), .val (.int v5), .val (.int (1 : Int32)), .val (.int cp), .unset, .unset, .unset, .unset, .unset] [(.ref b71), (.ref b71)]))
      refine go (fun _ => XS.iconst X72.here hx rfl (hb hby at_131)) ?_
      show Go _ p e below s _ _ _ (T72.setTop (mkF m 132 #[.val (.int p1), .val (.int p2), .val (.int p3), .val (.int p4), .val (.int p5), .val (.int v0), .val (.int v1), .val (.int v2), .val (.int v3), .val (.int v4), .val (.int v5), .val (.int (1 : Int32)), .val (.int cp), .unset, .unset, .unset, .unset, .unset] [(.int (1 : Int32)), (.ref b71), (.ref b71)]))
      refine go (fun _ => XS.iload X72.here hx rfl (hb hby at_132) rfl) ?_
      show Go _ p e below s _ _ _ (T72.setTop (mkF m 134 #[.val (.int p1), .val (.int p2), .val (.int p3), .val (.int p4), .val (.int p5), .val (.int v0), .val (.int v1), .val (.int v2), .val (.int v3), .val (.int v4), .val (.int v5), .val (.int (1 : Int32)), .val (.int cp), .unset, .unset, .unset, .unset, .unset] [(.int v1), (.int (1 : Int32)), (.ref b71), (.ref b71)]))
      obtain ⟨cl73, Ar73, q73, Sz73, Nz73, Hs73, Gs73⟩ := id VV72
      have hin73 : ¬ ((1 : Int32) < 0 ∨ cl73.slots.size ≤ ((1 : Int32)).toNatClampNeg) := inb_of Sz73 ⟨by decide, by decide⟩
      obtain ⟨T73, h73, X73, e73, W73, st73⟩ := stI X72 hx hZ e72 Ar73 (j := (1 : Int32)) hin73 (g := (mkF m 134 #[.val (.int p1), .val (.int p2), .val (.int p3), .val (.int p4), .val (.int p5), .val (.int v0), .val (.int v1), .val (.int v2), .val (.int v3), .val (.int v4), .val (.int v5), .val (.int (1 : Int32)), .val (.int cp), .unset, .unset, .unset, .unset, .unset] [(.int v1), (.int (1 : Int32)), (.ref b71), (.ref b71)])) rfl rfl (hb hby at_134)
      have V73 := Arv.set Ar73 q73 Sz73 Nz73 Hs73 Gs73 rfl W73 1 rfl (Nat.le_of_ble_eq_true rfl)
      have VV73 : Arv Z h73 b71 k71 .int (2 : Int32) [(.int v0), (.int v1)] (.int (0 : Int32)) := V73
      have c73_0 := c72_0.wr W73
      have KK73 : Keep h0 h73 [] := KK72.wr W73 (Or.inr SZ_b71)
      have ZN73 : n0 ≤ h73.size := Nat.le_trans ZN72 (Keep.of_wr W73).1
      have NN73 := Fr.snoc X73 NN72 G_b71
      refine go st73 ?_
      show Go _ p e below s _ _ _ (T73.setTop (mkF m 135 #[.val (.int p1), .val (.int p2), .val (.int p3), .val (.int p4), .val (.int p5), .val (.int v0), .val (.int v1), .val (.int v2), .val (.int v3), .val (.int v4), .val (.int v5), .val (.int (1 : Int32)), .val (.int cp), .unset, .unset, .unset, .unset, .unset] [(.ref b71)]))
      refine go (fun _ => XS.astore X73.here hx rfl (hb hby at_135) rfl rfl (l' := #[.val (.int p1), .val (.int p2), .val (.int p3), .val (.int p4), .val (.int p5), .val (.int v0), .val (.int v1), .val (.int v2), .val (.int v3), .val (.int v4), .val (.int v5), .val (.int (1 : Int32)), .val (.int cp), .val (.ref b71), .unset, .unset, .unset, .unset]) rfl) ?_
      show Go _ p e below s _ _ _ (T73.setTop (mkF m 137 #[.val (.int p1), .val (.int p2), .val (.int p3), .val (.int p4), .val (.int p5), .val (.int v0), .val (.int v1), .val (.int v2), .val (.int v3), .val (.int v4), .val (.int v5), .val (.int (1 : Int32)), .val (.int cp), .val (.ref b71), .unset, .unset, .unset, .unset] []))
      refine go (fun _ => XS.goto X73.here hx rfl (pc0 := 137) (pc' := 210) rfl (hb hby at_137) (by decide) (by decide)) ?_
      show Go _ p e below s _ _ _ (T73.setTop (mkF m 210 #[.val (.int p1), .val (.int p2), .val (.int p3), .val (.int p4), .val (.int p5), .val (.int v0), .val (.int v1), .val (.int v2), .val (.int v3), .val (.int v4), .val (.int v5), .val (.int (1 : Int32)), .val (.int cp), .val (.ref b71), .unset, .unset, .unset, .unset] []))
      have JB0 : ∀ (z0 : Int32), (z0 = own_in v0 cp v1) → Go FrameEnd p e below s room_1.cells room_1.slots (Q0 Z p1 p2 p3 p4 p5 h0 n0) (T73.setTop (mkF m 235 #[.val (.int p1), .val (.int p2), .val (.int p3), .val (.int p4), .val (.int p5), .val (.int v0), .val (.int v1), .val (.int v2), .val (.int v3), .val (.int v4), .val (.int v5), .val (.int (1 : Int32)), .val (.int cp), .val (.ref b71), .unset, .unset, .unset, .unset] [(.int z0)])) := by
        intro z0 hz0
        show Go _ p e below s _ _ _ (T73.setTop (mkF m 235 #[.val (.int p1), .val (.int p2), .val (.int p3), .val (.int p4), .val (.int p5), .val (.int v0), .val (.int v1), .val (.int v2), .val (.int v3), .val (.int v4), .val (.int v5), .val (.int (1 : Int32)), .val (.int cp), .val (.ref b71), .unset, .unset, .unset, .unset] [(.int z0)]))
        refine go (fun _ => XS.istore X73.here hx rfl (hb hby at_235) rfl (l' := #[.val (.int p1), .val (.int p2), .val (.int p3), .val (.int p4), .val (.int p5), .val (.int v0), .val (.int v1), .val (.int v2), .val (.int v3), .val (.int v4), .val (.int v5), .val (.int (1 : Int32)), .val (.int cp), .val (.ref b71), .val (.int z0), .unset, .unset, .unset]) rfl) ?_
        show Go _ p e below s _ _ _ (T73.setTop (mkF m 237 #[.val (.int p1), .val (.int p2), .val (.int p3), .val (.int p4), .val (.int p5), .val (.int v0), .val (.int v1), .val (.int v2), .val (.int v3), .val (.int v4), .val (.int v5), .val (.int (1 : Int32)), .val (.int cp), .val (.ref b71), .val (.int z0), .unset, .unset, .unset] []))
        refine go (fun _ => XS.iload X73.here hx rfl (hb hby at_237) rfl) ?_
        show Go _ p e below s _ _ _ (T73.setTop (mkF m 239 #[.val (.int p1), .val (.int p2), .val (.int p3), .val (.int p4), .val (.int p5), .val (.int v0), .val (.int v1), .val (.int v2), .val (.int v3), .val (.int v4), .val (.int v5), .val (.int (1 : Int32)), .val (.int cp), .val (.ref b71), .val (.int z0), .unset, .unset, .unset] [(.int (1 : Int32))]))
        refine go (fun _ => XS.iconst X73.here hx rfl (hb hby at_239)) ?_
        show Go _ p e below s _ _ _ (T73.setTop (mkF m 240 #[.val (.int p1), .val (.int p2), .val (.int p3), .val (.int p4), .val (.int p5), .val (.int v0), .val (.int v1), .val (.int v2), .val (.int v3), .val (.int v4), .val (.int v5), .val (.int (1 : Int32)), .val (.int cp), .val (.ref b71), .val (.int z0), .unset, .unset, .unset] [(.int (2 : Int32)), (.int (1 : Int32))]))
        refine go (fun _ => XS.icmpYes X73.here hx rfl (pc0 := 240) (pc' := 261) rfl (hb hby at_240) rfl (tlt (by decide : ((1 : Int32) < (2 : Int32)))).1 (by decide) (by decide)) ?_
        show Go _ p e below s _ _ _ (T73.setTop (mkF m 261 #[.val (.int p1), .val (.int p2), .val (.int p3), .val (.int p4), .val (.int p5), .val (.int v0), .val (.int v1), .val (.int v2), .val (.int v3), .val (.int v4), .val (.int v5), .val (.int (1 : Int32)), .val (.int cp), .val (.ref b71), .val (.int z0), .unset, .unset, .unset] []))
        refine go (fun _ => XS.iconst X73.here hx rfl (hb hby at_261)) ?_
        show Go _ p e below s _ _ _ (T73.setTop (mkF m 262 #[.val (.int p1), .val (.int p2), .val (.int p3), .val (.int p4), .val (.int p5), .val (.int v0), .val (.int v1), .val (.int v2), .val (.int v3), .val (.int v4), .val (.int v5), .val (.int (1 : Int32)), .val (.int cp), .val (.ref b71), .val (.int z0), .unset, .unset, .unset] [(.int (0 : Int32))]))
        refine go (fun _ => XS.istore X73.here hx rfl (hb hby at_262) rfl (l' := #[.val (.int p1), .val (.int p2), .val (.int p3), .val (.int p4), .val (.int p5), .val (.int v0), .val (.int v1), .val (.int v2), .val (.int v3), .val (.int v4), .val (.int v5), .val (.int (1 : Int32)), .val (.int cp), .val (.ref b71), .val (.int z0), .val (.int (0 : Int32)), .unset, .unset]) rfl) ?_
        show Go _ p e below s _ _ _ (T73.setTop (mkF m 264 #[.val (.int p1), .val (.int p2), .val (.int p3), .val (.int p4), .val (.int p5), .val (.int v0), .val (.int v1), .val (.int v2), .val (.int v3), .val (.int v4), .val (.int v5), .val (.int (1 : Int32)), .val (.int cp), .val (.ref b71), .val (.int z0), .val (.int (0 : Int32)), .unset, .unset] []))
        refine go (fun _ => XS.iload X73.here hx rfl (hb hby at_264) rfl) ?_
        show Go _ p e below s _ _ _ (T73.setTop (mkF m 266 #[.val (.int p1), .val (.int p2), .val (.int p3), .val (.int p4), .val (.int p5), .val (.int v0), .val (.int v1), .val (.int v2), .val (.int v3), .val (.int v4), .val (.int v5), .val (.int (1 : Int32)), .val (.int cp), .val (.ref b71), .val (.int z0), .val (.int (0 : Int32)), .unset, .unset] [(.int (1 : Int32))]))
        refine go (fun _ => XS.iconst X73.here hx rfl (hb hby at_266)) ?_
        show Go _ p e below s _ _ _ (T73.setTop (mkF m 267 #[.val (.int p1), .val (.int p2), .val (.int p3), .val (.int p4), .val (.int p5), .val (.int v0), .val (.int v1), .val (.int v2), .val (.int v3), .val (.int v4), .val (.int v5), .val (.int (1 : Int32)), .val (.int cp), .val (.ref b71), .val (.int z0), .val (.int (0 : Int32)), .unset, .unset] [(.int (3 : Int32)), (.int (1 : Int32))]))
        refine go (fun _ => XS.icmpYes X73.here hx rfl (pc0 := 267) (pc' := 288) rfl (hb hby at_267) rfl (tlt (by decide : ((1 : Int32) < (3 : Int32)))).1 (by decide) (by decide)) ?_
        show Go _ p e below s _ _ _ (T73.setTop (mkF m 288 #[.val (.int p1), .val (.int p2), .val (.int p3), .val (.int p4), .val (.int p5), .val (.int v0), .val (.int v1), .val (.int v2), .val (.int v3), .val (.int v4), .val (.int v5), .val (.int (1 : Int32)), .val (.int cp), .val (.ref b71), .val (.int z0), .val (.int (0 : Int32)), .unset, .unset] []))
        refine go (fun _ => XS.iconst X73.here hx rfl (hb hby at_288)) ?_
        show Go _ p e below s _ _ _ (T73.setTop (mkF m 289 #[.val (.int p1), .val (.int p2), .val (.int p3), .val (.int p4), .val (.int p5), .val (.int v0), .val (.int v1), .val (.int v2), .val (.int v3), .val (.int v4), .val (.int v5), .val (.int (1 : Int32)), .val (.int cp), .val (.ref b71), .val (.int z0), .val (.int (0 : Int32)), .unset, .unset] [(.int (0 : Int32))]))
        refine go (fun _ => XS.istore X73.here hx rfl (hb hby at_289) rfl (l' := #[.val (.int p1), .val (.int p2), .val (.int p3), .val (.int p4), .val (.int p5), .val (.int v0), .val (.int v1), .val (.int v2), .val (.int v3), .val (.int v4), .val (.int v5), .val (.int (1 : Int32)), .val (.int cp), .val (.ref b71), .val (.int z0), .val (.int (0 : Int32)), .val (.int (0 : Int32)), .unset]) rfl) ?_
        show Go _ p e below s _ _ _ (T73.setTop (mkF m 291 #[.val (.int p1), .val (.int p2), .val (.int p3), .val (.int p4), .val (.int p5), .val (.int v0), .val (.int v1), .val (.int v2), .val (.int v3), .val (.int v4), .val (.int v5), .val (.int (1 : Int32)), .val (.int cp), .val (.ref b71), .val (.int z0), .val (.int (0 : Int32)), .val (.int (0 : Int32)), .unset] []))
        have JC : ∀ (zc : Int32), (zc = own_or z0 0 0) → Go FrameEnd p e below s room_1.cells room_1.slots (Q0 Z p1 p2 p3 p4 p5 h0 n0) (T73.setTop (mkF m 311 #[.val (.int p1), .val (.int p2), .val (.int p3), .val (.int p4), .val (.int p5), .val (.int v0), .val (.int v1), .val (.int v2), .val (.int v3), .val (.int v4), .val (.int v5), .val (.int (1 : Int32)), .val (.int cp), .val (.ref b71), .val (.int z0), .val (.int (0 : Int32)), .val (.int (0 : Int32)), .unset] [(.int zc)])) := by
          intro zc hzc
          show Go _ p e below s _ _ _ (T73.setTop (mkF m 311 #[.val (.int p1), .val (.int p2), .val (.int p3), .val (.int p4), .val (.int p5), .val (.int v0), .val (.int v1), .val (.int v2), .val (.int v3), .val (.int v4), .val (.int v5), .val (.int (1 : Int32)), .val (.int cp), .val (.ref b71), .val (.int z0), .val (.int (0 : Int32)), .val (.int (0 : Int32)), .unset] [(.int zc)]))
          refine go (fun _ => XS.istore X73.here hx rfl (hb hby at_311) rfl (l' := #[.val (.int p1), .val (.int p2), .val (.int p3), .val (.int p4), .val (.int p5), .val (.int v0), .val (.int v1), .val (.int v2), .val (.int v3), .val (.int v4), .val (.int v5), .val (.int (1 : Int32)), .val (.int cp), .val (.ref b71), .val (.int z0), .val (.int (0 : Int32)), .val (.int (0 : Int32)), .val (.int zc)]) rfl) ?_
          show Go _ p e below s _ _ _ (T73.setTop (mkF m 313 #[.val (.int p1), .val (.int p2), .val (.int p3), .val (.int p4), .val (.int p5), .val (.int v0), .val (.int v1), .val (.int v2), .val (.int v3), .val (.int v4), .val (.int v5), .val (.int (1 : Int32)), .val (.int cp), .val (.ref b71), .val (.int z0), .val (.int (0 : Int32)), .val (.int (0 : Int32)), .val (.int zc)] []))
          refine go (fun _ => XS.aload X73.here hx rfl (hb hby at_313) rfl rfl) ?_
          show Go _ p e below s _ _ _ (T73.setTop (mkF m 315 #[.val (.int p1), .val (.int p2), .val (.int p3), .val (.int p4), .val (.int p5), .val (.int v0), .val (.int v1), .val (.int v2), .val (.int v3), .val (.int v4), .val (.int v5), .val (.int (1 : Int32)), .val (.int cp), .val (.ref b71), .val (.int z0), .val (.int (0 : Int32)), .val (.int (0 : Int32)), .val (.int zc)] [(.ref b71)]))
          refine go (fun _ => XS.iload X73.here hx rfl (hb hby at_315) rfl) ?_
          show Go _ p e below s _ _ _ (T73.setTop (mkF m 317 #[.val (.int p1), .val (.int p2), .val (.int p3), .val (.int p4), .val (.int p5), .val (.int v0), .val (.int v1), .val (.int v2), .val (.int v3), .val (.int v4), .val (.int v5), .val (.int (1 : Int32)), .val (.int cp), .val (.ref b71), .val (.int z0), .val (.int (0 : Int32)), .val (.int (0 : Int32)), .val (.int zc)] [(.int cp), (.ref b71)]))
          obtain ⟨_, _, ⟨T74, L74, k74, n74⟩, -, X74, ⟨Lc74, hQ74, l74, y74, z74⟩, st74⟩ := Jvm.LawKit.callS X73 hx (y := (⟨"com/example/raccordo/raccordo/flow/PatternSyntax", "holds", "([II)Z"⟩ : MethodName)) hown (mvT hZ (hw _ (List.mem_of_getElem? (i := 2) rfl))) (mvT hZ (hw _ (List.mem_of_getElem? (i := 3) rfl))) (mvT hZ (hw _ (List.mem_of_getElem? (i := 4) rfl))) (mvT hZ (hw _ (List.mem_of_getElem? (i := 5) rfl))) (by decide) (backOf (W := 0) (rm1h2 l Z a0 hw [] b71 cp k71 v0 v1 (.int (0 : Int32)) h73 n0 ZN73 VV73) hZ (hw _ (List.mem_of_getElem? (i := 5) rfl)) (hw _ (List.mem_of_getElem? (i := 4) rfl)) (by decide) (by decide)) (g := (mkF m 317 #[.val (.int p1), .val (.int p2), .val (.int p3), .val (.int p4), .val (.int p5), .val (.int v0), .val (.int v1), .val (.int v2), .val (.int v3), .val (.int v4), .val (.int v5), .val (.int (1 : Int32)), .val (.int cp), .val (.ref b71), .val (.int z0), .val (.int (0 : Int32)), .val (.int (0 : Int32)), .val (.int zc)] [(.int cp), (.ref b71)])) rfl (by rw [hml]; rfl) (argsL := [(.ref b71), (.int cp)]) (rest := []) (lenOf pd_0_0 rfl) rfl (by show 2 * 0 + _ ≤ _; exact Nat.le_of_eq rfl) (hb hby at_317) (fun _ _ => ⟨rfl, e73, (by decide : 1 + 0 ≤ _), (by decide : 2 + 0 ≤ _)⟩)
          dsimp only [Pt.U, Pt.locs, Pt.cells, Pt.slots] at X74 l74 y74 z74 st74 hQ74
          subst l74 y74 z74
          obtain ⟨rfl, N74q, e74⟩ := hQ74
          have N74 := Fr.app NN73 N74q
          refine go st74 ?_
          show Go _ p e below s _ _ _ (T74.setTop (mkF m 320 #[.val (.int p1), .val (.int p2), .val (.int p3), .val (.int p4), .val (.int p5), .val (.int v0), .val (.int v1), .val (.int v2), .val (.int v3), .val (.int v4), .val (.int v5), .val (.int (1 : Int32)), .val (.int cp), .val (.ref b71), .val (.int z0), .val (.int (0 : Int32)), .val (.int (0 : Int32)), .val (.int zc)] [(.int (own_h2 v0 v1 cp))]))
          refine go (fun _ => XS.iload X74.here hx rfl (hb hby at_320) rfl) ?_
          show Go _ p e below s _ _ _ (T74.setTop (mkF m 322 #[.val (.int p1), .val (.int p2), .val (.int p3), .val (.int p4), .val (.int p5), .val (.int v0), .val (.int v1), .val (.int v2), .val (.int v3), .val (.int v4), .val (.int v5), .val (.int (1 : Int32)), .val (.int cp), .val (.ref b71), .val (.int z0), .val (.int (0 : Int32)), .val (.int (0 : Int32)), .val (.int zc)] [(.int zc), (.int (own_h2 v0 v1 cp))]))
          refine go (fun _ => XS.icmpNo X74.here hx rfl (hb hby at_322) rfl (teq (by rw [hzc, hz0]; exact own_fin2 ho cp)).2) ?_
          show Go _ p e below s _ _ _ (T74.setTop (mkF m 325 #[.val (.int p1), .val (.int p2), .val (.int p3), .val (.int p4), .val (.int p5), .val (.int v0), .val (.int v1), .val (.int v2), .val (.int v3), .val (.int v4), .val (.int v5), .val (.int (1 : Int32)), .val (.int cp), .val (.ref b71), .val (.int z0), .val (.int (0 : Int32)), .val (.int (0 : Int32)), .val (.int zc)] []))
          refine go (fun _ => XS.iconst X74.here hx rfl (hb hby at_325)) ?_
          show Go _ p e below s _ _ _ (T74.setTop (mkF m 326 #[.val (.int p1), .val (.int p2), .val (.int p3), .val (.int p4), .val (.int p5), .val (.int v0), .val (.int v1), .val (.int v2), .val (.int v3), .val (.int v4), .val (.int v5), .val (.int (1 : Int32)), .val (.int cp), .val (.ref b71), .val (.int z0), .val (.int (0 : Int32)), .val (.int (0 : Int32)), .val (.int zc)] [(.int (1 : Int32))]))
          refine go (fun _ => XS.goto X74.here hx rfl (pc0 := 326) (pc' := 330) rfl (hb hby at_326) (by decide) (by decide)) ?_
          show Go _ p e below s _ _ _ (T74.setTop (mkF m 330 #[.val (.int p1), .val (.int p2), .val (.int p3), .val (.int p4), .val (.int p5), .val (.int v0), .val (.int v1), .val (.int v2), .val (.int v3), .val (.int v4), .val (.int v5), .val (.int (1 : Int32)), .val (.int cp), .val (.ref b71), .val (.int z0), .val (.int (0 : Int32)), .val (.int (0 : Int32)), .val (.int zc)] [(.int (1 : Int32))]))
          refine goRet X74 hx Bd.notSynchronized Bd.returns rfl (Or.inl ⟨rfl, Or.inr (Or.inl rfl), _, rfl⟩) (hb hby at_330) (by decide) (by decide) (by rw [e74]; refine ⟨rfl, N74⟩)
        refine go (fun _ => XS.iload X73.here hx rfl (hb hby at_291) rfl) ?_
        show Go _ p e below s _ _ _ (T73.setTop (mkF m 293 #[.val (.int p1), .val (.int p2), .val (.int p3), .val (.int p4), .val (.int p5), .val (.int v0), .val (.int v1), .val (.int v2), .val (.int v3), .val (.int v4), .val (.int v5), .val (.int (1 : Int32)), .val (.int cp), .val (.ref b71), .val (.int z0), .val (.int (0 : Int32)), .val (.int (0 : Int32)), .unset] [(.int z0)]))
        by_cases hc293_75 : z0 = (0 : Int32)
        · refine go (fun _ => XS.ifNo X73.here hx rfl (hb hby at_293) rfl ((if0 _ _).trans (teq hc293_75).2)) ?_
          show Go _ p e below s _ _ _ (T73.setTop (mkF m 296 #[.val (.int p1), .val (.int p2), .val (.int p3), .val (.int p4), .val (.int p5), .val (.int v0), .val (.int v1), .val (.int v2), .val (.int v3), .val (.int v4), .val (.int v5), .val (.int (1 : Int32)), .val (.int cp), .val (.ref b71), .val (.int z0), .val (.int (0 : Int32)), .val (.int (0 : Int32)), .unset] []))
          refine go (fun _ => XS.iload X73.here hx rfl (hb hby at_296) rfl) ?_
          show Go _ p e below s _ _ _ (T73.setTop (mkF m 298 #[.val (.int p1), .val (.int p2), .val (.int p3), .val (.int p4), .val (.int p5), .val (.int v0), .val (.int v1), .val (.int v2), .val (.int v3), .val (.int v4), .val (.int v5), .val (.int (1 : Int32)), .val (.int cp), .val (.ref b71), .val (.int z0), .val (.int (0 : Int32)), .val (.int (0 : Int32)), .unset] [(.int (0 : Int32))]))
          refine go (fun _ => XS.ifNo X73.here hx rfl (hb hby at_298) rfl ((if0 _ _).trans (teq (rfl : (0 : Int32) = (0 : Int32))).2)) ?_
          show Go _ p e below s _ _ _ (T73.setTop (mkF m 301 #[.val (.int p1), .val (.int p2), .val (.int p3), .val (.int p4), .val (.int p5), .val (.int v0), .val (.int v1), .val (.int v2), .val (.int v3), .val (.int v4), .val (.int v5), .val (.int (1 : Int32)), .val (.int cp), .val (.ref b71), .val (.int z0), .val (.int (0 : Int32)), .val (.int (0 : Int32)), .unset] []))
          refine go (fun _ => XS.iload X73.here hx rfl (hb hby at_301) rfl) ?_
          show Go _ p e below s _ _ _ (T73.setTop (mkF m 303 #[.val (.int p1), .val (.int p2), .val (.int p3), .val (.int p4), .val (.int p5), .val (.int v0), .val (.int v1), .val (.int v2), .val (.int v3), .val (.int v4), .val (.int v5), .val (.int (1 : Int32)), .val (.int cp), .val (.ref b71), .val (.int z0), .val (.int (0 : Int32)), .val (.int (0 : Int32)), .unset] [(.int (0 : Int32))]))
          refine go (fun _ => XS.ifYes X73.here hx rfl (pc0 := 303) (pc' := 310) rfl (hb hby at_303) rfl ((if0 _ _).trans (teq (rfl : (0 : Int32) = (0 : Int32))).1) (by decide) (by decide)) ?_
          show Go _ p e below s _ _ _ (T73.setTop (mkF m 310 #[.val (.int p1), .val (.int p2), .val (.int p3), .val (.int p4), .val (.int p5), .val (.int v0), .val (.int v1), .val (.int v2), .val (.int v3), .val (.int v4), .val (.int v5), .val (.int (1 : Int32)), .val (.int cp), .val (.ref b71), .val (.int z0), .val (.int (0 : Int32)), .val (.int (0 : Int32)), .unset] []))
          refine go (fun _ => XS.iconst X73.here hx rfl (hb hby at_310)) ?_
          show Go _ p e below s _ _ _ (T73.setTop (mkF m 311 #[.val (.int p1), .val (.int p2), .val (.int p3), .val (.int p4), .val (.int p5), .val (.int v0), .val (.int v1), .val (.int v2), .val (.int v3), .val (.int v4), .val (.int v5), .val (.int (1 : Int32)), .val (.int cp), .val (.ref b71), .val (.int z0), .val (.int (0 : Int32)), .val (.int (0 : Int32)), .unset] [(.int (0 : Int32))]))
          exact JC _ (by unfold own_or; simp [hc293_75])
        · refine go (fun _ => XS.ifYes X73.here hx rfl (pc0 := 293) (pc' := 306) rfl (hb hby at_293) rfl ((if0 _ _).trans (feq hc293_75).2) (by decide) (by decide)) ?_
          show Go _ p e below s _ _ _ (T73.setTop (mkF m 306 #[.val (.int p1), .val (.int p2), .val (.int p3), .val (.int p4), .val (.int p5), .val (.int v0), .val (.int v1), .val (.int v2), .val (.int v3), .val (.int v4), .val (.int v5), .val (.int (1 : Int32)), .val (.int cp), .val (.ref b71), .val (.int z0), .val (.int (0 : Int32)), .val (.int (0 : Int32)), .unset] []))
          refine go (fun _ => XS.iconst X73.here hx rfl (hb hby at_306)) ?_
          show Go _ p e below s _ _ _ (T73.setTop (mkF m 307 #[.val (.int p1), .val (.int p2), .val (.int p3), .val (.int p4), .val (.int p5), .val (.int v0), .val (.int v1), .val (.int v2), .val (.int v3), .val (.int v4), .val (.int v5), .val (.int (1 : Int32)), .val (.int cp), .val (.ref b71), .val (.int z0), .val (.int (0 : Int32)), .val (.int (0 : Int32)), .unset] [(.int (1 : Int32))]))
          refine go (fun _ => XS.goto X73.here hx rfl (pc0 := 307) (pc' := 311) rfl (hb hby at_307) (by decide) (by decide)) ?_
          show Go _ p e below s _ _ _ (T73.setTop (mkF m 311 #[.val (.int p1), .val (.int p2), .val (.int p3), .val (.int p4), .val (.int p5), .val (.int v0), .val (.int v1), .val (.int v2), .val (.int v3), .val (.int v4), .val (.int v5), .val (.int (1 : Int32)), .val (.int cp), .val (.ref b71), .val (.int z0), .val (.int (0 : Int32)), .val (.int (0 : Int32)), .unset] [(.int (1 : Int32))]))
          exact JC _ (by unfold own_or; simp [hc293_75])
      refine go (fun _ => XS.iload X73.here hx rfl (hb hby at_210) rfl) ?_
      show Go _ p e below s _ _ _ (T73.setTop (mkF m 212 #[.val (.int p1), .val (.int p2), .val (.int p3), .val (.int p4), .val (.int p5), .val (.int v0), .val (.int v1), .val (.int v2), .val (.int v3), .val (.int v4), .val (.int v5), .val (.int (1 : Int32)), .val (.int cp), .val (.ref b71), .unset, .unset, .unset, .unset] [(.int (1 : Int32))]))
      refine go (fun _ => XS.iconst X73.here hx rfl (hb hby at_212)) ?_
      show Go _ p e below s _ _ _ (T73.setTop (mkF m 213 #[.val (.int p1), .val (.int p2), .val (.int p3), .val (.int p4), .val (.int p5), .val (.int v0), .val (.int v1), .val (.int v2), .val (.int v3), .val (.int v4), .val (.int v5), .val (.int (1 : Int32)), .val (.int cp), .val (.ref b71), .unset, .unset, .unset, .unset] [(.int (1 : Int32)), (.int (1 : Int32))]))
      refine go (fun _ => XS.icmpNo X73.here hx rfl (hb hby at_213) rfl (flt (by decide : ¬ ((1 : Int32) < (1 : Int32)))).1) ?_
      show Go _ p e below s _ _ _ (T73.setTop (mkF m 216 #[.val (.int p1), .val (.int p2), .val (.int p3), .val (.int p4), .val (.int p5), .val (.int v0), .val (.int v1), .val (.int v2), .val (.int v3), .val (.int v4), .val (.int v5), .val (.int (1 : Int32)), .val (.int cp), .val (.ref b71), .unset, .unset, .unset, .unset] []))
      refine go (fun _ => XS.iload X73.here hx rfl (hb hby at_216) rfl) ?_
      show Go _ p e below s _ _ _ (T73.setTop (mkF m 218 #[.val (.int p1), .val (.int p2), .val (.int p3), .val (.int p4), .val (.int p5), .val (.int v0), .val (.int v1), .val (.int v2), .val (.int v3), .val (.int v4), .val (.int v5), .val (.int (1 : Int32)), .val (.int cp), .val (.ref b71), .unset, .unset, .unset, .unset] [(.int v0)]))
      refine go (fun _ => XS.iload X73.here hx rfl (hb hby at_218) rfl) ?_
      show Go _ p e below s _ _ _ (T73.setTop (mkF m 220 #[.val (.int p1), .val (.int p2), .val (.int p3), .val (.int p4), .val (.int p5), .val (.int v0), .val (.int v1), .val (.int v2), .val (.int v3), .val (.int v4), .val (.int v5), .val (.int (1 : Int32)), .val (.int cp), .val (.ref b71), .unset, .unset, .unset, .unset] [(.int cp), (.int v0)]))
      by_cases hc220_76 : cp < v0
      · refine go (fun _ => XS.icmpYes X73.here hx rfl (pc0 := 220) (pc' := 234) rfl (hb hby at_220) rfl (tlt hc220_76).2.2.1 (by decide) (by decide)) ?_
        show Go _ p e below s _ _ _ (T73.setTop (mkF m 234 #[.val (.int p1), .val (.int p2), .val (.int p3), .val (.int p4), .val (.int p5), .val (.int v0), .val (.int v1), .val (.int v2), .val (.int v3), .val (.int v4), .val (.int v5), .val (.int (1 : Int32)), .val (.int cp), .val (.ref b71), .unset, .unset, .unset, .unset] []))
        refine go (fun _ => XS.iconst X73.here hx rfl (hb hby at_234)) ?_
        show Go _ p e below s _ _ _ (T73.setTop (mkF m 235 #[.val (.int p1), .val (.int p2), .val (.int p3), .val (.int p4), .val (.int p5), .val (.int v0), .val (.int v1), .val (.int v2), .val (.int v3), .val (.int v4), .val (.int v5), .val (.int (1 : Int32)), .val (.int cp), .val (.ref b71), .unset, .unset, .unset, .unset] [(.int (0 : Int32))]))
        exact JB0 _ (by unfold own_in; simp only [if_pos hc220_76])
      · refine go (fun _ => XS.icmpNo X73.here hx rfl (hb hby at_220) rfl (flt hc220_76).2.2.1) ?_
        show Go _ p e below s _ _ _ (T73.setTop (mkF m 223 #[.val (.int p1), .val (.int p2), .val (.int p3), .val (.int p4), .val (.int p5), .val (.int v0), .val (.int v1), .val (.int v2), .val (.int v3), .val (.int v4), .val (.int v5), .val (.int (1 : Int32)), .val (.int cp), .val (.ref b71), .unset, .unset, .unset, .unset] []))
        refine go (fun _ => XS.iload X73.here hx rfl (hb hby at_223) rfl) ?_
        show Go _ p e below s _ _ _ (T73.setTop (mkF m 225 #[.val (.int p1), .val (.int p2), .val (.int p3), .val (.int p4), .val (.int p5), .val (.int v0), .val (.int v1), .val (.int v2), .val (.int v3), .val (.int v4), .val (.int v5), .val (.int (1 : Int32)), .val (.int cp), .val (.ref b71), .unset, .unset, .unset, .unset] [(.int cp)]))
        refine go (fun _ => XS.iload X73.here hx rfl (hb hby at_225) rfl) ?_
        show Go _ p e below s _ _ _ (T73.setTop (mkF m 227 #[.val (.int p1), .val (.int p2), .val (.int p3), .val (.int p4), .val (.int p5), .val (.int v0), .val (.int v1), .val (.int v2), .val (.int v3), .val (.int v4), .val (.int v5), .val (.int (1 : Int32)), .val (.int cp), .val (.ref b71), .unset, .unset, .unset, .unset] [(.int v1), (.int cp)]))
        by_cases hc227_77 : v1 < cp
        · refine go (fun _ => XS.icmpYes X73.here hx rfl (pc0 := 227) (pc' := 234) rfl (hb hby at_227) rfl (tlt hc227_77).2.2.1 (by decide) (by decide)) ?_
          show Go _ p e below s _ _ _ (T73.setTop (mkF m 234 #[.val (.int p1), .val (.int p2), .val (.int p3), .val (.int p4), .val (.int p5), .val (.int v0), .val (.int v1), .val (.int v2), .val (.int v3), .val (.int v4), .val (.int v5), .val (.int (1 : Int32)), .val (.int cp), .val (.ref b71), .unset, .unset, .unset, .unset] []))
          refine go (fun _ => XS.iconst X73.here hx rfl (hb hby at_234)) ?_
          show Go _ p e below s _ _ _ (T73.setTop (mkF m 235 #[.val (.int p1), .val (.int p2), .val (.int p3), .val (.int p4), .val (.int p5), .val (.int v0), .val (.int v1), .val (.int v2), .val (.int v3), .val (.int v4), .val (.int v5), .val (.int (1 : Int32)), .val (.int cp), .val (.ref b71), .unset, .unset, .unset, .unset] [(.int (0 : Int32))]))
          exact JB0 _ (by unfold own_in; simp only [if_neg hc220_76, if_pos hc227_77])
        · refine go (fun _ => XS.icmpNo X73.here hx rfl (hb hby at_227) rfl (flt hc227_77).2.2.1) ?_
          show Go _ p e below s _ _ _ (T73.setTop (mkF m 230 #[.val (.int p1), .val (.int p2), .val (.int p3), .val (.int p4), .val (.int p5), .val (.int v0), .val (.int v1), .val (.int v2), .val (.int v3), .val (.int v4), .val (.int v5), .val (.int (1 : Int32)), .val (.int cp), .val (.ref b71), .unset, .unset, .unset, .unset] []))
          refine go (fun _ => XS.iconst X73.here hx rfl (hb hby at_230)) ?_
          show Go _ p e below s _ _ _ (T73.setTop (mkF m 231 #[.val (.int p1), .val (.int p2), .val (.int p3), .val (.int p4), .val (.int p5), .val (.int v0), .val (.int v1), .val (.int v2), .val (.int v3), .val (.int v4), .val (.int v5), .val (.int (1 : Int32)), .val (.int cp), .val (.ref b71), .unset, .unset, .unset, .unset] [(.int (1 : Int32))]))
          refine go (fun _ => XS.goto X73.here hx rfl (pc0 := 231) (pc' := 235) rfl (hb hby at_231) (by decide) (by decide)) ?_
          show Go _ p e below s _ _ _ (T73.setTop (mkF m 235 #[.val (.int p1), .val (.int p2), .val (.int p3), .val (.int p4), .val (.int p5), .val (.int v0), .val (.int v1), .val (.int v2), .val (.int v3), .val (.int v4), .val (.int v5), .val (.int (1 : Int32)), .val (.int cp), .val (.ref b71), .unset, .unset, .unset, .unset] [(.int (1 : Int32))]))
          exact JB0 _ (by unfold own_in; simp only [if_neg hc220_76, if_neg hc227_77])
    · show Go _ p e below s _ _ _ (s₁.setTop (mkF m 101 #[.val (.int p1), .val (.int p2), .val (.int p3), .val (.int p4), .val (.int p5), .val (.int v0), .val (.int v1), .val (.int v2), .val (.int v3), .val (.int v4), .val (.int v5), .val (.int (2 : Int32)), .unset, .unset, .unset, .unset, .unset, .unset] [(.int cp)]))
      refine go (fun _ => XS.istore X0.here hx rfl (hb hby at_101) rfl (l' := #[.val (.int p1), .val (.int p2), .val (.int p3), .val (.int p4), .val (.int p5), .val (.int v0), .val (.int v1), .val (.int v2), .val (.int v3), .val (.int v4), .val (.int v5), .val (.int (2 : Int32)), .val (.int cp), .unset, .unset, .unset, .unset, .unset]) rfl) ?_
      show Go _ p e below s _ _ _ (s₁.setTop (mkF m 103 #[.val (.int p1), .val (.int p2), .val (.int p3), .val (.int p4), .val (.int p5), .val (.int v0), .val (.int v1), .val (.int v2), .val (.int v3), .val (.int v4), .val (.int v5), .val (.int (2 : Int32)), .val (.int cp), .unset, .unset, .unset, .unset, .unset] []))
      refine go (fun _ => XS.iload X0.here hx rfl (hb hby at_103) rfl) ?_
      show Go _ p e below s _ _ _ (s₁.setTop (mkF m 105 #[.val (.int p1), .val (.int p2), .val (.int p3), .val (.int p4), .val (.int p5), .val (.int v0), .val (.int v1), .val (.int v2), .val (.int v3), .val (.int v4), .val (.int v5), .val (.int (2 : Int32)), .val (.int cp), .unset, .unset, .unset, .unset, .unset] [(.int (2 : Int32))]))
      refine go (fun _ => XS.ifYes X0.here hx rfl (pc0 := 105) (pc' := 116) rfl (hb hby at_105) rfl ((if0 _ _).trans (feq (by decide : ¬ ((2 : Int32) = (0 : Int32)))).2) (by decide) (by decide)) ?_
      show Go _ p e below s _ _ _ (s₁.setTop (mkF m 116 #[.val (.int p1), .val (.int p2), .val (.int p3), .val (.int p4), .val (.int p5), .val (.int v0), .val (.int v1), .val (.int v2), .val (.int v3), .val (.int v4), .val (.int v5), .val (.int (2 : Int32)), .val (.int cp), .unset, .unset, .unset, .unset, .unset] []))
      refine go (fun _ => XS.iload X0.here hx rfl (hb hby at_116) rfl) ?_
      show Go _ p e below s _ _ _ (s₁.setTop (mkF m 118 #[.val (.int p1), .val (.int p2), .val (.int p3), .val (.int p4), .val (.int p5), .val (.int v0), .val (.int v1), .val (.int v2), .val (.int v3), .val (.int v4), .val (.int v5), .val (.int (2 : Int32)), .val (.int cp), .unset, .unset, .unset, .unset, .unset] [(.int (2 : Int32))]))
      refine go (fun _ => XS.iconst X0.here hx rfl (hb hby at_118)) ?_
      show Go _ p e below s _ _ _ (s₁.setTop (mkF m 119 #[.val (.int p1), .val (.int p2), .val (.int p3), .val (.int p4), .val (.int p5), .val (.int v0), .val (.int v1), .val (.int v2), .val (.int v3), .val (.int v4), .val (.int v5), .val (.int (2 : Int32)), .val (.int cp), .unset, .unset, .unset, .unset, .unset] [(.int (1 : Int32)), (.int (2 : Int32))]))
      refine go (fun _ => XS.icmpYes X0.here hx rfl (pc0 := 119) (pc' := 140) rfl (hb hby at_119) rfl (feq (by decide : ¬ ((2 : Int32) = (1 : Int32)))).2 (by decide) (by decide)) ?_
      show Go _ p e below s _ _ _ (s₁.setTop (mkF m 140 #[.val (.int p1), .val (.int p2), .val (.int p3), .val (.int p4), .val (.int p5), .val (.int v0), .val (.int v1), .val (.int v2), .val (.int v3), .val (.int v4), .val (.int v5), .val (.int (2 : Int32)), .val (.int cp), .unset, .unset, .unset, .unset, .unset] []))
      refine go (fun _ => XS.iload X0.here hx rfl (hb hby at_140) rfl) ?_
      show Go _ p e below s _ _ _ (s₁.setTop (mkF m 142 #[.val (.int p1), .val (.int p2), .val (.int p3), .val (.int p4), .val (.int p5), .val (.int v0), .val (.int v1), .val (.int v2), .val (.int v3), .val (.int v4), .val (.int v5), .val (.int (2 : Int32)), .val (.int cp), .unset, .unset, .unset, .unset, .unset] [(.int (2 : Int32))]))
      refine go (fun _ => XS.iconst X0.here hx rfl (hb hby at_142)) ?_
      show Go _ p e below s _ _ _ (s₁.setTop (mkF m 143 #[.val (.int p1), .val (.int p2), .val (.int p3), .val (.int p4), .val (.int p5), .val (.int v0), .val (.int v1), .val (.int v2), .val (.int v3), .val (.int v4), .val (.int v5), .val (.int (2 : Int32)), .val (.int cp), .unset, .unset, .unset, .unset, .unset] [(.int (2 : Int32)), (.int (2 : Int32))]))
      refine go (fun _ => XS.icmpNo X0.here hx rfl (hb hby at_143) rfl (teq (rfl : (2 : Int32) = (2 : Int32))).2) ?_
      show Go _ p e below s _ _ _ (s₁.setTop (mkF m 146 #[.val (.int p1), .val (.int p2), .val (.int p3), .val (.int p4), .val (.int p5), .val (.int v0), .val (.int v1), .val (.int v2), .val (.int v3), .val (.int v4), .val (.int v5), .val (.int (2 : Int32)), .val (.int cp), .unset, .unset, .unset, .unset, .unset] []))
      refine go (fun _ => XS.iconst X0.here hx rfl (hb hby at_146)) ?_
      show Go _ p e below s _ _ _ (s₁.setTop (mkF m 147 #[.val (.int p1), .val (.int p2), .val (.int p3), .val (.int p4), .val (.int p5), .val (.int v0), .val (.int v1), .val (.int v2), .val (.int v3), .val (.int v4), .val (.int v5), .val (.int (2 : Int32)), .val (.int cp), .unset, .unset, .unset, .unset, .unset] [(.int (4 : Int32))]))
      obtain ⟨T78, h78, k78, X78, e78, E78, A78, AE78, st78⟩ := newPE X0 hx hZ (hw _ (List.mem_of_getElem? (i := 1) rfl)) e0 (g := (mkF m 147 #[.val (.int p1), .val (.int p2), .val (.int p3), .val (.int p4), .val (.int p5), .val (.int v0), .val (.int v1), .val (.int v2), .val (.int v3), .val (.int v4), .val (.int v5), .val (.int (2 : Int32)), .val (.int cp), .unset, .unset, .unset, .unset, .unset] [(.int (4 : Int32))])) rfl (hb hby at_147) rfl (by decide) (cap := 4) (by decide) (by decide) (by decide) (by decide) (ad := "[I") (by first | rfl | decide)
      obtain ⟨b78, g78⟩ : ∃ z, z = h0.size := ⟨_, rfl⟩
      rw [← g78] at A78 AE78 st78
      have G_b78 : n0 ≤ b78 := Nat.le_trans Z0 (Nat.le_of_eq g78.symm)
      have SZ_b78 : h0.size ≤ b78 := Nat.le_trans (Keep.refl h0 []).1 (Nat.le_of_eq g78.symm)
      have KK78 : Keep h0 h78 [] := (Keep.refl h0 []).ext E78
      have ZN78 : n0 ≤ h78.size := Nat.le_trans Z0 E78.1
      have V78 : Arv Z h78 b78 k78 .int (4 : Int32) [(.int (0 : Int32)), (.int (0 : Int32)), (.int (0 : Int32)), (.int (0 : Int32))] (.int (0 : Int32)) := (Arv.new A78 (by decide)).pad (pad_rep [] (.int (0 : Int32)) 4)
      refine go st78 ?_
      show Go _ p e below s _ _ _ (T78.setTop (mkF m 149 #[.val (.int p1), .val (.int p2), .val (.int p3), .val (.int p4), .val (.int p5), .val (.int v0), .val (.int v1), .val (.int v2), .val (.int v3), .val (.int v4), .val (.int v5), .val (.int (2 : Int32)), .val (.int cp), .unset, .unset, .unset, .unset, .unset] [(.ref b78)]))
      refine go (fun _ => XS.dup X78.here hx rfl (hb hby at_149) rfl rfl) ?_
      show Go _ p e below s _ _ _ (T78.setTop (mkF m 150 #[.val (.int p1), .val (.int p2), .val (.int p3), .val (.int p4), .val (.int p5), .val (.int v0), .val (.int v1), .val (.int v2), .val (.int v3), .val (.int v4), .val (.int v5), .val (.int (2 : Int32)), .val (.int cp), .unset, .unset, .unset, .unset, .unset] [(.ref b78), (.ref b78)]))
      refine go (fun _ => XS.iconst X78.here hx rfl (hb hby at_150)) ?_
      show Go _ p e below s _ _ _ (T78.setTop (mkF m 151 #[.val (.int p1), .val (.int p2), .val (.int p3), .val (.int p4), .val (.int p5), .val (.int v0), .val (.int v1), .val (.int v2), .val (.int v3), .val (.int v4), .val (.int v5), .val (.int (2 : Int32)), .val (.int cp), .unset, .unset, .unset, .unset, .unset] [(.int (0 : Int32)), (.ref b78), (.ref b78)]))
      refine go (fun _ => XS.iload X78.here hx rfl (hb hby at_151) rfl) ?_
      show Go _ p e below s _ _ _ (T78.setTop (mkF m 153 #[.val (.int p1), .val (.int p2), .val (.int p3), .val (.int p4), .val (.int p5), .val (.int v0), .val (.int v1), .val (.int v2), .val (.int v3), .val (.int v4), .val (.int v5), .val (.int (2 : Int32)), .val (.int cp), .unset, .unset, .unset, .unset, .unset] [(.int v0), (.int (0 : Int32)), (.ref b78), (.ref b78)]))
      obtain ⟨cl79, Ar79, q79, Sz79, Nz79, Hs79, Gs79⟩ := id V78
      have hin79 : ¬ ((0 : Int32) < 0 ∨ cl79.slots.size ≤ ((0 : Int32)).toNatClampNeg) := inb_of Sz79 ⟨by decide, by decide⟩
      obtain ⟨T79, h79, X79, e79, W79, st79⟩ := stI X78 hx hZ e78 Ar79 (j := (0 : Int32)) hin79 (g := (mkF m 153 #[.val (.int p1), .val (.int p2), .val (.int p3), .val (.int p4), .val (.int p5), .val (.int v0), .val (.int v1), .val (.int v2), .val (.int v3), .val (.int v4), .val (.int v5), .val (.int (2 : Int32)), .val (.int cp), .unset, .unset, .unset, .unset, .unset] [(.int v0), (.int (0 : Int32)), (.ref b78), (.ref b78)])) rfl rfl (hb hby at_153)
      have V79 := Arv.set Ar79 q79 Sz79 Nz79 Hs79 Gs79 rfl W79 0 rfl (Nat.le_of_ble_eq_true rfl)
      have VV79 : Arv Z h79 b78 k78 .int (4 : Int32) [(.int v0), (.int (0 : Int32)), (.int (0 : Int32)), (.int (0 : Int32))] (.int (0 : Int32)) := V79
      have c79_0 := AE78.wr W79
      have KK79 : Keep h0 h79 [] := KK78.wr W79 (Or.inr SZ_b78)
      have ZN79 : n0 ≤ h79.size := Nat.le_trans ZN78 (Keep.of_wr W79).1
      have NN79 := Fr.snoc X79 N0 G_b78
      refine go st79 ?_
      show Go _ p e below s _ _ _ (T79.setTop (mkF m 154 #[.val (.int p1), .val (.int p2), .val (.int p3), .val (.int p4), .val (.int p5), .val (.int v0), .val (.int v1), .val (.int v2), .val (.int v3), .val (.int v4), .val (.int v5), .val (.int (2 : Int32)), .val (.int cp), .unset, .unset, .unset, .unset, .unset] [(.ref b78)]))
      refine go (fun _ => XS.dup X79.here hx rfl (hb hby at_154) rfl rfl) ?_
      show Go _ p e below s _ _ _ (T79.setTop (mkF m 155 #[.val (.int p1), .val (.int p2), .val (.int p3), .val (.int p4), .val (.int p5), .val (.int v0), .val (.int v1), .val (.int v2), .val (.int v3), .val (.int v4), .val (.int v5), .val (.int (2 : Int32)), .val (.int cp), .unset, .unset, .unset, .unset, .unset] [(.ref b78), (.ref b78)]))
      refine go (fun _ => XS.iconst X79.here hx rfl (hb hby at_155)) ?_
      show Go _ p e below s _ _ _ (T79.setTop (mkF m 156 #[.val (.int p1), .val (.int p2), .val (.int p3), .val (.int p4), .val (.int p5), .val (.int v0), .val (.int v1), .val (.int v2), .val (.int v3), .val (.int v4), .val (.int v5), .val (.int (2 : Int32)), .val (.int cp), .unset, .unset, .unset, .unset, .unset] [(.int (1 : Int32)), (.ref b78), (.ref b78)]))
      refine go (fun _ => XS.iload X79.here hx rfl (hb hby at_156) rfl) ?_
      show Go _ p e below s _ _ _ (T79.setTop (mkF m 158 #[.val (.int p1), .val (.int p2), .val (.int p3), .val (.int p4), .val (.int p5), .val (.int v0), .val (.int v1), .val (.int v2), .val (.int v3), .val (.int v4), .val (.int v5), .val (.int (2 : Int32)), .val (.int cp), .unset, .unset, .unset, .unset, .unset] [(.int v1), (.int (1 : Int32)), (.ref b78), (.ref b78)]))
      obtain ⟨cl80, Ar80, q80, Sz80, Nz80, Hs80, Gs80⟩ := id VV79
      have hin80 : ¬ ((1 : Int32) < 0 ∨ cl80.slots.size ≤ ((1 : Int32)).toNatClampNeg) := inb_of Sz80 ⟨by decide, by decide⟩
      obtain ⟨T80, h80, X80, e80, W80, st80⟩ := stI X79 hx hZ e79 Ar80 (j := (1 : Int32)) hin80 (g := (mkF m 158 #[.val (.int p1), .val (.int p2), .val (.int p3), .val (.int p4), .val (.int p5), .val (.int v0), .val (.int v1), .val (.int v2), .val (.int v3), .val (.int v4), .val (.int v5), .val (.int (2 : Int32)), .val (.int cp), .unset, .unset, .unset, .unset, .unset] [(.int v1), (.int (1 : Int32)), (.ref b78), (.ref b78)])) rfl rfl (hb hby at_158)
      have V80 := Arv.set Ar80 q80 Sz80 Nz80 Hs80 Gs80 rfl W80 1 rfl (Nat.le_of_ble_eq_true rfl)
      have VV80 : Arv Z h80 b78 k78 .int (4 : Int32) [(.int v0), (.int v1), (.int (0 : Int32)), (.int (0 : Int32))] (.int (0 : Int32)) := V80
      have c80_0 := c79_0.wr W80
      have KK80 : Keep h0 h80 [] := KK79.wr W80 (Or.inr SZ_b78)
      have ZN80 : n0 ≤ h80.size := Nat.le_trans ZN79 (Keep.of_wr W80).1
      have NN80 := Fr.snoc X80 NN79 G_b78
      refine go st80 ?_
      show Go _ p e below s _ _ _ (T80.setTop (mkF m 159 #[.val (.int p1), .val (.int p2), .val (.int p3), .val (.int p4), .val (.int p5), .val (.int v0), .val (.int v1), .val (.int v2), .val (.int v3), .val (.int v4), .val (.int v5), .val (.int (2 : Int32)), .val (.int cp), .unset, .unset, .unset, .unset, .unset] [(.ref b78)]))
      refine go (fun _ => XS.dup X80.here hx rfl (hb hby at_159) rfl rfl) ?_
      show Go _ p e below s _ _ _ (T80.setTop (mkF m 160 #[.val (.int p1), .val (.int p2), .val (.int p3), .val (.int p4), .val (.int p5), .val (.int v0), .val (.int v1), .val (.int v2), .val (.int v3), .val (.int v4), .val (.int v5), .val (.int (2 : Int32)), .val (.int cp), .unset, .unset, .unset, .unset, .unset] [(.ref b78), (.ref b78)]))
      refine go (fun _ => XS.iconst X80.here hx rfl (hb hby at_160)) ?_
      show Go _ p e below s _ _ _ (T80.setTop (mkF m 161 #[.val (.int p1), .val (.int p2), .val (.int p3), .val (.int p4), .val (.int p5), .val (.int v0), .val (.int v1), .val (.int v2), .val (.int v3), .val (.int v4), .val (.int v5), .val (.int (2 : Int32)), .val (.int cp), .unset, .unset, .unset, .unset, .unset] [(.int (2 : Int32)), (.ref b78), (.ref b78)]))
      refine go (fun _ => XS.iload X80.here hx rfl (hb hby at_161) rfl) ?_
      show Go _ p e below s _ _ _ (T80.setTop (mkF m 163 #[.val (.int p1), .val (.int p2), .val (.int p3), .val (.int p4), .val (.int p5), .val (.int v0), .val (.int v1), .val (.int v2), .val (.int v3), .val (.int v4), .val (.int v5), .val (.int (2 : Int32)), .val (.int cp), .unset, .unset, .unset, .unset, .unset] [(.int v2), (.int (2 : Int32)), (.ref b78), (.ref b78)]))
      obtain ⟨cl81, Ar81, q81, Sz81, Nz81, Hs81, Gs81⟩ := id VV80
      have hin81 : ¬ ((2 : Int32) < 0 ∨ cl81.slots.size ≤ ((2 : Int32)).toNatClampNeg) := inb_of Sz81 ⟨by decide, by decide⟩
      obtain ⟨T81, h81, X81, e81, W81, st81⟩ := stI X80 hx hZ e80 Ar81 (j := (2 : Int32)) hin81 (g := (mkF m 163 #[.val (.int p1), .val (.int p2), .val (.int p3), .val (.int p4), .val (.int p5), .val (.int v0), .val (.int v1), .val (.int v2), .val (.int v3), .val (.int v4), .val (.int v5), .val (.int (2 : Int32)), .val (.int cp), .unset, .unset, .unset, .unset, .unset] [(.int v2), (.int (2 : Int32)), (.ref b78), (.ref b78)])) rfl rfl (hb hby at_163)
      have V81 := Arv.set Ar81 q81 Sz81 Nz81 Hs81 Gs81 rfl W81 2 rfl (Nat.le_of_ble_eq_true rfl)
      have VV81 : Arv Z h81 b78 k78 .int (4 : Int32) [(.int v0), (.int v1), (.int v2), (.int (0 : Int32))] (.int (0 : Int32)) := V81
      have c81_0 := c80_0.wr W81
      have KK81 : Keep h0 h81 [] := KK80.wr W81 (Or.inr SZ_b78)
      have ZN81 : n0 ≤ h81.size := Nat.le_trans ZN80 (Keep.of_wr W81).1
      have NN81 := Fr.snoc X81 NN80 G_b78
      refine go st81 ?_
      show Go _ p e below s _ _ _ (T81.setTop (mkF m 164 #[.val (.int p1), .val (.int p2), .val (.int p3), .val (.int p4), .val (.int p5), .val (.int v0), .val (.int v1), .val (.int v2), .val (.int v3), .val (.int v4), .val (.int v5), .val (.int (2 : Int32)), .val (.int cp), .unset, .unset, .unset, .unset, .unset] [(.ref b78)]))
      refine go (fun _ => XS.dup X81.here hx rfl (hb hby at_164) rfl rfl) ?_
      show Go _ p e below s _ _ _ (T81.setTop (mkF m 165 #[.val (.int p1), .val (.int p2), .val (.int p3), .val (.int p4), .val (.int p5), .val (.int v0), .val (.int v1), .val (.int v2), .val (.int v3), .val (.int v4), .val (.int v5), .val (.int (2 : Int32)), .val (.int cp), .unset, .unset, .unset, .unset, .unset] [(.ref b78), (.ref b78)]))
      refine go (fun _ => XS.iconst X81.here hx rfl (hb hby at_165)) ?_
      show Go _ p e below s _ _ _ (T81.setTop (mkF m 166 #[.val (.int p1), .val (.int p2), .val (.int p3), .val (.int p4), .val (.int p5), .val (.int v0), .val (.int v1), .val (.int v2), .val (.int v3), .val (.int v4), .val (.int v5), .val (.int (2 : Int32)), .val (.int cp), .unset, .unset, .unset, .unset, .unset] [(.int (3 : Int32)), (.ref b78), (.ref b78)]))
      refine go (fun _ => XS.iload X81.here hx rfl (hb hby at_166) rfl) ?_
      show Go _ p e below s _ _ _ (T81.setTop (mkF m 168 #[.val (.int p1), .val (.int p2), .val (.int p3), .val (.int p4), .val (.int p5), .val (.int v0), .val (.int v1), .val (.int v2), .val (.int v3), .val (.int v4), .val (.int v5), .val (.int (2 : Int32)), .val (.int cp), .unset, .unset, .unset, .unset, .unset] [(.int v3), (.int (3 : Int32)), (.ref b78), (.ref b78)]))
      obtain ⟨cl82, Ar82, q82, Sz82, Nz82, Hs82, Gs82⟩ := id VV81
      have hin82 : ¬ ((3 : Int32) < 0 ∨ cl82.slots.size ≤ ((3 : Int32)).toNatClampNeg) := inb_of Sz82 ⟨by decide, by decide⟩
      obtain ⟨T82, h82, X82, e82, W82, st82⟩ := stI X81 hx hZ e81 Ar82 (j := (3 : Int32)) hin82 (g := (mkF m 168 #[.val (.int p1), .val (.int p2), .val (.int p3), .val (.int p4), .val (.int p5), .val (.int v0), .val (.int v1), .val (.int v2), .val (.int v3), .val (.int v4), .val (.int v5), .val (.int (2 : Int32)), .val (.int cp), .unset, .unset, .unset, .unset, .unset] [(.int v3), (.int (3 : Int32)), (.ref b78), (.ref b78)])) rfl rfl (hb hby at_168)
      have V82 := Arv.set Ar82 q82 Sz82 Nz82 Hs82 Gs82 rfl W82 3 rfl (Nat.le_of_ble_eq_true rfl)
      have VV82 : Arv Z h82 b78 k78 .int (4 : Int32) [(.int v0), (.int v1), (.int v2), (.int v3)] (.int (0 : Int32)) := V82
      have c82_0 := c81_0.wr W82
      have KK82 : Keep h0 h82 [] := KK81.wr W82 (Or.inr SZ_b78)
      have ZN82 : n0 ≤ h82.size := Nat.le_trans ZN81 (Keep.of_wr W82).1
      have NN82 := Fr.snoc X82 NN81 G_b78
      refine go st82 ?_
      show Go _ p e below s _ _ _ (T82.setTop (mkF m 169 #[.val (.int p1), .val (.int p2), .val (.int p3), .val (.int p4), .val (.int p5), .val (.int v0), .val (.int v1), .val (.int v2), .val (.int v3), .val (.int v4), .val (.int v5), .val (.int (2 : Int32)), .val (.int cp), .unset, .unset, .unset, .unset, .unset] [(.ref b78)]))
      refine go (fun _ => XS.astore X82.here hx rfl (hb hby at_169) rfl rfl (l' := #[.val (.int p1), .val (.int p2), .val (.int p3), .val (.int p4), .val (.int p5), .val (.int v0), .val (.int v1), .val (.int v2), .val (.int v3), .val (.int v4), .val (.int v5), .val (.int (2 : Int32)), .val (.int cp), .val (.ref b78), .unset, .unset, .unset, .unset]) rfl) ?_
      show Go _ p e below s _ _ _ (T82.setTop (mkF m 171 #[.val (.int p1), .val (.int p2), .val (.int p3), .val (.int p4), .val (.int p5), .val (.int v0), .val (.int v1), .val (.int v2), .val (.int v3), .val (.int v4), .val (.int v5), .val (.int (2 : Int32)), .val (.int cp), .val (.ref b78), .unset, .unset, .unset, .unset] []))
      refine go (fun _ => XS.goto X82.here hx rfl (pc0 := 171) (pc' := 210) rfl (hb hby at_171) (by decide) (by decide)) ?_
      show Go _ p e below s _ _ _ (T82.setTop (mkF m 210 #[.val (.int p1), .val (.int p2), .val (.int p3), .val (.int p4), .val (.int p5), .val (.int v0), .val (.int v1), .val (.int v2), .val (.int v3), .val (.int v4), .val (.int v5), .val (.int (2 : Int32)), .val (.int cp), .val (.ref b78), .unset, .unset, .unset, .unset] []))
      have JB0 : ∀ (z0 : Int32), (z0 = own_in v0 cp v1) → Go FrameEnd p e below s room_1.cells room_1.slots (Q0 Z p1 p2 p3 p4 p5 h0 n0) (T82.setTop (mkF m 235 #[.val (.int p1), .val (.int p2), .val (.int p3), .val (.int p4), .val (.int p5), .val (.int v0), .val (.int v1), .val (.int v2), .val (.int v3), .val (.int v4), .val (.int v5), .val (.int (2 : Int32)), .val (.int cp), .val (.ref b78), .unset, .unset, .unset, .unset] [(.int z0)])) := by
        intro z0 hz0
        show Go _ p e below s _ _ _ (T82.setTop (mkF m 235 #[.val (.int p1), .val (.int p2), .val (.int p3), .val (.int p4), .val (.int p5), .val (.int v0), .val (.int v1), .val (.int v2), .val (.int v3), .val (.int v4), .val (.int v5), .val (.int (2 : Int32)), .val (.int cp), .val (.ref b78), .unset, .unset, .unset, .unset] [(.int z0)]))
        refine go (fun _ => XS.istore X82.here hx rfl (hb hby at_235) rfl (l' := #[.val (.int p1), .val (.int p2), .val (.int p3), .val (.int p4), .val (.int p5), .val (.int v0), .val (.int v1), .val (.int v2), .val (.int v3), .val (.int v4), .val (.int v5), .val (.int (2 : Int32)), .val (.int cp), .val (.ref b78), .val (.int z0), .unset, .unset, .unset]) rfl) ?_
        show Go _ p e below s _ _ _ (T82.setTop (mkF m 237 #[.val (.int p1), .val (.int p2), .val (.int p3), .val (.int p4), .val (.int p5), .val (.int v0), .val (.int v1), .val (.int v2), .val (.int v3), .val (.int v4), .val (.int v5), .val (.int (2 : Int32)), .val (.int cp), .val (.ref b78), .val (.int z0), .unset, .unset, .unset] []))
        have JB1 : ∀ (z1 : Int32), (z1 = own_in v2 cp v3) → Go FrameEnd p e below s room_1.cells room_1.slots (Q0 Z p1 p2 p3 p4 p5 h0 n0) (T82.setTop (mkF m 262 #[.val (.int p1), .val (.int p2), .val (.int p3), .val (.int p4), .val (.int p5), .val (.int v0), .val (.int v1), .val (.int v2), .val (.int v3), .val (.int v4), .val (.int v5), .val (.int (2 : Int32)), .val (.int cp), .val (.ref b78), .val (.int z0), .unset, .unset, .unset] [(.int z1)])) := by
          intro z1 hz1
          show Go _ p e below s _ _ _ (T82.setTop (mkF m 262 #[.val (.int p1), .val (.int p2), .val (.int p3), .val (.int p4), .val (.int p5), .val (.int v0), .val (.int v1), .val (.int v2), .val (.int v3), .val (.int v4), .val (.int v5), .val (.int (2 : Int32)), .val (.int cp), .val (.ref b78), .val (.int z0), .unset, .unset, .unset] [(.int z1)]))
          refine go (fun _ => XS.istore X82.here hx rfl (hb hby at_262) rfl (l' := #[.val (.int p1), .val (.int p2), .val (.int p3), .val (.int p4), .val (.int p5), .val (.int v0), .val (.int v1), .val (.int v2), .val (.int v3), .val (.int v4), .val (.int v5), .val (.int (2 : Int32)), .val (.int cp), .val (.ref b78), .val (.int z0), .val (.int z1), .unset, .unset]) rfl) ?_
          show Go _ p e below s _ _ _ (T82.setTop (mkF m 264 #[.val (.int p1), .val (.int p2), .val (.int p3), .val (.int p4), .val (.int p5), .val (.int v0), .val (.int v1), .val (.int v2), .val (.int v3), .val (.int v4), .val (.int v5), .val (.int (2 : Int32)), .val (.int cp), .val (.ref b78), .val (.int z0), .val (.int z1), .unset, .unset] []))
          refine go (fun _ => XS.iload X82.here hx rfl (hb hby at_264) rfl) ?_
          show Go _ p e below s _ _ _ (T82.setTop (mkF m 266 #[.val (.int p1), .val (.int p2), .val (.int p3), .val (.int p4), .val (.int p5), .val (.int v0), .val (.int v1), .val (.int v2), .val (.int v3), .val (.int v4), .val (.int v5), .val (.int (2 : Int32)), .val (.int cp), .val (.ref b78), .val (.int z0), .val (.int z1), .unset, .unset] [(.int (2 : Int32))]))
          refine go (fun _ => XS.iconst X82.here hx rfl (hb hby at_266)) ?_
          show Go _ p e below s _ _ _ (T82.setTop (mkF m 267 #[.val (.int p1), .val (.int p2), .val (.int p3), .val (.int p4), .val (.int p5), .val (.int v0), .val (.int v1), .val (.int v2), .val (.int v3), .val (.int v4), .val (.int v5), .val (.int (2 : Int32)), .val (.int cp), .val (.ref b78), .val (.int z0), .val (.int z1), .unset, .unset] [(.int (3 : Int32)), (.int (2 : Int32))]))
          refine go (fun _ => XS.icmpYes X82.here hx rfl (pc0 := 267) (pc' := 288) rfl (hb hby at_267) rfl (tlt (by decide : ((2 : Int32) < (3 : Int32)))).1 (by decide) (by decide)) ?_
          show Go _ p e below s _ _ _ (T82.setTop (mkF m 288 #[.val (.int p1), .val (.int p2), .val (.int p3), .val (.int p4), .val (.int p5), .val (.int v0), .val (.int v1), .val (.int v2), .val (.int v3), .val (.int v4), .val (.int v5), .val (.int (2 : Int32)), .val (.int cp), .val (.ref b78), .val (.int z0), .val (.int z1), .unset, .unset] []))
          refine go (fun _ => XS.iconst X82.here hx rfl (hb hby at_288)) ?_
          show Go _ p e below s _ _ _ (T82.setTop (mkF m 289 #[.val (.int p1), .val (.int p2), .val (.int p3), .val (.int p4), .val (.int p5), .val (.int v0), .val (.int v1), .val (.int v2), .val (.int v3), .val (.int v4), .val (.int v5), .val (.int (2 : Int32)), .val (.int cp), .val (.ref b78), .val (.int z0), .val (.int z1), .unset, .unset] [(.int (0 : Int32))]))
          refine go (fun _ => XS.istore X82.here hx rfl (hb hby at_289) rfl (l' := #[.val (.int p1), .val (.int p2), .val (.int p3), .val (.int p4), .val (.int p5), .val (.int v0), .val (.int v1), .val (.int v2), .val (.int v3), .val (.int v4), .val (.int v5), .val (.int (2 : Int32)), .val (.int cp), .val (.ref b78), .val (.int z0), .val (.int z1), .val (.int (0 : Int32)), .unset]) rfl) ?_
          show Go _ p e below s _ _ _ (T82.setTop (mkF m 291 #[.val (.int p1), .val (.int p2), .val (.int p3), .val (.int p4), .val (.int p5), .val (.int v0), .val (.int v1), .val (.int v2), .val (.int v3), .val (.int v4), .val (.int v5), .val (.int (2 : Int32)), .val (.int cp), .val (.ref b78), .val (.int z0), .val (.int z1), .val (.int (0 : Int32)), .unset] []))
          have JC : ∀ (zc : Int32), (zc = own_or z0 z1 0) → Go FrameEnd p e below s room_1.cells room_1.slots (Q0 Z p1 p2 p3 p4 p5 h0 n0) (T82.setTop (mkF m 311 #[.val (.int p1), .val (.int p2), .val (.int p3), .val (.int p4), .val (.int p5), .val (.int v0), .val (.int v1), .val (.int v2), .val (.int v3), .val (.int v4), .val (.int v5), .val (.int (2 : Int32)), .val (.int cp), .val (.ref b78), .val (.int z0), .val (.int z1), .val (.int (0 : Int32)), .unset] [(.int zc)])) := by
            intro zc hzc
            show Go _ p e below s _ _ _ (T82.setTop (mkF m 311 #[.val (.int p1), .val (.int p2), .val (.int p3), .val (.int p4), .val (.int p5), .val (.int v0), .val (.int v1), .val (.int v2), .val (.int v3), .val (.int v4), .val (.int v5), .val (.int (2 : Int32)), .val (.int cp), .val (.ref b78), .val (.int z0), .val (.int z1), .val (.int (0 : Int32)), .unset] [(.int zc)]))
            refine go (fun _ => XS.istore X82.here hx rfl (hb hby at_311) rfl (l' := #[.val (.int p1), .val (.int p2), .val (.int p3), .val (.int p4), .val (.int p5), .val (.int v0), .val (.int v1), .val (.int v2), .val (.int v3), .val (.int v4), .val (.int v5), .val (.int (2 : Int32)), .val (.int cp), .val (.ref b78), .val (.int z0), .val (.int z1), .val (.int (0 : Int32)), .val (.int zc)]) rfl) ?_
            show Go _ p e below s _ _ _ (T82.setTop (mkF m 313 #[.val (.int p1), .val (.int p2), .val (.int p3), .val (.int p4), .val (.int p5), .val (.int v0), .val (.int v1), .val (.int v2), .val (.int v3), .val (.int v4), .val (.int v5), .val (.int (2 : Int32)), .val (.int cp), .val (.ref b78), .val (.int z0), .val (.int z1), .val (.int (0 : Int32)), .val (.int zc)] []))
            refine go (fun _ => XS.aload X82.here hx rfl (hb hby at_313) rfl rfl) ?_
            show Go _ p e below s _ _ _ (T82.setTop (mkF m 315 #[.val (.int p1), .val (.int p2), .val (.int p3), .val (.int p4), .val (.int p5), .val (.int v0), .val (.int v1), .val (.int v2), .val (.int v3), .val (.int v4), .val (.int v5), .val (.int (2 : Int32)), .val (.int cp), .val (.ref b78), .val (.int z0), .val (.int z1), .val (.int (0 : Int32)), .val (.int zc)] [(.ref b78)]))
            refine go (fun _ => XS.iload X82.here hx rfl (hb hby at_315) rfl) ?_
            show Go _ p e below s _ _ _ (T82.setTop (mkF m 317 #[.val (.int p1), .val (.int p2), .val (.int p3), .val (.int p4), .val (.int p5), .val (.int v0), .val (.int v1), .val (.int v2), .val (.int v3), .val (.int v4), .val (.int v5), .val (.int (2 : Int32)), .val (.int cp), .val (.ref b78), .val (.int z0), .val (.int z1), .val (.int (0 : Int32)), .val (.int zc)] [(.int cp), (.ref b78)]))
            obtain ⟨_, _, ⟨T83, L83, k83, n83⟩, -, X83, ⟨Lc83, hQ83, l83, y83, z83⟩, st83⟩ := Jvm.LawKit.callS X82 hx (y := (⟨"com/example/raccordo/raccordo/flow/PatternSyntax", "holds", "([II)Z"⟩ : MethodName)) hown (mvT hZ (hw _ (List.mem_of_getElem? (i := 2) rfl))) (mvT hZ (hw _ (List.mem_of_getElem? (i := 3) rfl))) (mvT hZ (hw _ (List.mem_of_getElem? (i := 4) rfl))) (mvT hZ (hw _ (List.mem_of_getElem? (i := 5) rfl))) (by decide) (backOf (W := 0) (rm1h4 l Z a0 hw [] b78 cp k78 v0 v1 v2 v3 (.int (0 : Int32)) h82 n0 ZN82 VV82) hZ (hw _ (List.mem_of_getElem? (i := 5) rfl)) (hw _ (List.mem_of_getElem? (i := 4) rfl)) (by decide) (by decide)) (g := (mkF m 317 #[.val (.int p1), .val (.int p2), .val (.int p3), .val (.int p4), .val (.int p5), .val (.int v0), .val (.int v1), .val (.int v2), .val (.int v3), .val (.int v4), .val (.int v5), .val (.int (2 : Int32)), .val (.int cp), .val (.ref b78), .val (.int z0), .val (.int z1), .val (.int (0 : Int32)), .val (.int zc)] [(.int cp), (.ref b78)])) rfl (by rw [hml]; rfl) (argsL := [(.ref b78), (.int cp)]) (rest := []) (lenOf pd_0_0 rfl) rfl (by show 2 * 0 + _ ≤ _; exact Nat.le_of_eq rfl) (hb hby at_317) (fun _ _ => ⟨rfl, e82, (by decide : 1 + 0 ≤ _), (by decide : 4 + 0 ≤ _)⟩)
            dsimp only [Pt.U, Pt.locs, Pt.cells, Pt.slots] at X83 l83 y83 z83 st83 hQ83
            subst l83 y83 z83
            obtain ⟨rfl, N83q, e83⟩ := hQ83
            have N83 := Fr.app NN82 N83q
            refine go st83 ?_
            show Go _ p e below s _ _ _ (T83.setTop (mkF m 320 #[.val (.int p1), .val (.int p2), .val (.int p3), .val (.int p4), .val (.int p5), .val (.int v0), .val (.int v1), .val (.int v2), .val (.int v3), .val (.int v4), .val (.int v5), .val (.int (2 : Int32)), .val (.int cp), .val (.ref b78), .val (.int z0), .val (.int z1), .val (.int (0 : Int32)), .val (.int zc)] [(.int (own_h4 v0 v1 v2 v3 cp))]))
            refine go (fun _ => XS.iload X83.here hx rfl (hb hby at_320) rfl) ?_
            show Go _ p e below s _ _ _ (T83.setTop (mkF m 322 #[.val (.int p1), .val (.int p2), .val (.int p3), .val (.int p4), .val (.int p5), .val (.int v0), .val (.int v1), .val (.int v2), .val (.int v3), .val (.int v4), .val (.int v5), .val (.int (2 : Int32)), .val (.int cp), .val (.ref b78), .val (.int z0), .val (.int z1), .val (.int (0 : Int32)), .val (.int zc)] [(.int zc), (.int (own_h4 v0 v1 v2 v3 cp))]))
            refine go (fun _ => XS.icmpNo X83.here hx rfl (hb hby at_322) rfl (teq (by rw [hzc, hz0, hz1]; exact own_fin4 ho cp)).2) ?_
            show Go _ p e below s _ _ _ (T83.setTop (mkF m 325 #[.val (.int p1), .val (.int p2), .val (.int p3), .val (.int p4), .val (.int p5), .val (.int v0), .val (.int v1), .val (.int v2), .val (.int v3), .val (.int v4), .val (.int v5), .val (.int (2 : Int32)), .val (.int cp), .val (.ref b78), .val (.int z0), .val (.int z1), .val (.int (0 : Int32)), .val (.int zc)] []))
            refine go (fun _ => XS.iconst X83.here hx rfl (hb hby at_325)) ?_
            show Go _ p e below s _ _ _ (T83.setTop (mkF m 326 #[.val (.int p1), .val (.int p2), .val (.int p3), .val (.int p4), .val (.int p5), .val (.int v0), .val (.int v1), .val (.int v2), .val (.int v3), .val (.int v4), .val (.int v5), .val (.int (2 : Int32)), .val (.int cp), .val (.ref b78), .val (.int z0), .val (.int z1), .val (.int (0 : Int32)), .val (.int zc)] [(.int (1 : Int32))]))
            refine go (fun _ => XS.goto X83.here hx rfl (pc0 := 326) (pc' := 330) rfl (hb hby at_326) (by decide) (by decide)) ?_
            show Go _ p e below s _ _ _ (T83.setTop (mkF m 330 #[.val (.int p1), .val (.int p2), .val (.int p3), .val (.int p4), .val (.int p5), .val (.int v0), .val (.int v1), .val (.int v2), .val (.int v3), .val (.int v4), .val (.int v5), .val (.int (2 : Int32)), .val (.int cp), .val (.ref b78), .val (.int z0), .val (.int z1), .val (.int (0 : Int32)), .val (.int zc)] [(.int (1 : Int32))]))
            refine goRet X83 hx Bd.notSynchronized Bd.returns rfl (Or.inl ⟨rfl, Or.inr (Or.inl rfl), _, rfl⟩) (hb hby at_330) (by decide) (by decide) (by rw [e83]; refine ⟨rfl, N83⟩)
          refine go (fun _ => XS.iload X82.here hx rfl (hb hby at_291) rfl) ?_
          show Go _ p e below s _ _ _ (T82.setTop (mkF m 293 #[.val (.int p1), .val (.int p2), .val (.int p3), .val (.int p4), .val (.int p5), .val (.int v0), .val (.int v1), .val (.int v2), .val (.int v3), .val (.int v4), .val (.int v5), .val (.int (2 : Int32)), .val (.int cp), .val (.ref b78), .val (.int z0), .val (.int z1), .val (.int (0 : Int32)), .unset] [(.int z0)]))
          by_cases hc293_84 : z0 = (0 : Int32)
          · refine go (fun _ => XS.ifNo X82.here hx rfl (hb hby at_293) rfl ((if0 _ _).trans (teq hc293_84).2)) ?_
            show Go _ p e below s _ _ _ (T82.setTop (mkF m 296 #[.val (.int p1), .val (.int p2), .val (.int p3), .val (.int p4), .val (.int p5), .val (.int v0), .val (.int v1), .val (.int v2), .val (.int v3), .val (.int v4), .val (.int v5), .val (.int (2 : Int32)), .val (.int cp), .val (.ref b78), .val (.int z0), .val (.int z1), .val (.int (0 : Int32)), .unset] []))
            refine go (fun _ => XS.iload X82.here hx rfl (hb hby at_296) rfl) ?_
            show Go _ p e below s _ _ _ (T82.setTop (mkF m 298 #[.val (.int p1), .val (.int p2), .val (.int p3), .val (.int p4), .val (.int p5), .val (.int v0), .val (.int v1), .val (.int v2), .val (.int v3), .val (.int v4), .val (.int v5), .val (.int (2 : Int32)), .val (.int cp), .val (.ref b78), .val (.int z0), .val (.int z1), .val (.int (0 : Int32)), .unset] [(.int z1)]))
            by_cases hc298_85 : z1 = (0 : Int32)
            · refine go (fun _ => XS.ifNo X82.here hx rfl (hb hby at_298) rfl ((if0 _ _).trans (teq hc298_85).2)) ?_
              show Go _ p e below s _ _ _ (T82.setTop (mkF m 301 #[.val (.int p1), .val (.int p2), .val (.int p3), .val (.int p4), .val (.int p5), .val (.int v0), .val (.int v1), .val (.int v2), .val (.int v3), .val (.int v4), .val (.int v5), .val (.int (2 : Int32)), .val (.int cp), .val (.ref b78), .val (.int z0), .val (.int z1), .val (.int (0 : Int32)), .unset] []))
              refine go (fun _ => XS.iload X82.here hx rfl (hb hby at_301) rfl) ?_
              show Go _ p e below s _ _ _ (T82.setTop (mkF m 303 #[.val (.int p1), .val (.int p2), .val (.int p3), .val (.int p4), .val (.int p5), .val (.int v0), .val (.int v1), .val (.int v2), .val (.int v3), .val (.int v4), .val (.int v5), .val (.int (2 : Int32)), .val (.int cp), .val (.ref b78), .val (.int z0), .val (.int z1), .val (.int (0 : Int32)), .unset] [(.int (0 : Int32))]))
              refine go (fun _ => XS.ifYes X82.here hx rfl (pc0 := 303) (pc' := 310) rfl (hb hby at_303) rfl ((if0 _ _).trans (teq (rfl : (0 : Int32) = (0 : Int32))).1) (by decide) (by decide)) ?_
              show Go _ p e below s _ _ _ (T82.setTop (mkF m 310 #[.val (.int p1), .val (.int p2), .val (.int p3), .val (.int p4), .val (.int p5), .val (.int v0), .val (.int v1), .val (.int v2), .val (.int v3), .val (.int v4), .val (.int v5), .val (.int (2 : Int32)), .val (.int cp), .val (.ref b78), .val (.int z0), .val (.int z1), .val (.int (0 : Int32)), .unset] []))
              refine go (fun _ => XS.iconst X82.here hx rfl (hb hby at_310)) ?_
              show Go _ p e below s _ _ _ (T82.setTop (mkF m 311 #[.val (.int p1), .val (.int p2), .val (.int p3), .val (.int p4), .val (.int p5), .val (.int v0), .val (.int v1), .val (.int v2), .val (.int v3), .val (.int v4), .val (.int v5), .val (.int (2 : Int32)), .val (.int cp), .val (.ref b78), .val (.int z0), .val (.int z1), .val (.int (0 : Int32)), .unset] [(.int (0 : Int32))]))
              exact JC _ (by unfold own_or; simp [hc293_84, hc298_85])
            · refine go (fun _ => XS.ifYes X82.here hx rfl (pc0 := 298) (pc' := 306) rfl (hb hby at_298) rfl ((if0 _ _).trans (feq hc298_85).2) (by decide) (by decide)) ?_
              show Go _ p e below s _ _ _ (T82.setTop (mkF m 306 #[.val (.int p1), .val (.int p2), .val (.int p3), .val (.int p4), .val (.int p5), .val (.int v0), .val (.int v1), .val (.int v2), .val (.int v3), .val (.int v4), .val (.int v5), .val (.int (2 : Int32)), .val (.int cp), .val (.ref b78), .val (.int z0), .val (.int z1), .val (.int (0 : Int32)), .unset] []))
              refine go (fun _ => XS.iconst X82.here hx rfl (hb hby at_306)) ?_
              show Go _ p e below s _ _ _ (T82.setTop (mkF m 307 #[.val (.int p1), .val (.int p2), .val (.int p3), .val (.int p4), .val (.int p5), .val (.int v0), .val (.int v1), .val (.int v2), .val (.int v3), .val (.int v4), .val (.int v5), .val (.int (2 : Int32)), .val (.int cp), .val (.ref b78), .val (.int z0), .val (.int z1), .val (.int (0 : Int32)), .unset] [(.int (1 : Int32))]))
              refine go (fun _ => XS.goto X82.here hx rfl (pc0 := 307) (pc' := 311) rfl (hb hby at_307) (by decide) (by decide)) ?_
              show Go _ p e below s _ _ _ (T82.setTop (mkF m 311 #[.val (.int p1), .val (.int p2), .val (.int p3), .val (.int p4), .val (.int p5), .val (.int v0), .val (.int v1), .val (.int v2), .val (.int v3), .val (.int v4), .val (.int v5), .val (.int (2 : Int32)), .val (.int cp), .val (.ref b78), .val (.int z0), .val (.int z1), .val (.int (0 : Int32)), .unset] [(.int (1 : Int32))]))
              exact JC _ (by unfold own_or; simp [hc293_84, hc298_85])
          · refine go (fun _ => XS.ifYes X82.here hx rfl (pc0 := 293) (pc' := 306) rfl (hb hby at_293) rfl ((if0 _ _).trans (feq hc293_84).2) (by decide) (by decide)) ?_
            show Go _ p e below s _ _ _ (T82.setTop (mkF m 306 #[.val (.int p1), .val (.int p2), .val (.int p3), .val (.int p4), .val (.int p5), .val (.int v0), .val (.int v1), .val (.int v2), .val (.int v3), .val (.int v4), .val (.int v5), .val (.int (2 : Int32)), .val (.int cp), .val (.ref b78), .val (.int z0), .val (.int z1), .val (.int (0 : Int32)), .unset] []))
            refine go (fun _ => XS.iconst X82.here hx rfl (hb hby at_306)) ?_
            show Go _ p e below s _ _ _ (T82.setTop (mkF m 307 #[.val (.int p1), .val (.int p2), .val (.int p3), .val (.int p4), .val (.int p5), .val (.int v0), .val (.int v1), .val (.int v2), .val (.int v3), .val (.int v4), .val (.int v5), .val (.int (2 : Int32)), .val (.int cp), .val (.ref b78), .val (.int z0), .val (.int z1), .val (.int (0 : Int32)), .unset] [(.int (1 : Int32))]))
            refine go (fun _ => XS.goto X82.here hx rfl (pc0 := 307) (pc' := 311) rfl (hb hby at_307) (by decide) (by decide)) ?_
            show Go _ p e below s _ _ _ (T82.setTop (mkF m 311 #[.val (.int p1), .val (.int p2), .val (.int p3), .val (.int p4), .val (.int p5), .val (.int v0), .val (.int v1), .val (.int v2), .val (.int v3), .val (.int v4), .val (.int v5), .val (.int (2 : Int32)), .val (.int cp), .val (.ref b78), .val (.int z0), .val (.int z1), .val (.int (0 : Int32)), .unset] [(.int (1 : Int32))]))
            exact JC _ (by unfold own_or; simp [hc293_84])
        refine go (fun _ => XS.iload X82.here hx rfl (hb hby at_237) rfl) ?_
        show Go _ p e below s _ _ _ (T82.setTop (mkF m 239 #[.val (.int p1), .val (.int p2), .val (.int p3), .val (.int p4), .val (.int p5), .val (.int v0), .val (.int v1), .val (.int v2), .val (.int v3), .val (.int v4), .val (.int v5), .val (.int (2 : Int32)), .val (.int cp), .val (.ref b78), .val (.int z0), .unset, .unset, .unset] [(.int (2 : Int32))]))
        refine go (fun _ => XS.iconst X82.here hx rfl (hb hby at_239)) ?_
        show Go _ p e below s _ _ _ (T82.setTop (mkF m 240 #[.val (.int p1), .val (.int p2), .val (.int p3), .val (.int p4), .val (.int p5), .val (.int v0), .val (.int v1), .val (.int v2), .val (.int v3), .val (.int v4), .val (.int v5), .val (.int (2 : Int32)), .val (.int cp), .val (.ref b78), .val (.int z0), .unset, .unset, .unset] [(.int (2 : Int32)), (.int (2 : Int32))]))
        refine go (fun _ => XS.icmpNo X82.here hx rfl (hb hby at_240) rfl (flt (by decide : ¬ ((2 : Int32) < (2 : Int32)))).1) ?_
        show Go _ p e below s _ _ _ (T82.setTop (mkF m 243 #[.val (.int p1), .val (.int p2), .val (.int p3), .val (.int p4), .val (.int p5), .val (.int v0), .val (.int v1), .val (.int v2), .val (.int v3), .val (.int v4), .val (.int v5), .val (.int (2 : Int32)), .val (.int cp), .val (.ref b78), .val (.int z0), .unset, .unset, .unset] []))
        refine go (fun _ => XS.iload X82.here hx rfl (hb hby at_243) rfl) ?_
        show Go _ p e below s _ _ _ (T82.setTop (mkF m 245 #[.val (.int p1), .val (.int p2), .val (.int p3), .val (.int p4), .val (.int p5), .val (.int v0), .val (.int v1), .val (.int v2), .val (.int v3), .val (.int v4), .val (.int v5), .val (.int (2 : Int32)), .val (.int cp), .val (.ref b78), .val (.int z0), .unset, .unset, .unset] [(.int v2)]))
        refine go (fun _ => XS.iload X82.here hx rfl (hb hby at_245) rfl) ?_
        show Go _ p e below s _ _ _ (T82.setTop (mkF m 247 #[.val (.int p1), .val (.int p2), .val (.int p3), .val (.int p4), .val (.int p5), .val (.int v0), .val (.int v1), .val (.int v2), .val (.int v3), .val (.int v4), .val (.int v5), .val (.int (2 : Int32)), .val (.int cp), .val (.ref b78), .val (.int z0), .unset, .unset, .unset] [(.int cp), (.int v2)]))
        by_cases hc247_86 : cp < v2
        · refine go (fun _ => XS.icmpYes X82.here hx rfl (pc0 := 247) (pc' := 261) rfl (hb hby at_247) rfl (tlt hc247_86).2.2.1 (by decide) (by decide)) ?_
          show Go _ p e below s _ _ _ (T82.setTop (mkF m 261 #[.val (.int p1), .val (.int p2), .val (.int p3), .val (.int p4), .val (.int p5), .val (.int v0), .val (.int v1), .val (.int v2), .val (.int v3), .val (.int v4), .val (.int v5), .val (.int (2 : Int32)), .val (.int cp), .val (.ref b78), .val (.int z0), .unset, .unset, .unset] []))
          refine go (fun _ => XS.iconst X82.here hx rfl (hb hby at_261)) ?_
          show Go _ p e below s _ _ _ (T82.setTop (mkF m 262 #[.val (.int p1), .val (.int p2), .val (.int p3), .val (.int p4), .val (.int p5), .val (.int v0), .val (.int v1), .val (.int v2), .val (.int v3), .val (.int v4), .val (.int v5), .val (.int (2 : Int32)), .val (.int cp), .val (.ref b78), .val (.int z0), .unset, .unset, .unset] [(.int (0 : Int32))]))
          exact JB1 _ (by unfold own_in; simp only [if_pos hc247_86])
        · refine go (fun _ => XS.icmpNo X82.here hx rfl (hb hby at_247) rfl (flt hc247_86).2.2.1) ?_
          show Go _ p e below s _ _ _ (T82.setTop (mkF m 250 #[.val (.int p1), .val (.int p2), .val (.int p3), .val (.int p4), .val (.int p5), .val (.int v0), .val (.int v1), .val (.int v2), .val (.int v3), .val (.int v4), .val (.int v5), .val (.int (2 : Int32)), .val (.int cp), .val (.ref b78), .val (.int z0), .unset, .unset, .unset] []))
          refine go (fun _ => XS.iload X82.here hx rfl (hb hby at_250) rfl) ?_
          show Go _ p e below s _ _ _ (T82.setTop (mkF m 252 #[.val (.int p1), .val (.int p2), .val (.int p3), .val (.int p4), .val (.int p5), .val (.int v0), .val (.int v1), .val (.int v2), .val (.int v3), .val (.int v4), .val (.int v5), .val (.int (2 : Int32)), .val (.int cp), .val (.ref b78), .val (.int z0), .unset, .unset, .unset] [(.int cp)]))
          refine go (fun _ => XS.iload X82.here hx rfl (hb hby at_252) rfl) ?_
          show Go _ p e below s _ _ _ (T82.setTop (mkF m 254 #[.val (.int p1), .val (.int p2), .val (.int p3), .val (.int p4), .val (.int p5), .val (.int v0), .val (.int v1), .val (.int v2), .val (.int v3), .val (.int v4), .val (.int v5), .val (.int (2 : Int32)), .val (.int cp), .val (.ref b78), .val (.int z0), .unset, .unset, .unset] [(.int v3), (.int cp)]))
          by_cases hc254_87 : v3 < cp
          · refine go (fun _ => XS.icmpYes X82.here hx rfl (pc0 := 254) (pc' := 261) rfl (hb hby at_254) rfl (tlt hc254_87).2.2.1 (by decide) (by decide)) ?_
            show Go _ p e below s _ _ _ (T82.setTop (mkF m 261 #[.val (.int p1), .val (.int p2), .val (.int p3), .val (.int p4), .val (.int p5), .val (.int v0), .val (.int v1), .val (.int v2), .val (.int v3), .val (.int v4), .val (.int v5), .val (.int (2 : Int32)), .val (.int cp), .val (.ref b78), .val (.int z0), .unset, .unset, .unset] []))
            refine go (fun _ => XS.iconst X82.here hx rfl (hb hby at_261)) ?_
            show Go _ p e below s _ _ _ (T82.setTop (mkF m 262 #[.val (.int p1), .val (.int p2), .val (.int p3), .val (.int p4), .val (.int p5), .val (.int v0), .val (.int v1), .val (.int v2), .val (.int v3), .val (.int v4), .val (.int v5), .val (.int (2 : Int32)), .val (.int cp), .val (.ref b78), .val (.int z0), .unset, .unset, .unset] [(.int (0 : Int32))]))
            exact JB1 _ (by unfold own_in; simp only [if_neg hc247_86, if_pos hc254_87])
          · refine go (fun _ => XS.icmpNo X82.here hx rfl (hb hby at_254) rfl (flt hc254_87).2.2.1) ?_
            show Go _ p e below s _ _ _ (T82.setTop (mkF m 257 #[.val (.int p1), .val (.int p2), .val (.int p3), .val (.int p4), .val (.int p5), .val (.int v0), .val (.int v1), .val (.int v2), .val (.int v3), .val (.int v4), .val (.int v5), .val (.int (2 : Int32)), .val (.int cp), .val (.ref b78), .val (.int z0), .unset, .unset, .unset] []))
            refine go (fun _ => XS.iconst X82.here hx rfl (hb hby at_257)) ?_
            show Go _ p e below s _ _ _ (T82.setTop (mkF m 258 #[.val (.int p1), .val (.int p2), .val (.int p3), .val (.int p4), .val (.int p5), .val (.int v0), .val (.int v1), .val (.int v2), .val (.int v3), .val (.int v4), .val (.int v5), .val (.int (2 : Int32)), .val (.int cp), .val (.ref b78), .val (.int z0), .unset, .unset, .unset] [(.int (1 : Int32))]))
            refine go (fun _ => XS.goto X82.here hx rfl (pc0 := 258) (pc' := 262) rfl (hb hby at_258) (by decide) (by decide)) ?_
            show Go _ p e below s _ _ _ (T82.setTop (mkF m 262 #[.val (.int p1), .val (.int p2), .val (.int p3), .val (.int p4), .val (.int p5), .val (.int v0), .val (.int v1), .val (.int v2), .val (.int v3), .val (.int v4), .val (.int v5), .val (.int (2 : Int32)), .val (.int cp), .val (.ref b78), .val (.int z0), .unset, .unset, .unset] [(.int (1 : Int32))]))
            exact JB1 _ (by unfold own_in; simp only [if_neg hc247_86, if_neg hc254_87])
      refine go (fun _ => XS.iload X82.here hx rfl (hb hby at_210) rfl) ?_
      show Go _ p e below s _ _ _ (T82.setTop (mkF m 212 #[.val (.int p1), .val (.int p2), .val (.int p3), .val (.int p4), .val (.int p5), .val (.int v0), .val (.int v1), .val (.int v2), .val (.int v3), .val (.int v4), .val (.int v5), .val (.int (2 : Int32)), .val (.int cp), .val (.ref b78), .unset, .unset, .unset, .unset] [(.int (2 : Int32))]))
      refine go (fun _ => XS.iconst X82.here hx rfl (hb hby at_212)) ?_
      show Go _ p e below s _ _ _ (T82.setTop (mkF m 213 #[.val (.int p1), .val (.int p2), .val (.int p3), .val (.int p4), .val (.int p5), .val (.int v0), .val (.int v1), .val (.int v2), .val (.int v3), .val (.int v4), .val (.int v5), .val (.int (2 : Int32)), .val (.int cp), .val (.ref b78), .unset, .unset, .unset, .unset] [(.int (1 : Int32)), (.int (2 : Int32))]))
      refine go (fun _ => XS.icmpNo X82.here hx rfl (hb hby at_213) rfl (flt (by decide : ¬ ((2 : Int32) < (1 : Int32)))).1) ?_
      show Go _ p e below s _ _ _ (T82.setTop (mkF m 216 #[.val (.int p1), .val (.int p2), .val (.int p3), .val (.int p4), .val (.int p5), .val (.int v0), .val (.int v1), .val (.int v2), .val (.int v3), .val (.int v4), .val (.int v5), .val (.int (2 : Int32)), .val (.int cp), .val (.ref b78), .unset, .unset, .unset, .unset] []))
      refine go (fun _ => XS.iload X82.here hx rfl (hb hby at_216) rfl) ?_
      show Go _ p e below s _ _ _ (T82.setTop (mkF m 218 #[.val (.int p1), .val (.int p2), .val (.int p3), .val (.int p4), .val (.int p5), .val (.int v0), .val (.int v1), .val (.int v2), .val (.int v3), .val (.int v4), .val (.int v5), .val (.int (2 : Int32)), .val (.int cp), .val (.ref b78), .unset, .unset, .unset, .unset] [(.int v0)]))
      refine go (fun _ => XS.iload X82.here hx rfl (hb hby at_218) rfl) ?_
      show Go _ p e below s _ _ _ (T82.setTop (mkF m 220 #[.val (.int p1), .val (.int p2), .val (.int p3), .val (.int p4), .val (.int p5), .val (.int v0), .val (.int v1), .val (.int v2), .val (.int v3), .val (.int v4), .val (.int v5), .val (.int (2 : Int32)), .val (.int cp), .val (.ref b78), .unset, .unset, .unset, .unset] [(.int cp), (.int v0)]))
      by_cases hc220_88 : cp < v0
      · refine go (fun _ => XS.icmpYes X82.here hx rfl (pc0 := 220) (pc' := 234) rfl (hb hby at_220) rfl (tlt hc220_88).2.2.1 (by decide) (by decide)) ?_
        show Go _ p e below s _ _ _ (T82.setTop (mkF m 234 #[.val (.int p1), .val (.int p2), .val (.int p3), .val (.int p4), .val (.int p5), .val (.int v0), .val (.int v1), .val (.int v2), .val (.int v3), .val (.int v4), .val (.int v5), .val (.int (2 : Int32)), .val (.int cp), .val (.ref b78), .unset, .unset, .unset, .unset] []))
        refine go (fun _ => XS.iconst X82.here hx rfl (hb hby at_234)) ?_
        show Go _ p e below s _ _ _ (T82.setTop (mkF m 235 #[.val (.int p1), .val (.int p2), .val (.int p3), .val (.int p4), .val (.int p5), .val (.int v0), .val (.int v1), .val (.int v2), .val (.int v3), .val (.int v4), .val (.int v5), .val (.int (2 : Int32)), .val (.int cp), .val (.ref b78), .unset, .unset, .unset, .unset] [(.int (0 : Int32))]))
        exact JB0 _ (by unfold own_in; simp only [if_pos hc220_88])
      · refine go (fun _ => XS.icmpNo X82.here hx rfl (hb hby at_220) rfl (flt hc220_88).2.2.1) ?_
        show Go _ p e below s _ _ _ (T82.setTop (mkF m 223 #[.val (.int p1), .val (.int p2), .val (.int p3), .val (.int p4), .val (.int p5), .val (.int v0), .val (.int v1), .val (.int v2), .val (.int v3), .val (.int v4), .val (.int v5), .val (.int (2 : Int32)), .val (.int cp), .val (.ref b78), .unset, .unset, .unset, .unset] []))
        refine go (fun _ => XS.iload X82.here hx rfl (hb hby at_223) rfl) ?_
        show Go _ p e below s _ _ _ (T82.setTop (mkF m 225 #[.val (.int p1), .val (.int p2), .val (.int p3), .val (.int p4), .val (.int p5), .val (.int v0), .val (.int v1), .val (.int v2), .val (.int v3), .val (.int v4), .val (.int v5), .val (.int (2 : Int32)), .val (.int cp), .val (.ref b78), .unset, .unset, .unset, .unset] [(.int cp)]))
        refine go (fun _ => XS.iload X82.here hx rfl (hb hby at_225) rfl) ?_
        show Go _ p e below s _ _ _ (T82.setTop (mkF m 227 #[.val (.int p1), .val (.int p2), .val (.int p3), .val (.int p4), .val (.int p5), .val (.int v0), .val (.int v1), .val (.int v2), .val (.int v3), .val (.int v4), .val (.int v5), .val (.int (2 : Int32)), .val (.int cp), .val (.ref b78), .unset, .unset, .unset, .unset] [(.int v1), (.int cp)]))
        by_cases hc227_89 : v1 < cp
        · refine go (fun _ => XS.icmpYes X82.here hx rfl (pc0 := 227) (pc' := 234) rfl (hb hby at_227) rfl (tlt hc227_89).2.2.1 (by decide) (by decide)) ?_
          show Go _ p e below s _ _ _ (T82.setTop (mkF m 234 #[.val (.int p1), .val (.int p2), .val (.int p3), .val (.int p4), .val (.int p5), .val (.int v0), .val (.int v1), .val (.int v2), .val (.int v3), .val (.int v4), .val (.int v5), .val (.int (2 : Int32)), .val (.int cp), .val (.ref b78), .unset, .unset, .unset, .unset] []))
          refine go (fun _ => XS.iconst X82.here hx rfl (hb hby at_234)) ?_
          show Go _ p e below s _ _ _ (T82.setTop (mkF m 235 #[.val (.int p1), .val (.int p2), .val (.int p3), .val (.int p4), .val (.int p5), .val (.int v0), .val (.int v1), .val (.int v2), .val (.int v3), .val (.int v4), .val (.int v5), .val (.int (2 : Int32)), .val (.int cp), .val (.ref b78), .unset, .unset, .unset, .unset] [(.int (0 : Int32))]))
          exact JB0 _ (by unfold own_in; simp only [if_neg hc220_88, if_pos hc227_89])
        · refine go (fun _ => XS.icmpNo X82.here hx rfl (hb hby at_227) rfl (flt hc227_89).2.2.1) ?_
          show Go _ p e below s _ _ _ (T82.setTop (mkF m 230 #[.val (.int p1), .val (.int p2), .val (.int p3), .val (.int p4), .val (.int p5), .val (.int v0), .val (.int v1), .val (.int v2), .val (.int v3), .val (.int v4), .val (.int v5), .val (.int (2 : Int32)), .val (.int cp), .val (.ref b78), .unset, .unset, .unset, .unset] []))
          refine go (fun _ => XS.iconst X82.here hx rfl (hb hby at_230)) ?_
          show Go _ p e below s _ _ _ (T82.setTop (mkF m 231 #[.val (.int p1), .val (.int p2), .val (.int p3), .val (.int p4), .val (.int p5), .val (.int v0), .val (.int v1), .val (.int v2), .val (.int v3), .val (.int v4), .val (.int v5), .val (.int (2 : Int32)), .val (.int cp), .val (.ref b78), .unset, .unset, .unset, .unset] [(.int (1 : Int32))]))
          refine go (fun _ => XS.goto X82.here hx rfl (pc0 := 231) (pc' := 235) rfl (hb hby at_231) (by decide) (by decide)) ?_
          show Go _ p e below s _ _ _ (T82.setTop (mkF m 235 #[.val (.int p1), .val (.int p2), .val (.int p3), .val (.int p4), .val (.int p5), .val (.int v0), .val (.int v1), .val (.int v2), .val (.int v3), .val (.int v4), .val (.int v5), .val (.int (2 : Int32)), .val (.int cp), .val (.ref b78), .unset, .unset, .unset, .unset] [(.int (1 : Int32))]))
          exact JB0 _ (by unfold own_in; simp only [if_neg hc220_88, if_neg hc227_89])
    · show Go _ p e below s _ _ _ (s₁.setTop (mkF m 101 #[.val (.int p1), .val (.int p2), .val (.int p3), .val (.int p4), .val (.int p5), .val (.int v0), .val (.int v1), .val (.int v2), .val (.int v3), .val (.int v4), .val (.int v5), .val (.int (3 : Int32)), .unset, .unset, .unset, .unset, .unset, .unset] [(.int cp)]))
      refine go (fun _ => XS.istore X0.here hx rfl (hb hby at_101) rfl (l' := #[.val (.int p1), .val (.int p2), .val (.int p3), .val (.int p4), .val (.int p5), .val (.int v0), .val (.int v1), .val (.int v2), .val (.int v3), .val (.int v4), .val (.int v5), .val (.int (3 : Int32)), .val (.int cp), .unset, .unset, .unset, .unset, .unset]) rfl) ?_
      show Go _ p e below s _ _ _ (s₁.setTop (mkF m 103 #[.val (.int p1), .val (.int p2), .val (.int p3), .val (.int p4), .val (.int p5), .val (.int v0), .val (.int v1), .val (.int v2), .val (.int v3), .val (.int v4), .val (.int v5), .val (.int (3 : Int32)), .val (.int cp), .unset, .unset, .unset, .unset, .unset] []))
      refine go (fun _ => XS.iload X0.here hx rfl (hb hby at_103) rfl) ?_
      show Go _ p e below s _ _ _ (s₁.setTop (mkF m 105 #[.val (.int p1), .val (.int p2), .val (.int p3), .val (.int p4), .val (.int p5), .val (.int v0), .val (.int v1), .val (.int v2), .val (.int v3), .val (.int v4), .val (.int v5), .val (.int (3 : Int32)), .val (.int cp), .unset, .unset, .unset, .unset, .unset] [(.int (3 : Int32))]))
      refine go (fun _ => XS.ifYes X0.here hx rfl (pc0 := 105) (pc' := 116) rfl (hb hby at_105) rfl ((if0 _ _).trans (feq (by decide : ¬ ((3 : Int32) = (0 : Int32)))).2) (by decide) (by decide)) ?_
      show Go _ p e below s _ _ _ (s₁.setTop (mkF m 116 #[.val (.int p1), .val (.int p2), .val (.int p3), .val (.int p4), .val (.int p5), .val (.int v0), .val (.int v1), .val (.int v2), .val (.int v3), .val (.int v4), .val (.int v5), .val (.int (3 : Int32)), .val (.int cp), .unset, .unset, .unset, .unset, .unset] []))
      refine go (fun _ => XS.iload X0.here hx rfl (hb hby at_116) rfl) ?_
      show Go _ p e below s _ _ _ (s₁.setTop (mkF m 118 #[.val (.int p1), .val (.int p2), .val (.int p3), .val (.int p4), .val (.int p5), .val (.int v0), .val (.int v1), .val (.int v2), .val (.int v3), .val (.int v4), .val (.int v5), .val (.int (3 : Int32)), .val (.int cp), .unset, .unset, .unset, .unset, .unset] [(.int (3 : Int32))]))
      refine go (fun _ => XS.iconst X0.here hx rfl (hb hby at_118)) ?_
      show Go _ p e below s _ _ _ (s₁.setTop (mkF m 119 #[.val (.int p1), .val (.int p2), .val (.int p3), .val (.int p4), .val (.int p5), .val (.int v0), .val (.int v1), .val (.int v2), .val (.int v3), .val (.int v4), .val (.int v5), .val (.int (3 : Int32)), .val (.int cp), .unset, .unset, .unset, .unset, .unset] [(.int (1 : Int32)), (.int (3 : Int32))]))
      refine go (fun _ => XS.icmpYes X0.here hx rfl (pc0 := 119) (pc' := 140) rfl (hb hby at_119) rfl (feq (by decide : ¬ ((3 : Int32) = (1 : Int32)))).2 (by decide) (by decide)) ?_
      show Go _ p e below s _ _ _ (s₁.setTop (mkF m 140 #[.val (.int p1), .val (.int p2), .val (.int p3), .val (.int p4), .val (.int p5), .val (.int v0), .val (.int v1), .val (.int v2), .val (.int v3), .val (.int v4), .val (.int v5), .val (.int (3 : Int32)), .val (.int cp), .unset, .unset, .unset, .unset, .unset] []))
      refine go (fun _ => XS.iload X0.here hx rfl (hb hby at_140) rfl) ?_
      show Go _ p e below s _ _ _ (s₁.setTop (mkF m 142 #[.val (.int p1), .val (.int p2), .val (.int p3), .val (.int p4), .val (.int p5), .val (.int v0), .val (.int v1), .val (.int v2), .val (.int v3), .val (.int v4), .val (.int v5), .val (.int (3 : Int32)), .val (.int cp), .unset, .unset, .unset, .unset, .unset] [(.int (3 : Int32))]))
      refine go (fun _ => XS.iconst X0.here hx rfl (hb hby at_142)) ?_
      show Go _ p e below s _ _ _ (s₁.setTop (mkF m 143 #[.val (.int p1), .val (.int p2), .val (.int p3), .val (.int p4), .val (.int p5), .val (.int v0), .val (.int v1), .val (.int v2), .val (.int v3), .val (.int v4), .val (.int v5), .val (.int (3 : Int32)), .val (.int cp), .unset, .unset, .unset, .unset, .unset] [(.int (2 : Int32)), (.int (3 : Int32))]))
      refine go (fun _ => XS.icmpYes X0.here hx rfl (pc0 := 143) (pc' := 174) rfl (hb hby at_143) rfl (feq (by decide : ¬ ((3 : Int32) = (2 : Int32)))).2 (by decide) (by decide)) ?_
      show Go _ p e below s _ _ _ (s₁.setTop (mkF m 174 #[.val (.int p1), .val (.int p2), .val (.int p3), .val (.int p4), .val (.int p5), .val (.int v0), .val (.int v1), .val (.int v2), .val (.int v3), .val (.int v4), .val (.int v5), .val (.int (3 : Int32)), .val (.int cp), .unset, .unset, .unset, .unset, .unset] []))
      refine go (fun _ => XS.bipush X0.here hx rfl (hb hby at_174)) ?_
      show Go _ p e below s _ _ _ (s₁.setTop (mkF m 176 #[.val (.int p1), .val (.int p2), .val (.int p3), .val (.int p4), .val (.int p5), .val (.int v0), .val (.int v1), .val (.int v2), .val (.int v3), .val (.int v4), .val (.int v5), .val (.int (3 : Int32)), .val (.int cp), .unset, .unset, .unset, .unset, .unset] [(.int (6 : Int32))]))
      obtain ⟨T90, h90, k90, X90, e90, E90, A90, AE90, st90⟩ := newPE X0 hx hZ (hw _ (List.mem_of_getElem? (i := 1) rfl)) e0 (g := (mkF m 176 #[.val (.int p1), .val (.int p2), .val (.int p3), .val (.int p4), .val (.int p5), .val (.int v0), .val (.int v1), .val (.int v2), .val (.int v3), .val (.int v4), .val (.int v5), .val (.int (3 : Int32)), .val (.int cp), .unset, .unset, .unset, .unset, .unset] [(.int (6 : Int32))])) rfl (hb hby at_176) rfl (by decide) (cap := 6) (by decide) (by decide) (by decide) (by decide) (ad := "[I") (by first | rfl | decide)
      obtain ⟨b90, g90⟩ : ∃ z, z = h0.size := ⟨_, rfl⟩
      rw [← g90] at A90 AE90 st90
      have G_b90 : n0 ≤ b90 := Nat.le_trans Z0 (Nat.le_of_eq g90.symm)
      have SZ_b90 : h0.size ≤ b90 := Nat.le_trans (Keep.refl h0 []).1 (Nat.le_of_eq g90.symm)
      have KK90 : Keep h0 h90 [] := (Keep.refl h0 []).ext E90
      have ZN90 : n0 ≤ h90.size := Nat.le_trans Z0 E90.1
      have V90 : Arv Z h90 b90 k90 .int (6 : Int32) [(.int (0 : Int32)), (.int (0 : Int32)), (.int (0 : Int32)), (.int (0 : Int32)), (.int (0 : Int32)), (.int (0 : Int32))] (.int (0 : Int32)) := (Arv.new A90 (by decide)).pad (pad_rep [] (.int (0 : Int32)) 6)
      refine go st90 ?_
      show Go _ p e below s _ _ _ (T90.setTop (mkF m 178 #[.val (.int p1), .val (.int p2), .val (.int p3), .val (.int p4), .val (.int p5), .val (.int v0), .val (.int v1), .val (.int v2), .val (.int v3), .val (.int v4), .val (.int v5), .val (.int (3 : Int32)), .val (.int cp), .unset, .unset, .unset, .unset, .unset] [(.ref b90)]))
      refine go (fun _ => XS.dup X90.here hx rfl (hb hby at_178) rfl rfl) ?_
      show Go _ p e below s _ _ _ (T90.setTop (mkF m 179 #[.val (.int p1), .val (.int p2), .val (.int p3), .val (.int p4), .val (.int p5), .val (.int v0), .val (.int v1), .val (.int v2), .val (.int v3), .val (.int v4), .val (.int v5), .val (.int (3 : Int32)), .val (.int cp), .unset, .unset, .unset, .unset, .unset] [(.ref b90), (.ref b90)]))
      refine go (fun _ => XS.iconst X90.here hx rfl (hb hby at_179)) ?_
      show Go _ p e below s _ _ _ (T90.setTop (mkF m 180 #[.val (.int p1), .val (.int p2), .val (.int p3), .val (.int p4), .val (.int p5), .val (.int v0), .val (.int v1), .val (.int v2), .val (.int v3), .val (.int v4), .val (.int v5), .val (.int (3 : Int32)), .val (.int cp), .unset, .unset, .unset, .unset, .unset] [(.int (0 : Int32)), (.ref b90), (.ref b90)]))
      refine go (fun _ => XS.iload X90.here hx rfl (hb hby at_180) rfl) ?_
      show Go _ p e below s _ _ _ (T90.setTop (mkF m 182 #[.val (.int p1), .val (.int p2), .val (.int p3), .val (.int p4), .val (.int p5), .val (.int v0), .val (.int v1), .val (.int v2), .val (.int v3), .val (.int v4), .val (.int v5), .val (.int (3 : Int32)), .val (.int cp), .unset, .unset, .unset, .unset, .unset] [(.int v0), (.int (0 : Int32)), (.ref b90), (.ref b90)]))
      obtain ⟨cl91, Ar91, q91, Sz91, Nz91, Hs91, Gs91⟩ := id V90
      have hin91 : ¬ ((0 : Int32) < 0 ∨ cl91.slots.size ≤ ((0 : Int32)).toNatClampNeg) := inb_of Sz91 ⟨by decide, by decide⟩
      obtain ⟨T91, h91, X91, e91, W91, st91⟩ := stI X90 hx hZ e90 Ar91 (j := (0 : Int32)) hin91 (g := (mkF m 182 #[.val (.int p1), .val (.int p2), .val (.int p3), .val (.int p4), .val (.int p5), .val (.int v0), .val (.int v1), .val (.int v2), .val (.int v3), .val (.int v4), .val (.int v5), .val (.int (3 : Int32)), .val (.int cp), .unset, .unset, .unset, .unset, .unset] [(.int v0), (.int (0 : Int32)), (.ref b90), (.ref b90)])) rfl rfl (hb hby at_182)
      have V91 := Arv.set Ar91 q91 Sz91 Nz91 Hs91 Gs91 rfl W91 0 rfl (Nat.le_of_ble_eq_true rfl)
      have VV91 : Arv Z h91 b90 k90 .int (6 : Int32) [(.int v0), (.int (0 : Int32)), (.int (0 : Int32)), (.int (0 : Int32)), (.int (0 : Int32)), (.int (0 : Int32))] (.int (0 : Int32)) := V91
      have c91_0 := AE90.wr W91
      have KK91 : Keep h0 h91 [] := KK90.wr W91 (Or.inr SZ_b90)
      have ZN91 : n0 ≤ h91.size := Nat.le_trans ZN90 (Keep.of_wr W91).1
      have NN91 := Fr.snoc X91 N0 G_b90
      refine go st91 ?_
      show Go _ p e below s _ _ _ (T91.setTop (mkF m 183 #[.val (.int p1), .val (.int p2), .val (.int p3), .val (.int p4), .val (.int p5), .val (.int v0), .val (.int v1), .val (.int v2), .val (.int v3), .val (.int v4), .val (.int v5), .val (.int (3 : Int32)), .val (.int cp), .unset, .unset, .unset, .unset, .unset] [(.ref b90)]))
      refine go (fun _ => XS.dup X91.here hx rfl (hb hby at_183) rfl rfl) ?_
      show Go _ p e below s _ _ _ (T91.setTop (mkF m 184 #[.val (.int p1), .val (.int p2), .val (.int p3), .val (.int p4), .val (.int p5), .val (.int v0), .val (.int v1), .val (.int v2), .val (.int v3), .val (.int v4), .val (.int v5), .val (.int (3 : Int32)), .val (.int cp), .unset, .unset, .unset, .unset, .unset] [(.ref b90), (.ref b90)]))
      refine go (fun _ => XS.iconst X91.here hx rfl (hb hby at_184)) ?_
      show Go _ p e below s _ _ _ (T91.setTop (mkF m 185 #[.val (.int p1), .val (.int p2), .val (.int p3), .val (.int p4), .val (.int p5), .val (.int v0), .val (.int v1), .val (.int v2), .val (.int v3), .val (.int v4), .val (.int v5), .val (.int (3 : Int32)), .val (.int cp), .unset, .unset, .unset, .unset, .unset] [(.int (1 : Int32)), (.ref b90), (.ref b90)]))
      refine go (fun _ => XS.iload X91.here hx rfl (hb hby at_185) rfl) ?_
      show Go _ p e below s _ _ _ (T91.setTop (mkF m 187 #[.val (.int p1), .val (.int p2), .val (.int p3), .val (.int p4), .val (.int p5), .val (.int v0), .val (.int v1), .val (.int v2), .val (.int v3), .val (.int v4), .val (.int v5), .val (.int (3 : Int32)), .val (.int cp), .unset, .unset, .unset, .unset, .unset] [(.int v1), (.int (1 : Int32)), (.ref b90), (.ref b90)]))
      obtain ⟨cl92, Ar92, q92, Sz92, Nz92, Hs92, Gs92⟩ := id VV91
      have hin92 : ¬ ((1 : Int32) < 0 ∨ cl92.slots.size ≤ ((1 : Int32)).toNatClampNeg) := inb_of Sz92 ⟨by decide, by decide⟩
      obtain ⟨T92, h92, X92, e92, W92, st92⟩ := stI X91 hx hZ e91 Ar92 (j := (1 : Int32)) hin92 (g := (mkF m 187 #[.val (.int p1), .val (.int p2), .val (.int p3), .val (.int p4), .val (.int p5), .val (.int v0), .val (.int v1), .val (.int v2), .val (.int v3), .val (.int v4), .val (.int v5), .val (.int (3 : Int32)), .val (.int cp), .unset, .unset, .unset, .unset, .unset] [(.int v1), (.int (1 : Int32)), (.ref b90), (.ref b90)])) rfl rfl (hb hby at_187)
      have V92 := Arv.set Ar92 q92 Sz92 Nz92 Hs92 Gs92 rfl W92 1 rfl (Nat.le_of_ble_eq_true rfl)
      have VV92 : Arv Z h92 b90 k90 .int (6 : Int32) [(.int v0), (.int v1), (.int (0 : Int32)), (.int (0 : Int32)), (.int (0 : Int32)), (.int (0 : Int32))] (.int (0 : Int32)) := V92
      have c92_0 := c91_0.wr W92
      have KK92 : Keep h0 h92 [] := KK91.wr W92 (Or.inr SZ_b90)
      have ZN92 : n0 ≤ h92.size := Nat.le_trans ZN91 (Keep.of_wr W92).1
      have NN92 := Fr.snoc X92 NN91 G_b90
      refine go st92 ?_
      show Go _ p e below s _ _ _ (T92.setTop (mkF m 188 #[.val (.int p1), .val (.int p2), .val (.int p3), .val (.int p4), .val (.int p5), .val (.int v0), .val (.int v1), .val (.int v2), .val (.int v3), .val (.int v4), .val (.int v5), .val (.int (3 : Int32)), .val (.int cp), .unset, .unset, .unset, .unset, .unset] [(.ref b90)]))
      refine go (fun _ => XS.dup X92.here hx rfl (hb hby at_188) rfl rfl) ?_
      show Go _ p e below s _ _ _ (T92.setTop (mkF m 189 #[.val (.int p1), .val (.int p2), .val (.int p3), .val (.int p4), .val (.int p5), .val (.int v0), .val (.int v1), .val (.int v2), .val (.int v3), .val (.int v4), .val (.int v5), .val (.int (3 : Int32)), .val (.int cp), .unset, .unset, .unset, .unset, .unset] [(.ref b90), (.ref b90)]))
      refine go (fun _ => XS.iconst X92.here hx rfl (hb hby at_189)) ?_
      show Go _ p e below s _ _ _ (T92.setTop (mkF m 190 #[.val (.int p1), .val (.int p2), .val (.int p3), .val (.int p4), .val (.int p5), .val (.int v0), .val (.int v1), .val (.int v2), .val (.int v3), .val (.int v4), .val (.int v5), .val (.int (3 : Int32)), .val (.int cp), .unset, .unset, .unset, .unset, .unset] [(.int (2 : Int32)), (.ref b90), (.ref b90)]))
      refine go (fun _ => XS.iload X92.here hx rfl (hb hby at_190) rfl) ?_
      show Go _ p e below s _ _ _ (T92.setTop (mkF m 192 #[.val (.int p1), .val (.int p2), .val (.int p3), .val (.int p4), .val (.int p5), .val (.int v0), .val (.int v1), .val (.int v2), .val (.int v3), .val (.int v4), .val (.int v5), .val (.int (3 : Int32)), .val (.int cp), .unset, .unset, .unset, .unset, .unset] [(.int v2), (.int (2 : Int32)), (.ref b90), (.ref b90)]))
      obtain ⟨cl93, Ar93, q93, Sz93, Nz93, Hs93, Gs93⟩ := id VV92
      have hin93 : ¬ ((2 : Int32) < 0 ∨ cl93.slots.size ≤ ((2 : Int32)).toNatClampNeg) := inb_of Sz93 ⟨by decide, by decide⟩
      obtain ⟨T93, h93, X93, e93, W93, st93⟩ := stI X92 hx hZ e92 Ar93 (j := (2 : Int32)) hin93 (g := (mkF m 192 #[.val (.int p1), .val (.int p2), .val (.int p3), .val (.int p4), .val (.int p5), .val (.int v0), .val (.int v1), .val (.int v2), .val (.int v3), .val (.int v4), .val (.int v5), .val (.int (3 : Int32)), .val (.int cp), .unset, .unset, .unset, .unset, .unset] [(.int v2), (.int (2 : Int32)), (.ref b90), (.ref b90)])) rfl rfl (hb hby at_192)
      have V93 := Arv.set Ar93 q93 Sz93 Nz93 Hs93 Gs93 rfl W93 2 rfl (Nat.le_of_ble_eq_true rfl)
      have VV93 : Arv Z h93 b90 k90 .int (6 : Int32) [(.int v0), (.int v1), (.int v2), (.int (0 : Int32)), (.int (0 : Int32)), (.int (0 : Int32))] (.int (0 : Int32)) := V93
      have c93_0 := c92_0.wr W93
      have KK93 : Keep h0 h93 [] := KK92.wr W93 (Or.inr SZ_b90)
      have ZN93 : n0 ≤ h93.size := Nat.le_trans ZN92 (Keep.of_wr W93).1
      have NN93 := Fr.snoc X93 NN92 G_b90
      refine go st93 ?_
      show Go _ p e below s _ _ _ (T93.setTop (mkF m 193 #[.val (.int p1), .val (.int p2), .val (.int p3), .val (.int p4), .val (.int p5), .val (.int v0), .val (.int v1), .val (.int v2), .val (.int v3), .val (.int v4), .val (.int v5), .val (.int (3 : Int32)), .val (.int cp), .unset, .unset, .unset, .unset, .unset] [(.ref b90)]))
      refine go (fun _ => XS.dup X93.here hx rfl (hb hby at_193) rfl rfl) ?_
      show Go _ p e below s _ _ _ (T93.setTop (mkF m 194 #[.val (.int p1), .val (.int p2), .val (.int p3), .val (.int p4), .val (.int p5), .val (.int v0), .val (.int v1), .val (.int v2), .val (.int v3), .val (.int v4), .val (.int v5), .val (.int (3 : Int32)), .val (.int cp), .unset, .unset, .unset, .unset, .unset] [(.ref b90), (.ref b90)]))
      refine go (fun _ => XS.iconst X93.here hx rfl (hb hby at_194)) ?_
      show Go _ p e below s _ _ _ (T93.setTop (mkF m 195 #[.val (.int p1), .val (.int p2), .val (.int p3), .val (.int p4), .val (.int p5), .val (.int v0), .val (.int v1), .val (.int v2), .val (.int v3), .val (.int v4), .val (.int v5), .val (.int (3 : Int32)), .val (.int cp), .unset, .unset, .unset, .unset, .unset] [(.int (3 : Int32)), (.ref b90), (.ref b90)]))
      refine go (fun _ => XS.iload X93.here hx rfl (hb hby at_195) rfl) ?_
      show Go _ p e below s _ _ _ (T93.setTop (mkF m 197 #[.val (.int p1), .val (.int p2), .val (.int p3), .val (.int p4), .val (.int p5), .val (.int v0), .val (.int v1), .val (.int v2), .val (.int v3), .val (.int v4), .val (.int v5), .val (.int (3 : Int32)), .val (.int cp), .unset, .unset, .unset, .unset, .unset] [(.int v3), (.int (3 : Int32)), (.ref b90), (.ref b90)]))
      obtain ⟨cl94, Ar94, q94, Sz94, Nz94, Hs94, Gs94⟩ := id VV93
      have hin94 : ¬ ((3 : Int32) < 0 ∨ cl94.slots.size ≤ ((3 : Int32)).toNatClampNeg) := inb_of Sz94 ⟨by decide, by decide⟩
      obtain ⟨T94, h94, X94, e94, W94, st94⟩ := stI X93 hx hZ e93 Ar94 (j := (3 : Int32)) hin94 (g := (mkF m 197 #[.val (.int p1), .val (.int p2), .val (.int p3), .val (.int p4), .val (.int p5), .val (.int v0), .val (.int v1), .val (.int v2), .val (.int v3), .val (.int v4), .val (.int v5), .val (.int (3 : Int32)), .val (.int cp), .unset, .unset, .unset, .unset, .unset] [(.int v3), (.int (3 : Int32)), (.ref b90), (.ref b90)])) rfl rfl (hb hby at_197)
      have V94 := Arv.set Ar94 q94 Sz94 Nz94 Hs94 Gs94 rfl W94 3 rfl (Nat.le_of_ble_eq_true rfl)
      have VV94 : Arv Z h94 b90 k90 .int (6 : Int32) [(.int v0), (.int v1), (.int v2), (.int v3), (.int (0 : Int32)), (.int (0 : Int32))] (.int (0 : Int32)) := V94
      have c94_0 := c93_0.wr W94
      have KK94 : Keep h0 h94 [] := KK93.wr W94 (Or.inr SZ_b90)
      have ZN94 : n0 ≤ h94.size := Nat.le_trans ZN93 (Keep.of_wr W94).1
      have NN94 := Fr.snoc X94 NN93 G_b90
      refine go st94 ?_
      show Go _ p e below s _ _ _ (T94.setTop (mkF m 198 #[.val (.int p1), .val (.int p2), .val (.int p3), .val (.int p4), .val (.int p5), .val (.int v0), .val (.int v1), .val (.int v2), .val (.int v3), .val (.int v4), .val (.int v5), .val (.int (3 : Int32)), .val (.int cp), .unset, .unset, .unset, .unset, .unset] [(.ref b90)]))
      refine go (fun _ => XS.dup X94.here hx rfl (hb hby at_198) rfl rfl) ?_
      show Go _ p e below s _ _ _ (T94.setTop (mkF m 199 #[.val (.int p1), .val (.int p2), .val (.int p3), .val (.int p4), .val (.int p5), .val (.int v0), .val (.int v1), .val (.int v2), .val (.int v3), .val (.int v4), .val (.int v5), .val (.int (3 : Int32)), .val (.int cp), .unset, .unset, .unset, .unset, .unset] [(.ref b90), (.ref b90)]))
      refine go (fun _ => XS.iconst X94.here hx rfl (hb hby at_199)) ?_
      show Go _ p e below s _ _ _ (T94.setTop (mkF m 200 #[.val (.int p1), .val (.int p2), .val (.int p3), .val (.int p4), .val (.int p5), .val (.int v0), .val (.int v1), .val (.int v2), .val (.int v3), .val (.int v4), .val (.int v5), .val (.int (3 : Int32)), .val (.int cp), .unset, .unset, .unset, .unset, .unset] [(.int (4 : Int32)), (.ref b90), (.ref b90)]))
      refine go (fun _ => XS.iload X94.here hx rfl (hb hby at_200) rfl) ?_
      show Go _ p e below s _ _ _ (T94.setTop (mkF m 202 #[.val (.int p1), .val (.int p2), .val (.int p3), .val (.int p4), .val (.int p5), .val (.int v0), .val (.int v1), .val (.int v2), .val (.int v3), .val (.int v4), .val (.int v5), .val (.int (3 : Int32)), .val (.int cp), .unset, .unset, .unset, .unset, .unset] [(.int v4), (.int (4 : Int32)), (.ref b90), (.ref b90)]))
      obtain ⟨cl95, Ar95, q95, Sz95, Nz95, Hs95, Gs95⟩ := id VV94
      have hin95 : ¬ ((4 : Int32) < 0 ∨ cl95.slots.size ≤ ((4 : Int32)).toNatClampNeg) := inb_of Sz95 ⟨by decide, by decide⟩
      obtain ⟨T95, h95, X95, e95, W95, st95⟩ := stI X94 hx hZ e94 Ar95 (j := (4 : Int32)) hin95 (g := (mkF m 202 #[.val (.int p1), .val (.int p2), .val (.int p3), .val (.int p4), .val (.int p5), .val (.int v0), .val (.int v1), .val (.int v2), .val (.int v3), .val (.int v4), .val (.int v5), .val (.int (3 : Int32)), .val (.int cp), .unset, .unset, .unset, .unset, .unset] [(.int v4), (.int (4 : Int32)), (.ref b90), (.ref b90)])) rfl rfl (hb hby at_202)
      have V95 := Arv.set Ar95 q95 Sz95 Nz95 Hs95 Gs95 rfl W95 4 rfl (Nat.le_of_ble_eq_true rfl)
      have VV95 : Arv Z h95 b90 k90 .int (6 : Int32) [(.int v0), (.int v1), (.int v2), (.int v3), (.int v4), (.int (0 : Int32))] (.int (0 : Int32)) := V95
      have c95_0 := c94_0.wr W95
      have KK95 : Keep h0 h95 [] := KK94.wr W95 (Or.inr SZ_b90)
      have ZN95 : n0 ≤ h95.size := Nat.le_trans ZN94 (Keep.of_wr W95).1
      have NN95 := Fr.snoc X95 NN94 G_b90
      refine go st95 ?_
      show Go _ p e below s _ _ _ (T95.setTop (mkF m 203 #[.val (.int p1), .val (.int p2), .val (.int p3), .val (.int p4), .val (.int p5), .val (.int v0), .val (.int v1), .val (.int v2), .val (.int v3), .val (.int v4), .val (.int v5), .val (.int (3 : Int32)), .val (.int cp), .unset, .unset, .unset, .unset, .unset] [(.ref b90)]))
      refine go (fun _ => XS.dup X95.here hx rfl (hb hby at_203) rfl rfl) ?_
      show Go _ p e below s _ _ _ (T95.setTop (mkF m 204 #[.val (.int p1), .val (.int p2), .val (.int p3), .val (.int p4), .val (.int p5), .val (.int v0), .val (.int v1), .val (.int v2), .val (.int v3), .val (.int v4), .val (.int v5), .val (.int (3 : Int32)), .val (.int cp), .unset, .unset, .unset, .unset, .unset] [(.ref b90), (.ref b90)]))
      refine go (fun _ => XS.iconst X95.here hx rfl (hb hby at_204)) ?_
      show Go _ p e below s _ _ _ (T95.setTop (mkF m 205 #[.val (.int p1), .val (.int p2), .val (.int p3), .val (.int p4), .val (.int p5), .val (.int v0), .val (.int v1), .val (.int v2), .val (.int v3), .val (.int v4), .val (.int v5), .val (.int (3 : Int32)), .val (.int cp), .unset, .unset, .unset, .unset, .unset] [(.int (5 : Int32)), (.ref b90), (.ref b90)]))
      refine go (fun _ => XS.iload X95.here hx rfl (hb hby at_205) rfl) ?_
      show Go _ p e below s _ _ _ (T95.setTop (mkF m 207 #[.val (.int p1), .val (.int p2), .val (.int p3), .val (.int p4), .val (.int p5), .val (.int v0), .val (.int v1), .val (.int v2), .val (.int v3), .val (.int v4), .val (.int v5), .val (.int (3 : Int32)), .val (.int cp), .unset, .unset, .unset, .unset, .unset] [(.int v5), (.int (5 : Int32)), (.ref b90), (.ref b90)]))
      obtain ⟨cl96, Ar96, q96, Sz96, Nz96, Hs96, Gs96⟩ := id VV95
      have hin96 : ¬ ((5 : Int32) < 0 ∨ cl96.slots.size ≤ ((5 : Int32)).toNatClampNeg) := inb_of Sz96 ⟨by decide, by decide⟩
      obtain ⟨T96, h96, X96, e96, W96, st96⟩ := stI X95 hx hZ e95 Ar96 (j := (5 : Int32)) hin96 (g := (mkF m 207 #[.val (.int p1), .val (.int p2), .val (.int p3), .val (.int p4), .val (.int p5), .val (.int v0), .val (.int v1), .val (.int v2), .val (.int v3), .val (.int v4), .val (.int v5), .val (.int (3 : Int32)), .val (.int cp), .unset, .unset, .unset, .unset, .unset] [(.int v5), (.int (5 : Int32)), (.ref b90), (.ref b90)])) rfl rfl (hb hby at_207)
      have V96 := Arv.set Ar96 q96 Sz96 Nz96 Hs96 Gs96 rfl W96 5 rfl (Nat.le_of_ble_eq_true rfl)
      have VV96 : Arv Z h96 b90 k90 .int (6 : Int32) [(.int v0), (.int v1), (.int v2), (.int v3), (.int v4), (.int v5)] (.int (0 : Int32)) := V96
      have c96_0 := c95_0.wr W96
      have KK96 : Keep h0 h96 [] := KK95.wr W96 (Or.inr SZ_b90)
      have ZN96 : n0 ≤ h96.size := Nat.le_trans ZN95 (Keep.of_wr W96).1
      have NN96 := Fr.snoc X96 NN95 G_b90
      refine go st96 ?_
      show Go _ p e below s _ _ _ (T96.setTop (mkF m 208 #[.val (.int p1), .val (.int p2), .val (.int p3), .val (.int p4), .val (.int p5), .val (.int v0), .val (.int v1), .val (.int v2), .val (.int v3), .val (.int v4), .val (.int v5), .val (.int (3 : Int32)), .val (.int cp), .unset, .unset, .unset, .unset, .unset] [(.ref b90)]))
      refine go (fun _ => XS.astore X96.here hx rfl (hb hby at_208) rfl rfl (l' := #[.val (.int p1), .val (.int p2), .val (.int p3), .val (.int p4), .val (.int p5), .val (.int v0), .val (.int v1), .val (.int v2), .val (.int v3), .val (.int v4), .val (.int v5), .val (.int (3 : Int32)), .val (.int cp), .val (.ref b90), .unset, .unset, .unset, .unset]) rfl) ?_
      show Go _ p e below s _ _ _ (T96.setTop (mkF m 210 #[.val (.int p1), .val (.int p2), .val (.int p3), .val (.int p4), .val (.int p5), .val (.int v0), .val (.int v1), .val (.int v2), .val (.int v3), .val (.int v4), .val (.int v5), .val (.int (3 : Int32)), .val (.int cp), .val (.ref b90), .unset, .unset, .unset, .unset] []))
      have JB0 : ∀ (z0 : Int32), (z0 = own_in v0 cp v1) → Go FrameEnd p e below s room_1.cells room_1.slots (Q0 Z p1 p2 p3 p4 p5 h0 n0) (T96.setTop (mkF m 235 #[.val (.int p1), .val (.int p2), .val (.int p3), .val (.int p4), .val (.int p5), .val (.int v0), .val (.int v1), .val (.int v2), .val (.int v3), .val (.int v4), .val (.int v5), .val (.int (3 : Int32)), .val (.int cp), .val (.ref b90), .unset, .unset, .unset, .unset] [(.int z0)])) := by
        intro z0 hz0
        show Go _ p e below s _ _ _ (T96.setTop (mkF m 235 #[.val (.int p1), .val (.int p2), .val (.int p3), .val (.int p4), .val (.int p5), .val (.int v0), .val (.int v1), .val (.int v2), .val (.int v3), .val (.int v4), .val (.int v5), .val (.int (3 : Int32)), .val (.int cp), .val (.ref b90), .unset, .unset, .unset, .unset] [(.int z0)]))
        refine go (fun _ => XS.istore X96.here hx rfl (hb hby at_235) rfl (l' := #[.val (.int p1), .val (.int p2), .val (.int p3), .val (.int p4), .val (.int p5), .val (.int v0), .val (.int v1), .val (.int v2), .val (.int v3), .val (.int v4), .val (.int v5), .val (.int (3 : Int32)), .val (.int cp), .val (.ref b90), .val (.int z0), .unset, .unset, .unset]) rfl) ?_
        show Go _ p e below s _ _ _ (T96.setTop (mkF m 237 #[.val (.int p1), .val (.int p2), .val (.int p3), .val (.int p4), .val (.int p5), .val (.int v0), .val (.int v1), .val (.int v2), .val (.int v3), .val (.int v4), .val (.int v5), .val (.int (3 : Int32)), .val (.int cp), .val (.ref b90), .val (.int z0), .unset, .unset, .unset] []))
        have JB1 : ∀ (z1 : Int32), (z1 = own_in v2 cp v3) → Go FrameEnd p e below s room_1.cells room_1.slots (Q0 Z p1 p2 p3 p4 p5 h0 n0) (T96.setTop (mkF m 262 #[.val (.int p1), .val (.int p2), .val (.int p3), .val (.int p4), .val (.int p5), .val (.int v0), .val (.int v1), .val (.int v2), .val (.int v3), .val (.int v4), .val (.int v5), .val (.int (3 : Int32)), .val (.int cp), .val (.ref b90), .val (.int z0), .unset, .unset, .unset] [(.int z1)])) := by
          intro z1 hz1
          show Go _ p e below s _ _ _ (T96.setTop (mkF m 262 #[.val (.int p1), .val (.int p2), .val (.int p3), .val (.int p4), .val (.int p5), .val (.int v0), .val (.int v1), .val (.int v2), .val (.int v3), .val (.int v4), .val (.int v5), .val (.int (3 : Int32)), .val (.int cp), .val (.ref b90), .val (.int z0), .unset, .unset, .unset] [(.int z1)]))
          refine go (fun _ => XS.istore X96.here hx rfl (hb hby at_262) rfl (l' := #[.val (.int p1), .val (.int p2), .val (.int p3), .val (.int p4), .val (.int p5), .val (.int v0), .val (.int v1), .val (.int v2), .val (.int v3), .val (.int v4), .val (.int v5), .val (.int (3 : Int32)), .val (.int cp), .val (.ref b90), .val (.int z0), .val (.int z1), .unset, .unset]) rfl) ?_
          show Go _ p e below s _ _ _ (T96.setTop (mkF m 264 #[.val (.int p1), .val (.int p2), .val (.int p3), .val (.int p4), .val (.int p5), .val (.int v0), .val (.int v1), .val (.int v2), .val (.int v3), .val (.int v4), .val (.int v5), .val (.int (3 : Int32)), .val (.int cp), .val (.ref b90), .val (.int z0), .val (.int z1), .unset, .unset] []))
          have JB2 : ∀ (z2 : Int32), (z2 = own_in v4 cp v5) → Go FrameEnd p e below s room_1.cells room_1.slots (Q0 Z p1 p2 p3 p4 p5 h0 n0) (T96.setTop (mkF m 289 #[.val (.int p1), .val (.int p2), .val (.int p3), .val (.int p4), .val (.int p5), .val (.int v0), .val (.int v1), .val (.int v2), .val (.int v3), .val (.int v4), .val (.int v5), .val (.int (3 : Int32)), .val (.int cp), .val (.ref b90), .val (.int z0), .val (.int z1), .unset, .unset] [(.int z2)])) := by
            intro z2 hz2
            show Go _ p e below s _ _ _ (T96.setTop (mkF m 289 #[.val (.int p1), .val (.int p2), .val (.int p3), .val (.int p4), .val (.int p5), .val (.int v0), .val (.int v1), .val (.int v2), .val (.int v3), .val (.int v4), .val (.int v5), .val (.int (3 : Int32)), .val (.int cp), .val (.ref b90), .val (.int z0), .val (.int z1), .unset, .unset] [(.int z2)]))
            refine go (fun _ => XS.istore X96.here hx rfl (hb hby at_289) rfl (l' := #[.val (.int p1), .val (.int p2), .val (.int p3), .val (.int p4), .val (.int p5), .val (.int v0), .val (.int v1), .val (.int v2), .val (.int v3), .val (.int v4), .val (.int v5), .val (.int (3 : Int32)), .val (.int cp), .val (.ref b90), .val (.int z0), .val (.int z1), .val (.int z2), .unset]) rfl) ?_
            show Go _ p e below s _ _ _ (T96.setTop (mkF m 291 #[.val (.int p1), .val (.int p2), .val (.int p3), .val (.int p4), .val (.int p5), .val (.int v0), .val (.int v1), .val (.int v2), .val (.int v3), .val (.int v4), .val (.int v5), .val (.int (3 : Int32)), .val (.int cp), .val (.ref b90), .val (.int z0), .val (.int z1), .val (.int z2), .unset] []))
            have JC : ∀ (zc : Int32), (zc = own_or z0 z1 z2) → Go FrameEnd p e below s room_1.cells room_1.slots (Q0 Z p1 p2 p3 p4 p5 h0 n0) (T96.setTop (mkF m 311 #[.val (.int p1), .val (.int p2), .val (.int p3), .val (.int p4), .val (.int p5), .val (.int v0), .val (.int v1), .val (.int v2), .val (.int v3), .val (.int v4), .val (.int v5), .val (.int (3 : Int32)), .val (.int cp), .val (.ref b90), .val (.int z0), .val (.int z1), .val (.int z2), .unset] [(.int zc)])) := by
              intro zc hzc
              show Go _ p e below s _ _ _ (T96.setTop (mkF m 311 #[.val (.int p1), .val (.int p2), .val (.int p3), .val (.int p4), .val (.int p5), .val (.int v0), .val (.int v1), .val (.int v2), .val (.int v3), .val (.int v4), .val (.int v5), .val (.int (3 : Int32)), .val (.int cp), .val (.ref b90), .val (.int z0), .val (.int z1), .val (.int z2), .unset] [(.int zc)]))
              refine go (fun _ => XS.istore X96.here hx rfl (hb hby at_311) rfl (l' := #[.val (.int p1), .val (.int p2), .val (.int p3), .val (.int p4), .val (.int p5), .val (.int v0), .val (.int v1), .val (.int v2), .val (.int v3), .val (.int v4), .val (.int v5), .val (.int (3 : Int32)), .val (.int cp), .val (.ref b90), .val (.int z0), .val (.int z1), .val (.int z2), .val (.int zc)]) rfl) ?_
              show Go _ p e below s _ _ _ (T96.setTop (mkF m 313 #[.val (.int p1), .val (.int p2), .val (.int p3), .val (.int p4), .val (.int p5), .val (.int v0), .val (.int v1), .val (.int v2), .val (.int v3), .val (.int v4), .val (.int v5), .val (.int (3 : Int32)), .val (.int cp), .val (.ref b90), .val (.int z0), .val (.int z1), .val (.int z2), .val (.int zc)] []))
              refine go (fun _ => XS.aload X96.here hx rfl (hb hby at_313) rfl rfl) ?_
              show Go _ p e below s _ _ _ (T96.setTop (mkF m 315 #[.val (.int p1), .val (.int p2), .val (.int p3), .val (.int p4), .val (.int p5), .val (.int v0), .val (.int v1), .val (.int v2), .val (.int v3), .val (.int v4), .val (.int v5), .val (.int (3 : Int32)), .val (.int cp), .val (.ref b90), .val (.int z0), .val (.int z1), .val (.int z2), .val (.int zc)] [(.ref b90)]))
              refine go (fun _ => XS.iload X96.here hx rfl (hb hby at_315) rfl) ?_
              show Go _ p e below s _ _ _ (T96.setTop (mkF m 317 #[.val (.int p1), .val (.int p2), .val (.int p3), .val (.int p4), .val (.int p5), .val (.int v0), .val (.int v1), .val (.int v2), .val (.int v3), .val (.int v4), .val (.int v5), .val (.int (3 : Int32)), .val (.int cp), .val (.ref b90), .val (.int z0), .val (.int z1), .val (.int z2), .val (.int zc)] [(.int cp), (.ref b90)]))
              obtain ⟨_, _, ⟨T97, L97, k97, n97⟩, -, X97, ⟨Lc97, hQ97, l97, y97, z97⟩, st97⟩ := Jvm.LawKit.callS X96 hx (y := (⟨"com/example/raccordo/raccordo/flow/PatternSyntax", "holds", "([II)Z"⟩ : MethodName)) hown (mvT hZ (hw _ (List.mem_of_getElem? (i := 2) rfl))) (mvT hZ (hw _ (List.mem_of_getElem? (i := 3) rfl))) (mvT hZ (hw _ (List.mem_of_getElem? (i := 4) rfl))) (mvT hZ (hw _ (List.mem_of_getElem? (i := 5) rfl))) (by decide) (backOf (W := 0) (rm1h6 l Z a0 hw [] b90 cp k90 v0 v1 v2 v3 v4 v5 (.int (0 : Int32)) h96 n0 ZN96 VV96) hZ (hw _ (List.mem_of_getElem? (i := 5) rfl)) (hw _ (List.mem_of_getElem? (i := 4) rfl)) (by decide) (by decide)) (g := (mkF m 317 #[.val (.int p1), .val (.int p2), .val (.int p3), .val (.int p4), .val (.int p5), .val (.int v0), .val (.int v1), .val (.int v2), .val (.int v3), .val (.int v4), .val (.int v5), .val (.int (3 : Int32)), .val (.int cp), .val (.ref b90), .val (.int z0), .val (.int z1), .val (.int z2), .val (.int zc)] [(.int cp), (.ref b90)])) rfl (by rw [hml]; rfl) (argsL := [(.ref b90), (.int cp)]) (rest := []) (lenOf pd_0_0 rfl) rfl (by show 2 * 0 + _ ≤ _; exact Nat.le_of_eq rfl) (hb hby at_317) (fun _ _ => ⟨rfl, e96, (by decide : 1 + 0 ≤ _), (by decide : 6 + 0 ≤ _)⟩)
              dsimp only [Pt.U, Pt.locs, Pt.cells, Pt.slots] at X97 l97 y97 z97 st97 hQ97
              subst l97 y97 z97
              obtain ⟨rfl, N97q, e97⟩ := hQ97
              have N97 := Fr.app NN96 N97q
              refine go st97 ?_
              show Go _ p e below s _ _ _ (T97.setTop (mkF m 320 #[.val (.int p1), .val (.int p2), .val (.int p3), .val (.int p4), .val (.int p5), .val (.int v0), .val (.int v1), .val (.int v2), .val (.int v3), .val (.int v4), .val (.int v5), .val (.int (3 : Int32)), .val (.int cp), .val (.ref b90), .val (.int z0), .val (.int z1), .val (.int z2), .val (.int zc)] [(.int (own_h6 v0 v1 v2 v3 v4 v5 cp))]))
              refine go (fun _ => XS.iload X97.here hx rfl (hb hby at_320) rfl) ?_
              show Go _ p e below s _ _ _ (T97.setTop (mkF m 322 #[.val (.int p1), .val (.int p2), .val (.int p3), .val (.int p4), .val (.int p5), .val (.int v0), .val (.int v1), .val (.int v2), .val (.int v3), .val (.int v4), .val (.int v5), .val (.int (3 : Int32)), .val (.int cp), .val (.ref b90), .val (.int z0), .val (.int z1), .val (.int z2), .val (.int zc)] [(.int zc), (.int (own_h6 v0 v1 v2 v3 v4 v5 cp))]))
              refine go (fun _ => XS.icmpNo X97.here hx rfl (hb hby at_322) rfl (teq (by rw [hzc, hz0, hz1, hz2]; exact own_fin6 ho cp)).2) ?_
              show Go _ p e below s _ _ _ (T97.setTop (mkF m 325 #[.val (.int p1), .val (.int p2), .val (.int p3), .val (.int p4), .val (.int p5), .val (.int v0), .val (.int v1), .val (.int v2), .val (.int v3), .val (.int v4), .val (.int v5), .val (.int (3 : Int32)), .val (.int cp), .val (.ref b90), .val (.int z0), .val (.int z1), .val (.int z2), .val (.int zc)] []))
              refine go (fun _ => XS.iconst X97.here hx rfl (hb hby at_325)) ?_
              show Go _ p e below s _ _ _ (T97.setTop (mkF m 326 #[.val (.int p1), .val (.int p2), .val (.int p3), .val (.int p4), .val (.int p5), .val (.int v0), .val (.int v1), .val (.int v2), .val (.int v3), .val (.int v4), .val (.int v5), .val (.int (3 : Int32)), .val (.int cp), .val (.ref b90), .val (.int z0), .val (.int z1), .val (.int z2), .val (.int zc)] [(.int (1 : Int32))]))
              refine go (fun _ => XS.goto X97.here hx rfl (pc0 := 326) (pc' := 330) rfl (hb hby at_326) (by decide) (by decide)) ?_
              show Go _ p e below s _ _ _ (T97.setTop (mkF m 330 #[.val (.int p1), .val (.int p2), .val (.int p3), .val (.int p4), .val (.int p5), .val (.int v0), .val (.int v1), .val (.int v2), .val (.int v3), .val (.int v4), .val (.int v5), .val (.int (3 : Int32)), .val (.int cp), .val (.ref b90), .val (.int z0), .val (.int z1), .val (.int z2), .val (.int zc)] [(.int (1 : Int32))]))
              refine goRet X97 hx Bd.notSynchronized Bd.returns rfl (Or.inl ⟨rfl, Or.inr (Or.inl rfl), _, rfl⟩) (hb hby at_330) (by decide) (by decide) (by rw [e97]; refine ⟨rfl, N97⟩)
            refine go (fun _ => XS.iload X96.here hx rfl (hb hby at_291) rfl) ?_
            show Go _ p e below s _ _ _ (T96.setTop (mkF m 293 #[.val (.int p1), .val (.int p2), .val (.int p3), .val (.int p4), .val (.int p5), .val (.int v0), .val (.int v1), .val (.int v2), .val (.int v3), .val (.int v4), .val (.int v5), .val (.int (3 : Int32)), .val (.int cp), .val (.ref b90), .val (.int z0), .val (.int z1), .val (.int z2), .unset] [(.int z0)]))
            by_cases hc293_98 : z0 = (0 : Int32)
            · refine go (fun _ => XS.ifNo X96.here hx rfl (hb hby at_293) rfl ((if0 _ _).trans (teq hc293_98).2)) ?_
              show Go _ p e below s _ _ _ (T96.setTop (mkF m 296 #[.val (.int p1), .val (.int p2), .val (.int p3), .val (.int p4), .val (.int p5), .val (.int v0), .val (.int v1), .val (.int v2), .val (.int v3), .val (.int v4), .val (.int v5), .val (.int (3 : Int32)), .val (.int cp), .val (.ref b90), .val (.int z0), .val (.int z1), .val (.int z2), .unset] []))
              refine go (fun _ => XS.iload X96.here hx rfl (hb hby at_296) rfl) ?_
              show Go _ p e below s _ _ _ (T96.setTop (mkF m 298 #[.val (.int p1), .val (.int p2), .val (.int p3), .val (.int p4), .val (.int p5), .val (.int v0), .val (.int v1), .val (.int v2), .val (.int v3), .val (.int v4), .val (.int v5), .val (.int (3 : Int32)), .val (.int cp), .val (.ref b90), .val (.int z0), .val (.int z1), .val (.int z2), .unset] [(.int z1)]))
              by_cases hc298_99 : z1 = (0 : Int32)
              · refine go (fun _ => XS.ifNo X96.here hx rfl (hb hby at_298) rfl ((if0 _ _).trans (teq hc298_99).2)) ?_
                show Go _ p e below s _ _ _ (T96.setTop (mkF m 301 #[.val (.int p1), .val (.int p2), .val (.int p3), .val (.int p4), .val (.int p5), .val (.int v0), .val (.int v1), .val (.int v2), .val (.int v3), .val (.int v4), .val (.int v5), .val (.int (3 : Int32)), .val (.int cp), .val (.ref b90), .val (.int z0), .val (.int z1), .val (.int z2), .unset] []))
                refine go (fun _ => XS.iload X96.here hx rfl (hb hby at_301) rfl) ?_
                show Go _ p e below s _ _ _ (T96.setTop (mkF m 303 #[.val (.int p1), .val (.int p2), .val (.int p3), .val (.int p4), .val (.int p5), .val (.int v0), .val (.int v1), .val (.int v2), .val (.int v3), .val (.int v4), .val (.int v5), .val (.int (3 : Int32)), .val (.int cp), .val (.ref b90), .val (.int z0), .val (.int z1), .val (.int z2), .unset] [(.int z2)]))
                by_cases hc303_100 : z2 = (0 : Int32)
                · refine go (fun _ => XS.ifYes X96.here hx rfl (pc0 := 303) (pc' := 310) rfl (hb hby at_303) rfl ((if0 _ _).trans (teq hc303_100).1) (by decide) (by decide)) ?_
                  show Go _ p e below s _ _ _ (T96.setTop (mkF m 310 #[.val (.int p1), .val (.int p2), .val (.int p3), .val (.int p4), .val (.int p5), .val (.int v0), .val (.int v1), .val (.int v2), .val (.int v3), .val (.int v4), .val (.int v5), .val (.int (3 : Int32)), .val (.int cp), .val (.ref b90), .val (.int z0), .val (.int z1), .val (.int z2), .unset] []))
                  refine go (fun _ => XS.iconst X96.here hx rfl (hb hby at_310)) ?_
                  show Go _ p e below s _ _ _ (T96.setTop (mkF m 311 #[.val (.int p1), .val (.int p2), .val (.int p3), .val (.int p4), .val (.int p5), .val (.int v0), .val (.int v1), .val (.int v2), .val (.int v3), .val (.int v4), .val (.int v5), .val (.int (3 : Int32)), .val (.int cp), .val (.ref b90), .val (.int z0), .val (.int z1), .val (.int z2), .unset] [(.int (0 : Int32))]))
                  exact JC _ (by unfold own_or; simp [hc293_98, hc298_99, hc303_100])
                · refine go (fun _ => XS.ifNo X96.here hx rfl (hb hby at_303) rfl ((if0 _ _).trans (feq hc303_100).1)) ?_
                  show Go _ p e below s _ _ _ (T96.setTop (mkF m 306 #[.val (.int p1), .val (.int p2), .val (.int p3), .val (.int p4), .val (.int p5), .val (.int v0), .val (.int v1), .val (.int v2), .val (.int v3), .val (.int v4), .val (.int v5), .val (.int (3 : Int32)), .val (.int cp), .val (.ref b90), .val (.int z0), .val (.int z1), .val (.int z2), .unset] []))
                  refine go (fun _ => XS.iconst X96.here hx rfl (hb hby at_306)) ?_
                  show Go _ p e below s _ _ _ (T96.setTop (mkF m 307 #[.val (.int p1), .val (.int p2), .val (.int p3), .val (.int p4), .val (.int p5), .val (.int v0), .val (.int v1), .val (.int v2), .val (.int v3), .val (.int v4), .val (.int v5), .val (.int (3 : Int32)), .val (.int cp), .val (.ref b90), .val (.int z0), .val (.int z1), .val (.int z2), .unset] [(.int (1 : Int32))]))
                  refine go (fun _ => XS.goto X96.here hx rfl (pc0 := 307) (pc' := 311) rfl (hb hby at_307) (by decide) (by decide)) ?_
                  show Go _ p e below s _ _ _ (T96.setTop (mkF m 311 #[.val (.int p1), .val (.int p2), .val (.int p3), .val (.int p4), .val (.int p5), .val (.int v0), .val (.int v1), .val (.int v2), .val (.int v3), .val (.int v4), .val (.int v5), .val (.int (3 : Int32)), .val (.int cp), .val (.ref b90), .val (.int z0), .val (.int z1), .val (.int z2), .unset] [(.int (1 : Int32))]))
                  exact JC _ (by unfold own_or; simp [hc293_98, hc298_99, hc303_100])
              · refine go (fun _ => XS.ifYes X96.here hx rfl (pc0 := 298) (pc' := 306) rfl (hb hby at_298) rfl ((if0 _ _).trans (feq hc298_99).2) (by decide) (by decide)) ?_
                show Go _ p e below s _ _ _ (T96.setTop (mkF m 306 #[.val (.int p1), .val (.int p2), .val (.int p3), .val (.int p4), .val (.int p5), .val (.int v0), .val (.int v1), .val (.int v2), .val (.int v3), .val (.int v4), .val (.int v5), .val (.int (3 : Int32)), .val (.int cp), .val (.ref b90), .val (.int z0), .val (.int z1), .val (.int z2), .unset] []))
                refine go (fun _ => XS.iconst X96.here hx rfl (hb hby at_306)) ?_
                show Go _ p e below s _ _ _ (T96.setTop (mkF m 307 #[.val (.int p1), .val (.int p2), .val (.int p3), .val (.int p4), .val (.int p5), .val (.int v0), .val (.int v1), .val (.int v2), .val (.int v3), .val (.int v4), .val (.int v5), .val (.int (3 : Int32)), .val (.int cp), .val (.ref b90), .val (.int z0), .val (.int z1), .val (.int z2), .unset] [(.int (1 : Int32))]))
                refine go (fun _ => XS.goto X96.here hx rfl (pc0 := 307) (pc' := 311) rfl (hb hby at_307) (by decide) (by decide)) ?_
                show Go _ p e below s _ _ _ (T96.setTop (mkF m 311 #[.val (.int p1), .val (.int p2), .val (.int p3), .val (.int p4), .val (.int p5), .val (.int v0), .val (.int v1), .val (.int v2), .val (.int v3), .val (.int v4), .val (.int v5), .val (.int (3 : Int32)), .val (.int cp), .val (.ref b90), .val (.int z0), .val (.int z1), .val (.int z2), .unset] [(.int (1 : Int32))]))
                exact JC _ (by unfold own_or; simp [hc293_98, hc298_99])
            · refine go (fun _ => XS.ifYes X96.here hx rfl (pc0 := 293) (pc' := 306) rfl (hb hby at_293) rfl ((if0 _ _).trans (feq hc293_98).2) (by decide) (by decide)) ?_
              show Go _ p e below s _ _ _ (T96.setTop (mkF m 306 #[.val (.int p1), .val (.int p2), .val (.int p3), .val (.int p4), .val (.int p5), .val (.int v0), .val (.int v1), .val (.int v2), .val (.int v3), .val (.int v4), .val (.int v5), .val (.int (3 : Int32)), .val (.int cp), .val (.ref b90), .val (.int z0), .val (.int z1), .val (.int z2), .unset] []))
              refine go (fun _ => XS.iconst X96.here hx rfl (hb hby at_306)) ?_
              show Go _ p e below s _ _ _ (T96.setTop (mkF m 307 #[.val (.int p1), .val (.int p2), .val (.int p3), .val (.int p4), .val (.int p5), .val (.int v0), .val (.int v1), .val (.int v2), .val (.int v3), .val (.int v4), .val (.int v5), .val (.int (3 : Int32)), .val (.int cp), .val (.ref b90), .val (.int z0), .val (.int z1), .val (.int z2), .unset] [(.int (1 : Int32))]))
              refine go (fun _ => XS.goto X96.here hx rfl (pc0 := 307) (pc' := 311) rfl (hb hby at_307) (by decide) (by decide)) ?_
              show Go _ p e below s _ _ _ (T96.setTop (mkF m 311 #[.val (.int p1), .val (.int p2), .val (.int p3), .val (.int p4), .val (.int p5), .val (.int v0), .val (.int v1), .val (.int v2), .val (.int v3), .val (.int v4), .val (.int v5), .val (.int (3 : Int32)), .val (.int cp), .val (.ref b90), .val (.int z0), .val (.int z1), .val (.int z2), .unset] [(.int (1 : Int32))]))
              exact JC _ (by unfold own_or; simp [hc293_98])
          refine go (fun _ => XS.iload X96.here hx rfl (hb hby at_264) rfl) ?_
          show Go _ p e below s _ _ _ (T96.setTop (mkF m 266 #[.val (.int p1), .val (.int p2), .val (.int p3), .val (.int p4), .val (.int p5), .val (.int v0), .val (.int v1), .val (.int v2), .val (.int v3), .val (.int v4), .val (.int v5), .val (.int (3 : Int32)), .val (.int cp), .val (.ref b90), .val (.int z0), .val (.int z1), .unset, .unset] [(.int (3 : Int32))]))
          refine go (fun _ => XS.iconst X96.here hx rfl (hb hby at_266)) ?_
          show Go _ p e below s _ _ _ (T96.setTop (mkF m 267 #[.val (.int p1), .val (.int p2), .val (.int p3), .val (.int p4), .val (.int p5), .val (.int v0), .val (.int v1), .val (.int v2), .val (.int v3), .val (.int v4), .val (.int v5), .val (.int (3 : Int32)), .val (.int cp), .val (.ref b90), .val (.int z0), .val (.int z1), .unset, .unset] [(.int (3 : Int32)), (.int (3 : Int32))]))
          refine go (fun _ => XS.icmpNo X96.here hx rfl (hb hby at_267) rfl (flt (by decide : ¬ ((3 : Int32) < (3 : Int32)))).1) ?_
          show Go _ p e below s _ _ _ (T96.setTop (mkF m 270 #[.val (.int p1), .val (.int p2), .val (.int p3), .val (.int p4), .val (.int p5), .val (.int v0), .val (.int v1), .val (.int v2), .val (.int v3), .val (.int v4), .val (.int v5), .val (.int (3 : Int32)), .val (.int cp), .val (.ref b90), .val (.int z0), .val (.int z1), .unset, .unset] []))
          refine go (fun _ => XS.iload X96.here hx rfl (hb hby at_270) rfl) ?_
          show Go _ p e below s _ _ _ (T96.setTop (mkF m 272 #[.val (.int p1), .val (.int p2), .val (.int p3), .val (.int p4), .val (.int p5), .val (.int v0), .val (.int v1), .val (.int v2), .val (.int v3), .val (.int v4), .val (.int v5), .val (.int (3 : Int32)), .val (.int cp), .val (.ref b90), .val (.int z0), .val (.int z1), .unset, .unset] [(.int v4)]))
          refine go (fun _ => XS.iload X96.here hx rfl (hb hby at_272) rfl) ?_
          show Go _ p e below s _ _ _ (T96.setTop (mkF m 274 #[.val (.int p1), .val (.int p2), .val (.int p3), .val (.int p4), .val (.int p5), .val (.int v0), .val (.int v1), .val (.int v2), .val (.int v3), .val (.int v4), .val (.int v5), .val (.int (3 : Int32)), .val (.int cp), .val (.ref b90), .val (.int z0), .val (.int z1), .unset, .unset] [(.int cp), (.int v4)]))
          by_cases hc274_101 : cp < v4
          · refine go (fun _ => XS.icmpYes X96.here hx rfl (pc0 := 274) (pc' := 288) rfl (hb hby at_274) rfl (tlt hc274_101).2.2.1 (by decide) (by decide)) ?_
            show Go _ p e below s _ _ _ (T96.setTop (mkF m 288 #[.val (.int p1), .val (.int p2), .val (.int p3), .val (.int p4), .val (.int p5), .val (.int v0), .val (.int v1), .val (.int v2), .val (.int v3), .val (.int v4), .val (.int v5), .val (.int (3 : Int32)), .val (.int cp), .val (.ref b90), .val (.int z0), .val (.int z1), .unset, .unset] []))
            refine go (fun _ => XS.iconst X96.here hx rfl (hb hby at_288)) ?_
            show Go _ p e below s _ _ _ (T96.setTop (mkF m 289 #[.val (.int p1), .val (.int p2), .val (.int p3), .val (.int p4), .val (.int p5), .val (.int v0), .val (.int v1), .val (.int v2), .val (.int v3), .val (.int v4), .val (.int v5), .val (.int (3 : Int32)), .val (.int cp), .val (.ref b90), .val (.int z0), .val (.int z1), .unset, .unset] [(.int (0 : Int32))]))
            exact JB2 _ (by unfold own_in; simp only [if_pos hc274_101])
          · refine go (fun _ => XS.icmpNo X96.here hx rfl (hb hby at_274) rfl (flt hc274_101).2.2.1) ?_
            show Go _ p e below s _ _ _ (T96.setTop (mkF m 277 #[.val (.int p1), .val (.int p2), .val (.int p3), .val (.int p4), .val (.int p5), .val (.int v0), .val (.int v1), .val (.int v2), .val (.int v3), .val (.int v4), .val (.int v5), .val (.int (3 : Int32)), .val (.int cp), .val (.ref b90), .val (.int z0), .val (.int z1), .unset, .unset] []))
            refine go (fun _ => XS.iload X96.here hx rfl (hb hby at_277) rfl) ?_
            show Go _ p e below s _ _ _ (T96.setTop (mkF m 279 #[.val (.int p1), .val (.int p2), .val (.int p3), .val (.int p4), .val (.int p5), .val (.int v0), .val (.int v1), .val (.int v2), .val (.int v3), .val (.int v4), .val (.int v5), .val (.int (3 : Int32)), .val (.int cp), .val (.ref b90), .val (.int z0), .val (.int z1), .unset, .unset] [(.int cp)]))
            refine go (fun _ => XS.iload X96.here hx rfl (hb hby at_279) rfl) ?_
            show Go _ p e below s _ _ _ (T96.setTop (mkF m 281 #[.val (.int p1), .val (.int p2), .val (.int p3), .val (.int p4), .val (.int p5), .val (.int v0), .val (.int v1), .val (.int v2), .val (.int v3), .val (.int v4), .val (.int v5), .val (.int (3 : Int32)), .val (.int cp), .val (.ref b90), .val (.int z0), .val (.int z1), .unset, .unset] [(.int v5), (.int cp)]))
            by_cases hc281_102 : v5 < cp
            · refine go (fun _ => XS.icmpYes X96.here hx rfl (pc0 := 281) (pc' := 288) rfl (hb hby at_281) rfl (tlt hc281_102).2.2.1 (by decide) (by decide)) ?_
              show Go _ p e below s _ _ _ (T96.setTop (mkF m 288 #[.val (.int p1), .val (.int p2), .val (.int p3), .val (.int p4), .val (.int p5), .val (.int v0), .val (.int v1), .val (.int v2), .val (.int v3), .val (.int v4), .val (.int v5), .val (.int (3 : Int32)), .val (.int cp), .val (.ref b90), .val (.int z0), .val (.int z1), .unset, .unset] []))
              refine go (fun _ => XS.iconst X96.here hx rfl (hb hby at_288)) ?_
              show Go _ p e below s _ _ _ (T96.setTop (mkF m 289 #[.val (.int p1), .val (.int p2), .val (.int p3), .val (.int p4), .val (.int p5), .val (.int v0), .val (.int v1), .val (.int v2), .val (.int v3), .val (.int v4), .val (.int v5), .val (.int (3 : Int32)), .val (.int cp), .val (.ref b90), .val (.int z0), .val (.int z1), .unset, .unset] [(.int (0 : Int32))]))
              exact JB2 _ (by unfold own_in; simp only [if_neg hc274_101, if_pos hc281_102])
            · refine go (fun _ => XS.icmpNo X96.here hx rfl (hb hby at_281) rfl (flt hc281_102).2.2.1) ?_
              show Go _ p e below s _ _ _ (T96.setTop (mkF m 284 #[.val (.int p1), .val (.int p2), .val (.int p3), .val (.int p4), .val (.int p5), .val (.int v0), .val (.int v1), .val (.int v2), .val (.int v3), .val (.int v4), .val (.int v5), .val (.int (3 : Int32)), .val (.int cp), .val (.ref b90), .val (.int z0), .val (.int z1), .unset, .unset] []))
              refine go (fun _ => XS.iconst X96.here hx rfl (hb hby at_284)) ?_
              show Go _ p e below s _ _ _ (T96.setTop (mkF m 285 #[.val (.int p1), .val (.int p2), .val (.int p3), .val (.int p4), .val (.int p5), .val (.int v0), .val (.int v1), .val (.int v2), .val (.int v3), .val (.int v4), .val (.int v5), .val (.int (3 : Int32)), .val (.int cp), .val (.ref b90), .val (.int z0), .val (.int z1), .unset, .unset] [(.int (1 : Int32))]))
              refine go (fun _ => XS.goto X96.here hx rfl (pc0 := 285) (pc' := 289) rfl (hb hby at_285) (by decide) (by decide)) ?_
              show Go _ p e below s _ _ _ (T96.setTop (mkF m 289 #[.val (.int p1), .val (.int p2), .val (.int p3), .val (.int p4), .val (.int p5), .val (.int v0), .val (.int v1), .val (.int v2), .val (.int v3), .val (.int v4), .val (.int v5), .val (.int (3 : Int32)), .val (.int cp), .val (.ref b90), .val (.int z0), .val (.int z1), .unset, .unset] [(.int (1 : Int32))]))
              exact JB2 _ (by unfold own_in; simp only [if_neg hc274_101, if_neg hc281_102])
        refine go (fun _ => XS.iload X96.here hx rfl (hb hby at_237) rfl) ?_
        show Go _ p e below s _ _ _ (T96.setTop (mkF m 239 #[.val (.int p1), .val (.int p2), .val (.int p3), .val (.int p4), .val (.int p5), .val (.int v0), .val (.int v1), .val (.int v2), .val (.int v3), .val (.int v4), .val (.int v5), .val (.int (3 : Int32)), .val (.int cp), .val (.ref b90), .val (.int z0), .unset, .unset, .unset] [(.int (3 : Int32))]))
        refine go (fun _ => XS.iconst X96.here hx rfl (hb hby at_239)) ?_
        show Go _ p e below s _ _ _ (T96.setTop (mkF m 240 #[.val (.int p1), .val (.int p2), .val (.int p3), .val (.int p4), .val (.int p5), .val (.int v0), .val (.int v1), .val (.int v2), .val (.int v3), .val (.int v4), .val (.int v5), .val (.int (3 : Int32)), .val (.int cp), .val (.ref b90), .val (.int z0), .unset, .unset, .unset] [(.int (2 : Int32)), (.int (3 : Int32))]))
        refine go (fun _ => XS.icmpNo X96.here hx rfl (hb hby at_240) rfl (flt (by decide : ¬ ((3 : Int32) < (2 : Int32)))).1) ?_
        show Go _ p e below s _ _ _ (T96.setTop (mkF m 243 #[.val (.int p1), .val (.int p2), .val (.int p3), .val (.int p4), .val (.int p5), .val (.int v0), .val (.int v1), .val (.int v2), .val (.int v3), .val (.int v4), .val (.int v5), .val (.int (3 : Int32)), .val (.int cp), .val (.ref b90), .val (.int z0), .unset, .unset, .unset] []))
        refine go (fun _ => XS.iload X96.here hx rfl (hb hby at_243) rfl) ?_
        show Go _ p e below s _ _ _ (T96.setTop (mkF m 245 #[.val (.int p1), .val (.int p2), .val (.int p3), .val (.int p4), .val (.int p5), .val (.int v0), .val (.int v1), .val (.int v2), .val (.int v3), .val (.int v4), .val (.int v5), .val (.int (3 : Int32)), .val (.int cp), .val (.ref b90), .val (.int z0), .unset, .unset, .unset] [(.int v2)]))
        refine go (fun _ => XS.iload X96.here hx rfl (hb hby at_245) rfl) ?_
        show Go _ p e below s _ _ _ (T96.setTop (mkF m 247 #[.val (.int p1), .val (.int p2), .val (.int p3), .val (.int p4), .val (.int p5), .val (.int v0), .val (.int v1), .val (.int v2), .val (.int v3), .val (.int v4), .val (.int v5), .val (.int (3 : Int32)), .val (.int cp), .val (.ref b90), .val (.int z0), .unset, .unset, .unset] [(.int cp), (.int v2)]))
        by_cases hc247_103 : cp < v2
        · refine go (fun _ => XS.icmpYes X96.here hx rfl (pc0 := 247) (pc' := 261) rfl (hb hby at_247) rfl (tlt hc247_103).2.2.1 (by decide) (by decide)) ?_
          show Go _ p e below s _ _ _ (T96.setTop (mkF m 261 #[.val (.int p1), .val (.int p2), .val (.int p3), .val (.int p4), .val (.int p5), .val (.int v0), .val (.int v1), .val (.int v2), .val (.int v3), .val (.int v4), .val (.int v5), .val (.int (3 : Int32)), .val (.int cp), .val (.ref b90), .val (.int z0), .unset, .unset, .unset] []))
          refine go (fun _ => XS.iconst X96.here hx rfl (hb hby at_261)) ?_
          show Go _ p e below s _ _ _ (T96.setTop (mkF m 262 #[.val (.int p1), .val (.int p2), .val (.int p3), .val (.int p4), .val (.int p5), .val (.int v0), .val (.int v1), .val (.int v2), .val (.int v3), .val (.int v4), .val (.int v5), .val (.int (3 : Int32)), .val (.int cp), .val (.ref b90), .val (.int z0), .unset, .unset, .unset] [(.int (0 : Int32))]))
          exact JB1 _ (by unfold own_in; simp only [if_pos hc247_103])
        · refine go (fun _ => XS.icmpNo X96.here hx rfl (hb hby at_247) rfl (flt hc247_103).2.2.1) ?_
          show Go _ p e below s _ _ _ (T96.setTop (mkF m 250 #[.val (.int p1), .val (.int p2), .val (.int p3), .val (.int p4), .val (.int p5), .val (.int v0), .val (.int v1), .val (.int v2), .val (.int v3), .val (.int v4), .val (.int v5), .val (.int (3 : Int32)), .val (.int cp), .val (.ref b90), .val (.int z0), .unset, .unset, .unset] []))
          refine go (fun _ => XS.iload X96.here hx rfl (hb hby at_250) rfl) ?_
          show Go _ p e below s _ _ _ (T96.setTop (mkF m 252 #[.val (.int p1), .val (.int p2), .val (.int p3), .val (.int p4), .val (.int p5), .val (.int v0), .val (.int v1), .val (.int v2), .val (.int v3), .val (.int v4), .val (.int v5), .val (.int (3 : Int32)), .val (.int cp), .val (.ref b90), .val (.int z0), .unset, .unset, .unset] [(.int cp)]))
          refine go (fun _ => XS.iload X96.here hx rfl (hb hby at_252) rfl) ?_
          show Go _ p e below s _ _ _ (T96.setTop (mkF m 254 #[.val (.int p1), .val (.int p2), .val (.int p3), .val (.int p4), .val (.int p5), .val (.int v0), .val (.int v1), .val (.int v2), .val (.int v3), .val (.int v4), .val (.int v5), .val (.int (3 : Int32)), .val (.int cp), .val (.ref b90), .val (.int z0), .unset, .unset, .unset] [(.int v3), (.int cp)]))
          by_cases hc254_104 : v3 < cp
          · refine go (fun _ => XS.icmpYes X96.here hx rfl (pc0 := 254) (pc' := 261) rfl (hb hby at_254) rfl (tlt hc254_104).2.2.1 (by decide) (by decide)) ?_
            show Go _ p e below s _ _ _ (T96.setTop (mkF m 261 #[.val (.int p1), .val (.int p2), .val (.int p3), .val (.int p4), .val (.int p5), .val (.int v0), .val (.int v1), .val (.int v2), .val (.int v3), .val (.int v4), .val (.int v5), .val (.int (3 : Int32)), .val (.int cp), .val (.ref b90), .val (.int z0), .unset, .unset, .unset] []))
            refine go (fun _ => XS.iconst X96.here hx rfl (hb hby at_261)) ?_
            show Go _ p e below s _ _ _ (T96.setTop (mkF m 262 #[.val (.int p1), .val (.int p2), .val (.int p3), .val (.int p4), .val (.int p5), .val (.int v0), .val (.int v1), .val (.int v2), .val (.int v3), .val (.int v4), .val (.int v5), .val (.int (3 : Int32)), .val (.int cp), .val (.ref b90), .val (.int z0), .unset, .unset, .unset] [(.int (0 : Int32))]))
            exact JB1 _ (by unfold own_in; simp only [if_neg hc247_103, if_pos hc254_104])
          · refine go (fun _ => XS.icmpNo X96.here hx rfl (hb hby at_254) rfl (flt hc254_104).2.2.1) ?_
            show Go _ p e below s _ _ _ (T96.setTop (mkF m 257 #[.val (.int p1), .val (.int p2), .val (.int p3), .val (.int p4), .val (.int p5), .val (.int v0), .val (.int v1), .val (.int v2), .val (.int v3), .val (.int v4), .val (.int v5), .val (.int (3 : Int32)), .val (.int cp), .val (.ref b90), .val (.int z0), .unset, .unset, .unset] []))
            refine go (fun _ => XS.iconst X96.here hx rfl (hb hby at_257)) ?_
            show Go _ p e below s _ _ _ (T96.setTop (mkF m 258 #[.val (.int p1), .val (.int p2), .val (.int p3), .val (.int p4), .val (.int p5), .val (.int v0), .val (.int v1), .val (.int v2), .val (.int v3), .val (.int v4), .val (.int v5), .val (.int (3 : Int32)), .val (.int cp), .val (.ref b90), .val (.int z0), .unset, .unset, .unset] [(.int (1 : Int32))]))
            refine go (fun _ => XS.goto X96.here hx rfl (pc0 := 258) (pc' := 262) rfl (hb hby at_258) (by decide) (by decide)) ?_
            show Go _ p e below s _ _ _ (T96.setTop (mkF m 262 #[.val (.int p1), .val (.int p2), .val (.int p3), .val (.int p4), .val (.int p5), .val (.int v0), .val (.int v1), .val (.int v2), .val (.int v3), .val (.int v4), .val (.int v5), .val (.int (3 : Int32)), .val (.int cp), .val (.ref b90), .val (.int z0), .unset, .unset, .unset] [(.int (1 : Int32))]))
            exact JB1 _ (by unfold own_in; simp only [if_neg hc247_103, if_neg hc254_104])
      refine go (fun _ => XS.iload X96.here hx rfl (hb hby at_210) rfl) ?_
      show Go _ p e below s _ _ _ (T96.setTop (mkF m 212 #[.val (.int p1), .val (.int p2), .val (.int p3), .val (.int p4), .val (.int p5), .val (.int v0), .val (.int v1), .val (.int v2), .val (.int v3), .val (.int v4), .val (.int v5), .val (.int (3 : Int32)), .val (.int cp), .val (.ref b90), .unset, .unset, .unset, .unset] [(.int (3 : Int32))]))
      refine go (fun _ => XS.iconst X96.here hx rfl (hb hby at_212)) ?_
      show Go _ p e below s _ _ _ (T96.setTop (mkF m 213 #[.val (.int p1), .val (.int p2), .val (.int p3), .val (.int p4), .val (.int p5), .val (.int v0), .val (.int v1), .val (.int v2), .val (.int v3), .val (.int v4), .val (.int v5), .val (.int (3 : Int32)), .val (.int cp), .val (.ref b90), .unset, .unset, .unset, .unset] [(.int (1 : Int32)), (.int (3 : Int32))]))
      refine go (fun _ => XS.icmpNo X96.here hx rfl (hb hby at_213) rfl (flt (by decide : ¬ ((3 : Int32) < (1 : Int32)))).1) ?_
      show Go _ p e below s _ _ _ (T96.setTop (mkF m 216 #[.val (.int p1), .val (.int p2), .val (.int p3), .val (.int p4), .val (.int p5), .val (.int v0), .val (.int v1), .val (.int v2), .val (.int v3), .val (.int v4), .val (.int v5), .val (.int (3 : Int32)), .val (.int cp), .val (.ref b90), .unset, .unset, .unset, .unset] []))
      refine go (fun _ => XS.iload X96.here hx rfl (hb hby at_216) rfl) ?_
      show Go _ p e below s _ _ _ (T96.setTop (mkF m 218 #[.val (.int p1), .val (.int p2), .val (.int p3), .val (.int p4), .val (.int p5), .val (.int v0), .val (.int v1), .val (.int v2), .val (.int v3), .val (.int v4), .val (.int v5), .val (.int (3 : Int32)), .val (.int cp), .val (.ref b90), .unset, .unset, .unset, .unset] [(.int v0)]))
      refine go (fun _ => XS.iload X96.here hx rfl (hb hby at_218) rfl) ?_
      show Go _ p e below s _ _ _ (T96.setTop (mkF m 220 #[.val (.int p1), .val (.int p2), .val (.int p3), .val (.int p4), .val (.int p5), .val (.int v0), .val (.int v1), .val (.int v2), .val (.int v3), .val (.int v4), .val (.int v5), .val (.int (3 : Int32)), .val (.int cp), .val (.ref b90), .unset, .unset, .unset, .unset] [(.int cp), (.int v0)]))
      by_cases hc220_105 : cp < v0
      · refine go (fun _ => XS.icmpYes X96.here hx rfl (pc0 := 220) (pc' := 234) rfl (hb hby at_220) rfl (tlt hc220_105).2.2.1 (by decide) (by decide)) ?_
        show Go _ p e below s _ _ _ (T96.setTop (mkF m 234 #[.val (.int p1), .val (.int p2), .val (.int p3), .val (.int p4), .val (.int p5), .val (.int v0), .val (.int v1), .val (.int v2), .val (.int v3), .val (.int v4), .val (.int v5), .val (.int (3 : Int32)), .val (.int cp), .val (.ref b90), .unset, .unset, .unset, .unset] []))
        refine go (fun _ => XS.iconst X96.here hx rfl (hb hby at_234)) ?_
        show Go _ p e below s _ _ _ (T96.setTop (mkF m 235 #[.val (.int p1), .val (.int p2), .val (.int p3), .val (.int p4), .val (.int p5), .val (.int v0), .val (.int v1), .val (.int v2), .val (.int v3), .val (.int v4), .val (.int v5), .val (.int (3 : Int32)), .val (.int cp), .val (.ref b90), .unset, .unset, .unset, .unset] [(.int (0 : Int32))]))
        exact JB0 _ (by unfold own_in; simp only [if_pos hc220_105])
      · refine go (fun _ => XS.icmpNo X96.here hx rfl (hb hby at_220) rfl (flt hc220_105).2.2.1) ?_
        show Go _ p e below s _ _ _ (T96.setTop (mkF m 223 #[.val (.int p1), .val (.int p2), .val (.int p3), .val (.int p4), .val (.int p5), .val (.int v0), .val (.int v1), .val (.int v2), .val (.int v3), .val (.int v4), .val (.int v5), .val (.int (3 : Int32)), .val (.int cp), .val (.ref b90), .unset, .unset, .unset, .unset] []))
        refine go (fun _ => XS.iload X96.here hx rfl (hb hby at_223) rfl) ?_
        show Go _ p e below s _ _ _ (T96.setTop (mkF m 225 #[.val (.int p1), .val (.int p2), .val (.int p3), .val (.int p4), .val (.int p5), .val (.int v0), .val (.int v1), .val (.int v2), .val (.int v3), .val (.int v4), .val (.int v5), .val (.int (3 : Int32)), .val (.int cp), .val (.ref b90), .unset, .unset, .unset, .unset] [(.int cp)]))
        refine go (fun _ => XS.iload X96.here hx rfl (hb hby at_225) rfl) ?_
        show Go _ p e below s _ _ _ (T96.setTop (mkF m 227 #[.val (.int p1), .val (.int p2), .val (.int p3), .val (.int p4), .val (.int p5), .val (.int v0), .val (.int v1), .val (.int v2), .val (.int v3), .val (.int v4), .val (.int v5), .val (.int (3 : Int32)), .val (.int cp), .val (.ref b90), .unset, .unset, .unset, .unset] [(.int v1), (.int cp)]))
        by_cases hc227_106 : v1 < cp
        · refine go (fun _ => XS.icmpYes X96.here hx rfl (pc0 := 227) (pc' := 234) rfl (hb hby at_227) rfl (tlt hc227_106).2.2.1 (by decide) (by decide)) ?_
          show Go _ p e below s _ _ _ (T96.setTop (mkF m 234 #[.val (.int p1), .val (.int p2), .val (.int p3), .val (.int p4), .val (.int p5), .val (.int v0), .val (.int v1), .val (.int v2), .val (.int v3), .val (.int v4), .val (.int v5), .val (.int (3 : Int32)), .val (.int cp), .val (.ref b90), .unset, .unset, .unset, .unset] []))
          refine go (fun _ => XS.iconst X96.here hx rfl (hb hby at_234)) ?_
          show Go _ p e below s _ _ _ (T96.setTop (mkF m 235 #[.val (.int p1), .val (.int p2), .val (.int p3), .val (.int p4), .val (.int p5), .val (.int v0), .val (.int v1), .val (.int v2), .val (.int v3), .val (.int v4), .val (.int v5), .val (.int (3 : Int32)), .val (.int cp), .val (.ref b90), .unset, .unset, .unset, .unset] [(.int (0 : Int32))]))
          exact JB0 _ (by unfold own_in; simp only [if_neg hc220_105, if_pos hc227_106])
        · refine go (fun _ => XS.icmpNo X96.here hx rfl (hb hby at_227) rfl (flt hc227_106).2.2.1) ?_
          show Go _ p e below s _ _ _ (T96.setTop (mkF m 230 #[.val (.int p1), .val (.int p2), .val (.int p3), .val (.int p4), .val (.int p5), .val (.int v0), .val (.int v1), .val (.int v2), .val (.int v3), .val (.int v4), .val (.int v5), .val (.int (3 : Int32)), .val (.int cp), .val (.ref b90), .unset, .unset, .unset, .unset] []))
          refine go (fun _ => XS.iconst X96.here hx rfl (hb hby at_230)) ?_
          show Go _ p e below s _ _ _ (T96.setTop (mkF m 231 #[.val (.int p1), .val (.int p2), .val (.int p3), .val (.int p4), .val (.int p5), .val (.int v0), .val (.int v1), .val (.int v2), .val (.int v3), .val (.int v4), .val (.int v5), .val (.int (3 : Int32)), .val (.int cp), .val (.ref b90), .unset, .unset, .unset, .unset] [(.int (1 : Int32))]))
          refine go (fun _ => XS.goto X96.here hx rfl (pc0 := 231) (pc' := 235) rfl (hb hby at_231) (by decide) (by decide)) ?_
          show Go _ p e below s _ _ _ (T96.setTop (mkF m 235 #[.val (.int p1), .val (.int p2), .val (.int p3), .val (.int p4), .val (.int p5), .val (.int v0), .val (.int v1), .val (.int v2), .val (.int v3), .val (.int v4), .val (.int v5), .val (.int (3 : Int32)), .val (.int cp), .val (.ref b90), .unset, .unset, .unset, .unset] [(.int (1 : Int32))]))
          exact JB0 _ (by unfold own_in; simp only [if_neg hc220_105, if_neg hc227_106])
  refine go (fun _ => XS.iloadN X0.here hx rfl (hb hby at_0) rfl) ?_
  show Go _ p e below s _ _ _ (s₁.setTop (mkF m 1 #[.val (.int p1), .val (.int p2), .val (.int p3), .val (.int p4), .val (.int p5), .unset, .unset, .unset, .unset, .unset, .unset, .unset, .unset, .unset, .unset, .unset, .unset, .unset] [(.int p1)]))
  refine go (X0.ldcInt hx hown (mvT hZ (hw _ (List.mem_of_getElem? (i := 0) rfl))) (g := (mkF m 1 #[.val (.int p1), .val (.int p2), .val (.int p3), .val (.int p4), .val (.int p5), .unset, .unset, .unset, .unset, .unset, .unset, .unset, .unset, .unset, .unset, .unset, .unset, .unset] [(.int p1)])) rfl (hb hby at_1)) ?_
  show Go _ p e below s _ _ _ (s₁.setTop (mkF m 3 #[.val (.int p1), .val (.int p2), .val (.int p3), .val (.int p4), .val (.int p5), .unset, .unset, .unset, .unset, .unset, .unset, .unset, .unset, .unset, .unset, .unset, .unset, .unset] [(.int (2097151 : Int32)), (.int p1)]))
  refine go (fun _ => XS.iand X0.here hx rfl (hb hby at_3) rfl) ?_
  show Go _ p e below s _ _ _ (s₁.setTop (mkF m 4 #[.val (.int p1), .val (.int p2), .val (.int p3), .val (.int p4), .val (.int p5), .unset, .unset, .unset, .unset, .unset, .unset, .unset, .unset, .unset, .unset, .unset, .unset, .unset] [(.int (p1 &&& (2097151 : Int32)))]))
  refine go (fun _ => XS.istore X0.here hx rfl (hb hby at_4) rfl (l' := #[.val (.int p1), .val (.int p2), .val (.int p3), .val (.int p4), .val (.int p5), .val (.int (p1 &&& (2097151 : Int32))), .unset, .unset, .unset, .unset, .unset, .unset, .unset, .unset, .unset, .unset, .unset, .unset]) rfl) ?_
  show Go _ p e below s _ _ _ (s₁.setTop (mkF m 6 #[.val (.int p1), .val (.int p2), .val (.int p3), .val (.int p4), .val (.int p5), .val (.int (p1 &&& (2097151 : Int32))), .unset, .unset, .unset, .unset, .unset, .unset, .unset, .unset, .unset, .unset, .unset, .unset] []))
  refine go (fun _ => XS.iload X0.here hx rfl (hb hby at_6) rfl) ?_
  show Go _ p e below s _ _ _ (s₁.setTop (mkF m 8 #[.val (.int p1), .val (.int p2), .val (.int p3), .val (.int p4), .val (.int p5), .val (.int (p1 &&& (2097151 : Int32))), .unset, .unset, .unset, .unset, .unset, .unset, .unset, .unset, .unset, .unset, .unset, .unset] [(.int (p1 &&& (2097151 : Int32)))]))
  refine go (fun _ => XS.iloadN X0.here hx rfl (hb hby at_8) rfl) ?_
  show Go _ p e below s _ _ _ (s₁.setTop (mkF m 9 #[.val (.int p1), .val (.int p2), .val (.int p3), .val (.int p4), .val (.int p5), .val (.int (p1 &&& (2097151 : Int32))), .unset, .unset, .unset, .unset, .unset, .unset, .unset, .unset, .unset, .unset, .unset, .unset] [(.int p2), (.int (p1 &&& (2097151 : Int32)))]))
  refine go (fun _ => XS.sipush X0.here hx rfl (hb hby at_9)) ?_
  show Go _ p e below s _ _ _ (s₁.setTop (mkF m 12 #[.val (.int p1), .val (.int p2), .val (.int p3), .val (.int p4), .val (.int p5), .val (.int (p1 &&& (2097151 : Int32))), .unset, .unset, .unset, .unset, .unset, .unset, .unset, .unset, .unset, .unset, .unset, .unset] [(.int (255 : Int32)), (.int p2), (.int (p1 &&& (2097151 : Int32)))]))
  refine go (fun _ => XS.iand X0.here hx rfl (hb hby at_12) rfl) ?_
  show Go _ p e below s _ _ _ (s₁.setTop (mkF m 13 #[.val (.int p1), .val (.int p2), .val (.int p3), .val (.int p4), .val (.int p5), .val (.int (p1 &&& (2097151 : Int32))), .unset, .unset, .unset, .unset, .unset, .unset, .unset, .unset, .unset, .unset, .unset, .unset] [(.int (p2 &&& (255 : Int32))), (.int (p1 &&& (2097151 : Int32)))]))
  refine go (fun _ => XS.iadd X0.here hx rfl (hb hby at_13) rfl) ?_
  show Go _ p e below s _ _ _ (s₁.setTop (mkF m 14 #[.val (.int p1), .val (.int p2), .val (.int p3), .val (.int p4), .val (.int p5), .val (.int (p1 &&& (2097151 : Int32))), .unset, .unset, .unset, .unset, .unset, .unset, .unset, .unset, .unset, .unset, .unset, .unset] [(.int ((p1 &&& (2097151 : Int32)) + (p2 &&& (255 : Int32))))]))
  refine go (fun _ => XS.istore X0.here hx rfl (hb hby at_14) rfl (l' := #[.val (.int p1), .val (.int p2), .val (.int p3), .val (.int p4), .val (.int p5), .val (.int (p1 &&& (2097151 : Int32))), .val (.int ((p1 &&& (2097151 : Int32)) + (p2 &&& (255 : Int32)))), .unset, .unset, .unset, .unset, .unset, .unset, .unset, .unset, .unset, .unset, .unset]) rfl) ?_
  show Go _ p e below s _ _ _ (s₁.setTop (mkF m 16 #[.val (.int p1), .val (.int p2), .val (.int p3), .val (.int p4), .val (.int p5), .val (.int (p1 &&& (2097151 : Int32))), .val (.int ((p1 &&& (2097151 : Int32)) + (p2 &&& (255 : Int32)))), .unset, .unset, .unset, .unset, .unset, .unset, .unset, .unset, .unset, .unset, .unset] []))
  refine go (fun _ => XS.iload X0.here hx rfl (hb hby at_16) rfl) ?_
  show Go _ p e below s _ _ _ (s₁.setTop (mkF m 18 #[.val (.int p1), .val (.int p2), .val (.int p3), .val (.int p4), .val (.int p5), .val (.int (p1 &&& (2097151 : Int32))), .val (.int ((p1 &&& (2097151 : Int32)) + (p2 &&& (255 : Int32)))), .unset, .unset, .unset, .unset, .unset, .unset, .unset, .unset, .unset, .unset, .unset] [(.int ((p1 &&& (2097151 : Int32)) + (p2 &&& (255 : Int32))))]))
  refine go (fun _ => XS.iconst X0.here hx rfl (hb hby at_18)) ?_
  show Go _ p e below s _ _ _ (s₁.setTop (mkF m 19 #[.val (.int p1), .val (.int p2), .val (.int p3), .val (.int p4), .val (.int p5), .val (.int (p1 &&& (2097151 : Int32))), .val (.int ((p1 &&& (2097151 : Int32)) + (p2 &&& (255 : Int32)))), .unset, .unset, .unset, .unset, .unset, .unset, .unset, .unset, .unset, .unset, .unset] [(.int (2 : Int32)), (.int ((p1 &&& (2097151 : Int32)) + (p2 &&& (255 : Int32))))]))
  refine go (fun _ => XS.iadd X0.here hx rfl (hb hby at_19) rfl) ?_
  show Go _ p e below s _ _ _ (s₁.setTop (mkF m 20 #[.val (.int p1), .val (.int p2), .val (.int p3), .val (.int p4), .val (.int p5), .val (.int (p1 &&& (2097151 : Int32))), .val (.int ((p1 &&& (2097151 : Int32)) + (p2 &&& (255 : Int32)))), .unset, .unset, .unset, .unset, .unset, .unset, .unset, .unset, .unset, .unset, .unset] [(.int (((p1 &&& (2097151 : Int32)) + (p2 &&& (255 : Int32))) + (2 : Int32)))]))
  refine go (fun _ => XS.iloadN X0.here hx rfl (hb hby at_20) rfl) ?_
  show Go _ p e below s _ _ _ (s₁.setTop (mkF m 21 #[.val (.int p1), .val (.int p2), .val (.int p3), .val (.int p4), .val (.int p5), .val (.int (p1 &&& (2097151 : Int32))), .val (.int ((p1 &&& (2097151 : Int32)) + (p2 &&& (255 : Int32)))), .unset, .unset, .unset, .unset, .unset, .unset, .unset, .unset, .unset, .unset, .unset] [(.int p2), (.int (((p1 &&& (2097151 : Int32)) + (p2 &&& (255 : Int32))) + (2 : Int32)))]))
  refine go (fun _ => XS.bipush X0.here hx rfl (hb hby at_21)) ?_
  show Go _ p e below s _ _ _ (s₁.setTop (mkF m 23 #[.val (.int p1), .val (.int p2), .val (.int p3), .val (.int p4), .val (.int p5), .val (.int (p1 &&& (2097151 : Int32))), .val (.int ((p1 &&& (2097151 : Int32)) + (p2 &&& (255 : Int32)))), .unset, .unset, .unset, .unset, .unset, .unset, .unset, .unset, .unset, .unset, .unset] [(.int (8 : Int32)), (.int p2), (.int (((p1 &&& (2097151 : Int32)) + (p2 &&& (255 : Int32))) + (2 : Int32)))]))
  refine go (fun _ => XS.iushr X0.here hx rfl (hb hby at_23) rfl) ?_
  show Go _ p e below s _ _ _ (s₁.setTop (mkF m 24 #[.val (.int p1), .val (.int p2), .val (.int p3), .val (.int p4), .val (.int p5), .val (.int (p1 &&& (2097151 : Int32))), .val (.int ((p1 &&& (2097151 : Int32)) + (p2 &&& (255 : Int32)))), .unset, .unset, .unset, .unset, .unset, .unset, .unset, .unset, .unset, .unset, .unset] [(.int ((p2.toUInt32 >>> ((8 : Int32) &&& 31).toUInt32).toInt32)), (.int (((p1 &&& (2097151 : Int32)) + (p2 &&& (255 : Int32))) + (2 : Int32)))]))
  refine go (fun _ => XS.sipush X0.here hx rfl (hb hby at_24)) ?_
  show Go _ p e below s _ _ _ (s₁.setTop (mkF m 27 #[.val (.int p1), .val (.int p2), .val (.int p3), .val (.int p4), .val (.int p5), .val (.int (p1 &&& (2097151 : Int32))), .val (.int ((p1 &&& (2097151 : Int32)) + (p2 &&& (255 : Int32)))), .unset, .unset, .unset, .unset, .unset, .unset, .unset, .unset, .unset, .unset, .unset] [(.int (255 : Int32)), (.int ((p2.toUInt32 >>> ((8 : Int32) &&& 31).toUInt32).toInt32)), (.int (((p1 &&& (2097151 : Int32)) + (p2 &&& (255 : Int32))) + (2 : Int32)))]))
  refine go (fun _ => XS.iand X0.here hx rfl (hb hby at_27) rfl) ?_
  show Go _ p e below s _ _ _ (s₁.setTop (mkF m 28 #[.val (.int p1), .val (.int p2), .val (.int p3), .val (.int p4), .val (.int p5), .val (.int (p1 &&& (2097151 : Int32))), .val (.int ((p1 &&& (2097151 : Int32)) + (p2 &&& (255 : Int32)))), .unset, .unset, .unset, .unset, .unset, .unset, .unset, .unset, .unset, .unset, .unset] [(.int (((p2.toUInt32 >>> ((8 : Int32) &&& 31).toUInt32).toInt32) &&& (255 : Int32))), (.int (((p1 &&& (2097151 : Int32)) + (p2 &&& (255 : Int32))) + (2 : Int32)))]))
  refine go (fun _ => XS.iadd X0.here hx rfl (hb hby at_28) rfl) ?_
  show Go _ p e below s _ _ _ (s₁.setTop (mkF m 29 #[.val (.int p1), .val (.int p2), .val (.int p3), .val (.int p4), .val (.int p5), .val (.int (p1 &&& (2097151 : Int32))), .val (.int ((p1 &&& (2097151 : Int32)) + (p2 &&& (255 : Int32)))), .unset, .unset, .unset, .unset, .unset, .unset, .unset, .unset, .unset, .unset, .unset] [(.int ((((p1 &&& (2097151 : Int32)) + (p2 &&& (255 : Int32))) + (2 : Int32)) + (((p2.toUInt32 >>> ((8 : Int32) &&& 31).toUInt32).toInt32) &&& (255 : Int32))))]))
  refine go (fun _ => XS.istore X0.here hx rfl (hb hby at_29) rfl (l' := #[.val (.int p1), .val (.int p2), .val (.int p3), .val (.int p4), .val (.int p5), .val (.int (p1 &&& (2097151 : Int32))), .val (.int ((p1 &&& (2097151 : Int32)) + (p2 &&& (255 : Int32)))), .val (.int ((((p1 &&& (2097151 : Int32)) + (p2 &&& (255 : Int32))) + (2 : Int32)) + (((p2.toUInt32 >>> ((8 : Int32) &&& 31).toUInt32).toInt32) &&& (255 : Int32)))), .unset, .unset, .unset, .unset, .unset, .unset, .unset, .unset, .unset, .unset]) rfl) ?_
  show Go _ p e below s _ _ _ (s₁.setTop (mkF m 31 #[.val (.int p1), .val (.int p2), .val (.int p3), .val (.int p4), .val (.int p5), .val (.int (p1 &&& (2097151 : Int32))), .val (.int ((p1 &&& (2097151 : Int32)) + (p2 &&& (255 : Int32)))), .val (.int ((((p1 &&& (2097151 : Int32)) + (p2 &&& (255 : Int32))) + (2 : Int32)) + (((p2.toUInt32 >>> ((8 : Int32) &&& 31).toUInt32).toInt32) &&& (255 : Int32)))), .unset, .unset, .unset, .unset, .unset, .unset, .unset, .unset, .unset, .unset] []))
  refine go (fun _ => XS.iload X0.here hx rfl (hb hby at_31) rfl) ?_
  show Go _ p e below s _ _ _ (s₁.setTop (mkF m 33 #[.val (.int p1), .val (.int p2), .val (.int p3), .val (.int p4), .val (.int p5), .val (.int (p1 &&& (2097151 : Int32))), .val (.int ((p1 &&& (2097151 : Int32)) + (p2 &&& (255 : Int32)))), .val (.int ((((p1 &&& (2097151 : Int32)) + (p2 &&& (255 : Int32))) + (2 : Int32)) + (((p2.toUInt32 >>> ((8 : Int32) &&& 31).toUInt32).toInt32) &&& (255 : Int32)))), .unset, .unset, .unset, .unset, .unset, .unset, .unset, .unset, .unset, .unset] [(.int ((((p1 &&& (2097151 : Int32)) + (p2 &&& (255 : Int32))) + (2 : Int32)) + (((p2.toUInt32 >>> ((8 : Int32) &&& 31).toUInt32).toInt32) &&& (255 : Int32))))]))
  refine go (fun _ => XS.iloadN X0.here hx rfl (hb hby at_33) rfl) ?_
  show Go _ p e below s _ _ _ (s₁.setTop (mkF m 34 #[.val (.int p1), .val (.int p2), .val (.int p3), .val (.int p4), .val (.int p5), .val (.int (p1 &&& (2097151 : Int32))), .val (.int ((p1 &&& (2097151 : Int32)) + (p2 &&& (255 : Int32)))), .val (.int ((((p1 &&& (2097151 : Int32)) + (p2 &&& (255 : Int32))) + (2 : Int32)) + (((p2.toUInt32 >>> ((8 : Int32) &&& 31).toUInt32).toInt32) &&& (255 : Int32)))), .unset, .unset, .unset, .unset, .unset, .unset, .unset, .unset, .unset, .unset] [(.int p2), (.int ((((p1 &&& (2097151 : Int32)) + (p2 &&& (255 : Int32))) + (2 : Int32)) + (((p2.toUInt32 >>> ((8 : Int32) &&& 31).toUInt32).toInt32) &&& (255 : Int32))))]))
  refine go (fun _ => XS.bipush X0.here hx rfl (hb hby at_34)) ?_
  show Go _ p e below s _ _ _ (s₁.setTop (mkF m 36 #[.val (.int p1), .val (.int p2), .val (.int p3), .val (.int p4), .val (.int p5), .val (.int (p1 &&& (2097151 : Int32))), .val (.int ((p1 &&& (2097151 : Int32)) + (p2 &&& (255 : Int32)))), .val (.int ((((p1 &&& (2097151 : Int32)) + (p2 &&& (255 : Int32))) + (2 : Int32)) + (((p2.toUInt32 >>> ((8 : Int32) &&& 31).toUInt32).toInt32) &&& (255 : Int32)))), .unset, .unset, .unset, .unset, .unset, .unset, .unset, .unset, .unset, .unset] [(.int (16 : Int32)), (.int p2), (.int ((((p1 &&& (2097151 : Int32)) + (p2 &&& (255 : Int32))) + (2 : Int32)) + (((p2.toUInt32 >>> ((8 : Int32) &&& 31).toUInt32).toInt32) &&& (255 : Int32))))]))
  refine go (fun _ => XS.iushr X0.here hx rfl (hb hby at_36) rfl) ?_
  show Go _ p e below s _ _ _ (s₁.setTop (mkF m 37 #[.val (.int p1), .val (.int p2), .val (.int p3), .val (.int p4), .val (.int p5), .val (.int (p1 &&& (2097151 : Int32))), .val (.int ((p1 &&& (2097151 : Int32)) + (p2 &&& (255 : Int32)))), .val (.int ((((p1 &&& (2097151 : Int32)) + (p2 &&& (255 : Int32))) + (2 : Int32)) + (((p2.toUInt32 >>> ((8 : Int32) &&& 31).toUInt32).toInt32) &&& (255 : Int32)))), .unset, .unset, .unset, .unset, .unset, .unset, .unset, .unset, .unset, .unset] [(.int ((p2.toUInt32 >>> ((16 : Int32) &&& 31).toUInt32).toInt32)), (.int ((((p1 &&& (2097151 : Int32)) + (p2 &&& (255 : Int32))) + (2 : Int32)) + (((p2.toUInt32 >>> ((8 : Int32) &&& 31).toUInt32).toInt32) &&& (255 : Int32))))]))
  refine go (fun _ => XS.sipush X0.here hx rfl (hb hby at_37)) ?_
  show Go _ p e below s _ _ _ (s₁.setTop (mkF m 40 #[.val (.int p1), .val (.int p2), .val (.int p3), .val (.int p4), .val (.int p5), .val (.int (p1 &&& (2097151 : Int32))), .val (.int ((p1 &&& (2097151 : Int32)) + (p2 &&& (255 : Int32)))), .val (.int ((((p1 &&& (2097151 : Int32)) + (p2 &&& (255 : Int32))) + (2 : Int32)) + (((p2.toUInt32 >>> ((8 : Int32) &&& 31).toUInt32).toInt32) &&& (255 : Int32)))), .unset, .unset, .unset, .unset, .unset, .unset, .unset, .unset, .unset, .unset] [(.int (255 : Int32)), (.int ((p2.toUInt32 >>> ((16 : Int32) &&& 31).toUInt32).toInt32)), (.int ((((p1 &&& (2097151 : Int32)) + (p2 &&& (255 : Int32))) + (2 : Int32)) + (((p2.toUInt32 >>> ((8 : Int32) &&& 31).toUInt32).toInt32) &&& (255 : Int32))))]))
  refine go (fun _ => XS.iand X0.here hx rfl (hb hby at_40) rfl) ?_
  show Go _ p e below s _ _ _ (s₁.setTop (mkF m 41 #[.val (.int p1), .val (.int p2), .val (.int p3), .val (.int p4), .val (.int p5), .val (.int (p1 &&& (2097151 : Int32))), .val (.int ((p1 &&& (2097151 : Int32)) + (p2 &&& (255 : Int32)))), .val (.int ((((p1 &&& (2097151 : Int32)) + (p2 &&& (255 : Int32))) + (2 : Int32)) + (((p2.toUInt32 >>> ((8 : Int32) &&& 31).toUInt32).toInt32) &&& (255 : Int32)))), .unset, .unset, .unset, .unset, .unset, .unset, .unset, .unset, .unset, .unset] [(.int (((p2.toUInt32 >>> ((16 : Int32) &&& 31).toUInt32).toInt32) &&& (255 : Int32))), (.int ((((p1 &&& (2097151 : Int32)) + (p2 &&& (255 : Int32))) + (2 : Int32)) + (((p2.toUInt32 >>> ((8 : Int32) &&& 31).toUInt32).toInt32) &&& (255 : Int32))))]))
  refine go (fun _ => XS.iadd X0.here hx rfl (hb hby at_41) rfl) ?_
  show Go _ p e below s _ _ _ (s₁.setTop (mkF m 42 #[.val (.int p1), .val (.int p2), .val (.int p3), .val (.int p4), .val (.int p5), .val (.int (p1 &&& (2097151 : Int32))), .val (.int ((p1 &&& (2097151 : Int32)) + (p2 &&& (255 : Int32)))), .val (.int ((((p1 &&& (2097151 : Int32)) + (p2 &&& (255 : Int32))) + (2 : Int32)) + (((p2.toUInt32 >>> ((8 : Int32) &&& 31).toUInt32).toInt32) &&& (255 : Int32)))), .unset, .unset, .unset, .unset, .unset, .unset, .unset, .unset, .unset, .unset] [(.int (((((p1 &&& (2097151 : Int32)) + (p2 &&& (255 : Int32))) + (2 : Int32)) + (((p2.toUInt32 >>> ((8 : Int32) &&& 31).toUInt32).toInt32) &&& (255 : Int32))) + (((p2.toUInt32 >>> ((16 : Int32) &&& 31).toUInt32).toInt32) &&& (255 : Int32))))]))
  refine go (fun _ => XS.istore X0.here hx rfl (hb hby at_42) rfl (l' := #[.val (.int p1), .val (.int p2), .val (.int p3), .val (.int p4), .val (.int p5), .val (.int (p1 &&& (2097151 : Int32))), .val (.int ((p1 &&& (2097151 : Int32)) + (p2 &&& (255 : Int32)))), .val (.int ((((p1 &&& (2097151 : Int32)) + (p2 &&& (255 : Int32))) + (2 : Int32)) + (((p2.toUInt32 >>> ((8 : Int32) &&& 31).toUInt32).toInt32) &&& (255 : Int32)))), .val (.int (((((p1 &&& (2097151 : Int32)) + (p2 &&& (255 : Int32))) + (2 : Int32)) + (((p2.toUInt32 >>> ((8 : Int32) &&& 31).toUInt32).toInt32) &&& (255 : Int32))) + (((p2.toUInt32 >>> ((16 : Int32) &&& 31).toUInt32).toInt32) &&& (255 : Int32)))), .unset, .unset, .unset, .unset, .unset, .unset, .unset, .unset, .unset]) rfl) ?_
  show Go _ p e below s _ _ _ (s₁.setTop (mkF m 44 #[.val (.int p1), .val (.int p2), .val (.int p3), .val (.int p4), .val (.int p5), .val (.int (p1 &&& (2097151 : Int32))), .val (.int ((p1 &&& (2097151 : Int32)) + (p2 &&& (255 : Int32)))), .val (.int ((((p1 &&& (2097151 : Int32)) + (p2 &&& (255 : Int32))) + (2 : Int32)) + (((p2.toUInt32 >>> ((8 : Int32) &&& 31).toUInt32).toInt32) &&& (255 : Int32)))), .val (.int (((((p1 &&& (2097151 : Int32)) + (p2 &&& (255 : Int32))) + (2 : Int32)) + (((p2.toUInt32 >>> ((8 : Int32) &&& 31).toUInt32).toInt32) &&& (255 : Int32))) + (((p2.toUInt32 >>> ((16 : Int32) &&& 31).toUInt32).toInt32) &&& (255 : Int32)))), .unset, .unset, .unset, .unset, .unset, .unset, .unset, .unset, .unset] []))
  refine go (fun _ => XS.iload X0.here hx rfl (hb hby at_44) rfl) ?_
  show Go _ p e below s _ _ _ (s₁.setTop (mkF m 46 #[.val (.int p1), .val (.int p2), .val (.int p3), .val (.int p4), .val (.int p5), .val (.int (p1 &&& (2097151 : Int32))), .val (.int ((p1 &&& (2097151 : Int32)) + (p2 &&& (255 : Int32)))), .val (.int ((((p1 &&& (2097151 : Int32)) + (p2 &&& (255 : Int32))) + (2 : Int32)) + (((p2.toUInt32 >>> ((8 : Int32) &&& 31).toUInt32).toInt32) &&& (255 : Int32)))), .val (.int (((((p1 &&& (2097151 : Int32)) + (p2 &&& (255 : Int32))) + (2 : Int32)) + (((p2.toUInt32 >>> ((8 : Int32) &&& 31).toUInt32).toInt32) &&& (255 : Int32))) + (((p2.toUInt32 >>> ((16 : Int32) &&& 31).toUInt32).toInt32) &&& (255 : Int32)))), .unset, .unset, .unset, .unset, .unset, .unset, .unset, .unset, .unset] [(.int (((((p1 &&& (2097151 : Int32)) + (p2 &&& (255 : Int32))) + (2 : Int32)) + (((p2.toUInt32 >>> ((8 : Int32) &&& 31).toUInt32).toInt32) &&& (255 : Int32))) + (((p2.toUInt32 >>> ((16 : Int32) &&& 31).toUInt32).toInt32) &&& (255 : Int32))))]))
  refine go (fun _ => XS.iconst X0.here hx rfl (hb hby at_46)) ?_
  show Go _ p e below s _ _ _ (s₁.setTop (mkF m 47 #[.val (.int p1), .val (.int p2), .val (.int p3), .val (.int p4), .val (.int p5), .val (.int (p1 &&& (2097151 : Int32))), .val (.int ((p1 &&& (2097151 : Int32)) + (p2 &&& (255 : Int32)))), .val (.int ((((p1 &&& (2097151 : Int32)) + (p2 &&& (255 : Int32))) + (2 : Int32)) + (((p2.toUInt32 >>> ((8 : Int32) &&& 31).toUInt32).toInt32) &&& (255 : Int32)))), .val (.int (((((p1 &&& (2097151 : Int32)) + (p2 &&& (255 : Int32))) + (2 : Int32)) + (((p2.toUInt32 >>> ((8 : Int32) &&& 31).toUInt32).toInt32) &&& (255 : Int32))) + (((p2.toUInt32 >>> ((16 : Int32) &&& 31).toUInt32).toInt32) &&& (255 : Int32)))), .unset, .unset, .unset, .unset, .unset, .unset, .unset, .unset, .unset] [(.int (2 : Int32)), (.int (((((p1 &&& (2097151 : Int32)) + (p2 &&& (255 : Int32))) + (2 : Int32)) + (((p2.toUInt32 >>> ((8 : Int32) &&& 31).toUInt32).toInt32) &&& (255 : Int32))) + (((p2.toUInt32 >>> ((16 : Int32) &&& 31).toUInt32).toInt32) &&& (255 : Int32))))]))
  refine go (fun _ => XS.iadd X0.here hx rfl (hb hby at_47) rfl) ?_
  show Go _ p e below s _ _ _ (s₁.setTop (mkF m 48 #[.val (.int p1), .val (.int p2), .val (.int p3), .val (.int p4), .val (.int p5), .val (.int (p1 &&& (2097151 : Int32))), .val (.int ((p1 &&& (2097151 : Int32)) + (p2 &&& (255 : Int32)))), .val (.int ((((p1 &&& (2097151 : Int32)) + (p2 &&& (255 : Int32))) + (2 : Int32)) + (((p2.toUInt32 >>> ((8 : Int32) &&& 31).toUInt32).toInt32) &&& (255 : Int32)))), .val (.int (((((p1 &&& (2097151 : Int32)) + (p2 &&& (255 : Int32))) + (2 : Int32)) + (((p2.toUInt32 >>> ((8 : Int32) &&& 31).toUInt32).toInt32) &&& (255 : Int32))) + (((p2.toUInt32 >>> ((16 : Int32) &&& 31).toUInt32).toInt32) &&& (255 : Int32)))), .unset, .unset, .unset, .unset, .unset, .unset, .unset, .unset, .unset] [(.int ((((((p1 &&& (2097151 : Int32)) + (p2 &&& (255 : Int32))) + (2 : Int32)) + (((p2.toUInt32 >>> ((8 : Int32) &&& 31).toUInt32).toInt32) &&& (255 : Int32))) + (((p2.toUInt32 >>> ((16 : Int32) &&& 31).toUInt32).toInt32) &&& (255 : Int32))) + (2 : Int32)))]))
  refine go (fun _ => XS.iloadN X0.here hx rfl (hb hby at_48) rfl) ?_
  show Go _ p e below s _ _ _ (s₁.setTop (mkF m 49 #[.val (.int p1), .val (.int p2), .val (.int p3), .val (.int p4), .val (.int p5), .val (.int (p1 &&& (2097151 : Int32))), .val (.int ((p1 &&& (2097151 : Int32)) + (p2 &&& (255 : Int32)))), .val (.int ((((p1 &&& (2097151 : Int32)) + (p2 &&& (255 : Int32))) + (2 : Int32)) + (((p2.toUInt32 >>> ((8 : Int32) &&& 31).toUInt32).toInt32) &&& (255 : Int32)))), .val (.int (((((p1 &&& (2097151 : Int32)) + (p2 &&& (255 : Int32))) + (2 : Int32)) + (((p2.toUInt32 >>> ((8 : Int32) &&& 31).toUInt32).toInt32) &&& (255 : Int32))) + (((p2.toUInt32 >>> ((16 : Int32) &&& 31).toUInt32).toInt32) &&& (255 : Int32)))), .unset, .unset, .unset, .unset, .unset, .unset, .unset, .unset, .unset] [(.int p2), (.int ((((((p1 &&& (2097151 : Int32)) + (p2 &&& (255 : Int32))) + (2 : Int32)) + (((p2.toUInt32 >>> ((8 : Int32) &&& 31).toUInt32).toInt32) &&& (255 : Int32))) + (((p2.toUInt32 >>> ((16 : Int32) &&& 31).toUInt32).toInt32) &&& (255 : Int32))) + (2 : Int32)))]))
  refine go (fun _ => XS.bipush X0.here hx rfl (hb hby at_49)) ?_
  show Go _ p e below s _ _ _ (s₁.setTop (mkF m 51 #[.val (.int p1), .val (.int p2), .val (.int p3), .val (.int p4), .val (.int p5), .val (.int (p1 &&& (2097151 : Int32))), .val (.int ((p1 &&& (2097151 : Int32)) + (p2 &&& (255 : Int32)))), .val (.int ((((p1 &&& (2097151 : Int32)) + (p2 &&& (255 : Int32))) + (2 : Int32)) + (((p2.toUInt32 >>> ((8 : Int32) &&& 31).toUInt32).toInt32) &&& (255 : Int32)))), .val (.int (((((p1 &&& (2097151 : Int32)) + (p2 &&& (255 : Int32))) + (2 : Int32)) + (((p2.toUInt32 >>> ((8 : Int32) &&& 31).toUInt32).toInt32) &&& (255 : Int32))) + (((p2.toUInt32 >>> ((16 : Int32) &&& 31).toUInt32).toInt32) &&& (255 : Int32)))), .unset, .unset, .unset, .unset, .unset, .unset, .unset, .unset, .unset] [(.int (24 : Int32)), (.int p2), (.int ((((((p1 &&& (2097151 : Int32)) + (p2 &&& (255 : Int32))) + (2 : Int32)) + (((p2.toUInt32 >>> ((8 : Int32) &&& 31).toUInt32).toInt32) &&& (255 : Int32))) + (((p2.toUInt32 >>> ((16 : Int32) &&& 31).toUInt32).toInt32) &&& (255 : Int32))) + (2 : Int32)))]))
  refine go (fun _ => XS.iushr X0.here hx rfl (hb hby at_51) rfl) ?_
  show Go _ p e below s _ _ _ (s₁.setTop (mkF m 52 #[.val (.int p1), .val (.int p2), .val (.int p3), .val (.int p4), .val (.int p5), .val (.int (p1 &&& (2097151 : Int32))), .val (.int ((p1 &&& (2097151 : Int32)) + (p2 &&& (255 : Int32)))), .val (.int ((((p1 &&& (2097151 : Int32)) + (p2 &&& (255 : Int32))) + (2 : Int32)) + (((p2.toUInt32 >>> ((8 : Int32) &&& 31).toUInt32).toInt32) &&& (255 : Int32)))), .val (.int (((((p1 &&& (2097151 : Int32)) + (p2 &&& (255 : Int32))) + (2 : Int32)) + (((p2.toUInt32 >>> ((8 : Int32) &&& 31).toUInt32).toInt32) &&& (255 : Int32))) + (((p2.toUInt32 >>> ((16 : Int32) &&& 31).toUInt32).toInt32) &&& (255 : Int32)))), .unset, .unset, .unset, .unset, .unset, .unset, .unset, .unset, .unset] [(.int ((p2.toUInt32 >>> ((24 : Int32) &&& 31).toUInt32).toInt32)), (.int ((((((p1 &&& (2097151 : Int32)) + (p2 &&& (255 : Int32))) + (2 : Int32)) + (((p2.toUInt32 >>> ((8 : Int32) &&& 31).toUInt32).toInt32) &&& (255 : Int32))) + (((p2.toUInt32 >>> ((16 : Int32) &&& 31).toUInt32).toInt32) &&& (255 : Int32))) + (2 : Int32)))]))
  refine go (fun _ => XS.sipush X0.here hx rfl (hb hby at_52)) ?_
  show Go _ p e below s _ _ _ (s₁.setTop (mkF m 55 #[.val (.int p1), .val (.int p2), .val (.int p3), .val (.int p4), .val (.int p5), .val (.int (p1 &&& (2097151 : Int32))), .val (.int ((p1 &&& (2097151 : Int32)) + (p2 &&& (255 : Int32)))), .val (.int ((((p1 &&& (2097151 : Int32)) + (p2 &&& (255 : Int32))) + (2 : Int32)) + (((p2.toUInt32 >>> ((8 : Int32) &&& 31).toUInt32).toInt32) &&& (255 : Int32)))), .val (.int (((((p1 &&& (2097151 : Int32)) + (p2 &&& (255 : Int32))) + (2 : Int32)) + (((p2.toUInt32 >>> ((8 : Int32) &&& 31).toUInt32).toInt32) &&& (255 : Int32))) + (((p2.toUInt32 >>> ((16 : Int32) &&& 31).toUInt32).toInt32) &&& (255 : Int32)))), .unset, .unset, .unset, .unset, .unset, .unset, .unset, .unset, .unset] [(.int (255 : Int32)), (.int ((p2.toUInt32 >>> ((24 : Int32) &&& 31).toUInt32).toInt32)), (.int ((((((p1 &&& (2097151 : Int32)) + (p2 &&& (255 : Int32))) + (2 : Int32)) + (((p2.toUInt32 >>> ((8 : Int32) &&& 31).toUInt32).toInt32) &&& (255 : Int32))) + (((p2.toUInt32 >>> ((16 : Int32) &&& 31).toUInt32).toInt32) &&& (255 : Int32))) + (2 : Int32)))]))
  refine go (fun _ => XS.iand X0.here hx rfl (hb hby at_55) rfl) ?_
  show Go _ p e below s _ _ _ (s₁.setTop (mkF m 56 #[.val (.int p1), .val (.int p2), .val (.int p3), .val (.int p4), .val (.int p5), .val (.int (p1 &&& (2097151 : Int32))), .val (.int ((p1 &&& (2097151 : Int32)) + (p2 &&& (255 : Int32)))), .val (.int ((((p1 &&& (2097151 : Int32)) + (p2 &&& (255 : Int32))) + (2 : Int32)) + (((p2.toUInt32 >>> ((8 : Int32) &&& 31).toUInt32).toInt32) &&& (255 : Int32)))), .val (.int (((((p1 &&& (2097151 : Int32)) + (p2 &&& (255 : Int32))) + (2 : Int32)) + (((p2.toUInt32 >>> ((8 : Int32) &&& 31).toUInt32).toInt32) &&& (255 : Int32))) + (((p2.toUInt32 >>> ((16 : Int32) &&& 31).toUInt32).toInt32) &&& (255 : Int32)))), .unset, .unset, .unset, .unset, .unset, .unset, .unset, .unset, .unset] [(.int (((p2.toUInt32 >>> ((24 : Int32) &&& 31).toUInt32).toInt32) &&& (255 : Int32))), (.int ((((((p1 &&& (2097151 : Int32)) + (p2 &&& (255 : Int32))) + (2 : Int32)) + (((p2.toUInt32 >>> ((8 : Int32) &&& 31).toUInt32).toInt32) &&& (255 : Int32))) + (((p2.toUInt32 >>> ((16 : Int32) &&& 31).toUInt32).toInt32) &&& (255 : Int32))) + (2 : Int32)))]))
  refine go (fun _ => XS.iadd X0.here hx rfl (hb hby at_56) rfl) ?_
  show Go _ p e below s _ _ _ (s₁.setTop (mkF m 57 #[.val (.int p1), .val (.int p2), .val (.int p3), .val (.int p4), .val (.int p5), .val (.int (p1 &&& (2097151 : Int32))), .val (.int ((p1 &&& (2097151 : Int32)) + (p2 &&& (255 : Int32)))), .val (.int ((((p1 &&& (2097151 : Int32)) + (p2 &&& (255 : Int32))) + (2 : Int32)) + (((p2.toUInt32 >>> ((8 : Int32) &&& 31).toUInt32).toInt32) &&& (255 : Int32)))), .val (.int (((((p1 &&& (2097151 : Int32)) + (p2 &&& (255 : Int32))) + (2 : Int32)) + (((p2.toUInt32 >>> ((8 : Int32) &&& 31).toUInt32).toInt32) &&& (255 : Int32))) + (((p2.toUInt32 >>> ((16 : Int32) &&& 31).toUInt32).toInt32) &&& (255 : Int32)))), .unset, .unset, .unset, .unset, .unset, .unset, .unset, .unset, .unset] [(.int (((((((p1 &&& (2097151 : Int32)) + (p2 &&& (255 : Int32))) + (2 : Int32)) + (((p2.toUInt32 >>> ((8 : Int32) &&& 31).toUInt32).toInt32) &&& (255 : Int32))) + (((p2.toUInt32 >>> ((16 : Int32) &&& 31).toUInt32).toInt32) &&& (255 : Int32))) + (2 : Int32)) + (((p2.toUInt32 >>> ((24 : Int32) &&& 31).toUInt32).toInt32) &&& (255 : Int32))))]))
  refine go (fun _ => XS.istore X0.here hx rfl (hb hby at_57) rfl (l' := #[.val (.int p1), .val (.int p2), .val (.int p3), .val (.int p4), .val (.int p5), .val (.int (p1 &&& (2097151 : Int32))), .val (.int ((p1 &&& (2097151 : Int32)) + (p2 &&& (255 : Int32)))), .val (.int ((((p1 &&& (2097151 : Int32)) + (p2 &&& (255 : Int32))) + (2 : Int32)) + (((p2.toUInt32 >>> ((8 : Int32) &&& 31).toUInt32).toInt32) &&& (255 : Int32)))), .val (.int (((((p1 &&& (2097151 : Int32)) + (p2 &&& (255 : Int32))) + (2 : Int32)) + (((p2.toUInt32 >>> ((8 : Int32) &&& 31).toUInt32).toInt32) &&& (255 : Int32))) + (((p2.toUInt32 >>> ((16 : Int32) &&& 31).toUInt32).toInt32) &&& (255 : Int32)))), .val (.int (((((((p1 &&& (2097151 : Int32)) + (p2 &&& (255 : Int32))) + (2 : Int32)) + (((p2.toUInt32 >>> ((8 : Int32) &&& 31).toUInt32).toInt32) &&& (255 : Int32))) + (((p2.toUInt32 >>> ((16 : Int32) &&& 31).toUInt32).toInt32) &&& (255 : Int32))) + (2 : Int32)) + (((p2.toUInt32 >>> ((24 : Int32) &&& 31).toUInt32).toInt32) &&& (255 : Int32)))), .unset, .unset, .unset, .unset, .unset, .unset, .unset, .unset]) rfl) ?_
  show Go _ p e below s _ _ _ (s₁.setTop (mkF m 59 #[.val (.int p1), .val (.int p2), .val (.int p3), .val (.int p4), .val (.int p5), .val (.int (p1 &&& (2097151 : Int32))), .val (.int ((p1 &&& (2097151 : Int32)) + (p2 &&& (255 : Int32)))), .val (.int ((((p1 &&& (2097151 : Int32)) + (p2 &&& (255 : Int32))) + (2 : Int32)) + (((p2.toUInt32 >>> ((8 : Int32) &&& 31).toUInt32).toInt32) &&& (255 : Int32)))), .val (.int (((((p1 &&& (2097151 : Int32)) + (p2 &&& (255 : Int32))) + (2 : Int32)) + (((p2.toUInt32 >>> ((8 : Int32) &&& 31).toUInt32).toInt32) &&& (255 : Int32))) + (((p2.toUInt32 >>> ((16 : Int32) &&& 31).toUInt32).toInt32) &&& (255 : Int32)))), .val (.int (((((((p1 &&& (2097151 : Int32)) + (p2 &&& (255 : Int32))) + (2 : Int32)) + (((p2.toUInt32 >>> ((8 : Int32) &&& 31).toUInt32).toInt32) &&& (255 : Int32))) + (((p2.toUInt32 >>> ((16 : Int32) &&& 31).toUInt32).toInt32) &&& (255 : Int32))) + (2 : Int32)) + (((p2.toUInt32 >>> ((24 : Int32) &&& 31).toUInt32).toInt32) &&& (255 : Int32)))), .unset, .unset, .unset, .unset, .unset, .unset, .unset, .unset] []))
  refine go (fun _ => XS.iload X0.here hx rfl (hb hby at_59) rfl) ?_
  show Go _ p e below s _ _ _ (s₁.setTop (mkF m 61 #[.val (.int p1), .val (.int p2), .val (.int p3), .val (.int p4), .val (.int p5), .val (.int (p1 &&& (2097151 : Int32))), .val (.int ((p1 &&& (2097151 : Int32)) + (p2 &&& (255 : Int32)))), .val (.int ((((p1 &&& (2097151 : Int32)) + (p2 &&& (255 : Int32))) + (2 : Int32)) + (((p2.toUInt32 >>> ((8 : Int32) &&& 31).toUInt32).toInt32) &&& (255 : Int32)))), .val (.int (((((p1 &&& (2097151 : Int32)) + (p2 &&& (255 : Int32))) + (2 : Int32)) + (((p2.toUInt32 >>> ((8 : Int32) &&& 31).toUInt32).toInt32) &&& (255 : Int32))) + (((p2.toUInt32 >>> ((16 : Int32) &&& 31).toUInt32).toInt32) &&& (255 : Int32)))), .val (.int (((((((p1 &&& (2097151 : Int32)) + (p2 &&& (255 : Int32))) + (2 : Int32)) + (((p2.toUInt32 >>> ((8 : Int32) &&& 31).toUInt32).toInt32) &&& (255 : Int32))) + (((p2.toUInt32 >>> ((16 : Int32) &&& 31).toUInt32).toInt32) &&& (255 : Int32))) + (2 : Int32)) + (((p2.toUInt32 >>> ((24 : Int32) &&& 31).toUInt32).toInt32) &&& (255 : Int32)))), .unset, .unset, .unset, .unset, .unset, .unset, .unset, .unset] [(.int (((((((p1 &&& (2097151 : Int32)) + (p2 &&& (255 : Int32))) + (2 : Int32)) + (((p2.toUInt32 >>> ((8 : Int32) &&& 31).toUInt32).toInt32) &&& (255 : Int32))) + (((p2.toUInt32 >>> ((16 : Int32) &&& 31).toUInt32).toInt32) &&& (255 : Int32))) + (2 : Int32)) + (((p2.toUInt32 >>> ((24 : Int32) &&& 31).toUInt32).toInt32) &&& (255 : Int32))))]))
  refine go (fun _ => XS.iloadN X0.here hx rfl (hb hby at_61) rfl) ?_
  show Go _ p e below s _ _ _ (s₁.setTop (mkF m 62 #[.val (.int p1), .val (.int p2), .val (.int p3), .val (.int p4), .val (.int p5), .val (.int (p1 &&& (2097151 : Int32))), .val (.int ((p1 &&& (2097151 : Int32)) + (p2 &&& (255 : Int32)))), .val (.int ((((p1 &&& (2097151 : Int32)) + (p2 &&& (255 : Int32))) + (2 : Int32)) + (((p2.toUInt32 >>> ((8 : Int32) &&& 31).toUInt32).toInt32) &&& (255 : Int32)))), .val (.int (((((p1 &&& (2097151 : Int32)) + (p2 &&& (255 : Int32))) + (2 : Int32)) + (((p2.toUInt32 >>> ((8 : Int32) &&& 31).toUInt32).toInt32) &&& (255 : Int32))) + (((p2.toUInt32 >>> ((16 : Int32) &&& 31).toUInt32).toInt32) &&& (255 : Int32)))), .val (.int (((((((p1 &&& (2097151 : Int32)) + (p2 &&& (255 : Int32))) + (2 : Int32)) + (((p2.toUInt32 >>> ((8 : Int32) &&& 31).toUInt32).toInt32) &&& (255 : Int32))) + (((p2.toUInt32 >>> ((16 : Int32) &&& 31).toUInt32).toInt32) &&& (255 : Int32))) + (2 : Int32)) + (((p2.toUInt32 >>> ((24 : Int32) &&& 31).toUInt32).toInt32) &&& (255 : Int32)))), .unset, .unset, .unset, .unset, .unset, .unset, .unset, .unset] [(.int p3), (.int (((((((p1 &&& (2097151 : Int32)) + (p2 &&& (255 : Int32))) + (2 : Int32)) + (((p2.toUInt32 >>> ((8 : Int32) &&& 31).toUInt32).toInt32) &&& (255 : Int32))) + (((p2.toUInt32 >>> ((16 : Int32) &&& 31).toUInt32).toInt32) &&& (255 : Int32))) + (2 : Int32)) + (((p2.toUInt32 >>> ((24 : Int32) &&& 31).toUInt32).toInt32) &&& (255 : Int32))))]))
  refine go (fun _ => XS.sipush X0.here hx rfl (hb hby at_62)) ?_
  show Go _ p e below s _ _ _ (s₁.setTop (mkF m 65 #[.val (.int p1), .val (.int p2), .val (.int p3), .val (.int p4), .val (.int p5), .val (.int (p1 &&& (2097151 : Int32))), .val (.int ((p1 &&& (2097151 : Int32)) + (p2 &&& (255 : Int32)))), .val (.int ((((p1 &&& (2097151 : Int32)) + (p2 &&& (255 : Int32))) + (2 : Int32)) + (((p2.toUInt32 >>> ((8 : Int32) &&& 31).toUInt32).toInt32) &&& (255 : Int32)))), .val (.int (((((p1 &&& (2097151 : Int32)) + (p2 &&& (255 : Int32))) + (2 : Int32)) + (((p2.toUInt32 >>> ((8 : Int32) &&& 31).toUInt32).toInt32) &&& (255 : Int32))) + (((p2.toUInt32 >>> ((16 : Int32) &&& 31).toUInt32).toInt32) &&& (255 : Int32)))), .val (.int (((((((p1 &&& (2097151 : Int32)) + (p2 &&& (255 : Int32))) + (2 : Int32)) + (((p2.toUInt32 >>> ((8 : Int32) &&& 31).toUInt32).toInt32) &&& (255 : Int32))) + (((p2.toUInt32 >>> ((16 : Int32) &&& 31).toUInt32).toInt32) &&& (255 : Int32))) + (2 : Int32)) + (((p2.toUInt32 >>> ((24 : Int32) &&& 31).toUInt32).toInt32) &&& (255 : Int32)))), .unset, .unset, .unset, .unset, .unset, .unset, .unset, .unset] [(.int (255 : Int32)), (.int p3), (.int (((((((p1 &&& (2097151 : Int32)) + (p2 &&& (255 : Int32))) + (2 : Int32)) + (((p2.toUInt32 >>> ((8 : Int32) &&& 31).toUInt32).toInt32) &&& (255 : Int32))) + (((p2.toUInt32 >>> ((16 : Int32) &&& 31).toUInt32).toInt32) &&& (255 : Int32))) + (2 : Int32)) + (((p2.toUInt32 >>> ((24 : Int32) &&& 31).toUInt32).toInt32) &&& (255 : Int32))))]))
  refine go (fun _ => XS.iand X0.here hx rfl (hb hby at_65) rfl) ?_
  show Go _ p e below s _ _ _ (s₁.setTop (mkF m 66 #[.val (.int p1), .val (.int p2), .val (.int p3), .val (.int p4), .val (.int p5), .val (.int (p1 &&& (2097151 : Int32))), .val (.int ((p1 &&& (2097151 : Int32)) + (p2 &&& (255 : Int32)))), .val (.int ((((p1 &&& (2097151 : Int32)) + (p2 &&& (255 : Int32))) + (2 : Int32)) + (((p2.toUInt32 >>> ((8 : Int32) &&& 31).toUInt32).toInt32) &&& (255 : Int32)))), .val (.int (((((p1 &&& (2097151 : Int32)) + (p2 &&& (255 : Int32))) + (2 : Int32)) + (((p2.toUInt32 >>> ((8 : Int32) &&& 31).toUInt32).toInt32) &&& (255 : Int32))) + (((p2.toUInt32 >>> ((16 : Int32) &&& 31).toUInt32).toInt32) &&& (255 : Int32)))), .val (.int (((((((p1 &&& (2097151 : Int32)) + (p2 &&& (255 : Int32))) + (2 : Int32)) + (((p2.toUInt32 >>> ((8 : Int32) &&& 31).toUInt32).toInt32) &&& (255 : Int32))) + (((p2.toUInt32 >>> ((16 : Int32) &&& 31).toUInt32).toInt32) &&& (255 : Int32))) + (2 : Int32)) + (((p2.toUInt32 >>> ((24 : Int32) &&& 31).toUInt32).toInt32) &&& (255 : Int32)))), .unset, .unset, .unset, .unset, .unset, .unset, .unset, .unset] [(.int (p3 &&& (255 : Int32))), (.int (((((((p1 &&& (2097151 : Int32)) + (p2 &&& (255 : Int32))) + (2 : Int32)) + (((p2.toUInt32 >>> ((8 : Int32) &&& 31).toUInt32).toInt32) &&& (255 : Int32))) + (((p2.toUInt32 >>> ((16 : Int32) &&& 31).toUInt32).toInt32) &&& (255 : Int32))) + (2 : Int32)) + (((p2.toUInt32 >>> ((24 : Int32) &&& 31).toUInt32).toInt32) &&& (255 : Int32))))]))
  refine go (fun _ => XS.iadd X0.here hx rfl (hb hby at_66) rfl) ?_
  show Go _ p e below s _ _ _ (s₁.setTop (mkF m 67 #[.val (.int p1), .val (.int p2), .val (.int p3), .val (.int p4), .val (.int p5), .val (.int (p1 &&& (2097151 : Int32))), .val (.int ((p1 &&& (2097151 : Int32)) + (p2 &&& (255 : Int32)))), .val (.int ((((p1 &&& (2097151 : Int32)) + (p2 &&& (255 : Int32))) + (2 : Int32)) + (((p2.toUInt32 >>> ((8 : Int32) &&& 31).toUInt32).toInt32) &&& (255 : Int32)))), .val (.int (((((p1 &&& (2097151 : Int32)) + (p2 &&& (255 : Int32))) + (2 : Int32)) + (((p2.toUInt32 >>> ((8 : Int32) &&& 31).toUInt32).toInt32) &&& (255 : Int32))) + (((p2.toUInt32 >>> ((16 : Int32) &&& 31).toUInt32).toInt32) &&& (255 : Int32)))), .val (.int (((((((p1 &&& (2097151 : Int32)) + (p2 &&& (255 : Int32))) + (2 : Int32)) + (((p2.toUInt32 >>> ((8 : Int32) &&& 31).toUInt32).toInt32) &&& (255 : Int32))) + (((p2.toUInt32 >>> ((16 : Int32) &&& 31).toUInt32).toInt32) &&& (255 : Int32))) + (2 : Int32)) + (((p2.toUInt32 >>> ((24 : Int32) &&& 31).toUInt32).toInt32) &&& (255 : Int32)))), .unset, .unset, .unset, .unset, .unset, .unset, .unset, .unset] [(.int ((((((((p1 &&& (2097151 : Int32)) + (p2 &&& (255 : Int32))) + (2 : Int32)) + (((p2.toUInt32 >>> ((8 : Int32) &&& 31).toUInt32).toInt32) &&& (255 : Int32))) + (((p2.toUInt32 >>> ((16 : Int32) &&& 31).toUInt32).toInt32) &&& (255 : Int32))) + (2 : Int32)) + (((p2.toUInt32 >>> ((24 : Int32) &&& 31).toUInt32).toInt32) &&& (255 : Int32))) + (p3 &&& (255 : Int32))))]))
  refine go (fun _ => XS.istore X0.here hx rfl (hb hby at_67) rfl (l' := #[.val (.int p1), .val (.int p2), .val (.int p3), .val (.int p4), .val (.int p5), .val (.int (p1 &&& (2097151 : Int32))), .val (.int ((p1 &&& (2097151 : Int32)) + (p2 &&& (255 : Int32)))), .val (.int ((((p1 &&& (2097151 : Int32)) + (p2 &&& (255 : Int32))) + (2 : Int32)) + (((p2.toUInt32 >>> ((8 : Int32) &&& 31).toUInt32).toInt32) &&& (255 : Int32)))), .val (.int (((((p1 &&& (2097151 : Int32)) + (p2 &&& (255 : Int32))) + (2 : Int32)) + (((p2.toUInt32 >>> ((8 : Int32) &&& 31).toUInt32).toInt32) &&& (255 : Int32))) + (((p2.toUInt32 >>> ((16 : Int32) &&& 31).toUInt32).toInt32) &&& (255 : Int32)))), .val (.int (((((((p1 &&& (2097151 : Int32)) + (p2 &&& (255 : Int32))) + (2 : Int32)) + (((p2.toUInt32 >>> ((8 : Int32) &&& 31).toUInt32).toInt32) &&& (255 : Int32))) + (((p2.toUInt32 >>> ((16 : Int32) &&& 31).toUInt32).toInt32) &&& (255 : Int32))) + (2 : Int32)) + (((p2.toUInt32 >>> ((24 : Int32) &&& 31).toUInt32).toInt32) &&& (255 : Int32)))), .val (.int ((((((((p1 &&& (2097151 : Int32)) + (p2 &&& (255 : Int32))) + (2 : Int32)) + (((p2.toUInt32 >>> ((8 : Int32) &&& 31).toUInt32).toInt32) &&& (255 : Int32))) + (((p2.toUInt32 >>> ((16 : Int32) &&& 31).toUInt32).toInt32) &&& (255 : Int32))) + (2 : Int32)) + (((p2.toUInt32 >>> ((24 : Int32) &&& 31).toUInt32).toInt32) &&& (255 : Int32))) + (p3 &&& (255 : Int32)))), .unset, .unset, .unset, .unset, .unset, .unset, .unset]) rfl) ?_
  show Go _ p e below s _ _ _ (s₁.setTop (mkF m 69 #[.val (.int p1), .val (.int p2), .val (.int p3), .val (.int p4), .val (.int p5), .val (.int (p1 &&& (2097151 : Int32))), .val (.int ((p1 &&& (2097151 : Int32)) + (p2 &&& (255 : Int32)))), .val (.int ((((p1 &&& (2097151 : Int32)) + (p2 &&& (255 : Int32))) + (2 : Int32)) + (((p2.toUInt32 >>> ((8 : Int32) &&& 31).toUInt32).toInt32) &&& (255 : Int32)))), .val (.int (((((p1 &&& (2097151 : Int32)) + (p2 &&& (255 : Int32))) + (2 : Int32)) + (((p2.toUInt32 >>> ((8 : Int32) &&& 31).toUInt32).toInt32) &&& (255 : Int32))) + (((p2.toUInt32 >>> ((16 : Int32) &&& 31).toUInt32).toInt32) &&& (255 : Int32)))), .val (.int (((((((p1 &&& (2097151 : Int32)) + (p2 &&& (255 : Int32))) + (2 : Int32)) + (((p2.toUInt32 >>> ((8 : Int32) &&& 31).toUInt32).toInt32) &&& (255 : Int32))) + (((p2.toUInt32 >>> ((16 : Int32) &&& 31).toUInt32).toInt32) &&& (255 : Int32))) + (2 : Int32)) + (((p2.toUInt32 >>> ((24 : Int32) &&& 31).toUInt32).toInt32) &&& (255 : Int32)))), .val (.int ((((((((p1 &&& (2097151 : Int32)) + (p2 &&& (255 : Int32))) + (2 : Int32)) + (((p2.toUInt32 >>> ((8 : Int32) &&& 31).toUInt32).toInt32) &&& (255 : Int32))) + (((p2.toUInt32 >>> ((16 : Int32) &&& 31).toUInt32).toInt32) &&& (255 : Int32))) + (2 : Int32)) + (((p2.toUInt32 >>> ((24 : Int32) &&& 31).toUInt32).toInt32) &&& (255 : Int32))) + (p3 &&& (255 : Int32)))), .unset, .unset, .unset, .unset, .unset, .unset, .unset] []))
  refine go (fun _ => XS.iloadN X0.here hx rfl (hb hby at_69) rfl) ?_
  show Go _ p e below s _ _ _ (s₁.setTop (mkF m 70 #[.val (.int p1), .val (.int p2), .val (.int p3), .val (.int p4), .val (.int p5), .val (.int (p1 &&& (2097151 : Int32))), .val (.int ((p1 &&& (2097151 : Int32)) + (p2 &&& (255 : Int32)))), .val (.int ((((p1 &&& (2097151 : Int32)) + (p2 &&& (255 : Int32))) + (2 : Int32)) + (((p2.toUInt32 >>> ((8 : Int32) &&& 31).toUInt32).toInt32) &&& (255 : Int32)))), .val (.int (((((p1 &&& (2097151 : Int32)) + (p2 &&& (255 : Int32))) + (2 : Int32)) + (((p2.toUInt32 >>> ((8 : Int32) &&& 31).toUInt32).toInt32) &&& (255 : Int32))) + (((p2.toUInt32 >>> ((16 : Int32) &&& 31).toUInt32).toInt32) &&& (255 : Int32)))), .val (.int (((((((p1 &&& (2097151 : Int32)) + (p2 &&& (255 : Int32))) + (2 : Int32)) + (((p2.toUInt32 >>> ((8 : Int32) &&& 31).toUInt32).toInt32) &&& (255 : Int32))) + (((p2.toUInt32 >>> ((16 : Int32) &&& 31).toUInt32).toInt32) &&& (255 : Int32))) + (2 : Int32)) + (((p2.toUInt32 >>> ((24 : Int32) &&& 31).toUInt32).toInt32) &&& (255 : Int32)))), .val (.int ((((((((p1 &&& (2097151 : Int32)) + (p2 &&& (255 : Int32))) + (2 : Int32)) + (((p2.toUInt32 >>> ((8 : Int32) &&& 31).toUInt32).toInt32) &&& (255 : Int32))) + (((p2.toUInt32 >>> ((16 : Int32) &&& 31).toUInt32).toInt32) &&& (255 : Int32))) + (2 : Int32)) + (((p2.toUInt32 >>> ((24 : Int32) &&& 31).toUInt32).toInt32) &&& (255 : Int32))) + (p3 &&& (255 : Int32)))), .unset, .unset, .unset, .unset, .unset, .unset, .unset] [(.int p3)]))
  refine go (fun _ => XS.bipush X0.here hx rfl (hb hby at_70)) ?_
  show Go _ p e below s _ _ _ (s₁.setTop (mkF m 72 #[.val (.int p1), .val (.int p2), .val (.int p3), .val (.int p4), .val (.int p5), .val (.int (p1 &&& (2097151 : Int32))), .val (.int ((p1 &&& (2097151 : Int32)) + (p2 &&& (255 : Int32)))), .val (.int ((((p1 &&& (2097151 : Int32)) + (p2 &&& (255 : Int32))) + (2 : Int32)) + (((p2.toUInt32 >>> ((8 : Int32) &&& 31).toUInt32).toInt32) &&& (255 : Int32)))), .val (.int (((((p1 &&& (2097151 : Int32)) + (p2 &&& (255 : Int32))) + (2 : Int32)) + (((p2.toUInt32 >>> ((8 : Int32) &&& 31).toUInt32).toInt32) &&& (255 : Int32))) + (((p2.toUInt32 >>> ((16 : Int32) &&& 31).toUInt32).toInt32) &&& (255 : Int32)))), .val (.int (((((((p1 &&& (2097151 : Int32)) + (p2 &&& (255 : Int32))) + (2 : Int32)) + (((p2.toUInt32 >>> ((8 : Int32) &&& 31).toUInt32).toInt32) &&& (255 : Int32))) + (((p2.toUInt32 >>> ((16 : Int32) &&& 31).toUInt32).toInt32) &&& (255 : Int32))) + (2 : Int32)) + (((p2.toUInt32 >>> ((24 : Int32) &&& 31).toUInt32).toInt32) &&& (255 : Int32)))), .val (.int ((((((((p1 &&& (2097151 : Int32)) + (p2 &&& (255 : Int32))) + (2 : Int32)) + (((p2.toUInt32 >>> ((8 : Int32) &&& 31).toUInt32).toInt32) &&& (255 : Int32))) + (((p2.toUInt32 >>> ((16 : Int32) &&& 31).toUInt32).toInt32) &&& (255 : Int32))) + (2 : Int32)) + (((p2.toUInt32 >>> ((24 : Int32) &&& 31).toUInt32).toInt32) &&& (255 : Int32))) + (p3 &&& (255 : Int32)))), .unset, .unset, .unset, .unset, .unset, .unset, .unset] [(.int (8 : Int32)), (.int p3)]))
  refine go (fun _ => XS.iushr X0.here hx rfl (hb hby at_72) rfl) ?_
  show Go _ p e below s _ _ _ (s₁.setTop (mkF m 73 #[.val (.int p1), .val (.int p2), .val (.int p3), .val (.int p4), .val (.int p5), .val (.int (p1 &&& (2097151 : Int32))), .val (.int ((p1 &&& (2097151 : Int32)) + (p2 &&& (255 : Int32)))), .val (.int ((((p1 &&& (2097151 : Int32)) + (p2 &&& (255 : Int32))) + (2 : Int32)) + (((p2.toUInt32 >>> ((8 : Int32) &&& 31).toUInt32).toInt32) &&& (255 : Int32)))), .val (.int (((((p1 &&& (2097151 : Int32)) + (p2 &&& (255 : Int32))) + (2 : Int32)) + (((p2.toUInt32 >>> ((8 : Int32) &&& 31).toUInt32).toInt32) &&& (255 : Int32))) + (((p2.toUInt32 >>> ((16 : Int32) &&& 31).toUInt32).toInt32) &&& (255 : Int32)))), .val (.int (((((((p1 &&& (2097151 : Int32)) + (p2 &&& (255 : Int32))) + (2 : Int32)) + (((p2.toUInt32 >>> ((8 : Int32) &&& 31).toUInt32).toInt32) &&& (255 : Int32))) + (((p2.toUInt32 >>> ((16 : Int32) &&& 31).toUInt32).toInt32) &&& (255 : Int32))) + (2 : Int32)) + (((p2.toUInt32 >>> ((24 : Int32) &&& 31).toUInt32).toInt32) &&& (255 : Int32)))), .val (.int ((((((((p1 &&& (2097151 : Int32)) + (p2 &&& (255 : Int32))) + (2 : Int32)) + (((p2.toUInt32 >>> ((8 : Int32) &&& 31).toUInt32).toInt32) &&& (255 : Int32))) + (((p2.toUInt32 >>> ((16 : Int32) &&& 31).toUInt32).toInt32) &&& (255 : Int32))) + (2 : Int32)) + (((p2.toUInt32 >>> ((24 : Int32) &&& 31).toUInt32).toInt32) &&& (255 : Int32))) + (p3 &&& (255 : Int32)))), .unset, .unset, .unset, .unset, .unset, .unset, .unset] [(.int ((p3.toUInt32 >>> ((8 : Int32) &&& 31).toUInt32).toInt32))]))
  refine go (fun _ => XS.iconst X0.here hx rfl (hb hby at_73)) ?_
  show Go _ p e below s _ _ _ (s₁.setTop (mkF m 74 #[.val (.int p1), .val (.int p2), .val (.int p3), .val (.int p4), .val (.int p5), .val (.int (p1 &&& (2097151 : Int32))), .val (.int ((p1 &&& (2097151 : Int32)) + (p2 &&& (255 : Int32)))), .val (.int ((((p1 &&& (2097151 : Int32)) + (p2 &&& (255 : Int32))) + (2 : Int32)) + (((p2.toUInt32 >>> ((8 : Int32) &&& 31).toUInt32).toInt32) &&& (255 : Int32)))), .val (.int (((((p1 &&& (2097151 : Int32)) + (p2 &&& (255 : Int32))) + (2 : Int32)) + (((p2.toUInt32 >>> ((8 : Int32) &&& 31).toUInt32).toInt32) &&& (255 : Int32))) + (((p2.toUInt32 >>> ((16 : Int32) &&& 31).toUInt32).toInt32) &&& (255 : Int32)))), .val (.int (((((((p1 &&& (2097151 : Int32)) + (p2 &&& (255 : Int32))) + (2 : Int32)) + (((p2.toUInt32 >>> ((8 : Int32) &&& 31).toUInt32).toInt32) &&& (255 : Int32))) + (((p2.toUInt32 >>> ((16 : Int32) &&& 31).toUInt32).toInt32) &&& (255 : Int32))) + (2 : Int32)) + (((p2.toUInt32 >>> ((24 : Int32) &&& 31).toUInt32).toInt32) &&& (255 : Int32)))), .val (.int ((((((((p1 &&& (2097151 : Int32)) + (p2 &&& (255 : Int32))) + (2 : Int32)) + (((p2.toUInt32 >>> ((8 : Int32) &&& 31).toUInt32).toInt32) &&& (255 : Int32))) + (((p2.toUInt32 >>> ((16 : Int32) &&& 31).toUInt32).toInt32) &&& (255 : Int32))) + (2 : Int32)) + (((p2.toUInt32 >>> ((24 : Int32) &&& 31).toUInt32).toInt32) &&& (255 : Int32))) + (p3 &&& (255 : Int32)))), .unset, .unset, .unset, .unset, .unset, .unset, .unset] [(.int (3 : Int32)), (.int ((p3.toUInt32 >>> ((8 : Int32) &&& 31).toUInt32).toInt32))]))
  refine go (fun _ => XS.iand X0.here hx rfl (hb hby at_74) rfl) ?_
  show Go _ p e below s _ _ _ (s₁.setTop (mkF m 75 #[.val (.int p1), .val (.int p2), .val (.int p3), .val (.int p4), .val (.int p5), .val (.int (p1 &&& (2097151 : Int32))), .val (.int ((p1 &&& (2097151 : Int32)) + (p2 &&& (255 : Int32)))), .val (.int ((((p1 &&& (2097151 : Int32)) + (p2 &&& (255 : Int32))) + (2 : Int32)) + (((p2.toUInt32 >>> ((8 : Int32) &&& 31).toUInt32).toInt32) &&& (255 : Int32)))), .val (.int (((((p1 &&& (2097151 : Int32)) + (p2 &&& (255 : Int32))) + (2 : Int32)) + (((p2.toUInt32 >>> ((8 : Int32) &&& 31).toUInt32).toInt32) &&& (255 : Int32))) + (((p2.toUInt32 >>> ((16 : Int32) &&& 31).toUInt32).toInt32) &&& (255 : Int32)))), .val (.int (((((((p1 &&& (2097151 : Int32)) + (p2 &&& (255 : Int32))) + (2 : Int32)) + (((p2.toUInt32 >>> ((8 : Int32) &&& 31).toUInt32).toInt32) &&& (255 : Int32))) + (((p2.toUInt32 >>> ((16 : Int32) &&& 31).toUInt32).toInt32) &&& (255 : Int32))) + (2 : Int32)) + (((p2.toUInt32 >>> ((24 : Int32) &&& 31).toUInt32).toInt32) &&& (255 : Int32)))), .val (.int ((((((((p1 &&& (2097151 : Int32)) + (p2 &&& (255 : Int32))) + (2 : Int32)) + (((p2.toUInt32 >>> ((8 : Int32) &&& 31).toUInt32).toInt32) &&& (255 : Int32))) + (((p2.toUInt32 >>> ((16 : Int32) &&& 31).toUInt32).toInt32) &&& (255 : Int32))) + (2 : Int32)) + (((p2.toUInt32 >>> ((24 : Int32) &&& 31).toUInt32).toInt32) &&& (255 : Int32))) + (p3 &&& (255 : Int32)))), .unset, .unset, .unset, .unset, .unset, .unset, .unset] [(.int (((p3.toUInt32 >>> ((8 : Int32) &&& 31).toUInt32).toInt32) &&& (3 : Int32)))]))
  refine go (fun _ => XS.istore X0.here hx rfl (hb hby at_75) rfl (l' := #[.val (.int p1), .val (.int p2), .val (.int p3), .val (.int p4), .val (.int p5), .val (.int (p1 &&& (2097151 : Int32))), .val (.int ((p1 &&& (2097151 : Int32)) + (p2 &&& (255 : Int32)))), .val (.int ((((p1 &&& (2097151 : Int32)) + (p2 &&& (255 : Int32))) + (2 : Int32)) + (((p2.toUInt32 >>> ((8 : Int32) &&& 31).toUInt32).toInt32) &&& (255 : Int32)))), .val (.int (((((p1 &&& (2097151 : Int32)) + (p2 &&& (255 : Int32))) + (2 : Int32)) + (((p2.toUInt32 >>> ((8 : Int32) &&& 31).toUInt32).toInt32) &&& (255 : Int32))) + (((p2.toUInt32 >>> ((16 : Int32) &&& 31).toUInt32).toInt32) &&& (255 : Int32)))), .val (.int (((((((p1 &&& (2097151 : Int32)) + (p2 &&& (255 : Int32))) + (2 : Int32)) + (((p2.toUInt32 >>> ((8 : Int32) &&& 31).toUInt32).toInt32) &&& (255 : Int32))) + (((p2.toUInt32 >>> ((16 : Int32) &&& 31).toUInt32).toInt32) &&& (255 : Int32))) + (2 : Int32)) + (((p2.toUInt32 >>> ((24 : Int32) &&& 31).toUInt32).toInt32) &&& (255 : Int32)))), .val (.int ((((((((p1 &&& (2097151 : Int32)) + (p2 &&& (255 : Int32))) + (2 : Int32)) + (((p2.toUInt32 >>> ((8 : Int32) &&& 31).toUInt32).toInt32) &&& (255 : Int32))) + (((p2.toUInt32 >>> ((16 : Int32) &&& 31).toUInt32).toInt32) &&& (255 : Int32))) + (2 : Int32)) + (((p2.toUInt32 >>> ((24 : Int32) &&& 31).toUInt32).toInt32) &&& (255 : Int32))) + (p3 &&& (255 : Int32)))), .val (.int (((p3.toUInt32 >>> ((8 : Int32) &&& 31).toUInt32).toInt32) &&& (3 : Int32))), .unset, .unset, .unset, .unset, .unset, .unset]) rfl) ?_
  show Go _ p e below s _ _ _ (s₁.setTop (mkF m 77 #[.val (.int p1), .val (.int p2), .val (.int p3), .val (.int p4), .val (.int p5), .val (.int (p1 &&& (2097151 : Int32))), .val (.int ((p1 &&& (2097151 : Int32)) + (p2 &&& (255 : Int32)))), .val (.int ((((p1 &&& (2097151 : Int32)) + (p2 &&& (255 : Int32))) + (2 : Int32)) + (((p2.toUInt32 >>> ((8 : Int32) &&& 31).toUInt32).toInt32) &&& (255 : Int32)))), .val (.int (((((p1 &&& (2097151 : Int32)) + (p2 &&& (255 : Int32))) + (2 : Int32)) + (((p2.toUInt32 >>> ((8 : Int32) &&& 31).toUInt32).toInt32) &&& (255 : Int32))) + (((p2.toUInt32 >>> ((16 : Int32) &&& 31).toUInt32).toInt32) &&& (255 : Int32)))), .val (.int (((((((p1 &&& (2097151 : Int32)) + (p2 &&& (255 : Int32))) + (2 : Int32)) + (((p2.toUInt32 >>> ((8 : Int32) &&& 31).toUInt32).toInt32) &&& (255 : Int32))) + (((p2.toUInt32 >>> ((16 : Int32) &&& 31).toUInt32).toInt32) &&& (255 : Int32))) + (2 : Int32)) + (((p2.toUInt32 >>> ((24 : Int32) &&& 31).toUInt32).toInt32) &&& (255 : Int32)))), .val (.int ((((((((p1 &&& (2097151 : Int32)) + (p2 &&& (255 : Int32))) + (2 : Int32)) + (((p2.toUInt32 >>> ((8 : Int32) &&& 31).toUInt32).toInt32) &&& (255 : Int32))) + (((p2.toUInt32 >>> ((16 : Int32) &&& 31).toUInt32).toInt32) &&& (255 : Int32))) + (2 : Int32)) + (((p2.toUInt32 >>> ((24 : Int32) &&& 31).toUInt32).toInt32) &&& (255 : Int32))) + (p3 &&& (255 : Int32)))), .val (.int (((p3.toUInt32 >>> ((8 : Int32) &&& 31).toUInt32).toInt32) &&& (3 : Int32))), .unset, .unset, .unset, .unset, .unset, .unset] []))
  refine go (fun _ => XS.iloadN X0.here hx rfl (hb hby at_77) rfl) ?_
  show Go _ p e below s _ _ _ (s₁.setTop (mkF m 78 #[.val (.int p1), .val (.int p2), .val (.int p3), .val (.int p4), .val (.int p5), .val (.int (p1 &&& (2097151 : Int32))), .val (.int ((p1 &&& (2097151 : Int32)) + (p2 &&& (255 : Int32)))), .val (.int ((((p1 &&& (2097151 : Int32)) + (p2 &&& (255 : Int32))) + (2 : Int32)) + (((p2.toUInt32 >>> ((8 : Int32) &&& 31).toUInt32).toInt32) &&& (255 : Int32)))), .val (.int (((((p1 &&& (2097151 : Int32)) + (p2 &&& (255 : Int32))) + (2 : Int32)) + (((p2.toUInt32 >>> ((8 : Int32) &&& 31).toUInt32).toInt32) &&& (255 : Int32))) + (((p2.toUInt32 >>> ((16 : Int32) &&& 31).toUInt32).toInt32) &&& (255 : Int32)))), .val (.int (((((((p1 &&& (2097151 : Int32)) + (p2 &&& (255 : Int32))) + (2 : Int32)) + (((p2.toUInt32 >>> ((8 : Int32) &&& 31).toUInt32).toInt32) &&& (255 : Int32))) + (((p2.toUInt32 >>> ((16 : Int32) &&& 31).toUInt32).toInt32) &&& (255 : Int32))) + (2 : Int32)) + (((p2.toUInt32 >>> ((24 : Int32) &&& 31).toUInt32).toInt32) &&& (255 : Int32)))), .val (.int ((((((((p1 &&& (2097151 : Int32)) + (p2 &&& (255 : Int32))) + (2 : Int32)) + (((p2.toUInt32 >>> ((8 : Int32) &&& 31).toUInt32).toInt32) &&& (255 : Int32))) + (((p2.toUInt32 >>> ((16 : Int32) &&& 31).toUInt32).toInt32) &&& (255 : Int32))) + (2 : Int32)) + (((p2.toUInt32 >>> ((24 : Int32) &&& 31).toUInt32).toInt32) &&& (255 : Int32))) + (p3 &&& (255 : Int32)))), .val (.int (((p3.toUInt32 >>> ((8 : Int32) &&& 31).toUInt32).toInt32) &&& (3 : Int32))), .unset, .unset, .unset, .unset, .unset, .unset] [(.int p3)]))
  refine go (fun _ => XS.bipush X0.here hx rfl (hb hby at_78)) ?_
  show Go _ p e below s _ _ _ (s₁.setTop (mkF m 80 #[.val (.int p1), .val (.int p2), .val (.int p3), .val (.int p4), .val (.int p5), .val (.int (p1 &&& (2097151 : Int32))), .val (.int ((p1 &&& (2097151 : Int32)) + (p2 &&& (255 : Int32)))), .val (.int ((((p1 &&& (2097151 : Int32)) + (p2 &&& (255 : Int32))) + (2 : Int32)) + (((p2.toUInt32 >>> ((8 : Int32) &&& 31).toUInt32).toInt32) &&& (255 : Int32)))), .val (.int (((((p1 &&& (2097151 : Int32)) + (p2 &&& (255 : Int32))) + (2 : Int32)) + (((p2.toUInt32 >>> ((8 : Int32) &&& 31).toUInt32).toInt32) &&& (255 : Int32))) + (((p2.toUInt32 >>> ((16 : Int32) &&& 31).toUInt32).toInt32) &&& (255 : Int32)))), .val (.int (((((((p1 &&& (2097151 : Int32)) + (p2 &&& (255 : Int32))) + (2 : Int32)) + (((p2.toUInt32 >>> ((8 : Int32) &&& 31).toUInt32).toInt32) &&& (255 : Int32))) + (((p2.toUInt32 >>> ((16 : Int32) &&& 31).toUInt32).toInt32) &&& (255 : Int32))) + (2 : Int32)) + (((p2.toUInt32 >>> ((24 : Int32) &&& 31).toUInt32).toInt32) &&& (255 : Int32)))), .val (.int ((((((((p1 &&& (2097151 : Int32)) + (p2 &&& (255 : Int32))) + (2 : Int32)) + (((p2.toUInt32 >>> ((8 : Int32) &&& 31).toUInt32).toInt32) &&& (255 : Int32))) + (((p2.toUInt32 >>> ((16 : Int32) &&& 31).toUInt32).toInt32) &&& (255 : Int32))) + (2 : Int32)) + (((p2.toUInt32 >>> ((24 : Int32) &&& 31).toUInt32).toInt32) &&& (255 : Int32))) + (p3 &&& (255 : Int32)))), .val (.int (((p3.toUInt32 >>> ((8 : Int32) &&& 31).toUInt32).toInt32) &&& (3 : Int32))), .unset, .unset, .unset, .unset, .unset, .unset] [(.int (10 : Int32)), (.int p3)]))
  refine go (fun _ => XS.iushr X0.here hx rfl (hb hby at_80) rfl) ?_
  show Go _ p e below s _ _ _ (s₁.setTop (mkF m 81 #[.val (.int p1), .val (.int p2), .val (.int p3), .val (.int p4), .val (.int p5), .val (.int (p1 &&& (2097151 : Int32))), .val (.int ((p1 &&& (2097151 : Int32)) + (p2 &&& (255 : Int32)))), .val (.int ((((p1 &&& (2097151 : Int32)) + (p2 &&& (255 : Int32))) + (2 : Int32)) + (((p2.toUInt32 >>> ((8 : Int32) &&& 31).toUInt32).toInt32) &&& (255 : Int32)))), .val (.int (((((p1 &&& (2097151 : Int32)) + (p2 &&& (255 : Int32))) + (2 : Int32)) + (((p2.toUInt32 >>> ((8 : Int32) &&& 31).toUInt32).toInt32) &&& (255 : Int32))) + (((p2.toUInt32 >>> ((16 : Int32) &&& 31).toUInt32).toInt32) &&& (255 : Int32)))), .val (.int (((((((p1 &&& (2097151 : Int32)) + (p2 &&& (255 : Int32))) + (2 : Int32)) + (((p2.toUInt32 >>> ((8 : Int32) &&& 31).toUInt32).toInt32) &&& (255 : Int32))) + (((p2.toUInt32 >>> ((16 : Int32) &&& 31).toUInt32).toInt32) &&& (255 : Int32))) + (2 : Int32)) + (((p2.toUInt32 >>> ((24 : Int32) &&& 31).toUInt32).toInt32) &&& (255 : Int32)))), .val (.int ((((((((p1 &&& (2097151 : Int32)) + (p2 &&& (255 : Int32))) + (2 : Int32)) + (((p2.toUInt32 >>> ((8 : Int32) &&& 31).toUInt32).toInt32) &&& (255 : Int32))) + (((p2.toUInt32 >>> ((16 : Int32) &&& 31).toUInt32).toInt32) &&& (255 : Int32))) + (2 : Int32)) + (((p2.toUInt32 >>> ((24 : Int32) &&& 31).toUInt32).toInt32) &&& (255 : Int32))) + (p3 &&& (255 : Int32)))), .val (.int (((p3.toUInt32 >>> ((8 : Int32) &&& 31).toUInt32).toInt32) &&& (3 : Int32))), .unset, .unset, .unset, .unset, .unset, .unset] [(.int ((p3.toUInt32 >>> ((10 : Int32) &&& 31).toUInt32).toInt32))]))
  refine go (fun _ => XS.iconst X0.here hx rfl (hb hby at_81)) ?_
  show Go _ p e below s _ _ _ (s₁.setTop (mkF m 82 #[.val (.int p1), .val (.int p2), .val (.int p3), .val (.int p4), .val (.int p5), .val (.int (p1 &&& (2097151 : Int32))), .val (.int ((p1 &&& (2097151 : Int32)) + (p2 &&& (255 : Int32)))), .val (.int ((((p1 &&& (2097151 : Int32)) + (p2 &&& (255 : Int32))) + (2 : Int32)) + (((p2.toUInt32 >>> ((8 : Int32) &&& 31).toUInt32).toInt32) &&& (255 : Int32)))), .val (.int (((((p1 &&& (2097151 : Int32)) + (p2 &&& (255 : Int32))) + (2 : Int32)) + (((p2.toUInt32 >>> ((8 : Int32) &&& 31).toUInt32).toInt32) &&& (255 : Int32))) + (((p2.toUInt32 >>> ((16 : Int32) &&& 31).toUInt32).toInt32) &&& (255 : Int32)))), .val (.int (((((((p1 &&& (2097151 : Int32)) + (p2 &&& (255 : Int32))) + (2 : Int32)) + (((p2.toUInt32 >>> ((8 : Int32) &&& 31).toUInt32).toInt32) &&& (255 : Int32))) + (((p2.toUInt32 >>> ((16 : Int32) &&& 31).toUInt32).toInt32) &&& (255 : Int32))) + (2 : Int32)) + (((p2.toUInt32 >>> ((24 : Int32) &&& 31).toUInt32).toInt32) &&& (255 : Int32)))), .val (.int ((((((((p1 &&& (2097151 : Int32)) + (p2 &&& (255 : Int32))) + (2 : Int32)) + (((p2.toUInt32 >>> ((8 : Int32) &&& 31).toUInt32).toInt32) &&& (255 : Int32))) + (((p2.toUInt32 >>> ((16 : Int32) &&& 31).toUInt32).toInt32) &&& (255 : Int32))) + (2 : Int32)) + (((p2.toUInt32 >>> ((24 : Int32) &&& 31).toUInt32).toInt32) &&& (255 : Int32))) + (p3 &&& (255 : Int32)))), .val (.int (((p3.toUInt32 >>> ((8 : Int32) &&& 31).toUInt32).toInt32) &&& (3 : Int32))), .unset, .unset, .unset, .unset, .unset, .unset] [(.int (1 : Int32)), (.int ((p3.toUInt32 >>> ((10 : Int32) &&& 31).toUInt32).toInt32))]))
  refine go (fun _ => XS.iand X0.here hx rfl (hb hby at_82) rfl) ?_
  show Go _ p e below s _ _ _ (s₁.setTop (mkF m 83 #[.val (.int p1), .val (.int p2), .val (.int p3), .val (.int p4), .val (.int p5), .val (.int (p1 &&& (2097151 : Int32))), .val (.int ((p1 &&& (2097151 : Int32)) + (p2 &&& (255 : Int32)))), .val (.int ((((p1 &&& (2097151 : Int32)) + (p2 &&& (255 : Int32))) + (2 : Int32)) + (((p2.toUInt32 >>> ((8 : Int32) &&& 31).toUInt32).toInt32) &&& (255 : Int32)))), .val (.int (((((p1 &&& (2097151 : Int32)) + (p2 &&& (255 : Int32))) + (2 : Int32)) + (((p2.toUInt32 >>> ((8 : Int32) &&& 31).toUInt32).toInt32) &&& (255 : Int32))) + (((p2.toUInt32 >>> ((16 : Int32) &&& 31).toUInt32).toInt32) &&& (255 : Int32)))), .val (.int (((((((p1 &&& (2097151 : Int32)) + (p2 &&& (255 : Int32))) + (2 : Int32)) + (((p2.toUInt32 >>> ((8 : Int32) &&& 31).toUInt32).toInt32) &&& (255 : Int32))) + (((p2.toUInt32 >>> ((16 : Int32) &&& 31).toUInt32).toInt32) &&& (255 : Int32))) + (2 : Int32)) + (((p2.toUInt32 >>> ((24 : Int32) &&& 31).toUInt32).toInt32) &&& (255 : Int32)))), .val (.int ((((((((p1 &&& (2097151 : Int32)) + (p2 &&& (255 : Int32))) + (2 : Int32)) + (((p2.toUInt32 >>> ((8 : Int32) &&& 31).toUInt32).toInt32) &&& (255 : Int32))) + (((p2.toUInt32 >>> ((16 : Int32) &&& 31).toUInt32).toInt32) &&& (255 : Int32))) + (2 : Int32)) + (((p2.toUInt32 >>> ((24 : Int32) &&& 31).toUInt32).toInt32) &&& (255 : Int32))) + (p3 &&& (255 : Int32)))), .val (.int (((p3.toUInt32 >>> ((8 : Int32) &&& 31).toUInt32).toInt32) &&& (3 : Int32))), .unset, .unset, .unset, .unset, .unset, .unset] [(.int (((p3.toUInt32 >>> ((10 : Int32) &&& 31).toUInt32).toInt32) &&& (1 : Int32)))]))
  by_cases hc83_107 : (((p3.toUInt32 >>> ((10 : Int32) &&& 31).toUInt32).toInt32) &&& (1 : Int32)) = (0 : Int32)
  · refine go (fun _ => XS.ifYes X0.here hx rfl (pc0 := 83) (pc' := 91) rfl (hb hby at_83) rfl ((if0 _ _).trans (teq hc83_107).1) (by decide) (by decide)) ?_
    show Go _ p e below s _ _ _ (s₁.setTop (mkF m 91 #[.val (.int p1), .val (.int p2), .val (.int p3), .val (.int p4), .val (.int p5), .val (.int (p1 &&& (2097151 : Int32))), .val (.int ((p1 &&& (2097151 : Int32)) + (p2 &&& (255 : Int32)))), .val (.int ((((p1 &&& (2097151 : Int32)) + (p2 &&& (255 : Int32))) + (2 : Int32)) + (((p2.toUInt32 >>> ((8 : Int32) &&& 31).toUInt32).toInt32) &&& (255 : Int32)))), .val (.int (((((p1 &&& (2097151 : Int32)) + (p2 &&& (255 : Int32))) + (2 : Int32)) + (((p2.toUInt32 >>> ((8 : Int32) &&& 31).toUInt32).toInt32) &&& (255 : Int32))) + (((p2.toUInt32 >>> ((16 : Int32) &&& 31).toUInt32).toInt32) &&& (255 : Int32)))), .val (.int (((((((p1 &&& (2097151 : Int32)) + (p2 &&& (255 : Int32))) + (2 : Int32)) + (((p2.toUInt32 >>> ((8 : Int32) &&& 31).toUInt32).toInt32) &&& (255 : Int32))) + (((p2.toUInt32 >>> ((16 : Int32) &&& 31).toUInt32).toInt32) &&& (255 : Int32))) + (2 : Int32)) + (((p2.toUInt32 >>> ((24 : Int32) &&& 31).toUInt32).toInt32) &&& (255 : Int32)))), .val (.int ((((((((p1 &&& (2097151 : Int32)) + (p2 &&& (255 : Int32))) + (2 : Int32)) + (((p2.toUInt32 >>> ((8 : Int32) &&& 31).toUInt32).toInt32) &&& (255 : Int32))) + (((p2.toUInt32 >>> ((16 : Int32) &&& 31).toUInt32).toInt32) &&& (255 : Int32))) + (2 : Int32)) + (((p2.toUInt32 >>> ((24 : Int32) &&& 31).toUInt32).toInt32) &&& (255 : Int32))) + (p3 &&& (255 : Int32)))), .val (.int (((p3.toUInt32 >>> ((8 : Int32) &&& 31).toUInt32).toInt32) &&& (3 : Int32))), .unset, .unset, .unset, .unset, .unset, .unset] []))
    refine go (fun _ => XS.iload X0.here hx rfl (hb hby at_91) rfl) ?_
    show Go _ p e below s _ _ _ (s₁.setTop (mkF m 93 #[.val (.int p1), .val (.int p2), .val (.int p3), .val (.int p4), .val (.int p5), .val (.int (p1 &&& (2097151 : Int32))), .val (.int ((p1 &&& (2097151 : Int32)) + (p2 &&& (255 : Int32)))), .val (.int ((((p1 &&& (2097151 : Int32)) + (p2 &&& (255 : Int32))) + (2 : Int32)) + (((p2.toUInt32 >>> ((8 : Int32) &&& 31).toUInt32).toInt32) &&& (255 : Int32)))), .val (.int (((((p1 &&& (2097151 : Int32)) + (p2 &&& (255 : Int32))) + (2 : Int32)) + (((p2.toUInt32 >>> ((8 : Int32) &&& 31).toUInt32).toInt32) &&& (255 : Int32))) + (((p2.toUInt32 >>> ((16 : Int32) &&& 31).toUInt32).toInt32) &&& (255 : Int32)))), .val (.int (((((((p1 &&& (2097151 : Int32)) + (p2 &&& (255 : Int32))) + (2 : Int32)) + (((p2.toUInt32 >>> ((8 : Int32) &&& 31).toUInt32).toInt32) &&& (255 : Int32))) + (((p2.toUInt32 >>> ((16 : Int32) &&& 31).toUInt32).toInt32) &&& (255 : Int32))) + (2 : Int32)) + (((p2.toUInt32 >>> ((24 : Int32) &&& 31).toUInt32).toInt32) &&& (255 : Int32)))), .val (.int ((((((((p1 &&& (2097151 : Int32)) + (p2 &&& (255 : Int32))) + (2 : Int32)) + (((p2.toUInt32 >>> ((8 : Int32) &&& 31).toUInt32).toInt32) &&& (255 : Int32))) + (((p2.toUInt32 >>> ((16 : Int32) &&& 31).toUInt32).toInt32) &&& (255 : Int32))) + (2 : Int32)) + (((p2.toUInt32 >>> ((24 : Int32) &&& 31).toUInt32).toInt32) &&& (255 : Int32))) + (p3 &&& (255 : Int32)))), .val (.int (((p3.toUInt32 >>> ((8 : Int32) &&& 31).toUInt32).toInt32) &&& (3 : Int32))), .unset, .unset, .unset, .unset, .unset, .unset] [(.int (p1 &&& (2097151 : Int32)))]))
    refine go (fun _ => XS.iconst X0.here hx rfl (hb hby at_93)) ?_
    show Go _ p e below s _ _ _ (s₁.setTop (mkF m 94 #[.val (.int p1), .val (.int p2), .val (.int p3), .val (.int p4), .val (.int p5), .val (.int (p1 &&& (2097151 : Int32))), .val (.int ((p1 &&& (2097151 : Int32)) + (p2 &&& (255 : Int32)))), .val (.int ((((p1 &&& (2097151 : Int32)) + (p2 &&& (255 : Int32))) + (2 : Int32)) + (((p2.toUInt32 >>> ((8 : Int32) &&& 31).toUInt32).toInt32) &&& (255 : Int32)))), .val (.int (((((p1 &&& (2097151 : Int32)) + (p2 &&& (255 : Int32))) + (2 : Int32)) + (((p2.toUInt32 >>> ((8 : Int32) &&& 31).toUInt32).toInt32) &&& (255 : Int32))) + (((p2.toUInt32 >>> ((16 : Int32) &&& 31).toUInt32).toInt32) &&& (255 : Int32)))), .val (.int (((((((p1 &&& (2097151 : Int32)) + (p2 &&& (255 : Int32))) + (2 : Int32)) + (((p2.toUInt32 >>> ((8 : Int32) &&& 31).toUInt32).toInt32) &&& (255 : Int32))) + (((p2.toUInt32 >>> ((16 : Int32) &&& 31).toUInt32).toInt32) &&& (255 : Int32))) + (2 : Int32)) + (((p2.toUInt32 >>> ((24 : Int32) &&& 31).toUInt32).toInt32) &&& (255 : Int32)))), .val (.int ((((((((p1 &&& (2097151 : Int32)) + (p2 &&& (255 : Int32))) + (2 : Int32)) + (((p2.toUInt32 >>> ((8 : Int32) &&& 31).toUInt32).toInt32) &&& (255 : Int32))) + (((p2.toUInt32 >>> ((16 : Int32) &&& 31).toUInt32).toInt32) &&& (255 : Int32))) + (2 : Int32)) + (((p2.toUInt32 >>> ((24 : Int32) &&& 31).toUInt32).toInt32) &&& (255 : Int32))) + (p3 &&& (255 : Int32)))), .val (.int (((p3.toUInt32 >>> ((8 : Int32) &&& 31).toUInt32).toInt32) &&& (3 : Int32))), .unset, .unset, .unset, .unset, .unset, .unset] [(.int (4 : Int32)), (.int (p1 &&& (2097151 : Int32)))]))
    refine go (fun _ => XS.isub X0.here hx rfl (hb hby at_94) rfl) ?_
    show Go _ p e below s _ _ _ (s₁.setTop (mkF m 95 #[.val (.int p1), .val (.int p2), .val (.int p3), .val (.int p4), .val (.int p5), .val (.int (p1 &&& (2097151 : Int32))), .val (.int ((p1 &&& (2097151 : Int32)) + (p2 &&& (255 : Int32)))), .val (.int ((((p1 &&& (2097151 : Int32)) + (p2 &&& (255 : Int32))) + (2 : Int32)) + (((p2.toUInt32 >>> ((8 : Int32) &&& 31).toUInt32).toInt32) &&& (255 : Int32)))), .val (.int (((((p1 &&& (2097151 : Int32)) + (p2 &&& (255 : Int32))) + (2 : Int32)) + (((p2.toUInt32 >>> ((8 : Int32) &&& 31).toUInt32).toInt32) &&& (255 : Int32))) + (((p2.toUInt32 >>> ((16 : Int32) &&& 31).toUInt32).toInt32) &&& (255 : Int32)))), .val (.int (((((((p1 &&& (2097151 : Int32)) + (p2 &&& (255 : Int32))) + (2 : Int32)) + (((p2.toUInt32 >>> ((8 : Int32) &&& 31).toUInt32).toInt32) &&& (255 : Int32))) + (((p2.toUInt32 >>> ((16 : Int32) &&& 31).toUInt32).toInt32) &&& (255 : Int32))) + (2 : Int32)) + (((p2.toUInt32 >>> ((24 : Int32) &&& 31).toUInt32).toInt32) &&& (255 : Int32)))), .val (.int ((((((((p1 &&& (2097151 : Int32)) + (p2 &&& (255 : Int32))) + (2 : Int32)) + (((p2.toUInt32 >>> ((8 : Int32) &&& 31).toUInt32).toInt32) &&& (255 : Int32))) + (((p2.toUInt32 >>> ((16 : Int32) &&& 31).toUInt32).toInt32) &&& (255 : Int32))) + (2 : Int32)) + (((p2.toUInt32 >>> ((24 : Int32) &&& 31).toUInt32).toInt32) &&& (255 : Int32))) + (p3 &&& (255 : Int32)))), .val (.int (((p3.toUInt32 >>> ((8 : Int32) &&& 31).toUInt32).toInt32) &&& (3 : Int32))), .unset, .unset, .unset, .unset, .unset, .unset] [(.int ((p1 &&& (2097151 : Int32)) - (4 : Int32)))]))
    refine go (fun _ => XS.iloadN X0.here hx rfl (hb hby at_95) rfl) ?_
    show Go _ p e below s _ _ _ (s₁.setTop (mkF m 96 #[.val (.int p1), .val (.int p2), .val (.int p3), .val (.int p4), .val (.int p5), .val (.int (p1 &&& (2097151 : Int32))), .val (.int ((p1 &&& (2097151 : Int32)) + (p2 &&& (255 : Int32)))), .val (.int ((((p1 &&& (2097151 : Int32)) + (p2 &&& (255 : Int32))) + (2 : Int32)) + (((p2.toUInt32 >>> ((8 : Int32) &&& 31).toUInt32).toInt32) &&& (255 : Int32)))), .val (.int (((((p1 &&& (2097151 : Int32)) + (p2 &&& (255 : Int32))) + (2 : Int32)) + (((p2.toUInt32 >>> ((8 : Int32) &&& 31).toUInt32).toInt32) &&& (255 : Int32))) + (((p2.toUInt32 >>> ((16 : Int32) &&& 31).toUInt32).toInt32) &&& (255 : Int32)))), .val (.int (((((((p1 &&& (2097151 : Int32)) + (p2 &&& (255 : Int32))) + (2 : Int32)) + (((p2.toUInt32 >>> ((8 : Int32) &&& 31).toUInt32).toInt32) &&& (255 : Int32))) + (((p2.toUInt32 >>> ((16 : Int32) &&& 31).toUInt32).toInt32) &&& (255 : Int32))) + (2 : Int32)) + (((p2.toUInt32 >>> ((24 : Int32) &&& 31).toUInt32).toInt32) &&& (255 : Int32)))), .val (.int ((((((((p1 &&& (2097151 : Int32)) + (p2 &&& (255 : Int32))) + (2 : Int32)) + (((p2.toUInt32 >>> ((8 : Int32) &&& 31).toUInt32).toInt32) &&& (255 : Int32))) + (((p2.toUInt32 >>> ((16 : Int32) &&& 31).toUInt32).toInt32) &&& (255 : Int32))) + (2 : Int32)) + (((p2.toUInt32 >>> ((24 : Int32) &&& 31).toUInt32).toInt32) &&& (255 : Int32))) + (p3 &&& (255 : Int32)))), .val (.int (((p3.toUInt32 >>> ((8 : Int32) &&& 31).toUInt32).toInt32) &&& (3 : Int32))), .unset, .unset, .unset, .unset, .unset, .unset] [(.int p4), (.int ((p1 &&& (2097151 : Int32)) - (4 : Int32)))]))
    refine go (fun _ => XS.sipush X0.here hx rfl (hb hby at_96)) ?_
    show Go _ p e below s _ _ _ (s₁.setTop (mkF m 99 #[.val (.int p1), .val (.int p2), .val (.int p3), .val (.int p4), .val (.int p5), .val (.int (p1 &&& (2097151 : Int32))), .val (.int ((p1 &&& (2097151 : Int32)) + (p2 &&& (255 : Int32)))), .val (.int ((((p1 &&& (2097151 : Int32)) + (p2 &&& (255 : Int32))) + (2 : Int32)) + (((p2.toUInt32 >>> ((8 : Int32) &&& 31).toUInt32).toInt32) &&& (255 : Int32)))), .val (.int (((((p1 &&& (2097151 : Int32)) + (p2 &&& (255 : Int32))) + (2 : Int32)) + (((p2.toUInt32 >>> ((8 : Int32) &&& 31).toUInt32).toInt32) &&& (255 : Int32))) + (((p2.toUInt32 >>> ((16 : Int32) &&& 31).toUInt32).toInt32) &&& (255 : Int32)))), .val (.int (((((((p1 &&& (2097151 : Int32)) + (p2 &&& (255 : Int32))) + (2 : Int32)) + (((p2.toUInt32 >>> ((8 : Int32) &&& 31).toUInt32).toInt32) &&& (255 : Int32))) + (((p2.toUInt32 >>> ((16 : Int32) &&& 31).toUInt32).toInt32) &&& (255 : Int32))) + (2 : Int32)) + (((p2.toUInt32 >>> ((24 : Int32) &&& 31).toUInt32).toInt32) &&& (255 : Int32)))), .val (.int ((((((((p1 &&& (2097151 : Int32)) + (p2 &&& (255 : Int32))) + (2 : Int32)) + (((p2.toUInt32 >>> ((8 : Int32) &&& 31).toUInt32).toInt32) &&& (255 : Int32))) + (((p2.toUInt32 >>> ((16 : Int32) &&& 31).toUInt32).toInt32) &&& (255 : Int32))) + (2 : Int32)) + (((p2.toUInt32 >>> ((24 : Int32) &&& 31).toUInt32).toInt32) &&& (255 : Int32))) + (p3 &&& (255 : Int32)))), .val (.int (((p3.toUInt32 >>> ((8 : Int32) &&& 31).toUInt32).toInt32) &&& (3 : Int32))), .unset, .unset, .unset, .unset, .unset, .unset] [(.int (2047 : Int32)), (.int p4), (.int ((p1 &&& (2097151 : Int32)) - (4 : Int32)))]))
    refine go (fun _ => XS.iand X0.here hx rfl (hb hby at_99) rfl) ?_
    show Go _ p e below s _ _ _ (s₁.setTop (mkF m 100 #[.val (.int p1), .val (.int p2), .val (.int p3), .val (.int p4), .val (.int p5), .val (.int (p1 &&& (2097151 : Int32))), .val (.int ((p1 &&& (2097151 : Int32)) + (p2 &&& (255 : Int32)))), .val (.int ((((p1 &&& (2097151 : Int32)) + (p2 &&& (255 : Int32))) + (2 : Int32)) + (((p2.toUInt32 >>> ((8 : Int32) &&& 31).toUInt32).toInt32) &&& (255 : Int32)))), .val (.int (((((p1 &&& (2097151 : Int32)) + (p2 &&& (255 : Int32))) + (2 : Int32)) + (((p2.toUInt32 >>> ((8 : Int32) &&& 31).toUInt32).toInt32) &&& (255 : Int32))) + (((p2.toUInt32 >>> ((16 : Int32) &&& 31).toUInt32).toInt32) &&& (255 : Int32)))), .val (.int (((((((p1 &&& (2097151 : Int32)) + (p2 &&& (255 : Int32))) + (2 : Int32)) + (((p2.toUInt32 >>> ((8 : Int32) &&& 31).toUInt32).toInt32) &&& (255 : Int32))) + (((p2.toUInt32 >>> ((16 : Int32) &&& 31).toUInt32).toInt32) &&& (255 : Int32))) + (2 : Int32)) + (((p2.toUInt32 >>> ((24 : Int32) &&& 31).toUInt32).toInt32) &&& (255 : Int32)))), .val (.int ((((((((p1 &&& (2097151 : Int32)) + (p2 &&& (255 : Int32))) + (2 : Int32)) + (((p2.toUInt32 >>> ((8 : Int32) &&& 31).toUInt32).toInt32) &&& (255 : Int32))) + (((p2.toUInt32 >>> ((16 : Int32) &&& 31).toUInt32).toInt32) &&& (255 : Int32))) + (2 : Int32)) + (((p2.toUInt32 >>> ((24 : Int32) &&& 31).toUInt32).toInt32) &&& (255 : Int32))) + (p3 &&& (255 : Int32)))), .val (.int (((p3.toUInt32 >>> ((8 : Int32) &&& 31).toUInt32).toInt32) &&& (3 : Int32))), .unset, .unset, .unset, .unset, .unset, .unset] [(.int (p4 &&& (2047 : Int32))), (.int ((p1 &&& (2097151 : Int32)) - (4 : Int32)))]))
    refine go (fun _ => XS.iadd X0.here hx rfl (hb hby at_100) rfl) ?_
    show Go _ p e below s _ _ _ (s₁.setTop (mkF m 101 #[.val (.int p1), .val (.int p2), .val (.int p3), .val (.int p4), .val (.int p5), .val (.int (p1 &&& (2097151 : Int32))), .val (.int ((p1 &&& (2097151 : Int32)) + (p2 &&& (255 : Int32)))), .val (.int ((((p1 &&& (2097151 : Int32)) + (p2 &&& (255 : Int32))) + (2 : Int32)) + (((p2.toUInt32 >>> ((8 : Int32) &&& 31).toUInt32).toInt32) &&& (255 : Int32)))), .val (.int (((((p1 &&& (2097151 : Int32)) + (p2 &&& (255 : Int32))) + (2 : Int32)) + (((p2.toUInt32 >>> ((8 : Int32) &&& 31).toUInt32).toInt32) &&& (255 : Int32))) + (((p2.toUInt32 >>> ((16 : Int32) &&& 31).toUInt32).toInt32) &&& (255 : Int32)))), .val (.int (((((((p1 &&& (2097151 : Int32)) + (p2 &&& (255 : Int32))) + (2 : Int32)) + (((p2.toUInt32 >>> ((8 : Int32) &&& 31).toUInt32).toInt32) &&& (255 : Int32))) + (((p2.toUInt32 >>> ((16 : Int32) &&& 31).toUInt32).toInt32) &&& (255 : Int32))) + (2 : Int32)) + (((p2.toUInt32 >>> ((24 : Int32) &&& 31).toUInt32).toInt32) &&& (255 : Int32)))), .val (.int ((((((((p1 &&& (2097151 : Int32)) + (p2 &&& (255 : Int32))) + (2 : Int32)) + (((p2.toUInt32 >>> ((8 : Int32) &&& 31).toUInt32).toInt32) &&& (255 : Int32))) + (((p2.toUInt32 >>> ((16 : Int32) &&& 31).toUInt32).toInt32) &&& (255 : Int32))) + (2 : Int32)) + (((p2.toUInt32 >>> ((24 : Int32) &&& 31).toUInt32).toInt32) &&& (255 : Int32))) + (p3 &&& (255 : Int32)))), .val (.int (((p3.toUInt32 >>> ((8 : Int32) &&& 31).toUInt32).toInt32) &&& (3 : Int32))), .unset, .unset, .unset, .unset, .unset, .unset] [(.int (((p1 &&& (2097151 : Int32)) - (4 : Int32)) + (p4 &&& (2047 : Int32))))]))
    exact J1 _ _ _ _ _ _ _ _ (own_ord (by rw [Jvm.Kit.i32_mask _ 2097151 (k := 21) (by decide) (by decide)]; omega) (own_b0 _) (own_b _ _) (own_b _ _) (own_b _ _) (own_b0 _)) (own_k _)
  · refine go (fun _ => XS.ifNo X0.here hx rfl (hb hby at_83) rfl ((if0 _ _).trans (feq hc83_107).1)) ?_
    show Go _ p e below s _ _ _ (s₁.setTop (mkF m 86 #[.val (.int p1), .val (.int p2), .val (.int p3), .val (.int p4), .val (.int p5), .val (.int (p1 &&& (2097151 : Int32))), .val (.int ((p1 &&& (2097151 : Int32)) + (p2 &&& (255 : Int32)))), .val (.int ((((p1 &&& (2097151 : Int32)) + (p2 &&& (255 : Int32))) + (2 : Int32)) + (((p2.toUInt32 >>> ((8 : Int32) &&& 31).toUInt32).toInt32) &&& (255 : Int32)))), .val (.int (((((p1 &&& (2097151 : Int32)) + (p2 &&& (255 : Int32))) + (2 : Int32)) + (((p2.toUInt32 >>> ((8 : Int32) &&& 31).toUInt32).toInt32) &&& (255 : Int32))) + (((p2.toUInt32 >>> ((16 : Int32) &&& 31).toUInt32).toInt32) &&& (255 : Int32)))), .val (.int (((((((p1 &&& (2097151 : Int32)) + (p2 &&& (255 : Int32))) + (2 : Int32)) + (((p2.toUInt32 >>> ((8 : Int32) &&& 31).toUInt32).toInt32) &&& (255 : Int32))) + (((p2.toUInt32 >>> ((16 : Int32) &&& 31).toUInt32).toInt32) &&& (255 : Int32))) + (2 : Int32)) + (((p2.toUInt32 >>> ((24 : Int32) &&& 31).toUInt32).toInt32) &&& (255 : Int32)))), .val (.int ((((((((p1 &&& (2097151 : Int32)) + (p2 &&& (255 : Int32))) + (2 : Int32)) + (((p2.toUInt32 >>> ((8 : Int32) &&& 31).toUInt32).toInt32) &&& (255 : Int32))) + (((p2.toUInt32 >>> ((16 : Int32) &&& 31).toUInt32).toInt32) &&& (255 : Int32))) + (2 : Int32)) + (((p2.toUInt32 >>> ((24 : Int32) &&& 31).toUInt32).toInt32) &&& (255 : Int32))) + (p3 &&& (255 : Int32)))), .val (.int (((p3.toUInt32 >>> ((8 : Int32) &&& 31).toUInt32).toInt32) &&& (3 : Int32))), .unset, .unset, .unset, .unset, .unset, .unset] []))
    refine go (fun _ => XS.iload X0.here hx rfl (hb hby at_86) rfl) ?_
    show Go _ p e below s _ _ _ (s₁.setTop (mkF m 88 #[.val (.int p1), .val (.int p2), .val (.int p3), .val (.int p4), .val (.int p5), .val (.int (p1 &&& (2097151 : Int32))), .val (.int ((p1 &&& (2097151 : Int32)) + (p2 &&& (255 : Int32)))), .val (.int ((((p1 &&& (2097151 : Int32)) + (p2 &&& (255 : Int32))) + (2 : Int32)) + (((p2.toUInt32 >>> ((8 : Int32) &&& 31).toUInt32).toInt32) &&& (255 : Int32)))), .val (.int (((((p1 &&& (2097151 : Int32)) + (p2 &&& (255 : Int32))) + (2 : Int32)) + (((p2.toUInt32 >>> ((8 : Int32) &&& 31).toUInt32).toInt32) &&& (255 : Int32))) + (((p2.toUInt32 >>> ((16 : Int32) &&& 31).toUInt32).toInt32) &&& (255 : Int32)))), .val (.int (((((((p1 &&& (2097151 : Int32)) + (p2 &&& (255 : Int32))) + (2 : Int32)) + (((p2.toUInt32 >>> ((8 : Int32) &&& 31).toUInt32).toInt32) &&& (255 : Int32))) + (((p2.toUInt32 >>> ((16 : Int32) &&& 31).toUInt32).toInt32) &&& (255 : Int32))) + (2 : Int32)) + (((p2.toUInt32 >>> ((24 : Int32) &&& 31).toUInt32).toInt32) &&& (255 : Int32)))), .val (.int ((((((((p1 &&& (2097151 : Int32)) + (p2 &&& (255 : Int32))) + (2 : Int32)) + (((p2.toUInt32 >>> ((8 : Int32) &&& 31).toUInt32).toInt32) &&& (255 : Int32))) + (((p2.toUInt32 >>> ((16 : Int32) &&& 31).toUInt32).toInt32) &&& (255 : Int32))) + (2 : Int32)) + (((p2.toUInt32 >>> ((24 : Int32) &&& 31).toUInt32).toInt32) &&& (255 : Int32))) + (p3 &&& (255 : Int32)))), .val (.int (((p3.toUInt32 >>> ((8 : Int32) &&& 31).toUInt32).toInt32) &&& (3 : Int32))), .unset, .unset, .unset, .unset, .unset, .unset] [(.int p5)]))
    refine go (fun _ => XS.goto X0.here hx rfl (pc0 := 88) (pc' := 101) rfl (hb hby at_88) (by decide) (by decide)) ?_
    show Go _ p e below s _ _ _ (s₁.setTop (mkF m 101 #[.val (.int p1), .val (.int p2), .val (.int p3), .val (.int p4), .val (.int p5), .val (.int (p1 &&& (2097151 : Int32))), .val (.int ((p1 &&& (2097151 : Int32)) + (p2 &&& (255 : Int32)))), .val (.int ((((p1 &&& (2097151 : Int32)) + (p2 &&& (255 : Int32))) + (2 : Int32)) + (((p2.toUInt32 >>> ((8 : Int32) &&& 31).toUInt32).toInt32) &&& (255 : Int32)))), .val (.int (((((p1 &&& (2097151 : Int32)) + (p2 &&& (255 : Int32))) + (2 : Int32)) + (((p2.toUInt32 >>> ((8 : Int32) &&& 31).toUInt32).toInt32) &&& (255 : Int32))) + (((p2.toUInt32 >>> ((16 : Int32) &&& 31).toUInt32).toInt32) &&& (255 : Int32)))), .val (.int (((((((p1 &&& (2097151 : Int32)) + (p2 &&& (255 : Int32))) + (2 : Int32)) + (((p2.toUInt32 >>> ((8 : Int32) &&& 31).toUInt32).toInt32) &&& (255 : Int32))) + (((p2.toUInt32 >>> ((16 : Int32) &&& 31).toUInt32).toInt32) &&& (255 : Int32))) + (2 : Int32)) + (((p2.toUInt32 >>> ((24 : Int32) &&& 31).toUInt32).toInt32) &&& (255 : Int32)))), .val (.int ((((((((p1 &&& (2097151 : Int32)) + (p2 &&& (255 : Int32))) + (2 : Int32)) + (((p2.toUInt32 >>> ((8 : Int32) &&& 31).toUInt32).toInt32) &&& (255 : Int32))) + (((p2.toUInt32 >>> ((16 : Int32) &&& 31).toUInt32).toInt32) &&& (255 : Int32))) + (2 : Int32)) + (((p2.toUInt32 >>> ((24 : Int32) &&& 31).toUInt32).toInt32) &&& (255 : Int32))) + (p3 &&& (255 : Int32)))), .val (.int (((p3.toUInt32 >>> ((8 : Int32) &&& 31).toUInt32).toInt32) &&& (3 : Int32))), .unset, .unset, .unset, .unset, .unset, .unset] [(.int p5)]))
    exact J1 _ _ _ _ _ _ _ _ (own_ord (by rw [Jvm.Kit.i32_mask _ 2097151 (k := 21) (by decide) (by decide)]; omega) (own_b0 _) (own_b _ _) (own_b _ _) (own_b _ _) (own_b0 _)) (own_k _)
set_option maxRecDepth 65536 in
set_option maxHeartbeats 40000000 in
theorem comes_1 {Post : Tables → Env → Array Value → State → Outcome → State → Prop} (hpost : ∀ tb e args s v u, (limb_1_1.after args s (.returned v) u = true ∧ limb_1_2.after args s (.returned v) u = true ∧ True) → FrameEnd s (.returned v) u (Jvm.fieldLocs frame_1_writes args s ++ Jvm.arrayLocs frame_1_arrays args s ++ Jvm.staticLocs frame_1_statics s) 16 128 → Post tb e args s (.returned v) u) :
    ArmFor flags0 classFile x code maxLocals ret World_1 tables_1 room_1 Calls_1 rest_1 Pre_1 Post := by
  intro l hfl _ _ p e ha hc hk s m args below hf hA hF happ hP
  obtain ⟨hcalls, hrest, hpre⟩ := hP
  obtain ⟨-, -, -, hnamed, -, -, -, hat⟩ := (Spec.applies_iff hf).mp happ
  obtain ⟨hg, hn⟩ := and_e (Cond.before_iff.mp (show (Jvm.Cond.and given_1 narrow_1).before args s = true from hpre))
  obtain ⟨q0, r0⟩ := and_e hg
  obtain ⟨q1, r1⟩ := and_e r0
  obtain ⟨q2, r2⟩ := and_e r1
  obtain ⟨q3, r3⟩ := and_e r2
  obtain ⟨q4, r4⟩ := and_e r3
  obtain ⟨w0, w1, w2, w3, w4, rfl⟩ : ∃ w0 w1 w2 w3 w4 : Value, args = #[w0, w1, w2, w3, w4] := by
    have hs : args.size = 5 := by simpa [Cond.value, given_1] using q0
    obtain ⟨L⟩ := args
    match L, hs with
    | [w0, w1, w2, w3, w4], _ => exact ⟨w0, w1, w2, w3, w4, rfl⟩
  have hw := fun d (hd : d ∈ tables_1) => atoms_spec (ws := Jvm.Cond.code x code maxLocals ret :: tables_1) hat d (List.mem_cons_of_mem _ hd)
  have hfit : Fit s := fun {y c} hc i hi => by
    obtain ⟨ha, rfl⟩ := Array.getElem?_eq_some_iff.mp hc
    have q := List.all_eq_true.mp ((Array.all_eq_true_iff_forall_mem.mp hF) _ (Array.getElem_mem ha)) i (List.mem_range.mpr hi)
    simpa [Array.getElem?_eq_getElem hi] using q
  obtain ⟨i0, ei0⟩ := is_v q1
  obtain rfl : w0 = (.int i0) := Option.some.inj ei0
  obtain ⟨i1, ei1⟩ := is_v q2
  obtain rfl : w1 = (.int i1) := Option.some.inj ei1
  obtain ⟨i2, ei2⟩ := is_v q3
  obtain rfl : w2 = (.int i2) := Option.some.inj ei2
  obtain ⟨i3, ei3⟩ := is_v q4
  obtain rfl : w3 = (.int i3) := Option.some.inj ei3
  obtain ⟨i4, ei4⟩ := is_v r4
  obtain rfl : w4 = (.int i4) := Option.some.inj ei4
  obtain ⟨n, o, h1, h2, h3, _, L, rfl, ⟨rfl, N⟩, hq⟩ := rm0 l s _ hw tables_1 i0 i1 i2 i3 i4  s.heap s.heap.size (Nat.le_refl _)  p e ha hc hk s m _ below hf ((Spec.applies_iff_loose hf).mp happ).1 ⟨rfl, State.Warmed39.refl s, rfl⟩ trivial
  refine ⟨n, _, h1, h2, h3, hpost _ _ _ _ _ _ ⟨Cond.after_iff.mpr rfl, Cond.after_iff.mpr (eq_i res_at (Term.int_eval (1)) rfl), trivial⟩ ⟨hq.1, hq.2.1, (hq.2.2.sift fun y hy => Or.inr (N y hy)).mono (by decide) (by decide)⟩⟩
theorem main_1_1 : Claimed_1_1 := comes_1 fun _ _ _ _ _ _ h hF => ⟨h.1, hF⟩
theorem main_1_2 : Claimed_1_2 := comes_1 fun _ _ _ _ _ _ h hF => ⟨h.2.1, hF⟩
end Jvm.Pilot.@@N@@
namespace Jvm.Pilot.@@N@@
open Jvm Jvm.ClassFile Sem Op Lib Jvm.Free Jvm.Stand Jvm.Pilot.@@N@@.Jvm.D
/-! MADE BY PROGRAM (witnessworld.py) out of the Statement's table words and the real class files: 9 classes; the members and pool entries that the words name. The judged class is class 1, her method 1. -/
namespace start1
open Jvm.ClassFile
def u (s : String) : CpInfo := .utf8 (stringToUtf16 s)
/-- a pool by its gaps: so many unusable entries, then the entry; so many at the end -/
def gap : Nat → List CpInfo → List CpInfo
  | 0, r => r
  | n + 1, r => .unusable :: gap n r
def poolList (es : List (Nat × CpInfo)) (last : Nat) : List CpInfo := es.foldr (fun e r => gap e.1 (e.2 :: r)) (gap last [])
def pool (es : List (Nat × CpInfo)) (last : Nat) : Array CpInfo := ⟨poolList es last⟩
def fileOf (pool : Array CpInfo) (this : Nat) (attrs : Array Attribute := #[]) (ms : Array MethodInfo := #[]) (fl : Nat := 33) (sup : Nat := 0) (ifs : Array Nat := #[]) (fds : Array FieldInfo := #[]) : ClassFile where
  minorVersion := 0
  majorVersion := 65
  constantPool := pool
  accessFlags := fl
  thisClass := this
  superClass := sup
  interfaces := ifs
  fields := fds
  methods := ms
  attributes := attrs
def plain (name : String) (sup : Option ClassId) : Class where
  name := name
  kind := .ordinary
  loader := none
  accessFlags := 33
  super := sup
  interfaces := #[]
  cf := none
  fields := #[]
  methods := #[]
  instanceTypes := #[]
  staticTypes := #[]
  resolved := #[]
  callSites := []
  init := .initialized
  statics := none
  mirror := none

def pool0 : Array CpInfo := pool [(5, u "<init>"), (0, u "()V"), (1, .class_ 10), (1, u "java/lang/Object")] 113

def k0m0 : Method := { name := "<init>", desc := "()V", sig := { parameters := [], returnType := none }, accessFlags := 1, code := none }
/-- java/lang/Object -/
def k0 : Class := { plain "java/lang/Object" none with
  accessFlags := 33
  interfaces := #[]
  cf := some (fileOf pool0 8 #[] #[{ accessFlags := 1, nameIndex := 5, descriptorIndex := 6, attributes := #[] }] 33 0 #[] #[])
  fields := #[]
  methods := #[k0m0]
  instanceTypes := #[]
  staticTypes := #[]
  resolved := Array.replicate 124 none
  statics := none }

def pool1 : Array CpInfo := pool [(2, .class_ 4), (1, u "java/lang/Object"), (0, u "<init>"), (0, u "()V"), (0, .integer 2097151), (0, .methodref 9 10), (0, .class_ 11), (0, .nameAndType 12 13), (0, u "com/example/raccordo/raccordo/flow/PatternSyntax"), (0, u "holds"), (0, u "([II)Z"), (0, .class_ 15), (0, u "com/example/raccordo/raccordo/flow/PatternSyntaxHoldsPinLaw"), (2, u "law"), (0, u "(IIIII)Z")] 5

def k1m0 : Method := { name := "<init>", desc := "()V", sig := { parameters := [], returnType := none }, accessFlags := 1, code := none }
def k1c1 : Code := { maxStack := 4, maxLocals := 18, code := code, exceptionTable := #[], attributes := #[] }
def k1m1 : Method := { name := "law", desc := "(IIIII)Z", sig := { parameters := [.int, .int, .int, .int, .int], returnType := some .boolean }, accessFlags := 9, code := some k1c1 }
/-- com/example/raccordo/raccordo/flow/PatternSyntaxHoldsPinLaw -/
def k1 : Class := { plain "com/example/raccordo/raccordo/flow/PatternSyntaxHoldsPinLaw" (some 0) with
  accessFlags := 49
  interfaces := #[]
  cf := some (fileOf pool1 14 #[] #[{ accessFlags := 1, nameIndex := 5, descriptorIndex := 6, attributes := #[] }, { accessFlags := 9, nameIndex := 18, descriptorIndex := 19, attributes := #[] }] 49 2 #[] #[])
  fields := #[]
  methods := #[k1m0, k1m1]
  instanceTypes := #[]
  staticTypes := #[]
  resolved := Array.replicate 25 none
  statics := none }

def pool2 : Array CpInfo := pool [(4, .class_ 6), (1, u "java/lang/Object"), (3, .class_ 12), (1, u "com/example/raccordo/raccordo/flow/PatternSyntax"), (0, u "regex"), (0, u "Ljava/lang/String;"), (9, u "at"), (0, u "I"), (47, .class_ 74), (0, u "com/example/raccordo/raccordo/flow/PatternSyntax$Node"), (0, .class_ 76), (0, u "com/example/raccordo/raccordo/flow/PatternSyntax$Choice"), (10, .class_ 88), (0, u "com/example/raccordo/raccordo/flow/PatternSyntax$Sequence"), (11, .class_ 101), (0, u "com/example/raccordo/raccordo/flow/PatternSyntax$Chars"), (9, u "LINE_ENDS"), (0, u "[I"), (25, .class_ 139), (0, u "com/example/raccordo/raccordo/flow/PatternSyntax$Group"), (6, .class_ 147), (0, u "com/example/raccordo/raccordo/flow/PatternSyntax$Repeat"), (41, u "CLASS_ESCAPES"), (0, u "Ljava/util/Map;"), (70, u "DIGITS"), (2, u "SPACES"), (2, u "WORD"), (4, u "CODE_POINTS"), (3, u "NESTED_CLASS"), (5, u "holds"), (0, u "([II)Z")] 46

def k2c0 : Code := { maxStack := 4, maxLocals := 3, code := prog_20_method_4_code, exceptionTable := #[], attributes := #[] }
def k2m0 : Method := { name := "holds", desc := "([II)Z", sig := { parameters := [(.array .int), .int], returnType := some .boolean }, accessFlags := 8, code := some k2c0 }
/-- com/example/raccordo/raccordo/flow/PatternSyntax -/
def k2 : Class := { plain "com/example/raccordo/raccordo/flow/PatternSyntax" (some 0) with
  accessFlags := 48
  interfaces := #[]
  cf := some (fileOf pool2 10 #[.nestMembers #[138, 146, 75, 87, 100, 73]] #[{ accessFlags := 8, nameIndex := 282, descriptorIndex := 283, attributes := #[] }] 48 4 #[] #[{ accessFlags := 24, nameIndex := 272, descriptorIndex := 25, attributes := #[] }, { accessFlags := 26, nameIndex := 261, descriptorIndex := 112, attributes := #[] }, { accessFlags := 26, nameIndex := 264, descriptorIndex := 112, attributes := #[] }, { accessFlags := 26, nameIndex := 267, descriptorIndex := 112, attributes := #[] }, { accessFlags := 26, nameIndex := 189, descriptorIndex := 190, attributes := #[] }, { accessFlags := 26, nameIndex := 111, descriptorIndex := 112, attributes := #[] }, { accessFlags := 26, nameIndex := 276, descriptorIndex := 14, attributes := #[] }, { accessFlags := 18, nameIndex := 13, descriptorIndex := 14, attributes := #[] }, { accessFlags := 2, nameIndex := 24, descriptorIndex := 25, attributes := #[] }])
  fields := #[{ name := "CODE_POINTS", type := .int, accessFlags := 24, slot := 0, constantValue := 0 }, { name := "DIGITS", type := (.array .int), accessFlags := 26, slot := 1, constantValue := 0 }, { name := "SPACES", type := (.array .int), accessFlags := 26, slot := 2, constantValue := 0 }, { name := "WORD", type := (.array .int), accessFlags := 26, slot := 3, constantValue := 0 }, { name := "CLASS_ESCAPES", type := (.object "java/util/Map"), accessFlags := 26, slot := 4, constantValue := 0 }, { name := "LINE_ENDS", type := (.array .int), accessFlags := 26, slot := 5, constantValue := 0 }, { name := "NESTED_CLASS", type := (.object "java/lang/String"), accessFlags := 26, slot := 6, constantValue := 0 }, { name := "regex", type := (.object "java/lang/String"), accessFlags := 18, slot := 0, constantValue := 0 }, { name := "at", type := .int, accessFlags := 2, slot := 1, constantValue := 0 }]
  methods := #[k2m0]
  instanceTypes := #[(.object "java/lang/String"), .int]
  staticTypes := #[.int, (.array .int), (.array .int), (.array .int), (.object "java/util/Map"), (.array .int), (.object "java/lang/String")]
  resolved := Array.replicate 330 none
  statics := none }

def pool3 : Array CpInfo := pool [(1, u "java/lang/Cloneable"), (0, .class_ 1), (0, u "java/lang/Object"), (0, .class_ 3)] 3

/-- java/lang/Cloneable -/
def k3 : Class := { plain "java/lang/Cloneable" (some 0) with
  accessFlags := 1537
  interfaces := #[]
  cf := some (fileOf pool3 2 #[] #[] 1537 4 #[] #[])
  fields := #[]
  methods := #[]
  instanceTypes := #[]
  staticTypes := #[]
  resolved := Array.replicate 8 none
  statics := none }

def pool4 : Array CpInfo := pool [(1, u "java/io/Serializable"), (0, .class_ 1), (0, u "java/lang/Object"), (0, .class_ 3)] 3

/-- java/io/Serializable -/
def k4 : Class := { plain "java/io/Serializable" (some 0) with
  accessFlags := 1537
  interfaces := #[]
  cf := some (fileOf pool4 2 #[] #[] 1537 4 #[] #[])
  fields := #[]
  methods := #[]
  instanceTypes := #[]
  staticTypes := #[]
  resolved := Array.replicate 8 none
  statics := none }

/-- the primitive byte -/
def k5 : Class := { plain "byte" none with kind := .primitive 'B', accessFlags := 0x411 }
/-- [B -/
def k6 : Class := { plain "[B" (some 0) with kind := .array 5 .byte, interfaces := #[3, 4], accessFlags := 1041 }

/-- the primitive int -/
def k7 : Class := { plain "int" none with kind := .primitive 'I', accessFlags := 0x411 }
/-- [I -/
def k8 : Class := { plain "[I" (some 0) with kind := .array 7 .int, interfaces := #[3, 4], accessFlags := 1041 }

def heap : Heap := #[]
def classes : Array Class := #[k0, k1, k2, k3, k4, k5, k6, k7, k8]
def interned : List (Array UInt16 × Addr) := []
def slotsUsed : Nat := 0
def theMethod : MethodId := ⟨1, 1⟩
def args0 : Array Value := #[.int 5, .int 7, .int (-3), .int 4, .int 9]
def aboutOver (below : List Frame) : State where
  vm := { classes := classes, interned := interned.toArray }
  heap := heap
  slotsUsed := slotsUsed
  threads := #[{ frames := .invoking theMethod args0 :: below }]
def below0 : List Frame := [.native { method := ⟨0, 0⟩, args := #[] }]
def about1 : State := aboutOver below0
def p0 : Program := .bare "" "" ""
def e0 : Env := launch0.env 0 0 0
theorem w_frames : about1.frames = Frame.invoking theMethod args0 :: below0 := rfl
set_option maxRecDepth 65536 in
theorem w_args : argsFit about1.vm theMethod args0 = true := by decide +kernel
set_option maxRecDepth 65536 in
theorem w_heap : heapFits about1 = true := by decide +kernel
set_option maxRecDepth 65536 in
theorem w_runnable : about1.curStatus? = some .runnable := by decide +kernel
set_option maxRecDepth 65536 in
theorem w_alone : about1.alone = true := by decide +kernel
set_option maxRecDepth 65536 in
theorem w_named : about1.methodNamed? x = some theMethod := by decide +kernel
set_option maxRecDepth 65536 in
theorem w_hears : about1.hears theMethod below0 = true := by decide +kernel
set_option maxRecDepth 65536 in
theorem w_ripe : about1.ripe theMethod args0 below0 = true := by decide +kernel
theorem w_running : about1.status = .running := rfl
set_option maxRecDepth 65536 in
theorem w_room : about1.hasRoom e0.platform room_1 = true :=
  launch0.hasRoom_least _ room_1 (by decide +kernel) (by decide +kernel) (by decide +kernel) (by decide +kernel) (by decide +kernel) (by decide +kernel)
theorem allAtoms_all (ts : List Jvm.Cond) (a : Array Jvm.Value) (st : Jvm.State) : (allAtoms ts).before a st = ts.all (fun c => c.before a st) := by
  induction ts with
  | nil => rfl
  | cons c t ih =>
    show (Jvm.Cond.and c (allAtoms t)).before a st = _
    rw [Jvm.Cond.before_and, ih, List.all_cons]
def words1 : List Jvm.Cond := Jvm.Cond.code x code maxLocals ret :: tables_1
/-- a 'code' word, met by the world's own term for the bytes: nothing is compared byte by byte -/
theorem code_word {y : MethodName} {bytes : ByteArray} {mx : Nat} {rt : Option FieldType} {a : Array Value} {s : State} {m : MethodId} {meth : Method} {c : Code} (h1 : s.methodNamed? y = some m) (h2 : s.vm.method? m = some meth) (h3 : meth.code = some c) (h4 : c.code = bytes)
    (h5 : (c.maxLocals == mx && c.exceptionTable.isEmpty && decide (c.maxStack ≤ mostOperands) && decide (meth.sig.returnType = rt) && !meth.locks && decide (parseMethodDescriptor y.desc = some meth.sig)) = true) : (Jvm.Cond.code y bytes mx rt).before a s = true := by
  simp only [Bool.and_eq_true, beq_iff_eq, Bool.not_eq_true', decide_eq_true_eq] at h5
  obtain ⟨⟨⟨⟨⟨g1, g2⟩, g3⟩, g4⟩, g5⟩, g6⟩ := h5
  simp [Cond.before, Cond.holds, Cond.value, h1, h2, h3, h4, g1, g2, g3, g4, g5, g6]
def isCode : Jvm.Cond → Bool
  | .code _ _ _ _ => true
  | _ => false
theorem all_split {L : List Jvm.Cond} {P : Jvm.Cond → Bool} (h1 : L.all (fun c => isCode c || P c) = true) (h2 : ∀ c ∈ L.filter isCode, P c = true) : L.all P = true := by
  refine List.all_eq_true.mpr fun c hc => ?_
  have h := List.all_eq_true.mp h1 c hc
  rcases Bool.eq_false_or_eq_true (isCode c) with hi | hi
  · exact h2 c (List.mem_filter.mpr ⟨hc, hi⟩)
  · simpa [hi] using h
set_option maxRecDepth 65536 in
theorem w_c0 : (Jvm.Cond.code x code maxLocals ret).before args0 about1 = true := code_word (m := ⟨1, 1⟩) (meth := k1m1) (c := k1c1) (by decide +kernel) rfl rfl rfl (by decide +kernel)
set_option maxRecDepth 65536 in
theorem w_c1 : (Jvm.Cond.code ({ cls := "com/example/raccordo/raccordo/flow/PatternSyntax", name := "holds", desc := "([II)Z" } : Jvm.MethodName) prog_20_method_4_code (3 : Nat) (Option.some Jvm.ClassFile.FieldType.boolean)).before args0 about1 = true := code_word (m := ⟨2, 0⟩) (meth := k2m0) (c := k2c0) (by decide +kernel) rfl rfl rfl (by decide +kernel)
def codes1 : List Jvm.Cond := [Jvm.Cond.code x code maxLocals ret, Jvm.Cond.code ({ cls := "com/example/raccordo/raccordo/flow/PatternSyntax", name := "holds", desc := "([II)Z" } : Jvm.MethodName) prog_20_method_4_code (3 : Nat) (Option.some Jvm.ClassFile.FieldType.boolean)]
set_option maxRecDepth 65536 in
theorem codes_eq : words1.filter isCode = codes1 := rfl
theorem w_codes : ∀ c ∈ words1.filter isCode, c.before args0 about1 = true := by
  rw [codes_eq]
  intro c hc
  simp only [codes1, List.mem_cons, List.not_mem_nil, or_false] at hc
  rcases hc with rfl | rfl
  · exact w_c0
  · exact w_c1
set_option maxRecDepth 65536 in
theorem w_t1 : words1.all (fun c => isCode c || c.before args0 about1) = true := by decide +kernel
theorem w_tables : (allAtoms (Jvm.Cond.code x code maxLocals ret :: tables_1)).before args0 about1 = true := by
  rw [allAtoms_all]
  show words1.all (fun c => c.before args0 about1) = true
  refine all_split ?_ w_codes
  rw [w_t1]
set_option maxRecDepth 65536 in
theorem w_case : (Jvm.Cond.and given_1 narrow_1).before args0 about1 = true := by decide +kernel
theorem w_applies : (headSpec (Jvm.Cond.code x code maxLocals ret :: tables_1) room_1).applies x e0.platform about1 = true :=
  (Spec.applies_iff w_frames).mpr ⟨w_running, w_runnable, w_alone, w_named, w_hears, w_ripe, w_room, w_tables⟩
theorem atStart : AtStart classFile x code maxLocals ret World_1 tables_1 room_1 Calls_1 rest_1 Pre_1 launch0 p0 e0 about1 theMethod args0 below0 :=
  ⟨lists_1, trivial, launch0.admits_env _ _ _, launch0.least_env, fairChoices_fair.cas, fairChoices_fair.clock, w_frames, w_args, w_heap, w_applies, trivial, trivial, w_case⟩
end start1
theorem witness_1 : WitnessClaimed_1 := ⟨start1.p0, start1.e0, start1.about1, start1.theMethod, start1.args0, start1.below0, start1.atStart⟩
end Jvm.Pilot.@@N@@
