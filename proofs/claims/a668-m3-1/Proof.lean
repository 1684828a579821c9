import JvmDerived
import JvmDerived.Pilot.@@N@@Statement
import JvmDerived.Pilot.@@N@@Code
set_option linter.unusedVariables false
set_option linter.unusedSimpArgs false
@@BLOCK:NumsL.lean.txt@@
namespace Jvm.Pilot.@@N@@
open Jvm Jvm.ClassFile Sem Op Lib Jvm.Free Jvm.Stand Jvm.LawKit Jvm.RoadKit Bundle Jvm.Pilot.@@N@@.Jvm.D
section Own
variable {p : Program} {l : Launch} {e : Env} {R : Room} {s : State} {m : MethodId} {args : Array Value} {below : List Frame} {meth : Method} {c : Code} {T : State} {locs : List Loc} {cells slots : Nat}
/-- the walk from the state t ends as the contract Q says; End: the narrow frame or the wide one -/
def Go (End : State → Outcome → State → List Loc → Nat → Nat → Prop) (p : Program) (e : Env) (below : List Frame) (s : State) (rc rs : Nat) (Q : Option Value → Heap → List Loc → Prop) (t : State) : Prop :=
  ∃ s₂ o, Steps p.tables e below t s₂ ∧ s₂.status = .running ∧ Ended s₂ below o ∧ ∃ v L, o = .returned v ∧ Q v s₂.heap L ∧ End s o s₂ L rc rs
variable {End : State → Outcome → State → List Loc → Nat → Nat → Prop}
theorem go {rc rs : Nat} {Q : Option Value → Heap → List Loc → Prop} {t t' : State} (k : ∀ target, Steps p.tables e below t' target → Steps p.tables e below t target) (h : Go End p e below s rc rs Q t') : Go End p e below s rc rs Q t := by
  obtain ⟨s₂, o, h1, h2⟩ := h
  exact ⟨s₂, o, k _ h1, h2⟩
theorem goT {rc rs : Nat} {Q : Option Value → Heap → List Loc → Prop} {t t' : State} (k : Steps p.tables e below t t') (h : Go End p e below s rc rs Q t') : Go End p e below s rc rs Q t := by
  obtain ⟨s₂, o, h1, h2⟩ := h
  exact ⟨s₂, o, k.trans h1, h2⟩
theorem goRet {rc rs : Nat} {Q : Option Value → Heap → List Loc → Prop} (X : Stand p l e R s m args below meth c T locs cells slots) (hx : p.tables.exec = Jvm.exec) (hlk : meth.locks = false) {pc : Nat} {Ls : Array Slot} {w : Value} {t : FieldType} {i : Instr} {rest : List Value} (hret : meth.sig.returnType = some t) (hn : narrow t w = w)
    (hi : (i = .ireturn ∧ (t = .int ∨ t = .boolean ∨ t = .byte ∨ t = .char ∨ t = .short) ∧ ∃ z, w = .int z) ∨ (i = .lreturn ∧ t = .long ∧ ∃ z, w = .long z) ∨ (i = .dreturn ∧ t = .double ∧ ∃ z, w = .double z) ∨ (i = .freturn ∧ t = .float ∧ ∃ z, w = .float z) ∨ (i = .areturn ∧ t.isReference = true ∧ w.isRef = true))
    (hd : decode c.code pc = .ok (i, 1)) (hc : cells ≤ rc) (hs : slots ≤ rs) (hq : Q (some w) T.heap locs) : Go FrameEnd p e below s rc rs Q (T.setTop (mkF m pc Ls (w :: rest))) := by
  obtain ⟨fs, hr, hrun, hended, hW, hsame⟩ := X.leave (v := some w) (fun h => by rw [hret] at h; cases h) hlk
  refine ⟨_, _, retOut X hx hret hn hi hd hr, hrun, hended, _, _, rfl, ?_, ⟨_, rfl⟩, hW, hsame.mono hc hs⟩
  show Q _ T.heap _
  exact hq
theorem goRet0 {rc rs : Nat} {Q : Option Value → Heap → List Loc → Prop} (X : Stand p l e R s m args below meth c T locs cells slots) (hx : p.tables.exec = Jvm.exec) (hlk : meth.locks = false) {pc : Nat} {Ls : Array Slot} (hret : meth.sig.returnType = none)
    (hd : decode c.code pc = .ok (.return_, 1)) (hc : cells ≤ rc) (hs : slots ≤ rs) (hq : Q none T.heap locs) : Go FrameEnd p e below s rc rs Q (T.setTop (mkF m pc Ls [])) := by
  obtain ⟨fs, hr, hrun, hended, hW, hsame⟩ := X.leave (v := none) (fun _ => rfl) hlk
  refine ⟨_, _, X.returnOut hx hret hd hr, hrun, hended, _, _, rfl, ?_, ⟨_, rfl⟩, hW, hsame.mono hc hs⟩
  show Q _ T.heap _
  exact hq
end Own
theorem own_nz {r : Int32} (h : ¬ r < 1) : r ≠ 0 := by rintro rfl; exact h (by decide)
theorem own_mod (b : Int32) {r : Int32} (h : ¬ r < 1) : ¬ (1 + ((b &&& 2147483647) % r)) < 1 ∧ ¬ (r < 1 + ((b &&& 2147483647) % r)) := by
  have hb := Jvm.Kit.i32_mask b 2147483647 (k := 31) (by decide) (by decide)
  have h1 : (1 : Int32).toInt = 1 := by decide
  rw [Int32.lt_iff_toInt_lt, h1] at h
  have hr := Int32.toInt_lt r
  have e1 : ((b &&& 2147483647) % r).toInt = (b &&& 2147483647).toInt % r.toInt := Jvm.Kit.i32_rem_nonneg (by rw [hb]; omega)
  have g1 := Int.emod_nonneg (b &&& 2147483647).toInt (b := r.toInt) (by omega)
  have g2 := Int.emod_lt_of_pos (b &&& 2147483647).toInt (b := r.toInt) (by omega)
  have e2 : (1 + ((b &&& 2147483647) % r)).toInt = 1 + ((b &&& 2147483647) % r).toInt := by
    rw [Jvm.Kit.i32_add (by rw [h1, e1]; omega) (by rw [h1, e1]; omega), h1]
  rw [Int32.lt_iff_toInt_lt, Int32.lt_iff_toInt_lt, e2, e1, h1]
  omega
theorem own_slack (q : Int64) : 0 ≤ ((q.toUInt64 >>> ((2 : Int32) &&& 0x3f).toInt64.toUInt64).toInt64).toInt ∧ ((q.toUInt64 >>> ((2 : Int32) &&& 0x3f).toInt64.toUInt64).toInt64).toInt < 2 ^ 62 := by
  have e : (q.toUInt64 >>> ((2 : Int32) &&& 0x3f).toInt64.toUInt64).toNat = q.toUInt64.toNat / 4 := by
    rw [UInt64.toNat_shiftRight, Nat.shiftRight_eq_div_pow]
    rfl
  have hq := q.toUInt64.toNat_lt
  generalize (q.toUInt64 >>> ((2 : Int32) &&& 0x3f).toInt64.toUInt64) = y at e
  have e2 : y.toInt64.toInt = (y.toNat : Int) := by
    show y.toBitVec.toInt = _
    rw [BitVec.toInt_eq_toNat_of_lt (by show 2 * y.toNat < 2 ^ 64; omega)]
    rfl
  rw [e2]; omega
theorem own_sum {a b : Int32} (ha : ¬ a < 1) (hb : ¬ b < 1) (q : Int64) : ¬ ((a.toInt64 * b.toInt64) + ((q.toUInt64 >>> ((2 : Int32) &&& 0x3f).toInt64.toUInt64).toInt64)) < a.toInt64 * b.toInt64 := by
  obtain ⟨s1, s2⟩ := own_slack q
  generalize ((q.toUInt64 >>> ((2 : Int32) &&& 0x3f).toInt64.toUInt64).toInt64) = z at s1 s2
  have h1 : (1 : Int32).toInt = 1 := by decide
  rw [Int32.lt_iff_toInt_lt, h1] at ha hb
  have ra := Int32.toInt_lt a
  have rb := Int32.toInt_lt b
  have m1 : 0 ≤ a.toInt * b.toInt := Int.mul_nonneg (by omega) (by omega)
  have m2 : a.toInt * b.toInt ≤ 2147483647 * 2147483647 := Int.mul_le_mul (by omega) (by omega) (by omega) (by omega)
  have ea := Jvm.Kit.i64_of_i32 a
  have eb := Jvm.Kit.i64_of_i32 b
  have e1 : (a.toInt64 * b.toInt64).toInt = a.toInt * b.toInt := by
    rw [Jvm.Kit.i64_mul (by rw [ea, eb]; omega) (by rw [ea, eb]; omega), ea, eb]
  have e2 := Jvm.Kit.i64_add (x := a.toInt64 * b.toInt64) (y := z) (by rw [e1]; omega) (by rw [e1]; omega)
  rw [Int64.lt_iff_toInt_lt, e2]
  omega
theorem d1_0 : decode jdk_29_method_65_code 0 = .ok (.iload_n 0, 1) := by decide +kernel
theorem d1_1 : decode jdk_29_method_65_code 1 = .ok (.iload_n 1, 1) := by decide +kernel
theorem d1_2 : decode jdk_29_method_65_code 2 = .ok (.if_icmp .lt 7, 3) := by decide +kernel
theorem d1_5 : decode jdk_29_method_65_code 5 = .ok (.iload_n 0, 1) := by decide +kernel
theorem d1_6 : decode jdk_29_method_65_code 6 = .ok (.goto 4, 3) := by decide +kernel
theorem d1_9 : decode jdk_29_method_65_code 9 = .ok (.iload_n 1, 1) := by decide +kernel
theorem d1_10 : decode jdk_29_method_65_code 10 = .ok (.ireturn, 1) := by decide +kernel
theorem ef_1 (m : MethodId) (p1 : Int32) (p2 : Int32) : entryFrame m #[(.int p1), (.int p2)] 2 = mkF m 0 #[.val (.int p1), .val (.int p2)] [] := by first | (simp [entryFrame, mkF, argsToLocals, Value.category]; done) | rfl
def Q1 (Z : State) (p1 : Int32) (p2 : Int32) (h0 : Heap) (n0 : Nat) (v : Option Value) (h : Heap) (L : List Loc) : Prop := ∃ (r : Int32), v = some (.int r) ∧ Fr n0 L ∧ (h = h0) ∧ (¬ (r < p1) ∧ ¬ (r < p2))
set_option maxRecDepth 65536 in
set_option maxHeartbeats 40000000 in
theorem rm1 (l : Launch) (Z : State) (a0 : Array Value) (hw : ∀ d ∈ tables_1, d.before a0 Z = true) (ws : List Jvm.Cond) (p1 : Int32) (p2 : Int32) (h0 : Heap) (n0 : Nat) (Z0 : n0 ≤ h0.size)  :
    MetFree l (⟨"java/lang/Math", "max", "(II)I"⟩ : MethodName) (head1 (Jvm.Cond.code (⟨"java/lang/Math", "max", "(II)I"⟩ : MethodName) jdk_29_method_65_code 2 (some .int) :: ws) ({ frames := 0, cells := 0, slots := 0, locals := 0 } : Room)) (fun a U => a = #[(.int p1), (.int p2)] ∧ Z.Warmed39 U.vm ∧ U.heap = h0) (fun _ _ _ _ _ => True) (fun _ U o U' => ∃ v L, o = .returned v ∧ Q1 Z p1 p2 h0 n0 v U'.heap L ∧ FrameEnd U o U' L ({ frames := 0, cells := 0, slots := 0, locals := 0 } : Room).cells ({ frames := 0, cells := 0, slots := 0, locals := 0 } : Room).slots) := by
  refine MetFree.of_bodySF (Jvm.Free.JP.mathPlain rfl (by decide +kernel)) hisR ?_
  intro p e s m args below meth c s₁ Bd hml0 hP hK
  obtain ⟨rfl, hZ, hh⟩ := hP
  have hx := Bd.exec
  have hby := Bd.bytes
  have hml : c.maxLocals = 2 := hml0
  have hown : s.vm.findClass "java/lang/Math" = some m.cls := findClass_of_methodNamed Bd.named
  have hnm := (name_of_methodNamed Bd.named Bd.method).1
  have X0 : Stand p l e ({ frames := 0, cells := 0, slots := 0, locals := 0 } : Room) s m #[(.int p1), (.int p2)] below meth c s₁ [] 0 0 := Stand.of_body Bd
  have e0 : s₁.heap = h0 := by rw [← hh, Bd.state]; rfl
  have N0 := Fr.nil n0
  have hS0 : s.Since s.vm 0 := (State.WarmedH.refl s).since 0
  show Go FrameEnd p e below s ({ frames := 0, cells := 0, slots := 0, locals := 0 } : Room).cells ({ frames := 0, cells := 0, slots := 0, locals := 0 } : Room).slots (Q1 Z p1 p2 h0 n0) (s₁.setTop (entryFrame m #[(.int p1), (.int p2)] 2))
  refine go (fun _ k => castTop (ef_1 m p1 p2) k) ?_
  show Go _ p e below s _ _ _ (s₁.setTop (mkF m 0 #[.val (.int p1), .val (.int p2)] []))
  refine go (fun _ => XS.iloadN X0.here hx rfl (hb hby d1_0) rfl) ?_
  show Go _ p e below s _ _ _ (s₁.setTop (mkF m 1 #[.val (.int p1), .val (.int p2)] [(.int p1)]))
  refine go (fun _ => XS.iloadN X0.here hx rfl (hb hby d1_1) rfl) ?_
  show Go _ p e below s _ _ _ (s₁.setTop (mkF m 2 #[.val (.int p1), .val (.int p2)] [(.int p2), (.int p1)]))
  by_cases hc2_2 : p1 < p2
  · refine go (fun _ => XS.icmpYes X0.here hx rfl (pc0 := 2) (pc' := 9) rfl (hb hby d1_2) rfl (tlt hc2_2).1 (by decide) (by decide)) ?_
    show Go _ p e below s _ _ _ (s₁.setTop (mkF m 9 #[.val (.int p1), .val (.int p2)] []))
    refine go (fun _ => XS.iloadN X0.here hx rfl (hb hby d1_9) rfl) ?_
    show Go _ p e below s _ _ _ (s₁.setTop (mkF m 10 #[.val (.int p1), .val (.int p2)] [(.int p2)]))
    refine goRet X0 hx Bd.notSynchronized Bd.returns rfl (Or.inl ⟨rfl, Or.inl rfl, _, rfl⟩) (hb hby d1_10) (by decide) (by decide) (by rw [e0]; refine ⟨p2, rfl, N0, rfl, ⟨fun q => Int32.lt_irrefl (Int32.lt_trans hc2_2 q), Int32.lt_irrefl⟩⟩)
  · refine go (fun _ => XS.icmpNo X0.here hx rfl (hb hby d1_2) rfl (flt hc2_2).1) ?_
    show Go _ p e below s _ _ _ (s₁.setTop (mkF m 5 #[.val (.int p1), .val (.int p2)] []))
    refine go (fun _ => XS.iloadN X0.here hx rfl (hb hby d1_5) rfl) ?_
    show Go _ p e below s _ _ _ (s₁.setTop (mkF m 6 #[.val (.int p1), .val (.int p2)] [(.int p1)]))
    refine go (fun _ => XS.goto X0.here hx rfl (pc0 := 6) (pc' := 10) rfl (hb hby d1_6) (by decide) (by decide)) ?_
    show Go _ p e below s _ _ _ (s₁.setTop (mkF m 10 #[.val (.int p1), .val (.int p2)] [(.int p1)]))
    refine goRet X0 hx Bd.notSynchronized Bd.returns rfl (Or.inl ⟨rfl, Or.inl rfl, _, rfl⟩) (hb hby d1_10) (by decide) (by decide) (by rw [e0]; refine ⟨p1, rfl, N0, rfl, ⟨Int32.lt_irrefl, hc2_2⟩⟩)
theorem d2_0 : decode prog_38_method_6_code 0 = .ok (.iload_n 0, 1) := by decide +kernel
theorem d2_1 : decode prog_38_method_6_code 1 = .ok (.iconst 1, 1) := by decide +kernel
theorem d2_2 : decode prog_38_method_6_code 2 = .ok (.if_icmp .lt 8, 3) := by decide +kernel
theorem d2_5 : decode prog_38_method_6_code 5 = .ok (.iload_n 0, 1) := by decide +kernel
theorem d2_6 : decode prog_38_method_6_code 6 = .ok (.iload_n 1, 1) := by decide +kernel
theorem d2_7 : decode prog_38_method_6_code 7 = .ok (.if_icmp .le 18, 3) := by decide +kernel
theorem d2_25 : decode prog_38_method_6_code 25 = .ok (.iload_n 2, 1) := by decide +kernel
theorem d2_26 : decode prog_38_method_6_code 26 = .ok (.iconst 1, 1) := by decide +kernel
theorem d2_27 : decode prog_38_method_6_code 27 = .ok (.if_icmp .lt 13, 3) := by decide +kernel
theorem d2_30 : decode prog_38_method_6_code 30 = .ok (.iload_n 0, 1) := by decide +kernel
theorem d2_31 : decode prog_38_method_6_code 31 = .ok (.i2l, 1) := by decide +kernel
theorem d2_32 : decode prog_38_method_6_code 32 = .ok (.iload_n 2, 1) := by decide +kernel
theorem d2_33 : decode prog_38_method_6_code 33 = .ok (.i2l, 1) := by decide +kernel
theorem d2_34 : decode prog_38_method_6_code 34 = .ok (.lmul, 1) := by decide +kernel
theorem d2_35 : decode prog_38_method_6_code 35 = .ok (.lload_n 3, 1) := by decide +kernel
theorem d2_36 : decode prog_38_method_6_code 36 = .ok (.lcmp, 1) := by decide +kernel
theorem d2_37 : decode prog_38_method_6_code 37 = .ok (.ifCond .le 19, 3) := by decide +kernel
theorem d2_56 : decode prog_38_method_6_code 56 = .ok (.iload 5, 2) := by decide +kernel
theorem d2_58 : decode prog_38_method_6_code 58 = .ok (.iconst 1, 1) := by decide +kernel
theorem d2_59 : decode prog_38_method_6_code 59 = .ok (.if_icmp .lt 9, 3) := by decide +kernel
theorem d2_62 : decode prog_38_method_6_code 62 = .ok (.iload 5, 2) := by decide +kernel
theorem d2_64 : decode prog_38_method_6_code 64 = .ok (.iload_n 0, 1) := by decide +kernel
theorem d2_65 : decode prog_38_method_6_code 65 = .ok (.if_icmp .le 19, 3) := by decide +kernel
theorem d2_84 : decode prog_38_method_6_code 84 = .ok (.return_, 1) := by decide +kernel
theorem pn_2 : plainName "com/example/lim1/lim1/Workload" = true := by first | (simp [plainName, overriddenIn]; done) | decide +kernel
theorem ef_2 (m : MethodId) (p1 : Int32) (p2 : Int32) (p3 : Int32) (q4 : Int64) (p5 : Int32) : entryFrame m #[(.int p1), (.int p2), (.int p3), (.long q4), (.int p5)] 6 = mkF m 0 #[.val (.int p1), .val (.int p2), .val (.int p3), .val (.long q4), .second, .val (.int p5)] [] := by first | (simp [entryFrame, mkF, argsToLocals, Value.category]; done) | rfl
def Q2 (Z : State) (p1 : Int32) (p2 : Int32) (p3 : Int32) (q4 : Int64) (p5 : Int32) (h0 : Heap) (n0 : Nat) (v : Option Value) (h : Heap) (L : List Loc) : Prop := v = none ∧ Fr n0 L ∧ (h = h0)
set_option maxRecDepth 65536 in
set_option maxHeartbeats 40000000 in
theorem rm2 (l : Launch) (Z : State) (a0 : Array Value) (hw : ∀ d ∈ tables_1, d.before a0 Z = true) (ws : List Jvm.Cond) (p1 : Int32) (p2 : Int32) (p3 : Int32) (q4 : Int64) (p5 : Int32) (h0 : Heap) (n0 : Nat) (Z0 : n0 ≤ h0.size) (h1 : ¬ p1 < (1 : Int32)) (h2 : ¬ p2 < p1) (h3 : ¬ p3 < (1 : Int32)) (h4 : ¬ q4 < (p1.toInt64 * p3.toInt64)) (h5 : ¬ p5 < (1 : Int32)) (h6 : ¬ p1 < p5) :
    MetFree l (⟨"com/example/lim1/lim1/Workload", "checkSize", "(IIIJI)V"⟩ : MethodName) (head1 (Jvm.Cond.code (⟨"com/example/lim1/lim1/Workload", "checkSize", "(IIIJI)V"⟩ : MethodName) prog_38_method_6_code 6 none :: ws) ({ frames := 0, cells := 0, slots := 0, locals := 0 } : Room)) (fun a U => a = #[(.int p1), (.int p2), (.int p3), (.long q4), (.int p5)] ∧ Z.Warmed39 U.vm ∧ U.heap = h0) (fun _ _ _ _ _ => True) (fun _ U o U' => ∃ v L, o = .returned v ∧ Q2 Z p1 p2 p3 q4 p5 h0 n0 v U'.heap L ∧ FrameEnd U o U' L ({ frames := 0, cells := 0, slots := 0, locals := 0 } : Room).cells ({ frames := 0, cells := 0, slots := 0, locals := 0 } : Room).slots) := by
  refine MetFree.of_bodySF (plainFor_of_name pn_2) hisR ?_
  intro p e s m args below meth c s₁ Bd hml0 hP hK
  obtain ⟨rfl, hZ, hh⟩ := hP
  have hx := Bd.exec
  have hby := Bd.bytes
  have hml : c.maxLocals = 6 := hml0
  have hown : s.vm.findClass "com/example/lim1/lim1/Workload" = some m.cls := findClass_of_methodNamed Bd.named
  have hnm := (name_of_methodNamed Bd.named Bd.method).1
  have X0 : Stand p l e ({ frames := 0, cells := 0, slots := 0, locals := 0 } : Room) s m #[(.int p1), (.int p2), (.int p3), (.long q4), (.int p5)] below meth c s₁ [] 0 0 := Stand.of_body Bd
  have e0 : s₁.heap = h0 := by rw [← hh, Bd.state]; rfl
  have N0 := Fr.nil n0
  have hS0 : s.Since s.vm 0 := (State.WarmedH.refl s).since 0
  show Go FrameEnd p e below s ({ frames := 0, cells := 0, slots := 0, locals := 0 } : Room).cells ({ frames := 0, cells := 0, slots := 0, locals := 0 } : Room).slots (Q2 Z p1 p2 p3 q4 p5 h0 n0) (s₁.setTop (entryFrame m #[(.int p1), (.int p2), (.int p3), (.long q4), (.int p5)] 6))
  refine go (fun _ k => castTop (ef_2 m p1 p2 p3 q4 p5) k) ?_
  show Go _ p e below s _ _ _ (s₁.setTop (mkF m 0 #[.val (.int p1), .val (.int p2), .val (.int p3), .val (.long q4), .second, .val (.int p5)] []))
  refine go (fun _ => XS.iloadN X0.here hx rfl (hb hby d2_0) rfl) ?_
  show Go _ p e below s _ _ _ (s₁.setTop (mkF m 1 #[.val (.int p1), .val (.int p2), .val (.int p3), .val (.long q4), .second, .val (.int p5)] [(.int p1)]))
  refine go (fun _ => XS.iconst X0.here hx rfl (hb hby d2_1)) ?_
  show Go _ p e below s _ _ _ (s₁.setTop (mkF m 2 #[.val (.int p1), .val (.int p2), .val (.int p3), .val (.long q4), .second, .val (.int p5)] [(.int (1 : Int32)), (.int p1)]))
  refine go (fun _ => XS.icmpNo X0.here hx rfl (hb hby d2_2) rfl (flt h1).1) ?_
  show Go _ p e below s _ _ _ (s₁.setTop (mkF m 5 #[.val (.int p1), .val (.int p2), .val (.int p3), .val (.long q4), .second, .val (.int p5)] []))
  refine go (fun _ => XS.iloadN X0.here hx rfl (hb hby d2_5) rfl) ?_
  show Go _ p e below s _ _ _ (s₁.setTop (mkF m 6 #[.val (.int p1), .val (.int p2), .val (.int p3), .val (.long q4), .second, .val (.int p5)] [(.int p1)]))
  refine go (fun _ => XS.iloadN X0.here hx rfl (hb hby d2_6) rfl) ?_
  show Go _ p e below s _ _ _ (s₁.setTop (mkF m 7 #[.val (.int p1), .val (.int p2), .val (.int p3), .val (.long q4), .second, .val (.int p5)] [(.int p2), (.int p1)]))
  refine go (fun _ => XS.icmpYes X0.here hx rfl (pc0 := 7) (pc' := 25) rfl (hb hby d2_7) rfl (flt h2).2.2.2 (by decide) (by decide)) ?_
  show Go _ p e below s _ _ _ (s₁.setTop (mkF m 25 #[.val (.int p1), .val (.int p2), .val (.int p3), .val (.long q4), .second, .val (.int p5)] []))
  refine go (fun _ => XS.iloadN X0.here hx rfl (hb hby d2_25) rfl) ?_
  show Go _ p e below s _ _ _ (s₁.setTop (mkF m 26 #[.val (.int p1), .val (.int p2), .val (.int p3), .val (.long q4), .second, .val (.int p5)] [(.int p3)]))
  refine go (fun _ => XS.iconst X0.here hx rfl (hb hby d2_26)) ?_
  show Go _ p e below s _ _ _ (s₁.setTop (mkF m 27 #[.val (.int p1), .val (.int p2), .val (.int p3), .val (.long q4), .second, .val (.int p5)] [(.int (1 : Int32)), (.int p3)]))
  refine go (fun _ => XS.icmpNo X0.here hx rfl (hb hby d2_27) rfl (flt h3).1) ?_
  show Go _ p e below s _ _ _ (s₁.setTop (mkF m 30 #[.val (.int p1), .val (.int p2), .val (.int p3), .val (.long q4), .second, .val (.int p5)] []))
  refine go (fun _ => XS.iloadN X0.here hx rfl (hb hby d2_30) rfl) ?_
  show Go _ p e below s _ _ _ (s₁.setTop (mkF m 31 #[.val (.int p1), .val (.int p2), .val (.int p3), .val (.long q4), .second, .val (.int p5)] [(.int p1)]))
  refine go (fun _ => XS.i2l X0.here hx rfl (hb hby d2_31) rfl) ?_
  show Go _ p e below s _ _ _ (s₁.setTop (mkF m 32 #[.val (.int p1), .val (.int p2), .val (.int p3), .val (.long q4), .second, .val (.int p5)] [(.long (p1.toInt64))]))
  refine go (fun _ => XS.iloadN X0.here hx rfl (hb hby d2_32) rfl) ?_
  show Go _ p e below s _ _ _ (s₁.setTop (mkF m 33 #[.val (.int p1), .val (.int p2), .val (.int p3), .val (.long q4), .second, .val (.int p5)] [(.int p3), (.long (p1.toInt64))]))
  refine go (fun _ => XS.i2l X0.here hx rfl (hb hby d2_33) rfl) ?_
  show Go _ p e below s _ _ _ (s₁.setTop (mkF m 34 #[.val (.int p1), .val (.int p2), .val (.int p3), .val (.long q4), .second, .val (.int p5)] [(.long (p3.toInt64)), (.long (p1.toInt64))]))
  refine go (fun _ => XS.lmul X0.here hx rfl (hb hby d2_34) rfl) ?_
  show Go _ p e below s _ _ _ (s₁.setTop (mkF m 35 #[.val (.int p1), .val (.int p2), .val (.int p3), .val (.long q4), .second, .val (.int p5)] [(.long ((p1.toInt64) * (p3.toInt64)))]))
  refine go (fun _ => XS.lloadN X0.here hx rfl (hb hby d2_35) rfl) ?_
  show Go _ p e below s _ _ _ (s₁.setTop (mkF m 36 #[.val (.int p1), .val (.int p2), .val (.int p3), .val (.long q4), .second, .val (.int p5)] [(.long q4), (.long ((p1.toInt64) * (p3.toInt64)))]))
  refine go (fun _ => XS.lcmp X0.here hx rfl (hb hby d2_36) rfl) ?_
  show Go _ p e below s _ _ _ (s₁.setTop (mkF m 37 #[.val (.int p1), .val (.int p2), .val (.int p3), .val (.long q4), .second, .val (.int p5)] [(.int (lcmpW ((p1.toInt64) * (p3.toInt64)) q4))]))
  refine go (fun _ => XS.ifYes X0.here hx rfl (pc0 := 37) (pc' := 56) rfl (hb hby d2_37) rfl ((if0 _ _).trans (flt (fun q => h4 ((lw_gt ((p1.toInt64) * (p3.toInt64)) q4).mp q))).2.2.2) (by decide) (by decide)) ?_
  show Go _ p e below s _ _ _ (s₁.setTop (mkF m 56 #[.val (.int p1), .val (.int p2), .val (.int p3), .val (.long q4), .second, .val (.int p5)] []))
  refine go (fun _ => XS.iload X0.here hx rfl (hb hby d2_56) rfl) ?_
  show Go _ p e below s _ _ _ (s₁.setTop (mkF m 58 #[.val (.int p1), .val (.int p2), .val (.int p3), .val (.long q4), .second, .val (.int p5)] [(.int p5)]))
  refine go (fun _ => XS.iconst X0.here hx rfl (hb hby d2_58)) ?_
  show Go _ p e below s _ _ _ (s₁.setTop (mkF m 59 #[.val (.int p1), .val (.int p2), .val (.int p3), .val (.long q4), .second, .val (.int p5)] [(.int (1 : Int32)), (.int p5)]))
  refine go (fun _ => XS.icmpNo X0.here hx rfl (hb hby d2_59) rfl (flt h5).1) ?_
  show Go _ p e below s _ _ _ (s₁.setTop (mkF m 62 #[.val (.int p1), .val (.int p2), .val (.int p3), .val (.long q4), .second, .val (.int p5)] []))
  refine go (fun _ => XS.iload X0.here hx rfl (hb hby d2_62) rfl) ?_
  show Go _ p e below s _ _ _ (s₁.setTop (mkF m 64 #[.val (.int p1), .val (.int p2), .val (.int p3), .val (.long q4), .second, .val (.int p5)] [(.int p5)]))
  refine go (fun _ => XS.iloadN X0.here hx rfl (hb hby d2_64) rfl) ?_
  show Go _ p e below s _ _ _ (s₁.setTop (mkF m 65 #[.val (.int p1), .val (.int p2), .val (.int p3), .val (.long q4), .second, .val (.int p5)] [(.int p1), (.int p5)]))
  refine go (fun _ => XS.icmpYes X0.here hx rfl (pc0 := 65) (pc' := 84) rfl (hb hby d2_65) rfl (flt h6).2.2.2 (by decide) (by decide)) ?_
  show Go _ p e below s _ _ _ (s₁.setTop (mkF m 84 #[.val (.int p1), .val (.int p2), .val (.int p3), .val (.long q4), .second, .val (.int p5)] []))
  refine goRet0 X0 hx Bd.notSynchronized Bd.returns (hb hby d2_84) (by decide) (by decide) (by rw [e0]; refine ⟨rfl, N0, rfl⟩)
theorem pn_0 : plainName "com/example/lim1/lim1/WorkloadCheckSizePinLaw" = true := by first | (simp [plainName, overriddenIn]; done) | decide +kernel
theorem pd_0_0 : parseMethodDescriptor "(II)I" = some ⟨[.int, .int], some .int⟩ := by decide +kernel
theorem pd_0_1 : parseMethodDescriptor "(IIIJI)V" = some ⟨[.int, .int, .int, .long, .int], none⟩ := by decide +kernel
theorem ef_0 (m : MethodId) (p1 : Int32) (p2 : Int32) (p3 : Int32) (q4 : Int64) (p5 : Int32) : entryFrame m #[(.int p1), (.int p2), (.int p3), (.long q4), (.int p5)] maxLocals = mkF m 0 #[.val (.int p1), .val (.int p2), .val (.int p3), .val (.long q4), .second, .val (.int p5), .unset, .unset, .unset, .unset, .unset, .unset, .unset, .unset] [] := by first | (simp [entryFrame, mkF, argsToLocals, Value.category, maxLocals]; done) | rfl
def Q0 (Z : State) (p1 : Int32) (p2 : Int32) (p3 : Int32) (q4 : Int64) (p5 : Int32) (h0 : Heap) (n0 : Nat) (v : Option Value) (h : Heap) (L : List Loc) : Prop := v = some (.int (1 : Int32)) ∧ Fr n0 L
set_option maxRecDepth 65536 in
set_option maxHeartbeats 40000000 in
theorem rm0 (l : Launch) (Z : State) (a0 : Array Value) (hw : ∀ d ∈ tables_1, d.before a0 Z = true) (ws : List Jvm.Cond) (p1 : Int32) (p2 : Int32) (p3 : Int32) (q4 : Int64) (p5 : Int32) (h0 : Heap) (n0 : Nat) (Z0 : n0 ≤ h0.size)  :
    MetFree l x (head1 (Jvm.Cond.code x code maxLocals ret :: ws) room_1) (fun a U => a = #[(.int p1), (.int p2), (.int p3), (.long q4), (.int p5)] ∧ Z.Warmed39 U.vm ∧ U.heap = h0) (fun _ _ _ _ _ => True) (fun _ U o U' => ∃ v L, o = .returned v ∧ Q0 Z p1 p2 p3 q4 p5 h0 n0 v U'.heap L ∧ FrameEnd U o U' L room_1.cells room_1.slots) := by
  refine MetFree.of_bodySF (plainFor_of_name pn_0) hisR ?_
  intro p e s m args below meth c s₁ Bd hml0 hP hK
  obtain ⟨rfl, hZ, hh⟩ := hP
  have hx := Bd.exec
  have hby := Bd.bytes
  have hml : c.maxLocals = 14 := hml0
  have hown : s.vm.findClass "com/example/lim1/lim1/WorkloadCheckSizePinLaw" = some m.cls := findClass_of_methodNamed Bd.named
  have hnm := (name_of_methodNamed Bd.named Bd.method).1
  have X0 : Stand p l e room_1 s m #[(.int p1), (.int p2), (.int p3), (.long q4), (.int p5)] below meth c s₁ [] 0 0 := Stand.of_body Bd
  have e0 : s₁.heap = h0 := by rw [← hh, Bd.state]; rfl
  have N0 := Fr.nil n0
  have hS0 : s.Since s.vm 0 := (State.WarmedH.refl s).since 0
  show Go FrameEnd p e below s room_1.cells room_1.slots (Q0 Z p1 p2 p3 q4 p5 h0 n0) (s₁.setTop (entryFrame m #[(.int p1), (.int p2), (.int p3), (.long q4), (.int p5)] maxLocals))
  refine go (fun _ k => castTop (ef_0 m p1 p2 p3 q4 p5) k) ?_
  show Go _ p e below s _ _ _ (s₁.setTop (mkF m 0 #[.val (.int p1), .val (.int p2), .val (.int p3), .val (.long q4), .second, .val (.int p5), .unset, .unset, .unset, .unset, .unset, .unset, .unset, .unset] []))
  refine go (fun _ => XS.iconst X0.here hx rfl (hb hby at_0)) ?_
  show Go _ p e below s _ _ _ (s₁.setTop (mkF m 1 #[.val (.int p1), .val (.int p2), .val (.int p3), .val (.long q4), .second, .val (.int p5), .unset, .unset, .unset, .unset, .unset, .unset, .unset, .unset] [(.int (1 : Int32))]))
  refine go (fun _ => XS.iloadN X0.here hx rfl (hb hby at_1) rfl) ?_
  show Go _ p e below s _ _ _ (s₁.setTop (mkF m 2 #[.val (.int p1), .val (.int p2), .val (.int p3), .val (.long q4), .second, .val (.int p5), .unset, .unset, .unset, .unset, .unset, .unset, .unset, .unset] [(.int p1), (.int (1 : Int32))]))
  refine go (X0.ldcInt hx hown (mvT hZ (hw _ (List.mem_of_getElem? (i := 0) rfl))) (g := (mkF m 2 #[.val (.int p1), .val (.int p2), .val (.int p3), .val (.long q4), .second, .val (.int p5), .unset, .unset, .unset, .unset, .unset, .unset, .unset, .unset] [(.int p1), (.int (1 : Int32))])) rfl (hb hby at_2)) ?_
  show Go _ p e below s _ _ _ (s₁.setTop (mkF m 4 #[.val (.int p1), .val (.int p2), .val (.int p3), .val (.long q4), .second, .val (.int p5), .unset, .unset, .unset, .unset, .unset, .unset, .unset, .unset] [(.int (2147483647 : Int32)), (.int p1), (.int (1 : Int32))]))
  refine go (fun _ => XS.iand X0.here hx rfl (hb hby at_4) rfl) ?_
  show Go _ p e below s _ _ _ (s₁.setTop (mkF m 5 #[.val (.int p1), .val (.int p2), .val (.int p3), .val (.long q4), .second, .val (.int p5), .unset, .unset, .unset, .unset, .unset, .unset, .unset, .unset] [(.int (p1 &&& (2147483647 : Int32))), (.int (1 : Int32))]))
  obtain ⟨_, _, ⟨T3, L3, k3, n3⟩, -, X3, ⟨Lc3, hQ3, l3, y3, z3⟩, st3⟩ := Jvm.LawKit.callS X0 hx (y := (⟨"java/lang/Math", "max", "(II)I"⟩ : MethodName)) hown (mvT hZ (hw _ (List.mem_of_getElem? (i := 1) rfl))) (mvT hZ (hw _ (List.mem_of_getElem? (i := 2) rfl))) (mvT hZ (hw _ (List.mem_of_getElem? (i := 3) rfl))) (mvT hZ (hw _ (List.mem_of_getElem? (i := 4) rfl))) (by decide) (backOf (W := 0) (rm1 l Z a0 hw [] (1 : Int32) (p1 &&& (2147483647 : Int32)) h0 n0 Z0 ) hZ (hw _ (List.mem_of_getElem? (i := 4) rfl)) (hw _ (List.mem_of_getElem? (i := 3) rfl)) (by decide) (by decide)) (g := (mkF m 5 #[.val (.int p1), .val (.int p2), .val (.int p3), .val (.long q4), .second, .val (.int p5), .unset, .unset, .unset, .unset, .unset, .unset, .unset, .unset] [(.int (p1 &&& (2147483647 : Int32))), (.int (1 : Int32))])) rfl (by rw [hml]; rfl) (argsL := [(.int (1 : Int32)), (.int (p1 &&& (2147483647 : Int32)))]) (rest := []) (lenOf pd_0_0 rfl) rfl (by show 2 * 0 + _ ≤ _; exact Nat.le_of_eq rfl) (hb hby at_5) (fun _ _ => ⟨rfl, e0, (by decide : 0 + 0 ≤ _), (by decide : 0 + 0 ≤ _)⟩)
  dsimp only [Pt.U, Pt.locs, Pt.cells, Pt.slots] at X3 l3 y3 z3 st3 hQ3
  subst l3 y3 z3
  obtain ⟨r3, rfl, N3q, e3, u3_1⟩ := hQ3
  have N3 := Fr.app N0 N3q
  refine go st3 ?_
  show Go _ p e below s _ _ _ (T3.setTop (mkF m 8 #[.val (.int p1), .val (.int p2), .val (.int p3), .val (.long q4), .second, .val (.int p5), .unset, .unset, .unset, .unset, .unset, .unset, .unset, .unset] [(.int r3)]))
  refine go (fun _ => XS.istore X3.here hx rfl (hb hby at_8) rfl (l' := #[.val (.int p1), .val (.int p2), .val (.int p3), .val (.long q4), .second, .val (.int p5), .val (.int r3), .unset, .unset, .unset, .unset, .unset, .unset, .unset]) rfl) ?_
  show Go _ p e below s _ _ _ (T3.setTop (mkF m 10 #[.val (.int p1), .val (.int p2), .val (.int p3), .val (.long q4), .second, .val (.int p5), .val (.int r3), .unset, .unset, .unset, .unset, .unset, .unset, .unset] []))
  refine go (fun _ => XS.iconst X3.here hx rfl (hb hby at_10)) ?_
  show Go _ p e below s _ _ _ (T3.setTop (mkF m 11 #[.val (.int p1), .val (.int p2), .val (.int p3), .val (.long q4), .second, .val (.int p5), .val (.int r3), .unset, .unset, .unset, .unset, .unset, .unset, .unset] [(.int (1 : Int32))]))
  refine go (fun _ => XS.iloadN X3.here hx rfl (hb hby at_11) rfl) ?_
  show Go _ p e below s _ _ _ (T3.setTop (mkF m 12 #[.val (.int p1), .val (.int p2), .val (.int p3), .val (.long q4), .second, .val (.int p5), .val (.int r3), .unset, .unset, .unset, .unset, .unset, .unset, .unset] [(.int p2), (.int (1 : Int32))]))
  refine go (X3.ldcInt hx hown (mvT hZ (hw _ (List.mem_of_getElem? (i := 0) rfl))) (g := (mkF m 12 #[.val (.int p1), .val (.int p2), .val (.int p3), .val (.long q4), .second, .val (.int p5), .val (.int r3), .unset, .unset, .unset, .unset, .unset, .unset, .unset] [(.int p2), (.int (1 : Int32))])) rfl (hb hby at_12)) ?_
  show Go _ p e below s _ _ _ (T3.setTop (mkF m 14 #[.val (.int p1), .val (.int p2), .val (.int p3), .val (.long q4), .second, .val (.int p5), .val (.int r3), .unset, .unset, .unset, .unset, .unset, .unset, .unset] [(.int (2147483647 : Int32)), (.int p2), (.int (1 : Int32))]))
  refine go (fun _ => XS.iand X3.here hx rfl (hb hby at_14) rfl) ?_
  show Go _ p e below s _ _ _ (T3.setTop (mkF m 15 #[.val (.int p1), .val (.int p2), .val (.int p3), .val (.long q4), .second, .val (.int p5), .val (.int r3), .unset, .unset, .unset, .unset, .unset, .unset, .unset] [(.int (p2 &&& (2147483647 : Int32))), (.int (1 : Int32))]))
  refine go (fun _ => XS.iload X3.here hx rfl (hb hby at_15) rfl) ?_
  show Go _ p e below s _ _ _ (T3.setTop (mkF m 17 #[.val (.int p1), .val (.int p2), .val (.int p3), .val (.long q4), .second, .val (.int p5), .val (.int r3), .unset, .unset, .unset, .unset, .unset, .unset, .unset] [(.int r3), (.int (p2 &&& (2147483647 : Int32))), (.int (1 : Int32))]))
  refine go (fun _ => iremM X3 hx rfl (hb hby at_17) rfl (own_nz u3_1.1)) ?_
  show Go _ p e below s _ _ _ (T3.setTop (mkF m 18 #[.val (.int p1), .val (.int p2), .val (.int p3), .val (.long q4), .second, .val (.int p5), .val (.int r3), .unset, .unset, .unset, .unset, .unset, .unset, .unset] [(.int ((p2 &&& (2147483647 : Int32)) % r3)), (.int (1 : Int32))]))
  refine go (fun _ => XS.iadd X3.here hx rfl (hb hby at_18) rfl) ?_
  show Go _ p e below s _ _ _ (T3.setTop (mkF m 19 #[.val (.int p1), .val (.int p2), .val (.int p3), .val (.long q4), .second, .val (.int p5), .val (.int r3), .unset, .unset, .unset, .unset, .unset, .unset, .unset] [(.int ((1 : Int32) + ((p2 &&& (2147483647 : Int32)) % r3)))]))
  refine go (fun _ => XS.istore X3.here hx rfl (hb hby at_19) rfl (l' := #[.val (.int p1), .val (.int p2), .val (.int p3), .val (.long q4), .second, .val (.int p5), .val (.int r3), .val (.int ((1 : Int32) + ((p2 &&& (2147483647 : Int32)) % r3))), .unset, .unset, .unset, .unset, .unset, .unset]) rfl) ?_
  show Go _ p e below s _ _ _ (T3.setTop (mkF m 21 #[.val (.int p1), .val (.int p2), .val (.int p3), .val (.long q4), .second, .val (.int p5), .val (.int r3), .val (.int ((1 : Int32) + ((p2 &&& (2147483647 : Int32)) % r3))), .unset, .unset, .unset, .unset, .unset, .unset] []))
  refine go (fun _ => XS.iconst X3.here hx rfl (hb hby at_21)) ?_
  show Go _ p e below s _ _ _ (T3.setTop (mkF m 22 #[.val (.int p1), .val (.int p2), .val (.int p3), .val (.long q4), .second, .val (.int p5), .val (.int r3), .val (.int ((1 : Int32) + ((p2 &&& (2147483647 : Int32)) % r3))), .unset, .unset, .unset, .unset, .unset, .unset] [(.int (1 : Int32))]))
  refine go (fun _ => XS.iloadN X3.here hx rfl (hb hby at_22) rfl) ?_
  show Go _ p e below s _ _ _ (T3.setTop (mkF m 23 #[.val (.int p1), .val (.int p2), .val (.int p3), .val (.long q4), .second, .val (.int p5), .val (.int r3), .val (.int ((1 : Int32) + ((p2 &&& (2147483647 : Int32)) % r3))), .unset, .unset, .unset, .unset, .unset, .unset] [(.int p3), (.int (1 : Int32))]))
  refine go (X3.ldcInt hx hown (mvT hZ (hw _ (List.mem_of_getElem? (i := 0) rfl))) (g := (mkF m 23 #[.val (.int p1), .val (.int p2), .val (.int p3), .val (.long q4), .second, .val (.int p5), .val (.int r3), .val (.int ((1 : Int32) + ((p2 &&& (2147483647 : Int32)) % r3))), .unset, .unset, .unset, .unset, .unset, .unset] [(.int p3), (.int (1 : Int32))])) rfl (hb hby at_23)) ?_
  show Go _ p e below s _ _ _ (T3.setTop (mkF m 25 #[.val (.int p1), .val (.int p2), .val (.int p3), .val (.long q4), .second, .val (.int p5), .val (.int r3), .val (.int ((1 : Int32) + ((p2 &&& (2147483647 : Int32)) % r3))), .unset, .unset, .unset, .unset, .unset, .unset] [(.int (2147483647 : Int32)), (.int p3), (.int (1 : Int32))]))
  refine go (fun _ => XS.iand X3.here hx rfl (hb hby at_25) rfl) ?_
  show Go _ p e below s _ _ _ (T3.setTop (mkF m 26 #[.val (.int p1), .val (.int p2), .val (.int p3), .val (.long q4), .second, .val (.int p5), .val (.int r3), .val (.int ((1 : Int32) + ((p2 &&& (2147483647 : Int32)) % r3))), .unset, .unset, .unset, .unset, .unset, .unset] [(.int (p3 &&& (2147483647 : Int32))), (.int (1 : Int32))]))
  obtain ⟨_, _, ⟨T4, L4, k4, n4⟩, -, X4, ⟨Lc4, hQ4, l4, y4, z4⟩, st4⟩ := Jvm.LawKit.callS X3 hx (y := (⟨"java/lang/Math", "max", "(II)I"⟩ : MethodName)) hown (mvT hZ (hw _ (List.mem_of_getElem? (i := 1) rfl))) (mvT hZ (hw _ (List.mem_of_getElem? (i := 2) rfl))) (mvT hZ (hw _ (List.mem_of_getElem? (i := 3) rfl))) (mvT hZ (hw _ (List.mem_of_getElem? (i := 4) rfl))) (by decide) (backOf (W := 0) (rm1 l Z a0 hw [] (1 : Int32) (p3 &&& (2147483647 : Int32)) h0 n0 Z0 ) hZ (hw _ (List.mem_of_getElem? (i := 4) rfl)) (hw _ (List.mem_of_getElem? (i := 3) rfl)) (by decide) (by decide)) (g := (mkF m 26 #[.val (.int p1), .val (.int p2), .val (.int p3), .val (.long q4), .second, .val (.int p5), .val (.int r3), .val (.int ((1 : Int32) + ((p2 &&& (2147483647 : Int32)) % r3))), .unset, .unset, .unset, .unset, .unset, .unset] [(.int (p3 &&& (2147483647 : Int32))), (.int (1 : Int32))])) rfl (by rw [hml]; rfl) (argsL := [(.int (1 : Int32)), (.int (p3 &&& (2147483647 : Int32)))]) (rest := []) (lenOf pd_0_0 rfl) rfl (by show 2 * 0 + _ ≤ _; exact Nat.le_of_eq rfl) (hb hby at_26) (fun _ _ => ⟨rfl, e3, (by decide : 0 + 0 ≤ _), (by decide : 0 + 0 ≤ _)⟩)
  dsimp only [Pt.U, Pt.locs, Pt.cells, Pt.slots] at X4 l4 y4 z4 st4 hQ4
  subst l4 y4 z4
  obtain ⟨r4, rfl, N4q, e4, u4_1⟩ := hQ4
  have N4 := Fr.app N3 N4q
  refine go st4 ?_
  show Go _ p e below s _ _ _ (T4.setTop (mkF m 29 #[.val (.int p1), .val (.int p2), .val (.int p3), .val (.long q4), .second, .val (.int p5), .val (.int r3), .val (.int ((1 : Int32) + ((p2 &&& (2147483647 : Int32)) % r3))), .unset, .unset, .unset, .unset, .unset, .unset] [(.int r4)]))
  refine go (fun _ => XS.istore X4.here hx rfl (hb hby at_29) rfl (l' := #[.val (.int p1), .val (.int p2), .val (.int p3), .val (.long q4), .second, .val (.int p5), .val (.int r3), .val (.int ((1 : Int32) + ((p2 &&& (2147483647 : Int32)) % r3))), .val (.int r4), .unset, .unset, .unset, .unset, .unset]) rfl) ?_
  show Go _ p e below s _ _ _ (T4.setTop (mkF m 31 #[.val (.int p1), .val (.int p2), .val (.int p3), .val (.long q4), .second, .val (.int p5), .val (.int r3), .val (.int ((1 : Int32) + ((p2 &&& (2147483647 : Int32)) % r3))), .val (.int r4), .unset, .unset, .unset, .unset, .unset] []))
  refine go (fun _ => XS.lloadN X4.here hx rfl (hb hby at_31) rfl) ?_
  show Go _ p e below s _ _ _ (T4.setTop (mkF m 32 #[.val (.int p1), .val (.int p2), .val (.int p3), .val (.long q4), .second, .val (.int p5), .val (.int r3), .val (.int ((1 : Int32) + ((p2 &&& (2147483647 : Int32)) % r3))), .val (.int r4), .unset, .unset, .unset, .unset, .unset] [(.long q4)]))
  refine go (fun _ => XS.iconst X4.here hx rfl (hb hby at_32)) ?_
  show Go _ p e below s _ _ _ (T4.setTop (mkF m 33 #[.val (.int p1), .val (.int p2), .val (.int p3), .val (.long q4), .second, .val (.int p5), .val (.int r3), .val (.int ((1 : Int32) + ((p2 &&& (2147483647 : Int32)) % r3))), .val (.int r4), .unset, .unset, .unset, .unset, .unset] [(.int (2 : Int32)), (.long q4)]))
  refine go (fun _ => XS.lushr X4.here hx rfl (hb hby at_33) rfl) ?_
  show Go _ p e below s _ _ _ (T4.setTop (mkF m 34 #[.val (.int p1), .val (.int p2), .val (.int p3), .val (.long q4), .second, .val (.int p5), .val (.int r3), .val (.int ((1 : Int32) + ((p2 &&& (2147483647 : Int32)) % r3))), .val (.int r4), .unset, .unset, .unset, .unset, .unset] [(.long ((q4.toUInt64 >>> ((2 : Int32) &&& 0x3f).toInt64.toUInt64).toInt64))]))
  refine go (fun _ => XS.lstore X4.here hx rfl (hb hby at_34) rfl (l' := #[.val (.int p1), .val (.int p2), .val (.int p3), .val (.long q4), .second, .val (.int p5), .val (.int r3), .val (.int ((1 : Int32) + ((p2 &&& (2147483647 : Int32)) % r3))), .val (.int r4), .val (.long ((q4.toUInt64 >>> ((2 : Int32) &&& 0x3f).toInt64.toUInt64).toInt64)), .second, .unset, .unset, .unset]) rfl) ?_
  show Go _ p e below s _ _ _ (T4.setTop (mkF m 36 #[.val (.int p1), .val (.int p2), .val (.int p3), .val (.long q4), .second, .val (.int p5), .val (.int r3), .val (.int ((1 : Int32) + ((p2 &&& (2147483647 : Int32)) % r3))), .val (.int r4), .val (.long ((q4.toUInt64 >>> ((2 : Int32) &&& 0x3f).toInt64.toUInt64).toInt64)), .second, .unset, .unset, .unset] []))
  refine go (fun _ => XS.iload X4.here hx rfl (hb hby at_36) rfl) ?_
  show Go _ p e below s _ _ _ (T4.setTop (mkF m 38 #[.val (.int p1), .val (.int p2), .val (.int p3), .val (.long q4), .second, .val (.int p5), .val (.int r3), .val (.int ((1 : Int32) + ((p2 &&& (2147483647 : Int32)) % r3))), .val (.int r4), .val (.long ((q4.toUInt64 >>> ((2 : Int32) &&& 0x3f).toInt64.toUInt64).toInt64)), .second, .unset, .unset, .unset] [(.int ((1 : Int32) + ((p2 &&& (2147483647 : Int32)) % r3)))]))
  refine go (fun _ => XS.i2l X4.here hx rfl (hb hby at_38) rfl) ?_
  show Go _ p e below s _ _ _ (T4.setTop (mkF m 39 #[.val (.int p1), .val (.int p2), .val (.int p3), .val (.long q4), .second, .val (.int p5), .val (.int r3), .val (.int ((1 : Int32) + ((p2 &&& (2147483647 : Int32)) % r3))), .val (.int r4), .val (.long ((q4.toUInt64 >>> ((2 : Int32) &&& 0x3f).toInt64.toUInt64).toInt64)), .second, .unset, .unset, .unset] [(.long (((1 : Int32) + ((p2 &&& (2147483647 : Int32)) % r3)).toInt64))]))
  refine go (fun _ => XS.iload X4.here hx rfl (hb hby at_39) rfl) ?_
  show Go _ p e below s _ _ _ (T4.setTop (mkF m 41 #[.val (.int p1), .val (.int p2), .val (.int p3), .val (.long q4), .second, .val (.int p5), .val (.int r3), .val (.int ((1 : Int32) + ((p2 &&& (2147483647 : Int32)) % r3))), .val (.int r4), .val (.long ((q4.toUInt64 >>> ((2 : Int32) &&& 0x3f).toInt64.toUInt64).toInt64)), .second, .unset, .unset, .unset] [(.int r4), (.long (((1 : Int32) + ((p2 &&& (2147483647 : Int32)) % r3)).toInt64))]))
  refine go (fun _ => XS.i2l X4.here hx rfl (hb hby at_41) rfl) ?_
  show Go _ p e below s _ _ _ (T4.setTop (mkF m 42 #[.val (.int p1), .val (.int p2), .val (.int p3), .val (.long q4), .second, .val (.int p5), .val (.int r3), .val (.int ((1 : Int32) + ((p2 &&& (2147483647 : Int32)) % r3))), .val (.int r4), .val (.long ((q4.toUInt64 >>> ((2 : Int32) &&& 0x3f).toInt64.toUInt64).toInt64)), .second, .unset, .unset, .unset] [(.long (r4.toInt64)), (.long (((1 : Int32) + ((p2 &&& (2147483647 : Int32)) % r3)).toInt64))]))
  refine go (fun _ => XS.lmul X4.here hx rfl (hb hby at_42) rfl) ?_
  show Go _ p e below s _ _ _ (T4.setTop (mkF m 43 #[.val (.int p1), .val (.int p2), .val (.int p3), .val (.long q4), .second, .val (.int p5), .val (.int r3), .val (.int ((1 : Int32) + ((p2 &&& (2147483647 : Int32)) % r3))), .val (.int r4), .val (.long ((q4.toUInt64 >>> ((2 : Int32) &&& 0x3f).toInt64.toUInt64).toInt64)), .second, .unset, .unset, .unset] [(.long ((((1 : Int32) + ((p2 &&& (2147483647 : Int32)) % r3)).toInt64) * (r4.toInt64)))]))
  refine go (fun _ => XS.lload X4.here hx rfl (hb hby at_43) rfl) ?_
  show Go _ p e below s _ _ _ (T4.setTop (mkF m 45 #[.val (.int p1), .val (.int p2), .val (.int p3), .val (.long q4), .second, .val (.int p5), .val (.int r3), .val (.int ((1 : Int32) + ((p2 &&& (2147483647 : Int32)) % r3))), .val (.int r4), .val (.long ((q4.toUInt64 >>> ((2 : Int32) &&& 0x3f).toInt64.toUInt64).toInt64)), .second, .unset, .unset, .unset] [(.long ((q4.toUInt64 >>> ((2 : Int32) &&& 0x3f).toInt64.toUInt64).toInt64)), (.long ((((1 : Int32) + ((p2 &&& (2147483647 : Int32)) % r3)).toInt64) * (r4.toInt64)))]))
  refine go (fun _ => XS.ladd X4.here hx rfl (hb hby at_45) rfl) ?_
  show Go _ p e below s _ _ _ (T4.setTop (mkF m 46 #[.val (.int p1), .val (.int p2), .val (.int p3), .val (.long q4), .second, .val (.int p5), .val (.int r3), .val (.int ((1 : Int32) + ((p2 &&& (2147483647 : Int32)) % r3))), .val (.int r4), .val (.long ((q4.toUInt64 >>> ((2 : Int32) &&& 0x3f).toInt64.toUInt64).toInt64)), .second, .unset, .unset, .unset] [(.long (((((1 : Int32) + ((p2 &&& (2147483647 : Int32)) % r3)).toInt64) * (r4.toInt64)) + ((q4.toUInt64 >>> ((2 : Int32) &&& 0x3f).toInt64.toUInt64).toInt64)))]))
  refine go (fun _ => XS.lstore X4.here hx rfl (hb hby at_46) rfl (l' := #[.val (.int p1), .val (.int p2), .val (.int p3), .val (.long q4), .second, .val (.int p5), .val (.int r3), .val (.int ((1 : Int32) + ((p2 &&& (2147483647 : Int32)) % r3))), .val (.int r4), .val (.long ((q4.toUInt64 >>> ((2 : Int32) &&& 0x3f).toInt64.toUInt64).toInt64)), .second, .val (.long (((((1 : Int32) + ((p2 &&& (2147483647 : Int32)) % r3)).toInt64) * (r4.toInt64)) + ((q4.toUInt64 >>> ((2 : Int32) &&& 0x3f).toInt64.toUInt64).toInt64))), .second, .unset]) rfl) ?_
  show Go _ p e below s _ _ _ (T4.setTop (mkF m 48 #[.val (.int p1), .val (.int p2), .val (.int p3), .val (.long q4), .second, .val (.int p5), .val (.int r3), .val (.int ((1 : Int32) + ((p2 &&& (2147483647 : Int32)) % r3))), .val (.int r4), .val (.long ((q4.toUInt64 >>> ((2 : Int32) &&& 0x3f).toInt64.toUInt64).toInt64)), .second, .val (.long (((((1 : Int32) + ((p2 &&& (2147483647 : Int32)) % r3)).toInt64) * (r4.toInt64)) + ((q4.toUInt64 >>> ((2 : Int32) &&& 0x3f).toInt64.toUInt64).toInt64))), .second, .unset] []))
  refine go (fun _ => XS.iconst X4.here hx rfl (hb hby at_48)) ?_
  show Go _ p e below s _ _ _ (T4.setTop (mkF m 49 #[.val (.int p1), .val (.int p2), .val (.int p3), .val (.long q4), .second, .val (.int p5), .val (.int r3), .val (.int ((1 : Int32) + ((p2 &&& (2147483647 : Int32)) % r3))), .val (.int r4), .val (.long ((q4.toUInt64 >>> ((2 : Int32) &&& 0x3f).toInt64.toUInt64).toInt64)), .second, .val (.long (((((1 : Int32) + ((p2 &&& (2147483647 : Int32)) % r3)).toInt64) * (r4.toInt64)) + ((q4.toUInt64 >>> ((2 : Int32) &&& 0x3f).toInt64.toUInt64).toInt64))), .second, .unset] [(.int (1 : Int32))]))
  refine go (fun _ => XS.iload X4.here hx rfl (hb hby at_49) rfl) ?_
  show Go _ p e below s _ _ _ (T4.setTop (mkF m 51 #[.val (.int p1), .val (.int p2), .val (.int p3), .val (.long q4), .second, .val (.int p5), .val (.int r3), .val (.int ((1 : Int32) + ((p2 &&& (2147483647 : Int32)) % r3))), .val (.int r4), .val (.long ((q4.toUInt64 >>> ((2 : Int32) &&& 0x3f).toInt64.toUInt64).toInt64)), .second, .val (.long (((((1 : Int32) + ((p2 &&& (2147483647 : Int32)) % r3)).toInt64) * (r4.toInt64)) + ((q4.toUInt64 >>> ((2 : Int32) &&& 0x3f).toInt64.toUInt64).toInt64))), .second, .unset] [(.int p5), (.int (1 : Int32))]))
  refine go (X4.ldcInt hx hown (mvT hZ (hw _ (List.mem_of_getElem? (i := 0) rfl))) (g := (mkF m 51 #[.val (.int p1), .val (.int p2), .val (.int p3), .val (.long q4), .second, .val (.int p5), .val (.int r3), .val (.int ((1 : Int32) + ((p2 &&& (2147483647 : Int32)) % r3))), .val (.int r4), .val (.long ((q4.toUInt64 >>> ((2 : Int32) &&& 0x3f).toInt64.toUInt64).toInt64)), .second, .val (.long (((((1 : Int32) + ((p2 &&& (2147483647 : Int32)) % r3)).toInt64) * (r4.toInt64)) + ((q4.toUInt64 >>> ((2 : Int32) &&& 0x3f).toInt64.toUInt64).toInt64))), .second, .unset] [(.int p5), (.int (1 : Int32))])) rfl (hb hby at_51)) ?_
  show Go _ p e below s _ _ _ (T4.setTop (mkF m 53 #[.val (.int p1), .val (.int p2), .val (.int p3), .val (.long q4), .second, .val (.int p5), .val (.int r3), .val (.int ((1 : Int32) + ((p2 &&& (2147483647 : Int32)) % r3))), .val (.int r4), .val (.long ((q4.toUInt64 >>> ((2 : Int32) &&& 0x3f).toInt64.toUInt64).toInt64)), .second, .val (.long (((((1 : Int32) + ((p2 &&& (2147483647 : Int32)) % r3)).toInt64) * (r4.toInt64)) + ((q4.toUInt64 >>> ((2 : Int32) &&& 0x3f).toInt64.toUInt64).toInt64))), .second, .unset] [(.int (2147483647 : Int32)), (.int p5), (.int (1 : Int32))]))
  refine go (fun _ => XS.iand X4.here hx rfl (hb hby at_53) rfl) ?_
  show Go _ p e below s _ _ _ (T4.setTop (mkF m 54 #[.val (.int p1), .val (.int p2), .val (.int p3), .val (.long q4), .second, .val (.int p5), .val (.int r3), .val (.int ((1 : Int32) + ((p2 &&& (2147483647 : Int32)) % r3))), .val (.int r4), .val (.long ((q4.toUInt64 >>> ((2 : Int32) &&& 0x3f).toInt64.toUInt64).toInt64)), .second, .val (.long (((((1 : Int32) + ((p2 &&& (2147483647 : Int32)) % r3)).toInt64) * (r4.toInt64)) + ((q4.toUInt64 >>> ((2 : Int32) &&& 0x3f).toInt64.toUInt64).toInt64))), .second, .unset] [(.int (p5 &&& (2147483647 : Int32))), (.int (1 : Int32))]))
  refine go (fun _ => XS.iload X4.here hx rfl (hb hby at_54) rfl) ?_
  show Go _ p e below s _ _ _ (T4.setTop (mkF m 56 #[.val (.int p1), .val (.int p2), .val (.int p3), .val (.long q4), .second, .val (.int p5), .val (.int r3), .val (.int ((1 : Int32) + ((p2 &&& (2147483647 : Int32)) % r3))), .val (.int r4), .val (.long ((q4.toUInt64 >>> ((2 : Int32) &&& 0x3f).toInt64.toUInt64).toInt64)), .second, .val (.long (((((1 : Int32) + ((p2 &&& (2147483647 : Int32)) % r3)).toInt64) * (r4.toInt64)) + ((q4.toUInt64 >>> ((2 : Int32) &&& 0x3f).toInt64.toUInt64).toInt64))), .second, .unset] [(.int ((1 : Int32) + ((p2 &&& (2147483647 : Int32)) % r3))), (.int (p5 &&& (2147483647 : Int32))), (.int (1 : Int32))]))
  refine go (fun _ => iremM X4 hx rfl (hb hby at_56) rfl (own_nz (own_mod p2 u3_1.1).1)) ?_
  show Go _ p e below s _ _ _ (T4.setTop (mkF m 57 #[.val (.int p1), .val (.int p2), .val (.int p3), .val (.long q4), .second, .val (.int p5), .val (.int r3), .val (.int ((1 : Int32) + ((p2 &&& (2147483647 : Int32)) % r3))), .val (.int r4), .val (.long ((q4.toUInt64 >>> ((2 : Int32) &&& 0x3f).toInt64.toUInt64).toInt64)), .second, .val (.long (((((1 : Int32) + ((p2 &&& (2147483647 : Int32)) % r3)).toInt64) * (r4.toInt64)) + ((q4.toUInt64 >>> ((2 : Int32) &&& 0x3f).toInt64.toUInt64).toInt64))), .second, .unset] [(.int ((p5 &&& (2147483647 : Int32)) % ((1 : Int32) + ((p2 &&& (2147483647 : Int32)) % r3)))), (.int (1 : Int32))]))
  refine go (fun _ => XS.iadd X4.here hx rfl (hb hby at_57) rfl) ?_
  show Go _ p e below s _ _ _ (T4.setTop (mkF m 58 #[.val (.int p1), .val (.int p2), .val (.int p3), .val (.long q4), .second, .val (.int p5), .val (.int r3), .val (.int ((1 : Int32) + ((p2 &&& (2147483647 : Int32)) % r3))), .val (.int r4), .val (.long ((q4.toUInt64 >>> ((2 : Int32) &&& 0x3f).toInt64.toUInt64).toInt64)), .second, .val (.long (((((1 : Int32) + ((p2 &&& (2147483647 : Int32)) % r3)).toInt64) * (r4.toInt64)) + ((q4.toUInt64 >>> ((2 : Int32) &&& 0x3f).toInt64.toUInt64).toInt64))), .second, .unset] [(.int ((1 : Int32) + ((p5 &&& (2147483647 : Int32)) % ((1 : Int32) + ((p2 &&& (2147483647 : Int32)) % r3)))))]))
  refine go (fun _ => XS.istore X4.here hx rfl (hb hby at_58) rfl (l' := #[.val (.int p1), .val (.int p2), .val (.int p3), .val (.long q4), .second, .val (.int p5), .val (.int r3), .val (.int ((1 : Int32) + ((p2 &&& (2147483647 : Int32)) % r3))), .val (.int r4), .val (.long ((q4.toUInt64 >>> ((2 : Int32) &&& 0x3f).toInt64.toUInt64).toInt64)), .second, .val (.long (((((1 : Int32) + ((p2 &&& (2147483647 : Int32)) % r3)).toInt64) * (r4.toInt64)) + ((q4.toUInt64 >>> ((2 : Int32) &&& 0x3f).toInt64.toUInt64).toInt64))), .second, .val (.int ((1 : Int32) + ((p5 &&& (2147483647 : Int32)) % ((1 : Int32) + ((p2 &&& (2147483647 : Int32)) % r3)))))]) rfl) ?_
  show Go _ p e below s _ _ _ (T4.setTop (mkF m 60 #[.val (.int p1), .val (.int p2), .val (.int p3), .val (.long q4), .second, .val (.int p5), .val (.int r3), .val (.int ((1 : Int32) + ((p2 &&& (2147483647 : Int32)) % r3))), .val (.int r4), .val (.long ((q4.toUInt64 >>> ((2 : Int32) &&& 0x3f).toInt64.toUInt64).toInt64)), .second, .val (.long (((((1 : Int32) + ((p2 &&& (2147483647 : Int32)) % r3)).toInt64) * (r4.toInt64)) + ((q4.toUInt64 >>> ((2 : Int32) &&& 0x3f).toInt64.toUInt64).toInt64))), .second, .val (.int ((1 : Int32) + ((p5 &&& (2147483647 : Int32)) % ((1 : Int32) + ((p2 &&& (2147483647 : Int32)) % r3)))))] []))
  refine go (fun _ => XS.iload X4.here hx rfl (hb hby at_60) rfl) ?_
  show Go _ p e below s _ _ _ (T4.setTop (mkF m 62 #[.val (.int p1), .val (.int p2), .val (.int p3), .val (.long q4), .second, .val (.int p5), .val (.int r3), .val (.int ((1 : Int32) + ((p2 &&& (2147483647 : Int32)) % r3))), .val (.int r4), .val (.long ((q4.toUInt64 >>> ((2 : Int32) &&& 0x3f).toInt64.toUInt64).toInt64)), .second, .val (.long (((((1 : Int32) + ((p2 &&& (2147483647 : Int32)) % r3)).toInt64) * (r4.toInt64)) + ((q4.toUInt64 >>> ((2 : Int32) &&& 0x3f).toInt64.toUInt64).toInt64))), .second, .val (.int ((1 : Int32) + ((p5 &&& (2147483647 : Int32)) % ((1 : Int32) + ((p2 &&& (2147483647 : Int32)) % r3)))))] [(.int ((1 : Int32) + ((p2 &&& (2147483647 : Int32)) % r3)))]))
  refine go (fun _ => XS.iload X4.here hx rfl (hb hby at_62) rfl) ?_
  show Go _ p e below s _ _ _ (T4.setTop (mkF m 64 #[.val (.int p1), .val (.int p2), .val (.int p3), .val (.long q4), .second, .val (.int p5), .val (.int r3), .val (.int ((1 : Int32) + ((p2 &&& (2147483647 : Int32)) % r3))), .val (.int r4), .val (.long ((q4.toUInt64 >>> ((2 : Int32) &&& 0x3f).toInt64.toUInt64).toInt64)), .second, .val (.long (((((1 : Int32) + ((p2 &&& (2147483647 : Int32)) % r3)).toInt64) * (r4.toInt64)) + ((q4.toUInt64 >>> ((2 : Int32) &&& 0x3f).toInt64.toUInt64).toInt64))), .second, .val (.int ((1 : Int32) + ((p5 &&& (2147483647 : Int32)) % ((1 : Int32) + ((p2 &&& (2147483647 : Int32)) % r3)))))] [(.int r3), (.int ((1 : Int32) + ((p2 &&& (2147483647 : Int32)) % r3)))]))
  refine go (fun _ => XS.iload X4.here hx rfl (hb hby at_64) rfl) ?_
  show Go _ p e below s _ _ _ (T4.setTop (mkF m 66 #[.val (.int p1), .val (.int p2), .val (.int p3), .val (.long q4), .second, .val (.int p5), .val (.int r3), .val (.int ((1 : Int32) + ((p2 &&& (2147483647 : Int32)) % r3))), .val (.int r4), .val (.long ((q4.toUInt64 >>> ((2 : Int32) &&& 0x3f).toInt64.toUInt64).toInt64)), .second, .val (.long (((((1 : Int32) + ((p2 &&& (2147483647 : Int32)) % r3)).toInt64) * (r4.toInt64)) + ((q4.toUInt64 >>> ((2 : Int32) &&& 0x3f).toInt64.toUInt64).toInt64))), .second, .val (.int ((1 : Int32) + ((p5 &&& (2147483647 : Int32)) % ((1 : Int32) + ((p2 &&& (2147483647 : Int32)) % r3)))))] [(.int r4), (.int r3), (.int ((1 : Int32) + ((p2 &&& (2147483647 : Int32)) % r3)))]))
  refine go (fun _ => XS.lload X4.here hx rfl (hb hby at_66) rfl) ?_
  show Go _ p e below s _ _ _ (T4.setTop (mkF m 68 #[.val (.int p1), .val (.int p2), .val (.int p3), .val (.long q4), .second, .val (.int p5), .val (.int r3), .val (.int ((1 : Int32) + ((p2 &&& (2147483647 : Int32)) % r3))), .val (.int r4), .val (.long ((q4.toUInt64 >>> ((2 : Int32) &&& 0x3f).toInt64.toUInt64).toInt64)), .second, .val (.long (((((1 : Int32) + ((p2 &&& (2147483647 : Int32)) % r3)).toInt64) * (r4.toInt64)) + ((q4.toUInt64 >>> ((2 : Int32) &&& 0x3f).toInt64.toUInt64).toInt64))), .second, .val (.int ((1 : Int32) + ((p5 &&& (2147483647 : Int32)) % ((1 : Int32) + ((p2 &&& (2147483647 : Int32)) % r3)))))] [(.long (((((1 : Int32) + ((p2 &&& (2147483647 : Int32)) % r3)).toInt64) * (r4.toInt64)) + ((q4.toUInt64 >>> ((2 : Int32) &&& 0x3f).toInt64.toUInt64).toInt64))), (.int r4), (.int r3), (.int ((1 : Int32) + ((p2 &&& (2147483647 : Int32)) % r3)))]))
  refine go (fun _ => XS.iload X4.here hx rfl (hb hby at_68) rfl) ?_
  show Go _ p e below s _ _ _ (T4.setTop (mkF m 70 #[.val (.int p1), .val (.int p2), .val (.int p3), .val (.long q4), .second, .val (.int p5), .val (.int r3), .val (.int ((1 : Int32) + ((p2 &&& (2147483647 : Int32)) % r3))), .val (.int r4), .val (.long ((q4.toUInt64 >>> ((2 : Int32) &&& 0x3f).toInt64.toUInt64).toInt64)), .second, .val (.long (((((1 : Int32) + ((p2 &&& (2147483647 : Int32)) % r3)).toInt64) * (r4.toInt64)) + ((q4.toUInt64 >>> ((2 : Int32) &&& 0x3f).toInt64.toUInt64).toInt64))), .second, .val (.int ((1 : Int32) + ((p5 &&& (2147483647 : Int32)) % ((1 : Int32) + ((p2 &&& (2147483647 : Int32)) % r3)))))] [(.int ((1 : Int32) + ((p5 &&& (2147483647 : Int32)) % ((1 : Int32) + ((p2 &&& (2147483647 : Int32)) % r3))))), (.long (((((1 : Int32) + ((p2 &&& (2147483647 : Int32)) % r3)).toInt64) * (r4.toInt64)) + ((q4.toUInt64 >>> ((2 : Int32) &&& 0x3f).toInt64.toUInt64).toInt64))), (.int r4), (.int r3), (.int ((1 : Int32) + ((p2 &&& (2147483647 : Int32)) % r3)))]))
  obtain ⟨_, _, ⟨T5, L5, k5, n5⟩, -, X5, ⟨Lc5, hQ5, l5, y5, z5⟩, st5⟩ := Jvm.LawKit.callS X4 hx (y := (⟨"com/example/lim1/lim1/Workload", "checkSize", "(IIIJI)V"⟩ : MethodName)) hown (mvT hZ (hw _ (List.mem_of_getElem? (i := 5) rfl))) (mvT hZ (hw _ (List.mem_of_getElem? (i := 6) rfl))) (mvT hZ (hw _ (List.mem_of_getElem? (i := 7) rfl))) (mvT hZ (hw _ (List.mem_of_getElem? (i := 8) rfl))) (by decide) (backOf (W := 0) (rm2 l Z a0 hw [] ((1 : Int32) + ((p2 &&& (2147483647 : Int32)) % r3)) r3 r4 (((((1 : Int32) + ((p2 &&& (2147483647 : Int32)) % r3)).toInt64) * (r4.toInt64)) + ((q4.toUInt64 >>> ((2 : Int32) &&& 0x3f).toInt64.toUInt64).toInt64)) ((1 : Int32) + ((p5 &&& (2147483647 : Int32)) % ((1 : Int32) + ((p2 &&& (2147483647 : Int32)) % r3)))) h0 n0 Z0 (own_mod p2 u3_1.1).1 (own_mod p2 u3_1.1).2 u4_1.1 (own_sum (own_mod p2 u3_1.1).1 u4_1.1 q4) (own_mod p5 (own_mod p2 u3_1.1).1).1 (own_mod p5 (own_mod p2 u3_1.1).1).2) hZ (hw _ (List.mem_of_getElem? (i := 8) rfl)) (hw _ (List.mem_of_getElem? (i := 7) rfl)) (by decide) (by decide)) (g := (mkF m 70 #[.val (.int p1), .val (.int p2), .val (.int p3), .val (.long q4), .second, .val (.int p5), .val (.int r3), .val (.int ((1 : Int32) + ((p2 &&& (2147483647 : Int32)) % r3))), .val (.int r4), .val (.long ((q4.toUInt64 >>> ((2 : Int32) &&& 0x3f).toInt64.toUInt64).toInt64)), .second, .val (.long (((((1 : Int32) + ((p2 &&& (2147483647 : Int32)) % r3)).toInt64) * (r4.toInt64)) + ((q4.toUInt64 >>> ((2 : Int32) &&& 0x3f).toInt64.toUInt64).toInt64))), .second, .val (.int ((1 : Int32) + ((p5 &&& (2147483647 : Int32)) % ((1 : Int32) + ((p2 &&& (2147483647 : Int32)) % r3)))))] [(.int ((1 : Int32) + ((p5 &&& (2147483647 : Int32)) % ((1 : Int32) + ((p2 &&& (2147483647 : Int32)) % r3))))), (.long (((((1 : Int32) + ((p2 &&& (2147483647 : Int32)) % r3)).toInt64) * (r4.toInt64)) + ((q4.toUInt64 >>> ((2 : Int32) &&& 0x3f).toInt64.toUInt64).toInt64))), (.int r4), (.int r3), (.int ((1 : Int32) + ((p2 &&& (2147483647 : Int32)) % r3)))])) rfl (by rw [hml]; rfl) (argsL := [(.int ((1 : Int32) + ((p2 &&& (2147483647 : Int32)) % r3))), (.int r3), (.int r4), (.long (((((1 : Int32) + ((p2 &&& (2147483647 : Int32)) % r3)).toInt64) * (r4.toInt64)) + ((q4.toUInt64 >>> ((2 : Int32) &&& 0x3f).toInt64.toUInt64).toInt64))), (.int ((1 : Int32) + ((p5 &&& (2147483647 : Int32)) % ((1 : Int32) + ((p2 &&& (2147483647 : Int32)) % r3)))))]) (rest := []) (lenOf pd_0_1 rfl) rfl (by show 2 * 0 + _ ≤ _; exact Nat.le_of_eq rfl) (hb hby at_70) (fun _ _ => ⟨rfl, e4, (by decide : 0 + 0 ≤ _), (by decide : 0 + 0 ≤ _)⟩)
  dsimp only [Pt.U, Pt.locs, Pt.cells, Pt.slots] at X5 l5 y5 z5 st5 hQ5
  subst l5 y5 z5
  obtain ⟨rfl, N5q, e5⟩ := hQ5
  have N5 := Fr.app N4 N5q
  refine go st5 ?_
  show Go _ p e below s _ _ _ (T5.setTop (mkF m 73 #[.val (.int p1), .val (.int p2), .val (.int p3), .val (.long q4), .second, .val (.int p5), .val (.int r3), .val (.int ((1 : Int32) + ((p2 &&& (2147483647 : Int32)) % r3))), .val (.int r4), .val (.long ((q4.toUInt64 >>> ((2 : Int32) &&& 0x3f).toInt64.toUInt64).toInt64)), .second, .val (.long (((((1 : Int32) + ((p2 &&& (2147483647 : Int32)) % r3)).toInt64) * (r4.toInt64)) + ((q4.toUInt64 >>> ((2 : Int32) &&& 0x3f).toInt64.toUInt64).toInt64))), .second, .val (.int ((1 : Int32) + ((p5 &&& (2147483647 : Int32)) % ((1 : Int32) + ((p2 &&& (2147483647 : Int32)) % r3)))))] []))
  refine go (fun _ => XS.iconst X5.here hx rfl (hb hby at_73)) ?_
  show Go _ p e below s _ _ _ (T5.setTop (mkF m 74 #[.val (.int p1), .val (.int p2), .val (.int p3), .val (.long q4), .second, .val (.int p5), .val (.int r3), .val (.int ((1 : Int32) + ((p2 &&& (2147483647 : Int32)) % r3))), .val (.int r4), .val (.long ((q4.toUInt64 >>> ((2 : Int32) &&& 0x3f).toInt64.toUInt64).toInt64)), .second, .val (.long (((((1 : Int32) + ((p2 &&& (2147483647 : Int32)) % r3)).toInt64) * (r4.toInt64)) + ((q4.toUInt64 >>> ((2 : Int32) &&& 0x3f).toInt64.toUInt64).toInt64))), .second, .val (.int ((1 : Int32) + ((p5 &&& (2147483647 : Int32)) % ((1 : Int32) + ((p2 &&& (2147483647 : Int32)) % r3)))))] [(.int (1 : Int32))]))
  refine goRet X5 hx Bd.notSynchronized Bd.returns rfl (Or.inl ⟨rfl, Or.inr (Or.inl rfl), _, rfl⟩) (hb hby at_74) (by decide) (by decide) (by rw [e5]; refine ⟨rfl, N5⟩)
set_option maxRecDepth 65536 in
set_option maxHeartbeats 40000000 in
theorem comes_1 {Post : Tables → Env → Array Value → State → Outcome → State → Prop} (hpost : ∀ tb e args s v u, (limb_1_1.after args s (.returned v) u = true ∧ limb_1_2.after args s (.returned v) u = true ∧ True) → FrameEnd s (.returned v) u (Jvm.fieldLocs frame_1_writes args s ++ Jvm.arrayLocs frame_1_arrays args s ++ Jvm.staticLocs frame_1_statics s) 0 0 → Post tb e args s (.returned v) u) :
    ArmFor flags0 classFile x code maxLocals ret World_1 tables_1 room_1 Calls_1 rest_1 Pre_1 Post := by
  intro l hfl _ _ p e ha hc hk s m args below hf hA hF happ hP
  obtain ⟨hcalls, hrest, hpre⟩ := hP
  obtain ⟨-, -, -, hnamed, -, -, -, hat⟩ := (Spec.applies_iff hf).mp happ
  obtain ⟨hg, hn⟩ := and_e (Cond.before_iff.mp (show (Jvm.Cond.and given_1 narrow_1).before args s = true from hpre))
  obtain ⟨q0, r0⟩ := and_e hg
  obtain ⟨q1, r1⟩ := and_e r0
  obtain ⟨q2, r2⟩ := and_e r1
  obtain ⟨q3, r3⟩ := and_e r2
  obtain ⟨q4, r4⟩ := and_e r3
  obtain ⟨w0, w1, w2, w3, w4, rfl⟩ : ∃ w0 w1 w2 w3 w4 : Value, args = #[w0, w1, w2, w3, w4] := by
    have hs : args.size = 5 := by simpa [Cond.value, given_1] using q0
    obtain ⟨L⟩ := args
    match L, hs with
    | [w0, w1, w2, w3, w4], _ => exact ⟨w0, w1, w2, w3, w4, rfl⟩
  have hw := fun d (hd : d ∈ tables_1) => atoms_spec (ws := Jvm.Cond.code x code maxLocals ret :: tables_1) hat d (List.mem_cons_of_mem _ hd)
  have hfit : Fit s := fun {y c} hc i hi => by
    obtain ⟨ha, rfl⟩ := Array.getElem?_eq_some_iff.mp hc
    have q := List.all_eq_true.mp ((Array.all_eq_true_iff_forall_mem.mp hF) _ (Array.getElem_mem ha)) i (List.mem_range.mpr hi)
    simpa [Array.getElem?_eq_getElem hi] using q
  obtain ⟨i0, ei0⟩ := is_v q1
  obtain rfl : w0 = (.int i0) := Option.some.inj ei0
  obtain ⟨i1, ei1⟩ := is_v q2
  obtain rfl : w1 = (.int i1) := Option.some.inj ei1
  obtain ⟨i2, ei2⟩ := is_v q3
  obtain rfl : w2 = (.int i2) := Option.some.inj ei2
  obtain ⟨i3, ei3⟩ := isL_v q4
  obtain rfl : w3 = (.long i3) := Option.some.inj ei3
  obtain ⟨i4, ei4⟩ := is_v r4
  obtain rfl : w4 = (.int i4) := Option.some.inj ei4
  obtain ⟨n, o, h1, h2, h3, _, L, rfl, ⟨rfl, N⟩, hq⟩ := rm0 l s _ hw tables_1 i0 i1 i2 i3 i4  s.heap s.heap.size (Nat.le_refl _)  p e ha hc hk s m _ below hf ((Spec.applies_iff_loose hf).mp happ).1 ⟨rfl, State.Warmed39.refl s, rfl⟩ trivial
  refine ⟨n, _, h1, h2, h3, hpost _ _ _ _ _ _ ⟨Cond.after_iff.mpr rfl, Cond.after_iff.mpr (eq_i res_at (Term.int_eval (1)) rfl), trivial⟩ ⟨hq.1, hq.2.1, (hq.2.2.sift fun y hy => Or.inr (N y hy)).mono (by decide) (by decide)⟩⟩
theorem main_1_1 : Claimed_1_1 := comes_1 fun _ _ _ _ _ _ h hF => ⟨h.1, hF⟩
theorem main_1_2 : Claimed_1_2 := comes_1 fun _ _ _ _ _ _ h hF => ⟨h.2.1, hF⟩
end Jvm.Pilot.@@N@@
namespace Jvm.Pilot.@@N@@
open Jvm Jvm.ClassFile Sem Op Lib Jvm.Free Jvm.Stand Jvm.Pilot.@@N@@.Jvm.D
/-! MADE BY PROGRAM (witnessworld.py) out of the Statement's table words and the real class files: 13 classes; the members and pool entries that the words name. The judged class is class 1, her method 1. -/
namespace start1
open Jvm.ClassFile
def u (s : String) : CpInfo := .utf8 (stringToUtf16 s)
/-- a pool by its gaps: so many unusable entries, then the entry; so many at the end -/
def gap : Nat → List CpInfo → List CpInfo
  | 0, r => r
  | n + 1, r => .unusable :: gap n r
def poolList (es : List (Nat × CpInfo)) (last : Nat) : List CpInfo := es.foldr (fun e r => gap e.1 (e.2 :: r)) (gap last [])
def pool (es : List (Nat × CpInfo)) (last : Nat) : Array CpInfo := ⟨poolList es last⟩
def fileOf (pool : Array CpInfo) (this : Nat) (attrs : Array Attribute := #[]) (ms : Array MethodInfo := #[]) (fl : Nat := 33) (sup : Nat := 0) (ifs : Array Nat := #[]) (fds : Array FieldInfo := #[]) : ClassFile where
  minorVersion := 0
  majorVersion := 65
  constantPool := pool
  accessFlags := fl
  thisClass := this
  superClass := sup
  interfaces := ifs
  fields := fds
  methods := ms
  attributes := attrs
def plain (name : String) (sup : Option ClassId) : Class where
  name := name
  kind := .ordinary
  loader := none
  accessFlags := 33
  super := sup
  interfaces := #[]
  cf := none
  fields := #[]
  methods := #[]
  instanceTypes := #[]
  staticTypes := #[]
  resolved := #[]
  callSites := []
  init := .initialized
  statics := none
  mirror := none

def pool0 : Array CpInfo := pool [(5, u "<init>"), (0, u "()V"), (1, .class_ 10), (1, u "java/lang/Object")] 113

def k0m0 : Method := { name := "<init>", desc := "()V", sig := { parameters := [], returnType := none }, accessFlags := 1, code := none }
/-- java/lang/Object -/
def k0 : Class := { plain "java/lang/Object" none with
  accessFlags := 33
  interfaces := #[]
  cf := some (fileOf pool0 8 #[] #[{ accessFlags := 1, nameIndex := 5, descriptorIndex := 6, attributes := #[] }] 33 0 #[] #[])
  fields := #[]
  methods := #[k0m0]
  instanceTypes := #[]
  staticTypes := #[]
  resolved := Array.replicate 124 none
  statics := none }

def pool1 : Array CpInfo := pool [(2, .class_ 4), (1, u "java/lang/Object"), (0, u "<init>"), (0, u "()V"), (0, .integer 2147483647), (0, .methodref 9 10), (0, .class_ 11), (0, .nameAndType 12 13), (0, u "java/lang/Math"), (0, u "max"), (0, u "(II)I"), (0, .methodref 15 16), (0, .class_ 17), (0, .nameAndType 18 19), (0, u "com/example/lim1/lim1/Workload"), (0, u "checkSize"), (0, u "(IIIJI)V"), (0, .class_ 21), (0, u "com/example/lim1/lim1/WorkloadCheckSizePinLaw"), (2, u "law"), (0, u "(IIIJI)Z")] 2

def k1m0 : Method := { name := "<init>", desc := "()V", sig := { parameters := [], returnType := none }, accessFlags := 2, code := none }
def k1c1 : Code := { maxStack := 6, maxLocals := 14, code := code, exceptionTable := #[], attributes := #[] }
def k1m1 : Method := { name := "law", desc := "(IIIJI)Z", sig := { parameters := [.int, .int, .int, .long, .int], returnType := some .boolean }, accessFlags := 9, code := some k1c1 }
/-- com/example/lim1/lim1/WorkloadCheckSizePinLaw -/
def k1 : Class := { plain "com/example/lim1/lim1/WorkloadCheckSizePinLaw" (some 0) with
  accessFlags := 49
  interfaces := #[]
  cf := some (fileOf pool1 20 #[] #[{ accessFlags := 2, nameIndex := 5, descriptorIndex := 6, attributes := #[] }, { accessFlags := 9, nameIndex := 24, descriptorIndex := 25, attributes := #[] }] 49 2 #[] #[])
  fields := #[]
  methods := #[k1m0, k1m1]
  instanceTypes := #[]
  staticTypes := #[]
  resolved := Array.replicate 28 none
  statics := none }

def pool2 : Array CpInfo := pool [(1, .class_ 2), (0, u "java/lang/Math"), (1, .class_ 6), (1, u "java/lang/Object"), (0, u "<init>"), (0, u "()V"), (89, .class_ 100), (1, u "java/lang/Math$RandomNumberGeneratorHolder"), (71, u "negativeZeroFloatBits"), (0, u "J"), (2, u "negativeZeroDoubleBits"), (21, u "max"), (46, u "$assertionsDisabled"), (0, u "Z"), (88, u "(II)I"), (2, u "twoToTheDoubleScaleDown"), (0, u "D"), (4, u "twoToTheDoubleScaleUp"), (9, u "E"), (3, u "PI"), (2, u "TAU"), (2, u "DEGREES_TO_RADIANS"), (0, u "RADIANS_TO_DEGREES")] 94

def k2m0 : Method := { name := "<init>", desc := "()V", sig := { parameters := [], returnType := none }, accessFlags := 2, code := none }
def k2c1 : Code := { maxStack := 2, maxLocals := 2, code := jdk_29_method_65_code, exceptionTable := #[], attributes := #[] }
def k2m1 : Method := { name := "max", desc := "(II)I", sig := { parameters := [.int, .int], returnType := some .int }, accessFlags := 9, code := some k2c1 }
/-- java/lang/Math -/
def k2 : Class := { plain "java/lang/Math" (some 0) with
  accessFlags := 49
  interfaces := #[]
  cf := some (fileOf pool2 1 #[.nestMembers #[98]] #[{ accessFlags := 2, nameIndex := 7, descriptorIndex := 8, attributes := #[] }, { accessFlags := 9, nameIndex := 198, descriptorIndex := 335, attributes := #[] }] 49 4 #[] #[{ accessFlags := 25, nameIndex := 354, descriptorIndex := 339, attributes := #[] }, { accessFlags := 25, nameIndex := 358, descriptorIndex := 339, attributes := #[] }, { accessFlags := 25, nameIndex := 361, descriptorIndex := 339, attributes := #[] }, { accessFlags := 26, nameIndex := 364, descriptorIndex := 339, attributes := #[] }, { accessFlags := 26, nameIndex := 365, descriptorIndex := 339, attributes := #[] }, { accessFlags := 26, nameIndex := 172, descriptorIndex := 173, attributes := #[] }, { accessFlags := 26, nameIndex := 176, descriptorIndex := 173, attributes := #[] }, { accessFlags := 8, nameIndex := 344, descriptorIndex := 339, attributes := #[] }, { accessFlags := 8, nameIndex := 338, descriptorIndex := 339, attributes := #[] }, { accessFlags := 4120, nameIndex := 245, descriptorIndex := 246, attributes := #[] }])
  fields := #[{ name := "E", type := .double, accessFlags := 25, slot := 0, constantValue := 0 }, { name := "PI", type := .double, accessFlags := 25, slot := 1, constantValue := 0 }, { name := "TAU", type := .double, accessFlags := 25, slot := 2, constantValue := 0 }, { name := "DEGREES_TO_RADIANS", type := .double, accessFlags := 26, slot := 3, constantValue := 0 }, { name := "RADIANS_TO_DEGREES", type := .double, accessFlags := 26, slot := 4, constantValue := 0 }, { name := "negativeZeroFloatBits", type := .long, accessFlags := 26, slot := 5, constantValue := 0 }, { name := "negativeZeroDoubleBits", type := .long, accessFlags := 26, slot := 6, constantValue := 0 }, { name := "twoToTheDoubleScaleUp", type := .double, accessFlags := 8, slot := 7, constantValue := 0 }, { name := "twoToTheDoubleScaleDown", type := .double, accessFlags := 8, slot := 8, constantValue := 0 }, { name := "$assertionsDisabled", type := .boolean, accessFlags := 4120, slot := 9, constantValue := 0 }]
  methods := #[k2m0, k2m1]
  instanceTypes := #[]
  staticTypes := #[.double, .double, .double, .double, .double, .long, .long, .double, .double, .boolean]
  resolved := Array.replicate 460 none
  statics := none }

def pool3 : Array CpInfo := pool [(1, .class_ 2), (0, u "java/lang/constant/Constable"), (0, .class_ 4), (0, u "java/lang/Object")] 6

/-- java/lang/constant/Constable -/
def k3 : Class := { plain "java/lang/constant/Constable" (some 0) with
  accessFlags := 1537
  interfaces := #[]
  cf := some (fileOf pool3 1 #[] #[] 1537 3 #[] #[])
  fields := #[]
  methods := #[]
  instanceTypes := #[]
  staticTypes := #[]
  resolved := Array.replicate 11 none
  statics := none }

def pool4 : Array CpInfo := pool [(1, .class_ 2), (0, u "java/lang/Comparable"), (0, .class_ 4), (0, u "java/lang/Object")] 7

/-- java/lang/Comparable -/
def k4 : Class := { plain "java/lang/Comparable" (some 0) with
  accessFlags := 1537
  interfaces := #[]
  cf := some (fileOf pool4 1 #[] #[] 1537 3 #[] #[])
  fields := #[]
  methods := #[]
  instanceTypes := #[]
  staticTypes := #[]
  resolved := Array.replicate 12 none
  statics := none }

def pool5 : Array CpInfo := pool [(1, .class_ 2), (0, u "java/io/Serializable"), (0, .class_ 4), (0, u "java/lang/Object")] 2

/-- java/io/Serializable -/
def k5 : Class := { plain "java/io/Serializable" (some 0) with
  accessFlags := 1537
  interfaces := #[]
  cf := some (fileOf pool5 1 #[] #[] 1537 3 #[] #[])
  fields := #[]
  methods := #[]
  instanceTypes := #[]
  staticTypes := #[]
  resolved := Array.replicate 7 none
  statics := none }

def pool6 : Array CpInfo := pool [(2, .class_ 4), (1, u "java/lang/Enum"), (0, u "name"), (0, u "Ljava/lang/String;"), (2, u "ordinal"), (0, u "I"), (1, .class_ 14), (1, u "java/lang/Object"), (4, u "hash"), (86, .class_ 108), (1, u "java/lang/Enum$EnumDesc"), (2, .class_ 112), (0, u "java/lang/constant/Constable"), (0, .class_ 114), (0, u "java/lang/Comparable"), (0, .class_ 116), (0, u "java/io/Serializable")] 87

/-- java/lang/Enum -/
def k6 : Class := { plain "java/lang/Enum" (some 0) with
  accessFlags := 1057
  interfaces := #[3, 4, 5]
  cf := some (fileOf pool6 2 #[.nestMembers #[106]] #[] 1057 12 #[111, 113, 115] #[{ accessFlags := 18, nameIndex := 5, descriptorIndex := 6, attributes := #[] }, { accessFlags := 18, nameIndex := 9, descriptorIndex := 10, attributes := #[] }, { accessFlags := 2, nameIndex := 19, descriptorIndex := 10, attributes := #[] }])
  fields := #[{ name := "name", type := (.object "java/lang/String"), accessFlags := 18, slot := 0, constantValue := 0 }, { name := "ordinal", type := .int, accessFlags := 18, slot := 1, constantValue := 0 }, { name := "hash", type := .int, accessFlags := 2, slot := 2, constantValue := 0 }]
  methods := #[]
  instanceTypes := #[(.object "java/lang/String"), .int, .int]
  staticTypes := #[]
  resolved := Array.replicate 204 none
  statics := none }

def pool7 : Array CpInfo := pool [(1, .class_ 2), (0, u "com/example/lim1/lim1/Workload"), (2, u "SERIAL"), (0, u "Lcom/example/lim1/lim1/Workload;"), (2, u "SATURATED"), (2, u "$VALUES"), (0, u "[Lcom/example/lim1/lim1/Workload;"), (6, .class_ 22), (1, u "java/lang/Enum"), (35, .class_ 59), (0, u "com/example/lim1/lim1/Workload$Serial"), (3, .class_ 64), (0, u "com/example/lim1/lim1/Workload$Saturated"), (24, u "checkSize"), (0, u "(IIIJI)V"), (8, .class_ 100), (0, u "com/example/lim1/lim1/Workload$Demand")] 22

def k7c0 : Code := { maxStack := 6, maxLocals := 6, code := prog_38_method_6_code, exceptionTable := #[], attributes := #[] }
def k7m0 : Method := { name := "checkSize", desc := "(IIIJI)V", sig := { parameters := [.int, .int, .int, .long, .int], returnType := none }, accessFlags := 8, code := some k7c0 }
/-- com/example/lim1/lim1/Workload -/
def k7 : Class := { plain "com/example/lim1/lim1/Workload" (some 6) with
  accessFlags := 16433
  interfaces := #[]
  cf := some (fileOf pool7 1 #[.nestMembers #[63, 58, 99]] #[{ accessFlags := 8, nameIndex := 89, descriptorIndex := 90, attributes := #[] }] 16433 20 #[] #[{ accessFlags := 16409, nameIndex := 5, descriptorIndex := 6, attributes := #[] }, { accessFlags := 16409, nameIndex := 9, descriptorIndex := 6, attributes := #[] }, { accessFlags := 4122, nameIndex := 12, descriptorIndex := 13, attributes := #[] }])
  fields := #[{ name := "SERIAL", type := (.object "com/example/lim1/lim1/Workload"), accessFlags := 16409, slot := 0, constantValue := 0 }, { name := "SATURATED", type := (.object "com/example/lim1/lim1/Workload"), accessFlags := 16409, slot := 1, constantValue := 0 }, { name := "$VALUES", type := (.array (.object "com/example/lim1/lim1/Workload")), accessFlags := 4122, slot := 2, constantValue := 0 }]
  methods := #[k7m0]
  instanceTypes := #[(.object "java/lang/String"), .int, .int]
  staticTypes := #[(.object "com/example/lim1/lim1/Workload"), (.object "com/example/lim1/lim1/Workload"), (.array (.object "com/example/lim1/lim1/Workload"))]
  resolved := Array.replicate 123 none
  statics := none }

def pool8 : Array CpInfo := pool [(1, u "java/lang/Cloneable"), (0, .class_ 1), (0, u "java/lang/Object"), (0, .class_ 3)] 3

/-- java/lang/Cloneable -/
def k8 : Class := { plain "java/lang/Cloneable" (some 0) with
  accessFlags := 1537
  interfaces := #[]
  cf := some (fileOf pool8 2 #[] #[] 1537 4 #[] #[])
  fields := #[]
  methods := #[]
  instanceTypes := #[]
  staticTypes := #[]
  resolved := Array.replicate 8 none
  statics := none }

/-- the primitive byte -/
def k9 : Class := { plain "byte" none with kind := .primitive 'B', accessFlags := 0x411 }
/-- [B -/
def k10 : Class := { plain "[B" (some 0) with kind := .array 9 .byte, interfaces := #[8, 5], accessFlags := 1041 }

/-- the primitive int -/
def k11 : Class := { plain "int" none with kind := .primitive 'I', accessFlags := 0x411 }
/-- [I -/
def k12 : Class := { plain "[I" (some 0) with kind := .array 11 .int, interfaces := #[8, 5], accessFlags := 1041 }

def heap : Heap := #[]
def classes : Array Class := #[k0, k1, k2, k3, k4, k5, k6, k7, k8, k9, k10, k11, k12]
def interned : List (Array UInt16 × Addr) := []
def slotsUsed : Nat := 0
def theMethod : MethodId := ⟨1, 1⟩
def args0 : Array Value := #[.int 5, .int 7, .int (-3), .long 9, .int 2]
def aboutOver (below : List Frame) : State where
  vm := { classes := classes, interned := interned.toArray }
  heap := heap
  slotsUsed := slotsUsed
  threads := #[{ frames := .invoking theMethod args0 :: below }]
def below0 : List Frame := [.native { method := ⟨0, 0⟩, args := #[] }]
def about1 : State := aboutOver below0
def p0 : Program := .bare "" "" ""
def e0 : Env := launch0.env 0 0 0
theorem w_frames : about1.frames = Frame.invoking theMethod args0 :: below0 := rfl
set_option maxRecDepth 65536 in
theorem w_args : argsFit about1.vm theMethod args0 = true := by decide +kernel
set_option maxRecDepth 65536 in
theorem w_heap : heapFits about1 = true := by decide +kernel
set_option maxRecDepth 65536 in
theorem w_runnable : about1.curStatus? = some .runnable := by decide +kernel
set_option maxRecDepth 65536 in
theorem w_alone : about1.alone = true := by decide +kernel
set_option maxRecDepth 65536 in
theorem w_named : about1.methodNamed? x = some theMethod := by decide +kernel
set_option maxRecDepth 65536 in
theorem w_hears : about1.hears theMethod below0 = true := by decide +kernel
set_option maxRecDepth 65536 in
theorem w_ripe : about1.ripe theMethod args0 below0 = true := by decide +kernel
theorem w_running : about1.status = .running := rfl
set_option maxRecDepth 65536 in
theorem w_room : about1.hasRoom e0.platform room_1 = true :=
  launch0.hasRoom_least _ room_1 (by decide +kernel) (by decide +kernel) (by decide +kernel) (by decide +kernel) (by decide +kernel) (by decide +kernel)
theorem allAtoms_all (ts : List Jvm.Cond) (a : Array Jvm.Value) (st : Jvm.State) : (allAtoms ts).before a st = ts.all (fun c => c.before a st) := by
  induction ts with
  | nil => rfl
  | cons c t ih =>
    show (Jvm.Cond.and c (allAtoms t)).before a st = _
    rw [Jvm.Cond.before_and, ih, List.all_cons]
def words1 : List Jvm.Cond := Jvm.Cond.code x code maxLocals ret :: tables_1
/-- a 'code' word, met by the world's own term for the bytes: nothing is compared byte by byte -/
theorem code_word {y : MethodName} {bytes : ByteArray} {mx : Nat} {rt : Option FieldType} {a : Array Value} {s : State} {m : MethodId} {meth : Method} {c : Code} (h1 : s.methodNamed? y = some m) (h2 : s.vm.method? m = some meth) (h3 : meth.code = some c) (h4 : c.code = bytes)
    (h5 : (c.maxLocals == mx && c.exceptionTable.isEmpty && decide (c.maxStack ≤ mostOperands) && decide (meth.sig.returnType = rt) && !meth.locks && decide (parseMethodDescriptor y.desc = some meth.sig)) = true) : (Jvm.Cond.code y bytes mx rt).before a s = true := by
  simp only [Bool.and_eq_true, beq_iff_eq, Bool.not_eq_true', decide_eq_true_eq] at h5
  obtain ⟨⟨⟨⟨⟨g1, g2⟩, g3⟩, g4⟩, g5⟩, g6⟩ := h5
  simp [Cond.before, Cond.holds, Cond.value, h1, h2, h3, h4, g1, g2, g3, g4, g5, g6]
def isCode : Jvm.Cond → Bool
  | .code _ _ _ _ => true
  | _ => false
theorem all_split {L : List Jvm.Cond} {P : Jvm.Cond → Bool} (h1 : L.all (fun c => isCode c || P c) = true) (h2 : ∀ c ∈ L.filter isCode, P c = true) : L.all P = true := by
  refine List.all_eq_true.mpr fun c hc => ?_
  have h := List.all_eq_true.mp h1 c hc
  rcases Bool.eq_false_or_eq_true (isCode c) with hi | hi
  · exact h2 c (List.mem_filter.mpr ⟨hc, hi⟩)
  · simpa [hi] using h
set_option maxRecDepth 65536 in
theorem w_c0 : (Jvm.Cond.code x code maxLocals ret).before args0 about1 = true := code_word (m := ⟨1, 1⟩) (meth := k1m1) (c := k1c1) (by decide +kernel) rfl rfl rfl (by decide +kernel)
set_option maxRecDepth 65536 in
theorem w_c1 : (Jvm.Cond.code ({ cls := "java/lang/Math", name := "max", desc := "(II)I" } : Jvm.MethodName) jdk_29_method_65_code (2 : Nat) (Option.some Jvm.ClassFile.FieldType.int)).before args0 about1 = true := code_word (m := ⟨2, 1⟩) (meth := k2m1) (c := k2c1) (by decide +kernel) rfl rfl rfl (by decide +kernel)
set_option maxRecDepth 65536 in
theorem w_c2 : (Jvm.Cond.code ({ cls := "com/example/lim1/lim1/Workload", name := "checkSize", desc := "(IIIJI)V" } : Jvm.MethodName) prog_38_method_6_code (6 : Nat) (Option.none : Option Jvm.ClassFile.FieldType)).before args0 about1 = true := code_word (m := ⟨7, 0⟩) (meth := k7m0) (c := k7c0) (by decide +kernel) rfl rfl rfl (by decide +kernel)
def codes1 : List Jvm.Cond := [Jvm.Cond.code x code maxLocals ret, Jvm.Cond.code ({ cls := "java/lang/Math", name := "max", desc := "(II)I" } : Jvm.MethodName) jdk_29_method_65_code (2 : Nat) (Option.some Jvm.ClassFile.FieldType.int), Jvm.Cond.code ({ cls := "com/example/lim1/lim1/Workload", name := "checkSize", desc := "(IIIJI)V" } : Jvm.MethodName) prog_38_method_6_code (6 : Nat) (Option.none : Option Jvm.ClassFile.FieldType)]
set_option maxRecDepth 65536 in
theorem codes_eq : words1.filter isCode = codes1 := rfl
theorem w_codes : ∀ c ∈ words1.filter isCode, c.before args0 about1 = true := by
  rw [codes_eq]
  intro c hc
  simp only [codes1, List.mem_cons, List.not_mem_nil, or_false] at hc
  rcases hc with rfl | rfl | rfl
  · exact w_c0
  · exact w_c1
  · exact w_c2
set_option maxRecDepth 65536 in
theorem w_t1 : words1.all (fun c => isCode c || c.before args0 about1) = true := by decide +kernel
theorem w_tables : (allAtoms (Jvm.Cond.code x code maxLocals ret :: tables_1)).before args0 about1 = true := by
  rw [allAtoms_all]
  show words1.all (fun c => c.before args0 about1) = true
  refine all_split ?_ w_codes
  rw [w_t1]
set_option maxRecDepth 65536 in
theorem w_case : (Jvm.Cond.and given_1 narrow_1).before args0 about1 = true := by decide +kernel
theorem w_applies : (headSpec (Jvm.Cond.code x code maxLocals ret :: tables_1) room_1).applies x e0.platform about1 = true :=
  (Spec.applies_iff w_frames).mpr ⟨w_running, w_runnable, w_alone, w_named, w_hears, w_ripe, w_room, w_tables⟩
theorem atStart : AtStart classFile x code maxLocals ret World_1 tables_1 room_1 Calls_1 rest_1 Pre_1 launch0 p0 e0 about1 theMethod args0 below0 :=
  ⟨lists_1, trivial, launch0.admits_env _ _ _, launch0.least_env, fairChoices_fair.cas, fairChoices_fair.clock, w_frames, w_args, w_heap, w_applies, trivial, trivial, w_case⟩
end start1
theorem witness_1 : WitnessClaimed_1 := ⟨start1.p0, start1.e0, start1.about1, start1.theMethod, start1.args0, start1.below0, start1.atStart⟩
end Jvm.Pilot.@@N@@
