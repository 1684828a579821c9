import JvmDerived
import JvmDerived.Pilot.@@N@@Statement
import JvmDerived.Pilot.@@N@@Code
set_option linter.unusedVariables false
set_option linter.unusedSimpArgs false
namespace Jvm.Pilot.@@N@@
open Jvm Jvm.ClassFile Sem Op Lib Jvm.Free Jvm.Stand Jvm.LawKit Jvm.RoadKit Bundle Jvm.Pilot.@@N@@.Jvm.D
section Own
variable {p : Program} {l : Launch} {e : Env} {R : Room} {s : State} {m : MethodId} {args : Array Value} {below : List Frame} {meth : Method} {c : Code} {T : State} {locs : List Loc} {cells slots : Nat}
/-- the walk from the state t ends as the contract Q says; End: the narrow frame or the wide one -/
def Go (End : State → Outcome → State → List Loc → Nat → Nat → Prop) (p : Program) (e : Env) (below : List Frame) (s : State) (rc rs : Nat) (Q : Option Value → Heap → List Loc → Prop) (t : State) : Prop :=
  ∃ s₂ o, Steps p.tables e below t s₂ ∧ s₂.status = .running ∧ Ended s₂ below o ∧ ∃ v L, o = .returned v ∧ Q v s₂.heap L ∧ End s o s₂ L rc rs
variable {End : State → Outcome → State → List Loc → Nat → Nat → Prop}
theorem go {rc rs : Nat} {Q : Option Value → Heap → List Loc → Prop} {t t' : State} (k : ∀ target, Steps p.tables e below t' target → Steps p.tables e below t target) (h : Go End p e below s rc rs Q t') : Go End p e below s rc rs Q t := by
  obtain ⟨s₂, o, h1, h2⟩ := h
  exact ⟨s₂, o, k _ h1, h2⟩
theorem goT {rc rs : Nat} {Q : Option Value → Heap → List Loc → Prop} {t t' : State} (k : Steps p.tables e below t t') (h : Go End p e below s rc rs Q t') : Go End p e below s rc rs Q t := by
  obtain ⟨s₂, o, h1, h2⟩ := h
  exact ⟨s₂, o, k.trans h1, h2⟩
theorem goRet {rc rs : Nat} {Q : Option Value → Heap → List Loc → Prop} (X : Stand p l e R s m args below meth c T locs cells slots) (hx : p.tables.exec = Jvm.exec) (hlk : meth.locks = false) {pc : Nat} {Ls : Array Slot} {w : Value} {t : FieldType} {i : Instr} {rest : List Value} (hret : meth.sig.returnType = some t) (hn : narrow t w = w)
    (hi : (i = .ireturn ∧ (t = .int ∨ t = .boolean ∨ t = .byte ∨ t = .char ∨ t = .short) ∧ ∃ z, w = .int z) ∨ (i = .lreturn ∧ t = .long ∧ ∃ z, w = .long z) ∨ (i = .dreturn ∧ t = .double ∧ ∃ z, w = .double z) ∨ (i = .freturn ∧ t = .float ∧ ∃ z, w = .float z) ∨ (i = .areturn ∧ t.isReference = true ∧ w.isRef = true))
    (hd : decode c.code pc = .ok (i, 1)) (hc : cells ≤ rc) (hs : slots ≤ rs) (hq : Q (some w) T.heap locs) : Go FrameEnd p e below s rc rs Q (T.setTop (mkF m pc Ls (w :: rest))) := by
  obtain ⟨fs, hr, hrun, hended, hW, hsame⟩ := X.leave (v := some w) (fun h => by rw [hret] at h; cases h) hlk
  refine ⟨_, _, retOut X hx hret hn hi hd hr, hrun, hended, _, _, rfl, ?_, ⟨_, rfl⟩, hW, hsame.mono hc hs⟩
  show Q _ T.heap _
  exact hq
theorem goRet0 {rc rs : Nat} {Q : Option Value → Heap → List Loc → Prop} (X : Stand p l e R s m args below meth c T locs cells slots) (hx : p.tables.exec = Jvm.exec) (hlk : meth.locks = false) {pc : Nat} {Ls : Array Slot} (hret : meth.sig.returnType = none)
    (hd : decode c.code pc = .ok (.return_, 1)) (hc : cells ≤ rc) (hs : slots ≤ rs) (hq : Q none T.heap locs) : Go FrameEnd p e below s rc rs Q (T.setTop (mkF m pc Ls [])) := by
  obtain ⟨fs, hr, hrun, hended, hW, hsame⟩ := X.leave (v := none) (fun _ => rfl) hlk
  refine ⟨_, _, X.returnOut hx hret hd hr, hrun, hended, _, _, rfl, ?_, ⟨_, rfl⟩, hW, hsame.mono hc hs⟩
  show Q _ T.heap _
  exact hq
end Own
def own_mix (x : Int64) : Int64 :=
  ((((((x ^^^ ((x.toUInt64 >>> ((30 : Int32) &&& 0x3f).toInt64.toUInt64).toInt64)) * (-4658895280553007687 : Int64)) ^^^ ((((x ^^^ ((x.toUInt64 >>> ((30 : Int32) &&& 0x3f).toInt64.toUInt64).toInt64)) * (-4658895280553007687 : Int64)).toUInt64 >>> ((27 : Int32) &&& 0x3f).toInt64.toUInt64).toInt64)) * (-7723592293110705685 : Int64))) ^^^ ((((((x ^^^ ((x.toUInt64 >>> ((30 : Int32) &&& 0x3f).toInt64.toUInt64).toInt64)) * (-4658895280553007687 : Int64)) ^^^ ((((x ^^^ ((x.toUInt64 >>> ((30 : Int32) &&& 0x3f).toInt64.toUInt64).toInt64)) * (-4658895280553007687 : Int64)).toUInt64 >>> ((27 : Int32) &&& 0x3f).toInt64.toUInt64).toInt64)) * (-7723592293110705685 : Int64)).toUInt64 >>> ((31 : Int32) &&& 0x3f).toInt64.toUInt64).toInt64))
def own_unmix (y : Int64) : Int64 := ((((((((y ^^^ ((y.toUInt64 >>> ((31 : Int32) &&& 0x3f).toInt64.toUInt64).toInt64)) ^^^ ((y.toUInt64 >>> ((62 : Int32) &&& 0x3f).toInt64.toUInt64).toInt64)) * (3573116690164977347 : Int64)) ^^^ (((((y ^^^ ((y.toUInt64 >>> ((31 : Int32) &&& 0x3f).toInt64.toUInt64).toInt64)) ^^^ ((y.toUInt64 >>> ((62 : Int32) &&& 0x3f).toInt64.toUInt64).toInt64)) * (3573116690164977347 : Int64)).toUInt64 >>> ((27 : Int32) &&& 0x3f).toInt64.toUInt64).toInt64)) ^^^ (((((y ^^^ ((y.toUInt64 >>> ((31 : Int32) &&& 0x3f).toInt64.toUInt64).toInt64)) ^^^ ((y.toUInt64 >>> ((62 : Int32) &&& 0x3f).toInt64.toUInt64).toInt64)) * (3573116690164977347 : Int64)).toUInt64 >>> ((54 : Int32) &&& 0x3f).toInt64.toUInt64).toInt64)) * (-7575587736534282103 : Int64)) ^^^ ((((((((y ^^^ ((y.toUInt64 >>> ((31 : Int32) &&& 0x3f).toInt64.toUInt64).toInt64)) ^^^ ((y.toUInt64 >>> ((62 : Int32) &&& 0x3f).toInt64.toUInt64).toInt64)) * (3573116690164977347 : Int64)) ^^^ (((((y ^^^ ((y.toUInt64 >>> ((31 : Int32) &&& 0x3f).toInt64.toUInt64).toInt64)) ^^^ ((y.toUInt64 >>> ((62 : Int32) &&& 0x3f).toInt64.toUInt64).toInt64)) * (3573116690164977347 : Int64)).toUInt64 >>> ((27 : Int32) &&& 0x3f).toInt64.toUInt64).toInt64)) ^^^ (((((y ^^^ ((y.toUInt64 >>> ((31 : Int32) &&& 0x3f).toInt64.toUInt64).toInt64)) ^^^ ((y.toUInt64 >>> ((62 : Int32) &&& 0x3f).toInt64.toUInt64).toInt64)) * (3573116690164977347 : Int64)).toUInt64 >>> ((54 : Int32) &&& 0x3f).toInt64.toUInt64).toInt64)) * (-7575587736534282103 : Int64)).toUInt64 >>> ((30 : Int32) &&& 0x3f).toInt64.toUInt64).toInt64)) ^^^ ((((((((y ^^^ ((y.toUInt64 >>> ((31 : Int32) &&& 0x3f).toInt64.toUInt64).toInt64)) ^^^ ((y.toUInt64 >>> ((62 : Int32) &&& 0x3f).toInt64.toUInt64).toInt64)) * (3573116690164977347 : Int64)) ^^^ (((((y ^^^ ((y.toUInt64 >>> ((31 : Int32) &&& 0x3f).toInt64.toUInt64).toInt64)) ^^^ ((y.toUInt64 >>> ((62 : Int32) &&& 0x3f).toInt64.toUInt64).toInt64)) * (3573116690164977347 : Int64)).toUInt64 >>> ((27 : Int32) &&& 0x3f).toInt64.toUInt64).toInt64)) ^^^ (((((y ^^^ ((y.toUInt64 >>> ((31 : Int32) &&& 0x3f).toInt64.toUInt64).toInt64)) ^^^ ((y.toUInt64 >>> ((62 : Int32) &&& 0x3f).toInt64.toUInt64).toInt64)) * (3573116690164977347 : Int64)).toUInt64 >>> ((54 : Int32) &&& 0x3f).toInt64.toUInt64).toInt64)) * (-7575587736534282103 : Int64)).toUInt64 >>> ((60 : Int32) &&& 0x3f).toInt64.toUInt64).toInt64))
theorem own_sh (x : Int64) (n : Int32) (k : Nat) (h : ((n &&& 0x3f).toInt64.toUInt64).toNat % 64 = k) : ((x.toUInt64 >>> (n &&& 0x3f).toInt64.toUInt64).toInt64).toBitVec = x.toBitVec >>> k := by
  show (x.toUInt64 >>> (n &&& 0x3f).toInt64.toUInt64).toBitVec = _
  apply BitVec.eq_of_toNat_eq
  show (x.toUInt64 >>> (n &&& 0x3f).toInt64.toUInt64).toNat = _
  rw [UInt64.toNat_shiftRight, h, BitVec.toNat_ushiftRight]
  rfl
theorem own_xs (x : BitVec 64) (k : Nat) (h : 64 ≤ k + k + k) : ((x ^^^ (x >>> k)) ^^^ ((x ^^^ (x >>> k)) >>> k)) ^^^ ((x ^^^ (x >>> k)) >>> (k + k)) = x := by
  apply BitVec.eq_of_getLsbD_eq
  intro i hi
  simp only [BitVec.getLsbD_xor, BitVec.getLsbD_ushiftRight]
  have e1 : k + (k + i) = k + k + i := by omega
  have e2 : x.getLsbD (k + (k + k + i)) = false := BitVec.getLsbD_of_ge _ _ (by omega)
  rw [e1, e2]
  cases x.getLsbD i <;> cases x.getLsbD (k + i) <;> cases x.getLsbD (k + k + i) <;> rfl
theorem own_back (x : Int64) (n n2 : Int32) (k : Nat) (h : ((n &&& 0x3f).toInt64.toUInt64).toNat % 64 = k) (h2 : ((n2 &&& 0x3f).toInt64.toUInt64).toNat % 64 = k + k) (hk : 64 ≤ k + k + k) {y : Int64} (hy : y = x ^^^ ((x.toUInt64 >>> (n &&& 0x3f).toInt64.toUInt64).toInt64)) :
    ((y ^^^ ((y.toUInt64 >>> (n &&& 0x3f).toInt64.toUInt64).toInt64)) ^^^ ((y.toUInt64 >>> (n2 &&& 0x3f).toInt64.toUInt64).toInt64)) = x := by
  apply Int64.toBitVec_inj.mp
  have e : y.toBitVec = x.toBitVec ^^^ (x.toBitVec >>> k) := by rw [hy, Int64.toBitVec_xor, own_sh x n k h]
  rw [Int64.toBitVec_xor, Int64.toBitVec_xor, own_sh y n k h, own_sh y n2 (k + k) h2, e]
  exact own_xs _ k hk
theorem own_mul (x a b : Int64) (h : a * b = 1) : x * a * b = x := by rw [Int64.mul_assoc, h, Int64.mul_one]
theorem own_inv (x : Int64) : own_unmix (own_mix x) = x := by
  unfold own_mix
  generalize hA : (x ^^^ ((x.toUInt64 >>> ((30 : Int32) &&& 0x3f).toInt64.toUInt64).toInt64)) = A
  generalize hB : ((A * (-4658895280553007687 : Int64)) ^^^ (((A * (-4658895280553007687 : Int64)).toUInt64 >>> ((27 : Int32) &&& 0x3f).toInt64.toUInt64).toInt64)) = B
  generalize hC : ((B * (-7723592293110705685 : Int64)) ^^^ (((B * (-7723592293110705685 : Int64)).toUInt64 >>> ((31 : Int32) &&& 0x3f).toInt64.toUInt64).toInt64)) = C
  unfold own_unmix
  rw [own_back (B * (-7723592293110705685 : Int64)) 31 62 31 (by decide) (by decide) (by decide) hC.symm, own_mul B _ _ (by decide), own_back (A * (-4658895280553007687 : Int64)) 27 54 27 (by decide) (by decide) (by decide) hB.symm, own_mul A _ _ (by decide), own_back x 30 60 30 (by decide) (by decide) (by decide) hA.symm]
theorem own_inj {x y : Int64} (h : own_mix x = own_mix y) : x = y := by rw [← own_inv x, ← own_inv y, h]
theorem own_ne (s : Int64) {d : Int64} (h : ¬ d = 0) : ¬ s + d = s := fun q => h (by
  have e : s + d - s = s - s := by rw [q]
  rw [Int64.sub_self, Int64.add_comm, Int64.add_sub_cancel] at e
  exact e)
theorem own_add_r {a b c : Int64} (h : a + c = b + c) : a = b := by
  have e : a + c - c = b + c - c := by rw [h]
  rwa [Int64.add_sub_cancel, Int64.add_sub_cancel] at e
theorem own_add_l {a b c : Int64} (h : c + a = c + b) : a = b := own_add_r (c := c) (by rw [Int64.add_comm a, Int64.add_comm b]; exact h)
theorem d2_0 : decode prog_40_method_6_code 0 = .ok (.lload_n 0, 1) := by decide +kernel
theorem d2_1 : decode prog_40_method_6_code 1 = .ok (.lload_n 0, 1) := by decide +kernel
theorem d2_2 : decode prog_40_method_6_code 2 = .ok (.bipush 30, 2) := by decide +kernel
theorem d2_4 : decode prog_40_method_6_code 4 = .ok (.lushr, 1) := by decide +kernel
theorem d2_5 : decode prog_40_method_6_code 5 = .ok (.lxor, 1) := by decide +kernel
theorem d2_6 : decode prog_40_method_6_code 6 = .ok (.ldc2_w 28, 3) := by decide +kernel
theorem d2_9 : decode prog_40_method_6_code 9 = .ok (.lmul, 1) := by decide +kernel
theorem d2_10 : decode prog_40_method_6_code 10 = .ok (.lstore_n 2, 1) := by decide +kernel
theorem d2_11 : decode prog_40_method_6_code 11 = .ok (.lload_n 2, 1) := by decide +kernel
theorem d2_12 : decode prog_40_method_6_code 12 = .ok (.lload_n 2, 1) := by decide +kernel
theorem d2_13 : decode prog_40_method_6_code 13 = .ok (.bipush 27, 2) := by decide +kernel
theorem d2_15 : decode prog_40_method_6_code 15 = .ok (.lushr, 1) := by decide +kernel
theorem d2_16 : decode prog_40_method_6_code 16 = .ok (.lxor, 1) := by decide +kernel
theorem d2_17 : decode prog_40_method_6_code 17 = .ok (.ldc2_w 30, 3) := by decide +kernel
theorem d2_20 : decode prog_40_method_6_code 20 = .ok (.lmul, 1) := by decide +kernel
theorem d2_21 : decode prog_40_method_6_code 21 = .ok (.lstore_n 2, 1) := by decide +kernel
theorem d2_22 : decode prog_40_method_6_code 22 = .ok (.lload_n 2, 1) := by decide +kernel
theorem d2_23 : decode prog_40_method_6_code 23 = .ok (.lload_n 2, 1) := by decide +kernel
theorem d2_24 : decode prog_40_method_6_code 24 = .ok (.bipush 31, 2) := by decide +kernel
theorem d2_26 : decode prog_40_method_6_code 26 = .ok (.lushr, 1) := by decide +kernel
theorem d2_27 : decode prog_40_method_6_code 27 = .ok (.lxor, 1) := by decide +kernel
theorem d2_28 : decode prog_40_method_6_code 28 = .ok (.lreturn, 1) := by decide +kernel
theorem pn_2 : plainName "com/example/fuller_query/fullerquery/vectors/SplitMix" = true := by first | (simp [plainName, overriddenIn]; done) | decide +kernel
theorem ef_2 (m : MethodId) (q1 : Int64) : entryFrame m #[(.long q1)] 4 = mkF m 0 #[.val (.long q1), .second, .unset, .unset] [] := by first | (simp [entryFrame, mkF, argsToLocals, Value.category]; done) | rfl
def Q2 (Z : State) (q1 : Int64) (h0 : Heap) (n0 : Nat) (v : Option Value) (h : Heap) (L : List Loc) : Prop := v = some (.long (own_mix q1)) ∧ Fr n0 L ∧ (h = h0)
set_option maxRecDepth 65536 in
set_option maxHeartbeats 40000000 in
theorem rm2 (l : Launch) (Z : State) (a0 : Array Value) (hw : ∀ d ∈ tables_1, d.before a0 Z = true) (ws : List Jvm.Cond) (q1 : Int64) (h0 : Heap) (n0 : Nat) (Z0 : n0 ≤ h0.size)  :
    MetFree l (⟨"com/example/fuller_query/fullerquery/vectors/SplitMix", "mix", "(J)J"⟩ : MethodName) (head1 (Jvm.Cond.code (⟨"com/example/fuller_query/fullerquery/vectors/SplitMix", "mix", "(J)J"⟩ : MethodName) prog_40_method_6_code 4 (some .long) :: ws) ({ frames := 0, cells := 0, slots := 0, locals := 0 } : Room)) (fun a U => a = #[(.long q1)] ∧ Z.Warmed39 U.vm ∧ U.heap = h0) (fun _ _ _ _ _ => True) (fun _ U o U' => ∃ v L, o = .returned v ∧ Q2 Z q1 h0 n0 v U'.heap L ∧ FrameEnd U o U' L ({ frames := 0, cells := 0, slots := 0, locals := 0 } : Room).cells ({ frames := 0, cells := 0, slots := 0, locals := 0 } : Room).slots) := by
  refine MetFree.of_bodySF (plainFor_of_name pn_2) hisR ?_
  intro p e s m args below meth c s₁ Bd hml0 hP hK
  obtain ⟨rfl, hZ, hh⟩ := hP
  have hx := Bd.exec
  have hby := Bd.bytes
  have hml : c.maxLocals = 4 := hml0
  have hown : s.vm.findClass "com/example/fuller_query/fullerquery/vectors/SplitMix" = some m.cls := findClass_of_methodNamed Bd.named
  have hnm := (name_of_methodNamed Bd.named Bd.method).1
  have X0 : Stand p l e ({ frames := 0, cells := 0, slots := 0, locals := 0 } : Room) s m #[(.long q1)] below meth c s₁ [] 0 0 := Stand.of_body Bd
  have e0 : s₁.heap = h0 := by rw [← hh, Bd.state]; rfl
  have N0 := Fr.nil n0
  have hS0 : s.Since s.vm 0 := (State.WarmedH.refl s).since 0
  show Go FrameEnd p e below s ({ frames := 0, cells := 0, slots := 0, locals := 0 } : Room).cells ({ frames := 0, cells := 0, slots := 0, locals := 0 } : Room).slots (Q2 Z q1 h0 n0) (s₁.setTop (entryFrame m #[(.long q1)] 4))
  refine go (fun _ k => castTop (ef_2 m q1) k) ?_
  show Go _ p e below s _ _ _ (s₁.setTop (mkF m 0 #[.val (.long q1), .second, .unset, .unset] []))
  refine go (fun _ => XS.lloadN X0.here hx rfl (hb hby d2_0) rfl) ?_
  show Go _ p e below s _ _ _ (s₁.setTop (mkF m 1 #[.val (.long q1), .second, .unset, .unset] [(.long q1)]))
  refine go (fun _ => XS.lloadN X0.here hx rfl (hb hby d2_1) rfl) ?_
  show Go _ p e below s _ _ _ (s₁.setTop (mkF m 2 #[.val (.long q1), .second, .unset, .unset] [(.long q1), (.long q1)]))
  refine go (fun _ => XS.bipush X0.here hx rfl (hb hby d2_2)) ?_
  show Go _ p e below s _ _ _ (s₁.setTop (mkF m 4 #[.val (.long q1), .second, .unset, .unset] [(.int (30 : Int32)), (.long q1), (.long q1)]))
  refine go (fun _ => XS.lushr X0.here hx rfl (hb hby d2_4) rfl) ?_
  show Go _ p e below s _ _ _ (s₁.setTop (mkF m 5 #[.val (.long q1), .second, .unset, .unset] [(.long ((q1.toUInt64 >>> ((30 : Int32) &&& 0x3f).toInt64.toUInt64).toInt64)), (.long q1)]))
  refine go (fun _ => XS.lxor X0.here hx rfl (hb hby d2_5) rfl) ?_
  show Go _ p e below s _ _ _ (s₁.setTop (mkF m 6 #[.val (.long q1), .second, .unset, .unset] [(.long (q1 ^^^ ((q1.toUInt64 >>> ((30 : Int32) &&& 0x3f).toInt64.toUInt64).toInt64)))]))
  refine go (X0.ldc2Long hx hown (mvT hZ (hw _ (List.mem_of_getElem? (i := 9) rfl))) (g := (mkF m 6 #[.val (.long q1), .second, .unset, .unset] [(.long (q1 ^^^ ((q1.toUInt64 >>> ((30 : Int32) &&& 0x3f).toInt64.toUInt64).toInt64)))])) rfl (hb hby d2_6)) ?_
  show Go _ p e below s _ _ _ (s₁.setTop (mkF m 9 #[.val (.long q1), .second, .unset, .unset] [(.long (-4658895280553007687 : Int64)), (.long (q1 ^^^ ((q1.toUInt64 >>> ((30 : Int32) &&& 0x3f).toInt64.toUInt64).toInt64)))]))
  refine go (fun _ => XS.lmul X0.here hx rfl (hb hby d2_9) rfl) ?_
  show Go _ p e below s _ _ _ (s₁.setTop (mkF m 10 #[.val (.long q1), .second, .unset, .unset] [(.long ((q1 ^^^ ((q1.toUInt64 >>> ((30 : Int32) &&& 0x3f).toInt64.toUInt64).toInt64)) * (-4658895280553007687 : Int64)))]))
  refine go (fun _ => XS.lstoreN X0.here hx rfl (hb hby d2_10) rfl (l' := #[.val (.long q1), .second, .val (.long ((q1 ^^^ ((q1.toUInt64 >>> ((30 : Int32) &&& 0x3f).toInt64.toUInt64).toInt64)) * (-4658895280553007687 : Int64))), .second]) rfl) ?_
  show Go _ p e below s _ _ _ (s₁.setTop (mkF m 11 #[.val (.long q1), .second, .val (.long ((q1 ^^^ ((q1.toUInt64 >>> ((30 : Int32) &&& 0x3f).toInt64.toUInt64).toInt64)) * (-4658895280553007687 : Int64))), .second] []))
  refine go (fun _ => XS.lloadN X0.here hx rfl (hb hby d2_11) rfl) ?_
  show Go _ p e below s _ _ _ (s₁.setTop (mkF m 12 #[.val (.long q1), .second, .val (.long ((q1 ^^^ ((q1.toUInt64 >>> ((30 : Int32) &&& 0x3f).toInt64.toUInt64).toInt64)) * (-4658895280553007687 : Int64))), .second] [(.long ((q1 ^^^ ((q1.toUInt64 >>> ((30 : Int32) &&& 0x3f).toInt64.toUInt64).toInt64)) * (-4658895280553007687 : Int64)))]))
  refine go (fun _ => XS.lloadN X0.here hx rfl (hb hby d2_12) rfl) ?_
  show Go _ p e below s _ _ _ (s₁.setTop (mkF m 13 #[.val (.long q1), .second, .val (.long ((q1 ^^^ ((q1.toUInt64 >>> ((30 : Int32) &&& 0x3f).toInt64.toUInt64).toInt64)) * (-4658895280553007687 : Int64))), .second] [(.long ((q1 ^^^ ((q1.toUInt64 >>> ((30 : Int32) &&& 0x3f).toInt64.toUInt64).toInt64)) * (-4658895280553007687 : Int64))), (.long ((q1 ^^^ ((q1.toUInt64 >>> ((30 : Int32) &&& 0x3f).toInt64.toUInt64).toInt64)) * (-4658895280553007687 : Int64)))]))
  refine go (fun _ => XS.bipush X0.here hx rfl (hb hby d2_13)) ?_
  show Go _ p e below s _ _ _ (s₁.setTop (mkF m 15 #[.val (.long q1), .second, .val (.long ((q1 ^^^ ((q1.toUInt64 >>> ((30 : Int32) &&& 0x3f).toInt64.toUInt64).toInt64)) * (-4658895280553007687 : Int64))), .second] [(.int (27 : Int32)), (.long ((q1 ^^^ ((q1.toUInt64 >>> ((30 : Int32) &&& 0x3f).toInt64.toUInt64).toInt64)) * (-4658895280553007687 : Int64))), (.long ((q1 ^^^ ((q1.toUInt64 >>> ((30 : Int32) &&& 0x3f).toInt64.toUInt64).toInt64)) * (-4658895280553007687 : Int64)))]))
  refine go (fun _ => XS.lushr X0.here hx rfl (hb hby d2_15) rfl) ?_
  show Go _ p e below s _ _ _ (s₁.setTop (mkF m 16 #[.val (.long q1), .second, .val (.long ((q1 ^^^ ((q1.toUInt64 >>> ((30 : Int32) &&& 0x3f).toInt64.toUInt64).toInt64)) * (-4658895280553007687 : Int64))), .second] [(.long ((((q1 ^^^ ((q1.toUInt64 >>> ((30 : Int32) &&& 0x3f).toInt64.toUInt64).toInt64)) * (-4658895280553007687 : Int64)).toUInt64 >>> ((27 : Int32) &&& 0x3f).toInt64.toUInt64).toInt64)), (.long ((q1 ^^^ ((q1.toUInt64 >>> ((30 : Int32) &&& 0x3f).toInt64.toUInt64).toInt64)) * (-4658895280553007687 : Int64)))]))
  refine go (fun _ => XS.lxor X0.here hx rfl (hb hby d2_16) rfl) ?_
  show Go _ p e below s _ _ _ (s₁.setTop (mkF m 17 #[.val (.long q1), .second, .val (.long ((q1 ^^^ ((q1.toUInt64 >>> ((30 : Int32) &&& 0x3f).toInt64.toUInt64).toInt64)) * (-4658895280553007687 : Int64))), .second] [(.long (((q1 ^^^ ((q1.toUInt64 >>> ((30 : Int32) &&& 0x3f).toInt64.toUInt64).toInt64)) * (-4658895280553007687 : Int64)) ^^^ ((((q1 ^^^ ((q1.toUInt64 >>> ((30 : Int32) &&& 0x3f).toInt64.toUInt64).toInt64)) * (-4658895280553007687 : Int64)).toUInt64 >>> ((27 : Int32) &&& 0x3f).toInt64.toUInt64).toInt64)))]))
  refine go (X0.ldc2Long hx hown (mvT hZ (hw _ (List.mem_of_getElem? (i := 10) rfl))) (g := (mkF m 17 #[.val (.long q1), .second, .val (.long ((q1 ^^^ ((q1.toUInt64 >>> ((30 : Int32) &&& 0x3f).toInt64.toUInt64).toInt64)) * (-4658895280553007687 : Int64))), .second] [(.long (((q1 ^^^ ((q1.toUInt64 >>> ((30 : Int32) &&& 0x3f).toInt64.toUInt64).toInt64)) * (-4658895280553007687 : Int64)) ^^^ ((((q1 ^^^ ((q1.toUInt64 >>> ((30 : Int32) &&& 0x3f).toInt64.toUInt64).toInt64)) * (-4658895280553007687 : Int64)).toUInt64 >>> ((27 : Int32) &&& 0x3f).toInt64.toUInt64).toInt64)))])) rfl (hb hby d2_17)) ?_
  show Go _ p e below s _ _ _ (s₁.setTop (mkF m 20 #[.val (.long q1), .second, .val (.long ((q1 ^^^ ((q1.toUInt64 >>> ((30 : Int32) &&& 0x3f).toInt64.toUInt64).toInt64)) * (-4658895280553007687 : Int64))), .second] [(.long (-7723592293110705685 : Int64)), (.long (((q1 ^^^ ((q1.toUInt64 >>> ((30 : Int32) &&& 0x3f).toInt64.toUInt64).toInt64)) * (-4658895280553007687 : Int64)) ^^^ ((((q1 ^^^ ((q1.toUInt64 >>> ((30 : Int32) &&& 0x3f).toInt64.toUInt64).toInt64)) * (-4658895280553007687 : Int64)).toUInt64 >>> ((27 : Int32) &&& 0x3f).toInt64.toUInt64).toInt64)))]))
  refine go (fun _ => XS.lmul X0.here hx rfl (hb hby d2_20) rfl) ?_
  show Go _ p e below s _ _ _ (s₁.setTop (mkF m 21 #[.val (.long q1), .second, .val (.long ((q1 ^^^ ((q1.toUInt64 >>> ((30 : Int32) &&& 0x3f).toInt64.toUInt64).toInt64)) * (-4658895280553007687 : Int64))), .second] [(.long ((((q1 ^^^ ((q1.toUInt64 >>> ((30 : Int32) &&& 0x3f).toInt64.toUInt64).toInt64)) * (-4658895280553007687 : Int64)) ^^^ ((((q1 ^^^ ((q1.toUInt64 >>> ((30 : Int32) &&& 0x3f).toInt64.toUInt64).toInt64)) * (-4658895280553007687 : Int64)).toUInt64 >>> ((27 : Int32) &&& 0x3f).toInt64.toUInt64).toInt64)) * (-7723592293110705685 : Int64)))]))
  refine go (fun _ => XS.lstoreN X0.here hx rfl (hb hby d2_21) rfl (l' := #[.val (.long q1), .second, .val (.long ((((q1 ^^^ ((q1.toUInt64 >>> ((30 : Int32) &&& 0x3f).toInt64.toUInt64).toInt64)) * (-4658895280553007687 : Int64)) ^^^ ((((q1 ^^^ ((q1.toUInt64 >>> ((30 : Int32) &&& 0x3f).toInt64.toUInt64).toInt64)) * (-4658895280553007687 : Int64)).toUInt64 >>> ((27 : Int32) &&& 0x3f).toInt64.toUInt64).toInt64)) * (-7723592293110705685 : Int64))), .second]) rfl) ?_
  show Go _ p e below s _ _ _ (s₁.setTop (mkF m 22 #[.val (.long q1), .second, .val (.long ((((q1 ^^^ ((q1.toUInt64 >>> ((30 : Int32) &&& 0x3f).toInt64.toUInt64).toInt64)) * (-4658895280553007687 : Int64)) ^^^ ((((q1 ^^^ ((q1.toUInt64 >>> ((30 : Int32) &&& 0x3f).toInt64.toUInt64).toInt64)) * (-4658895280553007687 : Int64)).toUInt64 >>> ((27 : Int32) &&& 0x3f).toInt64.toUInt64).toInt64)) * (-7723592293110705685 : Int64))), .second] []))
  refine go (fun _ => XS.lloadN X0.here hx rfl (hb hby d2_22) rfl) ?_
  show Go _ p e below s _ _ _ (s₁.setTop (mkF m 23 #[.val (.long q1), .second, .val (.long ((((q1 ^^^ ((q1.toUInt64 >>> ((30 : Int32) &&& 0x3f).toInt64.toUInt64).toInt64)) * (-4658895280553007687 : Int64)) ^^^ ((((q1 ^^^ ((q1.toUInt64 >>> ((30 : Int32) &&& 0x3f).toInt64.toUInt64).toInt64)) * (-4658895280553007687 : Int64)).toUInt64 >>> ((27 : Int32) &&& 0x3f).toInt64.toUInt64).toInt64)) * (-7723592293110705685 : Int64))), .second] [(.long ((((q1 ^^^ ((q1.toUInt64 >>> ((30 : Int32) &&& 0x3f).toInt64.toUInt64).toInt64)) * (-4658895280553007687 : Int64)) ^^^ ((((q1 ^^^ ((q1.toUInt64 >>> ((30 : Int32) &&& 0x3f).toInt64.toUInt64).toInt64)) * (-4658895280553007687 : Int64)).toUInt64 >>> ((27 : Int32) &&& 0x3f).toInt64.toUInt64).toInt64)) * (-7723592293110705685 : Int64)))]))
  refine go (fun _ => XS.lloadN X0.here hx rfl (hb hby d2_23) rfl) ?_
  show Go _ p e below s _ _ _ (s₁.setTop (mkF m 24 #[.val (.long q1), .second, .val (.long ((((q1 ^^^ ((q1.toUInt64 >>> ((30 : Int32) &&& 0x3f).toInt64.toUInt64).toInt64)) * (-4658895280553007687 : Int64)) ^^^ ((((q1 ^^^ ((q1.toUInt64 >>> ((30 : Int32) &&& 0x3f).toInt64.toUInt64).toInt64)) * (-4658895280553007687 : Int64)).toUInt64 >>> ((27 : Int32) &&& 0x3f).toInt64.toUInt64).toInt64)) * (-7723592293110705685 : Int64))), .second] [(.long ((((q1 ^^^ ((q1.toUInt64 >>> ((30 : Int32) &&& 0x3f).toInt64.toUInt64).toInt64)) * (-4658895280553007687 : Int64)) ^^^ ((((q1 ^^^ ((q1.toUInt64 >>> ((30 : Int32) &&& 0x3f).toInt64.toUInt64).toInt64)) * (-4658895280553007687 : Int64)).toUInt64 >>> ((27 : Int32) &&& 0x3f).toInt64.toUInt64).toInt64)) * (-7723592293110705685 : Int64))), (.long ((((q1 ^^^ ((q1.toUInt64 >>> ((30 : Int32) &&& 0x3f).toInt64.toUInt64).toInt64)) * (-4658895280553007687 : Int64)) ^^^ ((((q1 ^^^ ((q1.toUInt64 >>> ((30 : Int32) &&& 0x3f).toInt64.toUInt64).toInt64)) * (-4658895280553007687 : Int64)).toUInt64 >>> ((27 : Int32) &&& 0x3f).toInt64.toUInt64).toInt64)) * (-7723592293110705685 : Int64)))]))
  refine go (fun _ => XS.bipush X0.here hx rfl (hb hby d2_24)) ?_
  show Go _ p e below s _ _ _ (s₁.setTop (mkF m 26 #[.val (.long q1), .second, .val (.long ((((q1 ^^^ ((q1.toUInt64 >>> ((30 : Int32) &&& 0x3f).toInt64.toUInt64).toInt64)) * (-4658895280553007687 : Int64)) ^^^ ((((q1 ^^^ ((q1.toUInt64 >>> ((30 : Int32) &&& 0x3f).toInt64.toUInt64).toInt64)) * (-4658895280553007687 : Int64)).toUInt64 >>> ((27 : Int32) &&& 0x3f).toInt64.toUInt64).toInt64)) * (-7723592293110705685 : Int64))), .second] [(.int (31 : Int32)), (.long ((((q1 ^^^ ((q1.toUInt64 >>> ((30 : Int32) &&& 0x3f).toInt64.toUInt64).toInt64)) * (-4658895280553007687 : Int64)) ^^^ ((((q1 ^^^ ((q1.toUInt64 >>> ((30 : Int32) &&& 0x3f).toInt64.toUInt64).toInt64)) * (-4658895280553007687 : Int64)).toUInt64 >>> ((27 : Int32) &&& 0x3f).toInt64.toUInt64).toInt64)) * (-7723592293110705685 : Int64))), (.long ((((q1 ^^^ ((q1.toUInt64 >>> ((30 : Int32) &&& 0x3f).toInt64.toUInt64).toInt64)) * (-4658895280553007687 : Int64)) ^^^ ((((q1 ^^^ ((q1.toUInt64 >>> ((30 : Int32) &&& 0x3f).toInt64.toUInt64).toInt64)) * (-4658895280553007687 : Int64)).toUInt64 >>> ((27 : Int32) &&& 0x3f).toInt64.toUInt64).toInt64)) * (-7723592293110705685 : Int64)))]))
  refine go (fun _ => XS.lushr X0.here hx rfl (hb hby d2_26) rfl) ?_
  show Go _ p e below s _ _ _ (s₁.setTop (mkF m 27 #[.val (.long q1), .second, .val (.long ((((q1 ^^^ ((q1.toUInt64 >>> ((30 : Int32) &&& 0x3f).toInt64.toUInt64).toInt64)) * (-4658895280553007687 : Int64)) ^^^ ((((q1 ^^^ ((q1.toUInt64 >>> ((30 : Int32) &&& 0x3f).toInt64.toUInt64).toInt64)) * (-4658895280553007687 : Int64)).toUInt64 >>> ((27 : Int32) &&& 0x3f).toInt64.toUInt64).toInt64)) * (-7723592293110705685 : Int64))), .second] [(.long ((((((q1 ^^^ ((q1.toUInt64 >>> ((30 : Int32) &&& 0x3f).toInt64.toUInt64).toInt64)) * (-4658895280553007687 : Int64)) ^^^ ((((q1 ^^^ ((q1.toUInt64 >>> ((30 : Int32) &&& 0x3f).toInt64.toUInt64).toInt64)) * (-4658895280553007687 : Int64)).toUInt64 >>> ((27 : Int32) &&& 0x3f).toInt64.toUInt64).toInt64)) * (-7723592293110705685 : Int64)).toUInt64 >>> ((31 : Int32) &&& 0x3f).toInt64.toUInt64).toInt64)), (.long ((((q1 ^^^ ((q1.toUInt64 >>> ((30 : Int32) &&& 0x3f).toInt64.toUInt64).toInt64)) * (-4658895280553007687 : Int64)) ^^^ ((((q1 ^^^ ((q1.toUInt64 >>> ((30 : Int32) &&& 0x3f).toInt64.toUInt64).toInt64)) * (-4658895280553007687 : Int64)).toUInt64 >>> ((27 : Int32) &&& 0x3f).toInt64.toUInt64).toInt64)) * (-7723592293110705685 : Int64)))]))
  refine go (fun _ => XS.lxor X0.here hx rfl (hb hby d2_27) rfl) ?_
  show Go _ p e below s _ _ _ (s₁.setTop (mkF m 28 #[.val (.long q1), .second, .val (.long ((((q1 ^^^ ((q1.toUInt64 >>> ((30 : Int32) &&& 0x3f).toInt64.toUInt64).toInt64)) * (-4658895280553007687 : Int64)) ^^^ ((((q1 ^^^ ((q1.toUInt64 >>> ((30 : Int32) &&& 0x3f).toInt64.toUInt64).toInt64)) * (-4658895280553007687 : Int64)).toUInt64 >>> ((27 : Int32) &&& 0x3f).toInt64.toUInt64).toInt64)) * (-7723592293110705685 : Int64))), .second] [(.long (((((q1 ^^^ ((q1.toUInt64 >>> ((30 : Int32) &&& 0x3f).toInt64.toUInt64).toInt64)) * (-4658895280553007687 : Int64)) ^^^ ((((q1 ^^^ ((q1.toUInt64 >>> ((30 : Int32) &&& 0x3f).toInt64.toUInt64).toInt64)) * (-4658895280553007687 : Int64)).toUInt64 >>> ((27 : Int32) &&& 0x3f).toInt64.toUInt64).toInt64)) * (-7723592293110705685 : Int64)) ^^^ ((((((q1 ^^^ ((q1.toUInt64 >>> ((30 : Int32) &&& 0x3f).toInt64.toUInt64).toInt64)) * (-4658895280553007687 : Int64)) ^^^ ((((q1 ^^^ ((q1.toUInt64 >>> ((30 : Int32) &&& 0x3f).toInt64.toUInt64).toInt64)) * (-4658895280553007687 : Int64)).toUInt64 >>> ((27 : Int32) &&& 0x3f).toInt64.toUInt64).toInt64)) * (-7723592293110705685 : Int64)).toUInt64 >>> ((31 : Int32) &&& 0x3f).toInt64.toUInt64).toInt64)))]))
  refine goRet X0 hx Bd.notSynchronized Bd.returns rfl (Or.inr (Or.inl ⟨rfl, rfl, _, rfl⟩)) (hb hby d2_28) (by decide) (by decide) (by rw [e0]; refine ⟨rfl, N0, rfl⟩)
theorem d3_0 : decode prog_40_method_1_code 0 = .ok (.aload_n 0, 1) := by decide +kernel
theorem d3_1 : decode prog_40_method_1_code 1 = .ok (.invokespecial 1, 3) := by decide +kernel
theorem d3_4 : decode prog_40_method_1_code 4 = .ok (.aload_n 0, 1) := by decide +kernel
theorem d3_5 : decode prog_40_method_1_code 5 = .ok (.lload_n 1, 1) := by decide +kernel
theorem d3_6 : decode prog_40_method_1_code 6 = .ok (.putfield 7, 3) := by decide +kernel
theorem d3_9 : decode prog_40_method_1_code 9 = .ok (.return_, 1) := by decide +kernel
theorem pn_3 : plainName "com/example/fuller_query/fullerquery/vectors/SplitMix" = true := by first | (simp [plainName, overriddenIn]; done) | decide +kernel
theorem ef_3 (m : MethodId) (a1 : Addr) (q2 : Int64) : entryFrame m #[(.ref a1), (.long q2)] 3 = mkF m 0 #[.val (.ref a1), .val (.long q2), .second] [] := by first | (simp [entryFrame, mkF, argsToLocals, Value.category]; done) | rfl
def Q3 (Z : State) (a1 : Addr) (q2 : Int64) (u1 : Value) (h0 : Heap) (n0 : Nat) (v : Option Value) (h : Heap) (L : List Loc) : Prop := v = none ∧ Fr n0 L ∧ (Keep h0 h [a1]) ∧ (Fld Z h a1 "com/example/fuller_query/fullerquery/vectors/SplitMix" "state" "J" (.long q2))
set_option maxRecDepth 65536 in
set_option maxHeartbeats 40000000 in
theorem rm3 (l : Launch) (Z : State) (a0 : Array Value) (hw : ∀ d ∈ tables_1, d.before a0 Z = true) (ws : List Jvm.Cond) (a1 : Addr) (q2 : Int64) (u1 : Value) (h0 : Heap) (n0 : Nat) (Z0 : n0 ≤ h0.size) (P0 : Exa Z h0 a1 "com/example/fuller_query/fullerquery/vectors/SplitMix") (P1 : Fld Z h0 a1 "com/example/fuller_query/fullerquery/vectors/SplitMix" "state" "J" u1) (P2 : n0 ≤ a1) :
    MetFree l (⟨"com/example/fuller_query/fullerquery/vectors/SplitMix", "<init>", "(J)V"⟩ : MethodName) (head1 (Jvm.Cond.code (⟨"com/example/fuller_query/fullerquery/vectors/SplitMix", "<init>", "(J)V"⟩ : MethodName) prog_40_method_1_code 3 none :: ws) ({ frames := 1, cells := 0, slots := 0, locals := 12 } : Room)) (fun a U => a = #[(.ref a1), (.long q2)] ∧ Z.Warmed39 U.vm ∧ U.heap = h0) (fun _ _ _ _ _ => True) (fun _ U o U' => ∃ v L, o = .returned v ∧ Q3 Z a1 q2 u1 h0 n0 v U'.heap L ∧ FrameEnd U o U' L ({ frames := 1, cells := 0, slots := 0, locals := 12 } : Room).cells ({ frames := 1, cells := 0, slots := 0, locals := 12 } : Room).slots) := by
  refine MetFree.of_bodySF (plainFor_of_name pn_3) hisR ?_
  intro p e s m args below meth c s₁ Bd hml0 hP hK
  obtain ⟨rfl, hZ, hh⟩ := hP
  have hx := Bd.exec
  have hby := Bd.bytes
  have hml : c.maxLocals = 3 := hml0
  have hown : s.vm.findClass "com/example/fuller_query/fullerquery/vectors/SplitMix" = some m.cls := findClass_of_methodNamed Bd.named
  have hnm := (name_of_methodNamed Bd.named Bd.method).1
  have X0 : Stand p l e ({ frames := 1, cells := 0, slots := 0, locals := 12 } : Room) s m #[(.ref a1), (.long q2)] below meth c s₁ [] 0 0 := Stand.of_body Bd
  have e0 : s₁.heap = h0 := by rw [← hh, Bd.state]; rfl
  have N0 := Fr.nil n0
  have hS0 : s.Since s.vm 0 := (State.WarmedH.refl s).since 0
  show Go FrameEnd p e below s ({ frames := 1, cells := 0, slots := 0, locals := 12 } : Room).cells ({ frames := 1, cells := 0, slots := 0, locals := 12 } : Room).slots (Q3 Z a1 q2 u1 h0 n0) (s₁.setTop (entryFrame m #[(.ref a1), (.long q2)] 3))
  refine go (fun _ k => castTop (ef_3 m a1 q2) k) ?_
  show Go _ p e below s _ _ _ (s₁.setTop (mkF m 0 #[.val (.ref a1), .val (.long q2), .second] []))
  refine go (fun _ => XS.aloadN X0.here hx rfl (hb hby d3_0) rfl rfl) ?_
  show Go _ p e below s _ _ _ (s₁.setTop (mkF m 1 #[.val (.ref a1), .val (.long q2), .second] [(.ref a1)]))
  obtain ⟨T3, X3, e3, st3⟩ := initO X0 hx hZ hown (hw _ (List.mem_of_getElem? (i := 14) rfl)) (hw _ (List.mem_of_getElem? (i := 15) rfl)) (hw _ (List.mem_of_getElem? (i := 16) rfl)) e0 (g := (mkF m 1 #[.val (.ref a1), .val (.long q2), .second] [(.ref a1)])) rfl (by rw [hml]; rfl) rfl (hb hby d3_1) (by decide) (W := 0) (by show 2 * 0 + _ ≤ _; exact Nat.le_of_eq rfl) (by decide)
  refine go st3 ?_
  show Go _ p e below s _ _ _ (T3.setTop (mkF m 4 #[.val (.ref a1), .val (.long q2), .second] []))
  refine go (fun _ => XS.aloadN X3.here hx rfl (hb hby d3_4) rfl rfl) ?_
  show Go _ p e below s _ _ _ (T3.setTop (mkF m 5 #[.val (.ref a1), .val (.long q2), .second] [(.ref a1)]))
  refine go (fun _ => XS.lloadN X3.here hx rfl (hb hby d3_5) rfl) ?_
  show Go _ p e below s _ _ _ (T3.setTop (mkF m 6 #[.val (.ref a1), .val (.long q2), .second] [(.long q2), (.ref a1)]))
  obtain ⟨T4, h4, X4, e4, W4, st4⟩ := putF X3 hx hZ hown (host := "") (Or.inl (hw _ (List.mem_of_getElem? (i := 17) rfl))) Via.refl e3 P1 P0 (Or.inl (hw _ (List.mem_of_getElem? (i := 18) rfl))) (hw _ (List.mem_of_getElem? (i := 5) rfl)) (ty := .long) (by decide) rfl rfl (g := (mkF m 6 #[.val (.ref a1), .val (.long q2), .second] [(.long q2), (.ref a1)])) rfl rfl (hb hby d3_6)
  have Fw4 := P1.same W4
  have c4_0 := P0.wr W4
  have KK4 : Keep h0 h4 [a1] := (Keep.refl h0 [a1]).wr W4 (Or.inl (List.mem_of_getElem? (i := 0) rfl))
  have ZN4 : n0 ≤ h4.size := Nat.le_trans Z0 (Keep.of_wr W4).1
  have NN4 := Fr.snoc X4 N0 P2
  refine go st4 ?_
  show Go _ p e below s _ _ _ (T4.setTop (mkF m 9 #[.val (.ref a1), .val (.long q2), .second] []))
  refine goRet0 X4 hx Bd.notSynchronized Bd.returns (hb hby d3_9) (by decide) (by decide) (by rw [e4]; refine ⟨rfl, NN4, KK4, Fw4⟩)
theorem d1_0 : decode prog_40_method_2_code 0 = .ok (.new 8, 3) := by decide +kernel
theorem d1_3 : decode prog_40_method_2_code 3 = .ok (.dup, 1) := by decide +kernel
theorem d1_4 : decode prog_40_method_2_code 4 = .ok (.lload_n 0, 1) := by decide +kernel
theorem d1_5 : decode prog_40_method_2_code 5 = .ok (.invokestatic 13, 3) := by decide +kernel
theorem d1_8 : decode prog_40_method_2_code 8 = .ok (.lload_n 2, 1) := by decide +kernel
theorem d1_9 : decode prog_40_method_2_code 9 = .ok (.ladd, 1) := by decide +kernel
theorem d1_10 : decode prog_40_method_2_code 10 = .ok (.invokestatic 13, 3) := by decide +kernel
theorem d1_13 : decode prog_40_method_2_code 13 = .ok (.invokespecial 17, 3) := by decide +kernel
theorem d1_16 : decode prog_40_method_2_code 16 = .ok (.areturn, 1) := by decide +kernel
theorem pn_1 : plainName "com/example/fuller_query/fullerquery/vectors/SplitMix" = true := by first | (simp [plainName, overriddenIn]; done) | decide +kernel
theorem pd_1_0 : parseMethodDescriptor "(J)J" = some ⟨[.long], some .long⟩ := by decide +kernel
theorem pd_1_1 : parseMethodDescriptor "(J)V" = some ⟨[.long], none⟩ := by decide +kernel
theorem ef_1 (m : MethodId) (q1 : Int64) (q2 : Int64) : entryFrame m #[(.long q1), (.long q2)] 4 = mkF m 0 #[.val (.long q1), .second, .val (.long q2), .second] [] := by first | (simp [entryFrame, mkF, argsToLocals, Value.category]; done) | rfl
def Q1 (Z : State) (q1 : Int64) (q2 : Int64) (h0 : Heap) (n0 : Nat) (v : Option Value) (h : Heap) (L : List Loc) : Prop := ∃ (b : Addr), v = some (.ref b) ∧ Fr n0 L ∧ (h0.size ≤ b) ∧ (n0 ≤ b) ∧ (Keep h0 h []) ∧ (Exa Z h b "com/example/fuller_query/fullerquery/vectors/SplitMix") ∧ (Fld Z h b "com/example/fuller_query/fullerquery/vectors/SplitMix" "state" "J" (.long (own_mix ((own_mix q1) + q2))))
set_option maxRecDepth 65536 in
set_option maxHeartbeats 40000000 in
theorem rm1 (l : Launch) (Z : State) (a0 : Array Value) (hw : ∀ d ∈ tables_1, d.before a0 Z = true) (ws : List Jvm.Cond) (q1 : Int64) (q2 : Int64) (h0 : Heap) (n0 : Nat) (Z0 : n0 ≤ h0.size)  :
    MetFree l (⟨"com/example/fuller_query/fullerquery/vectors/SplitMix", "stream", "(JJ)Lcom/example/fuller_query/fullerquery/vectors/SplitMix;"⟩ : MethodName) (head1 (Jvm.Cond.code (⟨"com/example/fuller_query/fullerquery/vectors/SplitMix", "stream", "(JJ)Lcom/example/fuller_query/fullerquery/vectors/SplitMix;"⟩ : MethodName) prog_40_method_2_code 4 (some (.object "com/example/fuller_query/fullerquery/vectors/SplitMix")) :: ws) ({ frames := 2, cells := 1, slots := 1, locals := 27 } : Room)) (fun a U => a = #[(.long q1), (.long q2)] ∧ Z.Warmed39 U.vm ∧ U.heap = h0) (fun _ _ _ _ _ => True) (fun _ U o U' => ∃ v L, o = .returned v ∧ Q1 Z q1 q2 h0 n0 v U'.heap L ∧ FrameEnd U o U' L ({ frames := 2, cells := 1, slots := 1, locals := 27 } : Room).cells ({ frames := 2, cells := 1, slots := 1, locals := 27 } : Room).slots) := by
  refine MetFree.of_bodySF (plainFor_of_name pn_1) hisR ?_
  intro p e s m args below meth c s₁ Bd hml0 hP hK
  obtain ⟨rfl, hZ, hh⟩ := hP
  have hx := Bd.exec
  have hby := Bd.bytes
  have hml : c.maxLocals = 4 := hml0
  have hown : s.vm.findClass "com/example/fuller_query/fullerquery/vectors/SplitMix" = some m.cls := findClass_of_methodNamed Bd.named
  have hnm := (name_of_methodNamed Bd.named Bd.method).1
  have X0 : Stand p l e ({ frames := 2, cells := 1, slots := 1, locals := 27 } : Room) s m #[(.long q1), (.long q2)] below meth c s₁ [] 0 0 := Stand.of_body Bd
  have e0 : s₁.heap = h0 := by rw [← hh, Bd.state]; rfl
  have N0 := Fr.nil n0
  have hS0 : s.Since s.vm 0 := (State.WarmedH.refl s).since 0
  show Go FrameEnd p e below s ({ frames := 2, cells := 1, slots := 1, locals := 27 } : Room).cells ({ frames := 2, cells := 1, slots := 1, locals := 27 } : Room).slots (Q1 Z q1 q2 h0 n0) (s₁.setTop (entryFrame m #[(.long q1), (.long q2)] 4))
  refine go (fun _ k => castTop (ef_1 m q1 q2) k) ?_
  show Go _ p e below s _ _ _ (s₁.setTop (mkF m 0 #[.val (.long q1), .second, .val (.long q2), .second] []))
  obtain ⟨T9, h9, X9, e9, E9, A9, D9, -, st9⟩ := newO X0 hx hZ hown (hw _ (List.mem_of_getElem? (i := 4) rfl)) (hw _ (List.mem_of_getElem? (i := 5) rfl)) (hw _ (List.mem_of_getElem? (i := 2) rfl)) e0 (g := (mkF m 0 #[.val (.long q1), .second, .val (.long q2), .second] [])) rfl (hb hby d1_0) (by decide) (by decide)
  obtain ⟨b9, g9⟩ : ∃ z, z = h0.size := ⟨_, rfl⟩
  rw [← g9] at A9 D9 st9
  have G_b9 : n0 ≤ b9 := Nat.le_trans Z0 (Nat.le_of_eq g9.symm)
  have SZ_b9 : h0.size ≤ b9 := Nat.le_trans (Keep.refl h0 []).1 (Nat.le_of_eq g9.symm)
  have KK9 : Keep h0 h9 [] := (Keep.refl h0 []).ext E9
  have ZN9 : n0 ≤ h9.size := Nat.le_trans Z0 E9.1
  have F9_18 : Fld Z h9 b9 "com/example/fuller_query/fullerquery/vectors/SplitMix" "state" "J" (.long (0 : Int64)) := D9 (Or.inl (hw _ (List.mem_of_getElem? (i := 18) rfl))) (ty := .long) (by decide)
  refine go st9 ?_
  show Go _ p e below s _ _ _ (T9.setTop (mkF m 3 #[.val (.long q1), .second, .val (.long q2), .second] [(.ref b9)]))
  refine go (fun _ => XS.dup X9.here hx rfl (hb hby d1_3) rfl rfl) ?_
  show Go _ p e below s _ _ _ (T9.setTop (mkF m 4 #[.val (.long q1), .second, .val (.long q2), .second] [(.ref b9), (.ref b9)]))
  refine go (fun _ => XS.lloadN X9.here hx rfl (hb hby d1_4) rfl) ?_
  show Go _ p e below s _ _ _ (T9.setTop (mkF m 5 #[.val (.long q1), .second, .val (.long q2), .second] [(.long q1), (.ref b9), (.ref b9)]))
  obtain ⟨_, _, ⟨T10, L10, k10, n10⟩, -, X10, ⟨Lc10, hQ10, l10, y10, z10⟩, st10⟩ := Jvm.LawKit.callS X9 hx (y := (⟨"com/example/fuller_query/fullerquery/vectors/SplitMix", "mix", "(J)J"⟩ : MethodName)) hown (mvT hZ (hw _ (List.mem_of_getElem? (i := 6) rfl))) (mvT hZ (hw _ (List.mem_of_getElem? (i := 7) rfl))) (mvT hZ (hw _ (List.mem_of_getElem? (i := 2) rfl))) (mvT hZ (hw _ (List.mem_of_getElem? (i := 8) rfl))) (by decide) (backOf (W := 2) (rm2 l Z a0 hw [] q1 h9 n0 ZN9 ) hZ (hw _ (List.mem_of_getElem? (i := 8) rfl)) (hw _ (List.mem_of_getElem? (i := 2) rfl)) (by decide) (by decide)) (g := (mkF m 5 #[.val (.long q1), .second, .val (.long q2), .second] [(.long q1), (.ref b9), (.ref b9)])) rfl (by rw [hml]; rfl) (argsL := [(.long q1)]) (rest := [(.ref b9), (.ref b9)]) (lenOf pd_1_0 rfl) rfl (by show 2 * 0 + _ ≤ _; exact Nat.le_of_eq rfl) (hb hby d1_5) (fun _ _ => ⟨rfl, e9, (by decide : 1 + 0 ≤ _), (by decide : 1 + 0 ≤ _)⟩)
  dsimp only [Pt.U, Pt.locs, Pt.cells, Pt.slots] at X10 l10 y10 z10 st10 hQ10
  subst l10 y10 z10
  obtain ⟨rfl, N10q, e10⟩ := hQ10
  have N10 := Fr.app N0 N10q
  refine go st10 ?_
  show Go _ p e below s _ _ _ (T10.setTop (mkF m 8 #[.val (.long q1), .second, .val (.long q2), .second] [(.long (own_mix q1)), (.ref b9), (.ref b9)]))
  refine go (fun _ => XS.lloadN X10.here hx rfl (hb hby d1_8) rfl) ?_
  show Go _ p e below s _ _ _ (T10.setTop (mkF m 9 #[.val (.long q1), .second, .val (.long q2), .second] [(.long q2), (.long (own_mix q1)), (.ref b9), (.ref b9)]))
  refine go (fun _ => XS.ladd X10.here hx rfl (hb hby d1_9) rfl) ?_
  show Go _ p e below s _ _ _ (T10.setTop (mkF m 10 #[.val (.long q1), .second, .val (.long q2), .second] [(.long ((own_mix q1) + q2)), (.ref b9), (.ref b9)]))
  obtain ⟨_, _, ⟨T11, L11, k11, n11⟩, -, X11, ⟨Lc11, hQ11, l11, y11, z11⟩, st11⟩ := Jvm.LawKit.callS X10 hx (y := (⟨"com/example/fuller_query/fullerquery/vectors/SplitMix", "mix", "(J)J"⟩ : MethodName)) hown (mvT hZ (hw _ (List.mem_of_getElem? (i := 6) rfl))) (mvT hZ (hw _ (List.mem_of_getElem? (i := 7) rfl))) (mvT hZ (hw _ (List.mem_of_getElem? (i := 2) rfl))) (mvT hZ (hw _ (List.mem_of_getElem? (i := 8) rfl))) (by decide) (backOf (W := 2) (rm2 l Z a0 hw [] ((own_mix q1) + q2) h9 n0 ZN9 ) hZ (hw _ (List.mem_of_getElem? (i := 8) rfl)) (hw _ (List.mem_of_getElem? (i := 2) rfl)) (by decide) (by decide)) (g := (mkF m 10 #[.val (.long q1), .second, .val (.long q2), .second] [(.long ((own_mix q1) + q2)), (.ref b9), (.ref b9)])) rfl (by rw [hml]; rfl) (argsL := [(.long ((own_mix q1) + q2))]) (rest := [(.ref b9), (.ref b9)]) (lenOf pd_1_0 rfl) rfl (by show 2 * 0 + _ ≤ _; exact Nat.le_of_eq rfl) (hb hby d1_10) (fun _ _ => ⟨rfl, e10, (by decide : 1 + 0 ≤ _), (by decide : 1 + 0 ≤ _)⟩)
  dsimp only [Pt.U, Pt.locs, Pt.cells, Pt.slots] at X11 l11 y11 z11 st11 hQ11
  subst l11 y11 z11
  obtain ⟨rfl, N11q, e11⟩ := hQ11
  have N11 := Fr.app N10 N11q
  refine go st11 ?_
  show Go _ p e below s _ _ _ (T11.setTop (mkF m 13 #[.val (.long q1), .second, .val (.long q2), .second] [(.long (own_mix ((own_mix q1) + q2))), (.ref b9), (.ref b9)]))
  obtain ⟨_, _, ⟨T12, L12, k12, n12⟩, -, X12, ⟨Lc12, hQ12, l12, y12, z12⟩, st12⟩ := X11.specialBack hx (y := (⟨"com/example/fuller_query/fullerquery/vectors/SplitMix", "<init>", "(J)V"⟩ : MethodName)) rfl hown (mvT hZ (hw _ (List.mem_of_getElem? (i := 11) rfl))) (mvT hZ (hw _ (List.mem_of_getElem? (i := 12) rfl))) (mvT hZ (hw _ (List.mem_of_getElem? (i := 13) rfl))) (by decide) (backOf (W := 1) (rm3 l Z a0 hw [] b9 (own_mix ((own_mix q1) + q2)) (.long (0 : Int64)) h9 n0 ZN9 A9 F9_18 G_b9) hZ (hw _ (List.mem_of_getElem? (i := 13) rfl)) (hw _ (List.mem_of_getElem? (i := 2) rfl)) (by decide) (by decide)) (g := (mkF m 13 #[.val (.long q1), .second, .val (.long q2), .second] [(.long (own_mix ((own_mix q1) + q2))), (.ref b9), (.ref b9)])) rfl (by rw [hml]; rfl) (Steps.refl _) (a := b9) (argsL := [(.long (own_mix ((own_mix q1) + q2)))]) (rest := [(.ref b9)]) (lenOf pd_1_1 rfl) rfl (by show 2 * 0 + _ ≤ _; exact Nat.le_of_eq rfl) (hb hby d1_13) (fun _ _ => ⟨rfl, e11, (by decide : 1 + 0 ≤ _), (by decide : 1 + 0 ≤ _)⟩)
  dsimp only [Pt.U, Pt.locs, Pt.cells, Pt.slots] at X12 l12 y12 z12 st12 hQ12
  subst l12 y12 z12
  obtain ⟨rfl, N12q, K12, u12_1⟩ := hQ12
  have N12 := Fr.app N11 N12q
  have c12_0 := A9.keep K12
  have KK12 : Keep h0 T12.heap [] := KK9.trans K12 (allS (P := fun x => x ∈ [] ∨ h0.size ≤ x) (Or.inr SZ_b9) all0)
  have ZN12 : n0 ≤ T12.heap.size := Nat.le_trans ZN9 K12.1
  refine goT st12 ?_
  show Go _ p e below s _ _ _ (T12.setTop (mkF m 16 #[.val (.long q1), .second, .val (.long q2), .second] [(.ref b9)]))
  refine goRet X12 hx Bd.notSynchronized Bd.returns rfl (Or.inr (Or.inr (Or.inr (Or.inr ⟨rfl, rfl, rfl⟩)))) (hb hby d1_16) (by decide) (by decide) (by refine ⟨b9, rfl, N12, SZ_b9, G_b9, KK12, c12_0, u12_1⟩)
theorem d5_0 : decode prog_40_method_3_code 0 = .ok (.aload_n 0, 1) := by decide +kernel
theorem d5_1 : decode prog_40_method_3_code 1 = .ok (.dup, 1) := by decide +kernel
theorem d5_2 : decode prog_40_method_3_code 2 = .ok (.getfield 7, 3) := by decide +kernel
theorem d5_5 : decode prog_40_method_3_code 5 = .ok (.ldc2_w 20, 3) := by decide +kernel
theorem d5_8 : decode prog_40_method_3_code 8 = .ok (.ladd, 1) := by decide +kernel
theorem d5_9 : decode prog_40_method_3_code 9 = .ok (.putfield 7, 3) := by decide +kernel
theorem d5_12 : decode prog_40_method_3_code 12 = .ok (.aload_n 0, 1) := by decide +kernel
theorem d5_13 : decode prog_40_method_3_code 13 = .ok (.getfield 7, 3) := by decide +kernel
theorem d5_16 : decode prog_40_method_3_code 16 = .ok (.invokestatic 13, 3) := by decide +kernel
theorem d5_19 : decode prog_40_method_3_code 19 = .ok (.lreturn, 1) := by decide +kernel
theorem pn_5 : plainName "com/example/fuller_query/fullerquery/vectors/SplitMix" = true := by first | (simp [plainName, overriddenIn]; done) | decide +kernel
theorem pd_5_0 : parseMethodDescriptor "(J)J" = some ⟨[.long], some .long⟩ := by decide +kernel
theorem ef_5 (m : MethodId) (a1 : Addr) : entryFrame m #[(.ref a1)] 1 = mkF m 0 #[.val (.ref a1)] [] := by first | (simp [entryFrame, mkF, argsToLocals, Value.category]; done) | rfl
def Q5 (Z : State) (a1 : Addr) (w1 : Int64) (h0 : Heap) (n0 : Nat) (v : Option Value) (h : Heap) (L : List Loc) : Prop := v = some (.long (own_mix (w1 + (-7046029254386353131 : Int64)))) ∧ Fr n0 L ∧ (Keep h0 h [a1]) ∧ (Fld Z h a1 "com/example/fuller_query/fullerquery/vectors/SplitMix" "state" "J" (.long (w1 + (-7046029254386353131 : Int64))))
set_option maxRecDepth 65536 in
set_option maxHeartbeats 40000000 in
theorem rm5 (l : Launch) (Z : State) (a0 : Array Value) (hw : ∀ d ∈ tables_1, d.before a0 Z = true) (ws : List Jvm.Cond) (a1 : Addr) (w1 : Int64) (h0 : Heap) (n0 : Nat) (Z0 : n0 ≤ h0.size) (P0 : Exa Z h0 a1 "com/example/fuller_query/fullerquery/vectors/SplitMix") (P1 : Fld Z h0 a1 "com/example/fuller_query/fullerquery/vectors/SplitMix" "state" "J" (.long w1)) (P2 : n0 ≤ a1) :
    MetFree l (⟨"com/example/fuller_query/fullerquery/vectors/SplitMix", "next", "()J"⟩ : MethodName) (head1 (Jvm.Cond.code (⟨"com/example/fuller_query/fullerquery/vectors/SplitMix", "next", "()J"⟩ : MethodName) prog_40_method_3_code 1 (some .long) :: ws) ({ frames := 1, cells := 0, slots := 0, locals := 15 } : Room)) (fun a U => a = #[(.ref a1)] ∧ Z.Warmed39 U.vm ∧ U.heap = h0) (fun _ _ _ _ _ => True) (fun _ U o U' => ∃ v L, o = .returned v ∧ Q5 Z a1 w1 h0 n0 v U'.heap L ∧ FrameEnd U o U' L ({ frames := 1, cells := 0, slots := 0, locals := 15 } : Room).cells ({ frames := 1, cells := 0, slots := 0, locals := 15 } : Room).slots) := by
  refine MetFree.of_bodySF (plainFor_of_name pn_5) hisR ?_
  intro p e s m args below meth c s₁ Bd hml0 hP hK
  obtain ⟨rfl, hZ, hh⟩ := hP
  have hx := Bd.exec
  have hby := Bd.bytes
  have hml : c.maxLocals = 1 := hml0
  have hown : s.vm.findClass "com/example/fuller_query/fullerquery/vectors/SplitMix" = some m.cls := findClass_of_methodNamed Bd.named
  have hnm := (name_of_methodNamed Bd.named Bd.method).1
  have X0 : Stand p l e ({ frames := 1, cells := 0, slots := 0, locals := 15 } : Room) s m #[(.ref a1)] below meth c s₁ [] 0 0 := Stand.of_body Bd
  have e0 : s₁.heap = h0 := by rw [← hh, Bd.state]; rfl
  have N0 := Fr.nil n0
  have hS0 : s.Since s.vm 0 := (State.WarmedH.refl s).since 0
  show Go FrameEnd p e below s ({ frames := 1, cells := 0, slots := 0, locals := 15 } : Room).cells ({ frames := 1, cells := 0, slots := 0, locals := 15 } : Room).slots (Q5 Z a1 w1 h0 n0) (s₁.setTop (entryFrame m #[(.ref a1)] 1))
  refine go (fun _ k => castTop (ef_5 m a1) k) ?_
  show Go _ p e below s _ _ _ (s₁.setTop (mkF m 0 #[.val (.ref a1)] []))
  refine go (fun _ => XS.aloadN X0.here hx rfl (hb hby d5_0) rfl rfl) ?_
  show Go _ p e below s _ _ _ (s₁.setTop (mkF m 1 #[.val (.ref a1)] [(.ref a1)]))
  refine go (fun _ => XS.dup X0.here hx rfl (hb hby d5_1) rfl rfl) ?_
  show Go _ p e below s _ _ _ (s₁.setTop (mkF m 2 #[.val (.ref a1)] [(.ref a1), (.ref a1)]))
  obtain ⟨T17, X17, e17, st17⟩ := getF X0 hx hZ hown (host := "") (Or.inl (hw _ (List.mem_of_getElem? (i := 17) rfl))) Via.refl e0 P1 (g := (mkF m 2 #[.val (.ref a1)] [(.ref a1), (.ref a1)])) rfl rfl (hb hby d5_2)
  refine go st17 ?_
  show Go _ p e below s _ _ _ (T17.setTop (mkF m 5 #[.val (.ref a1)] [(.long w1), (.ref a1)]))
  refine go (X17.ldc2Long hx hown (mvT hZ (hw _ (List.mem_of_getElem? (i := 24) rfl))) (g := (mkF m 5 #[.val (.ref a1)] [(.long w1), (.ref a1)])) rfl (hb hby d5_5)) ?_
  show Go _ p e below s _ _ _ (T17.setTop (mkF m 8 #[.val (.ref a1)] [(.long (-7046029254386353131 : Int64)), (.long w1), (.ref a1)]))
  refine go (fun _ => XS.ladd X17.here hx rfl (hb hby d5_8) rfl) ?_
  show Go _ p e below s _ _ _ (T17.setTop (mkF m 9 #[.val (.ref a1)] [(.long (w1 + (-7046029254386353131 : Int64))), (.ref a1)]))
  obtain ⟨T18, h18, X18, e18, W18, st18⟩ := putF X17 hx hZ hown (host := "") (Or.inl (hw _ (List.mem_of_getElem? (i := 17) rfl))) Via.refl e17 P1 P0 (Or.inl (hw _ (List.mem_of_getElem? (i := 18) rfl))) (hw _ (List.mem_of_getElem? (i := 5) rfl)) (ty := .long) (by decide) rfl rfl (g := (mkF m 9 #[.val (.ref a1)] [(.long (w1 + (-7046029254386353131 : Int64))), (.ref a1)])) rfl rfl (hb hby d5_9)
  have Fw18 := P1.same W18
  have c18_0 := P0.wr W18
  have KK18 : Keep h0 h18 [a1] := (Keep.refl h0 [a1]).wr W18 (Or.inl (List.mem_of_getElem? (i := 0) rfl))
  have ZN18 : n0 ≤ h18.size := Nat.le_trans Z0 (Keep.of_wr W18).1
  have NN18 := Fr.snoc X18 N0 P2
  refine go st18 ?_
  show Go _ p e below s _ _ _ (T18.setTop (mkF m 12 #[.val (.ref a1)] []))
  refine go (fun _ => XS.aloadN X18.here hx rfl (hb hby d5_12) rfl rfl) ?_
  show Go _ p e below s _ _ _ (T18.setTop (mkF m 13 #[.val (.ref a1)] [(.ref a1)]))
  obtain ⟨T19, X19, e19, st19⟩ := getF X18 hx hZ hown (host := "") (Or.inl (hw _ (List.mem_of_getElem? (i := 17) rfl))) Via.refl e18 Fw18 (g := (mkF m 13 #[.val (.ref a1)] [(.ref a1)])) rfl rfl (hb hby d5_13)
  refine go st19 ?_
  show Go _ p e below s _ _ _ (T19.setTop (mkF m 16 #[.val (.ref a1)] [(.long (w1 + (-7046029254386353131 : Int64)))]))
  obtain ⟨_, _, ⟨T20, L20, k20, n20⟩, -, X20, ⟨Lc20, hQ20, l20, y20, z20⟩, st20⟩ := Jvm.LawKit.callS X19 hx (y := (⟨"com/example/fuller_query/fullerquery/vectors/SplitMix", "mix", "(J)J"⟩ : MethodName)) hown (mvT hZ (hw _ (List.mem_of_getElem? (i := 6) rfl))) (mvT hZ (hw _ (List.mem_of_getElem? (i := 7) rfl))) (mvT hZ (hw _ (List.mem_of_getElem? (i := 2) rfl))) (mvT hZ (hw _ (List.mem_of_getElem? (i := 8) rfl))) (by decide) (backOf (W := 0) (rm2 l Z a0 hw [] (w1 + (-7046029254386353131 : Int64)) h18 n0 ZN18 ) hZ (hw _ (List.mem_of_getElem? (i := 8) rfl)) (hw _ (List.mem_of_getElem? (i := 2) rfl)) (by decide) (by decide)) (g := (mkF m 16 #[.val (.ref a1)] [(.long (w1 + (-7046029254386353131 : Int64)))])) rfl (by rw [hml]; rfl) (argsL := [(.long (w1 + (-7046029254386353131 : Int64)))]) (rest := []) (lenOf pd_5_0 rfl) rfl (by show 2 * 0 + _ ≤ _; exact Nat.le_of_eq rfl) (hb hby d5_16) (fun _ _ => ⟨rfl, e19, (by decide : 0 + 0 ≤ _), (by decide : 0 + 0 ≤ _)⟩)
  dsimp only [Pt.U, Pt.locs, Pt.cells, Pt.slots] at X20 l20 y20 z20 st20 hQ20
  subst l20 y20 z20
  obtain ⟨rfl, N20q, e20⟩ := hQ20
  have N20 := Fr.app NN18 N20q
  refine go st20 ?_
  show Go _ p e below s _ _ _ (T20.setTop (mkF m 19 #[.val (.ref a1)] [(.long (own_mix (w1 + (-7046029254386353131 : Int64))))]))
  refine goRet X20 hx Bd.notSynchronized Bd.returns rfl (Or.inr (Or.inl ⟨rfl, rfl, _, rfl⟩)) (hb hby d5_19) (by decide) (by decide) (by rw [e20]; refine ⟨rfl, N20, KK18, Fw18⟩)
theorem pn_0 : plainName "com/example/fuller_query/fullerquery/vectors/SplitMixStreamPinLaw" = true := by first | (simp [plainName, overriddenIn]; done) | decide +kernel
theorem pd_0_0 : parseMethodDescriptor "(JJ)Lcom/example/fuller_query/fullerquery/vectors/SplitMix;" = some ⟨[.long, .long], some (.object "com/example/fuller_query/fullerquery/vectors/SplitMix")⟩ := by decide +kernel
theorem pd_0_1 : parseMethodDescriptor "()J" = some ⟨[], some .long⟩ := by decide +kernel
theorem ef_0 (m : MethodId) (q1 : Int64) (q2 : Int64) (q3 : Int64) (q4 : Int64) : entryFrame m #[(.long q1), (.long q2), (.long q3), (.long q4)] maxLocals = mkF m 0 #[.val (.long q1), .second, .val (.long q2), .second, .val (.long q3), .second, .val (.long q4), .second, .unset, .unset, .unset, .unset, .unset, .unset, .unset, .unset, .unset, .unset, .unset, .unset, .unset, .unset, .unset, .unset, .unset, .unset, .unset, .unset] [] := by first | (simp [entryFrame, mkF, argsToLocals, Value.category, maxLocals]; done) | rfl
def Q0 (Z : State) (q1 : Int64) (q2 : Int64) (q3 : Int64) (q4 : Int64) (h0 : Heap) (n0 : Nat) (v : Option Value) (h : Heap) (L : List Loc) : Prop := v = some (.int (1 : Int32)) ∧ Fr n0 L
set_option maxRecDepth 65536 in
set_option maxHeartbeats 40000000 in
theorem rm0 (l : Launch) (Z : State) (a0 : Array Value) (hw : ∀ d ∈ tables_1, d.before a0 Z = true) (ws : List Jvm.Cond) (q1 : Int64) (q2 : Int64) (q3 : Int64) (q4 : Int64) (h0 : Heap) (n0 : Nat) (Z0 : n0 ≤ h0.size)  :
    MetFree l x (head1 (Jvm.Cond.code x code maxLocals ret :: ws) room_1) (fun a U => a = #[(.long q1), (.long q2), (.long q3), (.long q4)] ∧ Z.Warmed39 U.vm ∧ U.heap = h0) (fun _ _ _ _ _ => True) (fun _ U o U' => ∃ v L, o = .returned v ∧ Q0 Z q1 q2 q3 q4 h0 n0 v U'.heap L ∧ FrameEnd U o U' L room_1.cells room_1.slots) := by
  refine MetFree.of_bodySF (plainFor_of_name pn_0) hisR ?_
  intro p e s m args below meth c s₁ Bd hml0 hP hK
  obtain ⟨rfl, hZ, hh⟩ := hP
  have hx := Bd.exec
  have hby := Bd.bytes
  have hml : c.maxLocals = 28 := hml0
  have hown : s.vm.findClass "com/example/fuller_query/fullerquery/vectors/SplitMixStreamPinLaw" = some m.cls := findClass_of_methodNamed Bd.named
  have hnm := (name_of_methodNamed Bd.named Bd.method).1
  have X0 : Stand p l e room_1 s m #[(.long q1), (.long q2), (.long q3), (.long q4)] below meth c s₁ [] 0 0 := Stand.of_body Bd
  have e0 : s₁.heap = h0 := by rw [← hh, Bd.state]; rfl
  have N0 := Fr.nil n0
  have hS0 : s.Since s.vm 0 := (State.WarmedH.refl s).since 0
  show Go FrameEnd p e below s room_1.cells room_1.slots (Q0 Z q1 q2 q3 q4 h0 n0) (s₁.setTop (entryFrame m #[(.long q1), (.long q2), (.long q3), (.long q4)] maxLocals))
  refine go (fun _ k => castTop (ef_0 m q1 q2 q3 q4) k) ?_
  show Go _ p e below s _ _ _ (s₁.setTop (mkF m 0 #[.val (.long q1), .second, .val (.long q2), .second, .val (.long q3), .second, .val (.long q4), .second, .unset, .unset, .unset, .unset, .unset, .unset, .unset, .unset, .unset, .unset, .unset, .unset, .unset, .unset, .unset, .unset, .unset, .unset, .unset, .unset] []))
  have J1 : ∀ (t : Int64), (¬ t = q2) → Go FrameEnd p e below s room_1.cells room_1.slots (Q0 Z q1 q2 q3 q4 h0 n0) (s₁.setTop (mkF m 17 #[.val (.long q1), .second, .val (.long q2), .second, .val (.long q3), .second, .val (.long q4), .second, .unset, .unset, .unset, .unset, .unset, .unset, .unset, .unset, .unset, .unset, .unset, .unset, .unset, .unset, .unset, .unset, .unset, .unset, .unset, .unset] [(.long t)])) := by
    intro t ht
    show Go _ p e below s _ _ _ (s₁.setTop (mkF m 17 #[.val (.long q1), .second, .val (.long q2), .second, .val (.long q3), .second, .val (.long q4), .second, .unset, .unset, .unset, .unset, .unset, .unset, .unset, .unset, .unset, .unset, .unset, .unset, .unset, .unset, .unset, .unset, .unset, .unset, .unset, .unset] [(.long t)]))
    refine go (fun _ => XS.lstore X0.here hx rfl (hb hby at_17) rfl (l' := #[.val (.long q1), .second, .val (.long q2), .second, .val (.long q3), .second, .val (.long q4), .second, .val (.long t), .second, .unset, .unset, .unset, .unset, .unset, .unset, .unset, .unset, .unset, .unset, .unset, .unset, .unset, .unset, .unset, .unset, .unset, .unset]) rfl) ?_
    show Go _ p e below s _ _ _ (s₁.setTop (mkF m 19 #[.val (.long q1), .second, .val (.long q2), .second, .val (.long q3), .second, .val (.long q4), .second, .val (.long t), .second, .unset, .unset, .unset, .unset, .unset, .unset, .unset, .unset, .unset, .unset, .unset, .unset, .unset, .unset, .unset, .unset, .unset, .unset] []))
    have J2 : ∀ (g : Int64), (¬ g = q1) → Go FrameEnd p e below s room_1.cells room_1.slots (Q0 Z q1 q2 q3 q4 h0 n0) (s₁.setTop (mkF m 36 #[.val (.long q1), .second, .val (.long q2), .second, .val (.long q3), .second, .val (.long q4), .second, .val (.long t), .second, .unset, .unset, .unset, .unset, .unset, .unset, .unset, .unset, .unset, .unset, .unset, .unset, .unset, .unset, .unset, .unset, .unset, .unset] [(.long g)])) := by
      intro g hg
      show Go _ p e below s _ _ _ (s₁.setTop (mkF m 36 #[.val (.long q1), .second, .val (.long q2), .second, .val (.long q3), .second, .val (.long q4), .second, .val (.long t), .second, .unset, .unset, .unset, .unset, .unset, .unset, .unset, .unset, .unset, .unset, .unset, .unset, .unset, .unset, .unset, .unset, .unset, .unset] [(.long g)]))
      refine go (fun _ => XS.lstore X0.here hx rfl (hb hby at_36) rfl (l' := #[.val (.long q1), .second, .val (.long q2), .second, .val (.long q3), .second, .val (.long q4), .second, .val (.long t), .second, .val (.long g), .second, .unset, .unset, .unset, .unset, .unset, .unset, .unset, .unset, .unset, .unset, .unset, .unset, .unset, .unset, .unset, .unset]) rfl) ?_
      show Go _ p e below s _ _ _ (s₁.setTop (mkF m 38 #[.val (.long q1), .second, .val (.long q2), .second, .val (.long q3), .second, .val (.long q4), .second, .val (.long t), .second, .val (.long g), .second, .unset, .unset, .unset, .unset, .unset, .unset, .unset, .unset, .unset, .unset, .unset, .unset, .unset, .unset, .unset, .unset] []))
      refine go (fun _ => XS.lloadN X0.here hx rfl (hb hby at_38) rfl) ?_
      show Go _ p e below s _ _ _ (s₁.setTop (mkF m 39 #[.val (.long q1), .second, .val (.long q2), .second, .val (.long q3), .second, .val (.long q4), .second, .val (.long t), .second, .val (.long g), .second, .unset, .unset, .unset, .unset, .unset, .unset, .unset, .unset, .unset, .unset, .unset, .unset, .unset, .unset, .unset, .unset] [(.long q1)]))
      refine go (fun _ => XS.lloadN X0.here hx rfl (hb hby at_39) rfl) ?_
      show Go _ p e below s _ _ _ (s₁.setTop (mkF m 40 #[.val (.long q1), .second, .val (.long q2), .second, .val (.long q3), .second, .val (.long q4), .second, .val (.long t), .second, .val (.long g), .second, .unset, .unset, .unset, .unset, .unset, .unset, .unset, .unset, .unset, .unset, .unset, .unset, .unset, .unset, .unset, .unset] [(.long q2), (.long q1)]))
      obtain ⟨_, _, ⟨T21, L21, k21, n21⟩, -, X21, ⟨Lc21, hQ21, l21, y21, z21⟩, st21⟩ := Jvm.LawKit.callS X0 hx (y := (⟨"com/example/fuller_query/fullerquery/vectors/SplitMix", "stream", "(JJ)Lcom/example/fuller_query/fullerquery/vectors/SplitMix;"⟩ : MethodName)) hown (mvT hZ (hw _ (List.mem_of_getElem? (i := 0) rfl))) (mvT hZ (hw _ (List.mem_of_getElem? (i := 1) rfl))) (mvT hZ (hw _ (List.mem_of_getElem? (i := 2) rfl))) (mvT hZ (hw _ (List.mem_of_getElem? (i := 3) rfl))) (by decide) (backOf (W := 0) (rm1 l Z a0 hw [] q1 q2 h0 n0 Z0 ) hZ (hw _ (List.mem_of_getElem? (i := 3) rfl)) (hw _ (List.mem_of_getElem? (i := 2) rfl)) (by decide) (by decide)) (g := (mkF m 40 #[.val (.long q1), .second, .val (.long q2), .second, .val (.long q3), .second, .val (.long q4), .second, .val (.long t), .second, .val (.long g), .second, .unset, .unset, .unset, .unset, .unset, .unset, .unset, .unset, .unset, .unset, .unset, .unset, .unset, .unset, .unset, .unset] [(.long q2), (.long q1)])) rfl (by rw [hml]; rfl) (argsL := [(.long q1), (.long q2)]) (rest := []) (lenOf pd_0_0 rfl) rfl (by show 2 * 0 + _ ≤ _; exact Nat.le_of_eq rfl) (hb hby at_40) (fun _ _ => ⟨rfl, e0, (by decide : 0 + 1 ≤ _), (by decide : 0 + 1 ≤ _)⟩)
      dsimp only [Pt.U, Pt.locs, Pt.cells, Pt.slots] at X21 l21 y21 z21 st21 hQ21
      subst l21 y21 z21
      obtain ⟨b21, rfl, N21q, u21_0, u21_1, K21, u21_3, u21_4⟩ := hQ21
      have N21 := Fr.app N0 N21q
      have G_b21 : n0 ≤ b21 := Nat.le_trans Z0 u21_0
      have SZ_b21 : h0.size ≤ b21 := Nat.le_trans (Keep.refl h0 []).1 u21_0
      have KK21 : Keep h0 T21.heap [] := (Keep.refl h0 []).trans K21 all0
      have ZN21 : n0 ≤ T21.heap.size := Nat.le_trans Z0 K21.1
      refine go st21 ?_
      show Go _ p e below s _ _ _ (T21.setTop (mkF m 43 #[.val (.long q1), .second, .val (.long q2), .second, .val (.long q3), .second, .val (.long q4), .second, .val (.long t), .second, .val (.long g), .second, .unset, .unset, .unset, .unset, .unset, .unset, .unset, .unset, .unset, .unset, .unset, .unset, .unset, .unset, .unset, .unset] [(.ref b21)]))
      refine go (fun _ => XS.astore X21.here hx rfl (hb hby at_43) rfl rfl (l' := #[.val (.long q1), .second, .val (.long q2), .second, .val (.long q3), .second, .val (.long q4), .second, .val (.long t), .second, .val (.long g), .second, .val (.ref b21), .unset, .unset, .unset, .unset, .unset, .unset, .unset, .unset, .unset, .unset, .unset, .unset, .unset, .unset, .unset]) rfl) ?_
      show Go _ p e below s _ _ _ (T21.setTop (mkF m 45 #[.val (.long q1), .second, .val (.long q2), .second, .val (.long q3), .second, .val (.long q4), .second, .val (.long t), .second, .val (.long g), .second, .val (.ref b21), .unset, .unset, .unset, .unset, .unset, .unset, .unset, .unset, .unset, .unset, .unset, .unset, .unset, .unset, .unset] []))
      refine go (fun _ => XS.lloadN X21.here hx rfl (hb hby at_45) rfl) ?_
      show Go _ p e below s _ _ _ (T21.setTop (mkF m 46 #[.val (.long q1), .second, .val (.long q2), .second, .val (.long q3), .second, .val (.long q4), .second, .val (.long t), .second, .val (.long g), .second, .val (.ref b21), .unset, .unset, .unset, .unset, .unset, .unset, .unset, .unset, .unset, .unset, .unset, .unset, .unset, .unset, .unset] [(.long q1)]))
      refine go (fun _ => XS.lloadN X21.here hx rfl (hb hby at_46) rfl) ?_
      show Go _ p e below s _ _ _ (T21.setTop (mkF m 47 #[.val (.long q1), .second, .val (.long q2), .second, .val (.long q3), .second, .val (.long q4), .second, .val (.long t), .second, .val (.long g), .second, .val (.ref b21), .unset, .unset, .unset, .unset, .unset, .unset, .unset, .unset, .unset, .unset, .unset, .unset, .unset, .unset, .unset] [(.long q2), (.long q1)]))
      obtain ⟨_, _, ⟨T22, L22, k22, n22⟩, -, X22, ⟨Lc22, hQ22, l22, y22, z22⟩, st22⟩ := Jvm.LawKit.callS X21 hx (y := (⟨"com/example/fuller_query/fullerquery/vectors/SplitMix", "stream", "(JJ)Lcom/example/fuller_query/fullerquery/vectors/SplitMix;"⟩ : MethodName)) hown (mvT hZ (hw _ (List.mem_of_getElem? (i := 0) rfl))) (mvT hZ (hw _ (List.mem_of_getElem? (i := 1) rfl))) (mvT hZ (hw _ (List.mem_of_getElem? (i := 2) rfl))) (mvT hZ (hw _ (List.mem_of_getElem? (i := 3) rfl))) (by decide) (backOf (W := 0) (rm1 l Z a0 hw [] q1 q2 (T21.heap) n0 ZN21 ) hZ (hw _ (List.mem_of_getElem? (i := 3) rfl)) (hw _ (List.mem_of_getElem? (i := 2) rfl)) (by decide) (by decide)) (g := (mkF m 47 #[.val (.long q1), .second, .val (.long q2), .second, .val (.long q3), .second, .val (.long q4), .second, .val (.long t), .second, .val (.long g), .second, .val (.ref b21), .unset, .unset, .unset, .unset, .unset, .unset, .unset, .unset, .unset, .unset, .unset, .unset, .unset, .unset, .unset] [(.long q2), (.long q1)])) rfl (by rw [hml]; rfl) (argsL := [(.long q1), (.long q2)]) (rest := []) (lenOf pd_0_0 rfl) rfl (by show 2 * 0 + _ ≤ _; exact Nat.le_of_eq rfl) (hb hby at_47) (fun _ _ => ⟨rfl, rfl, (by decide : 1 + 1 ≤ _), (by decide : 1 + 1 ≤ _)⟩)
      dsimp only [Pt.U, Pt.locs, Pt.cells, Pt.slots] at X22 l22 y22 z22 st22 hQ22
      subst l22 y22 z22
      obtain ⟨b22, rfl, N22q, u22_0, u22_1, K22, u22_3, u22_4⟩ := hQ22
      have N22 := Fr.app N21 N22q
      have lt22_b21_b22 : b21 < b22 := Nat.lt_of_lt_of_le u21_3.lt u22_0
      have G_b22 : n0 ≤ b22 := Nat.le_trans ZN21 u22_0
      have SZ_b22 : h0.size ≤ b22 := Nat.le_trans KK21.1 u22_0
      have c22_0 := u21_3.keep K22
      have c22_1 := u21_4.keep K22 nin0
      have KK22 : Keep h0 T22.heap [] := KK21.trans K22 all0
      have ZN22 : n0 ≤ T22.heap.size := Nat.le_trans ZN21 K22.1
      refine go st22 ?_
      show Go _ p e below s _ _ _ (T22.setTop (mkF m 50 #[.val (.long q1), .second, .val (.long q2), .second, .val (.long q3), .second, .val (.long q4), .second, .val (.long t), .second, .val (.long g), .second, .val (.ref b21), .unset, .unset, .unset, .unset, .unset, .unset, .unset, .unset, .unset, .unset, .unset, .unset, .unset, .unset, .unset] [(.ref b22)]))
      refine go (fun _ => XS.astore X22.here hx rfl (hb hby at_50) rfl rfl (l' := #[.val (.long q1), .second, .val (.long q2), .second, .val (.long q3), .second, .val (.long q4), .second, .val (.long t), .second, .val (.long g), .second, .val (.ref b21), .val (.ref b22), .unset, .unset, .unset, .unset, .unset, .unset, .unset, .unset, .unset, .unset, .unset, .unset, .unset, .unset]) rfl) ?_
      show Go _ p e below s _ _ _ (T22.setTop (mkF m 52 #[.val (.long q1), .second, .val (.long q2), .second, .val (.long q3), .second, .val (.long q4), .second, .val (.long t), .second, .val (.long g), .second, .val (.ref b21), .val (.ref b22), .unset, .unset, .unset, .unset, .unset, .unset, .unset, .unset, .unset, .unset, .unset, .unset, .unset, .unset] []))
      refine go (fun _ => XS.lloadN X22.here hx rfl (hb hby at_52) rfl) ?_
      show Go _ p e below s _ _ _ (T22.setTop (mkF m 53 #[.val (.long q1), .second, .val (.long q2), .second, .val (.long q3), .second, .val (.long q4), .second, .val (.long t), .second, .val (.long g), .second, .val (.ref b21), .val (.ref b22), .unset, .unset, .unset, .unset, .unset, .unset, .unset, .unset, .unset, .unset, .unset, .unset, .unset, .unset] [(.long q1)]))
      refine go (fun _ => XS.lload X22.here hx rfl (hb hby at_53) rfl) ?_
      show Go _ p e below s _ _ _ (T22.setTop (mkF m 55 #[.val (.long q1), .second, .val (.long q2), .second, .val (.long q3), .second, .val (.long q4), .second, .val (.long t), .second, .val (.long g), .second, .val (.ref b21), .val (.ref b22), .unset, .unset, .unset, .unset, .unset, .unset, .unset, .unset, .unset, .unset, .unset, .unset, .unset, .unset] [(.long t), (.long q1)]))
      obtain ⟨_, _, ⟨T23, L23, k23, n23⟩, -, X23, ⟨Lc23, hQ23, l23, y23, z23⟩, st23⟩ := Jvm.LawKit.callS X22 hx (y := (⟨"com/example/fuller_query/fullerquery/vectors/SplitMix", "stream", "(JJ)Lcom/example/fuller_query/fullerquery/vectors/SplitMix;"⟩ : MethodName)) hown (mvT hZ (hw _ (List.mem_of_getElem? (i := 0) rfl))) (mvT hZ (hw _ (List.mem_of_getElem? (i := 1) rfl))) (mvT hZ (hw _ (List.mem_of_getElem? (i := 2) rfl))) (mvT hZ (hw _ (List.mem_of_getElem? (i := 3) rfl))) (by decide) (backOf (W := 0) (rm1 l Z a0 hw [] q1 t (T22.heap) n0 ZN22 ) hZ (hw _ (List.mem_of_getElem? (i := 3) rfl)) (hw _ (List.mem_of_getElem? (i := 2) rfl)) (by decide) (by decide)) (g := (mkF m 55 #[.val (.long q1), .second, .val (.long q2), .second, .val (.long q3), .second, .val (.long q4), .second, .val (.long t), .second, .val (.long g), .second, .val (.ref b21), .val (.ref b22), .unset, .unset, .unset, .unset, .unset, .unset, .unset, .unset, .unset, .unset, .unset, .unset, .unset, .unset] [(.long t), (.long q1)])) rfl (by rw [hml]; rfl) (argsL := [(.long q1), (.long t)]) (rest := []) (lenOf pd_0_0 rfl) rfl (by show 2 * 0 + _ ≤ _; exact Nat.le_of_eq rfl) (hb hby at_55) (fun _ _ => ⟨rfl, rfl, (by decide : 2 + 1 ≤ _), (by decide : 2 + 1 ≤ _)⟩)
      dsimp only [Pt.U, Pt.locs, Pt.cells, Pt.slots] at X23 l23 y23 z23 st23 hQ23
      subst l23 y23 z23
      obtain ⟨b23, rfl, N23q, u23_0, u23_1, K23, u23_3, u23_4⟩ := hQ23
      have N23 := Fr.app N22 N23q
      have lt23_b21_b23 : b21 < b23 := Nat.lt_of_lt_of_le c22_0.lt u23_0
      have lt23_b22_b23 : b22 < b23 := Nat.lt_of_lt_of_le u22_3.lt u23_0
      have G_b23 : n0 ≤ b23 := Nat.le_trans ZN22 u23_0
      have SZ_b23 : h0.size ≤ b23 := Nat.le_trans KK22.1 u23_0
      have c23_0 := c22_0.keep K23
      have c23_1 := c22_1.keep K23 nin0
      have c23_2 := u22_3.keep K23
      have c23_3 := u22_4.keep K23 nin0
      have KK23 : Keep h0 T23.heap [] := KK22.trans K23 all0
      have ZN23 : n0 ≤ T23.heap.size := Nat.le_trans ZN22 K23.1
      refine go st23 ?_
      show Go _ p e below s _ _ _ (T23.setTop (mkF m 58 #[.val (.long q1), .second, .val (.long q2), .second, .val (.long q3), .second, .val (.long q4), .second, .val (.long t), .second, .val (.long g), .second, .val (.ref b21), .val (.ref b22), .unset, .unset, .unset, .unset, .unset, .unset, .unset, .unset, .unset, .unset, .unset, .unset, .unset, .unset] [(.ref b23)]))
      refine go (fun _ => XS.astore X23.here hx rfl (hb hby at_58) rfl rfl (l' := #[.val (.long q1), .second, .val (.long q2), .second, .val (.long q3), .second, .val (.long q4), .second, .val (.long t), .second, .val (.long g), .second, .val (.ref b21), .val (.ref b22), .val (.ref b23), .unset, .unset, .unset, .unset, .unset, .unset, .unset, .unset, .unset, .unset, .unset, .unset, .unset]) rfl) ?_
      show Go _ p e below s _ _ _ (T23.setTop (mkF m 60 #[.val (.long q1), .second, .val (.long q2), .second, .val (.long q3), .second, .val (.long q4), .second, .val (.long t), .second, .val (.long g), .second, .val (.ref b21), .val (.ref b22), .val (.ref b23), .unset, .unset, .unset, .unset, .unset, .unset, .unset, .unset, .unset, .unset, .unset, .unset, .unset] []))
      refine go (fun _ => XS.lload X23.here hx rfl (hb hby at_60) rfl) ?_
      show Go _ p e below s _ _ _ (T23.setTop (mkF m 62 #[.val (.long q1), .second, .val (.long q2), .second, .val (.long q3), .second, .val (.long q4), .second, .val (.long t), .second, .val (.long g), .second, .val (.ref b21), .val (.ref b22), .val (.ref b23), .unset, .unset, .unset, .unset, .unset, .unset, .unset, .unset, .unset, .unset, .unset, .unset, .unset] [(.long g)]))
      refine go (fun _ => XS.lloadN X23.here hx rfl (hb hby at_62) rfl) ?_
      show Go _ p e below s _ _ _ (T23.setTop (mkF m 63 #[.val (.long q1), .second, .val (.long q2), .second, .val (.long q3), .second, .val (.long q4), .second, .val (.long t), .second, .val (.long g), .second, .val (.ref b21), .val (.ref b22), .val (.ref b23), .unset, .unset, .unset, .unset, .unset, .unset, .unset, .unset, .unset, .unset, .unset, .unset, .unset] [(.long q2), (.long g)]))
      obtain ⟨_, _, ⟨T24, L24, k24, n24⟩, -, X24, ⟨Lc24, hQ24, l24, y24, z24⟩, st24⟩ := Jvm.LawKit.callS X23 hx (y := (⟨"com/example/fuller_query/fullerquery/vectors/SplitMix", "stream", "(JJ)Lcom/example/fuller_query/fullerquery/vectors/SplitMix;"⟩ : MethodName)) hown (mvT hZ (hw _ (List.mem_of_getElem? (i := 0) rfl))) (mvT hZ (hw _ (List.mem_of_getElem? (i := 1) rfl))) (mvT hZ (hw _ (List.mem_of_getElem? (i := 2) rfl))) (mvT hZ (hw _ (List.mem_of_getElem? (i := 3) rfl))) (by decide) (backOf (W := 0) (rm1 l Z a0 hw [] g q2 (T23.heap) n0 ZN23 ) hZ (hw _ (List.mem_of_getElem? (i := 3) rfl)) (hw _ (List.mem_of_getElem? (i := 2) rfl)) (by decide) (by decide)) (g := (mkF m 63 #[.val (.long q1), .second, .val (.long q2), .second, .val (.long q3), .second, .val (.long q4), .second, .val (.long t), .second, .val (.long g), .second, .val (.ref b21), .val (.ref b22), .val (.ref b23), .unset, .unset, .unset, .unset, .unset, .unset, .unset, .unset, .unset, .unset, .unset, .unset, .unset] [(.long q2), (.long g)])) rfl (by rw [hml]; rfl) (argsL := [(.long g), (.long q2)]) (rest := []) (lenOf pd_0_0 rfl) rfl (by show 2 * 0 + _ ≤ _; exact Nat.le_of_eq rfl) (hb hby at_63) (fun _ _ => ⟨rfl, rfl, (by decide : 3 + 1 ≤ _), (by decide : 3 + 1 ≤ _)⟩)
      dsimp only [Pt.U, Pt.locs, Pt.cells, Pt.slots] at X24 l24 y24 z24 st24 hQ24
      subst l24 y24 z24
      obtain ⟨b24, rfl, N24q, u24_0, u24_1, K24, u24_3, u24_4⟩ := hQ24
      have N24 := Fr.app N23 N24q
      have lt24_b21_b24 : b21 < b24 := Nat.lt_of_lt_of_le c23_0.lt u24_0
      have lt24_b22_b24 : b22 < b24 := Nat.lt_of_lt_of_le c23_2.lt u24_0
      have lt24_b23_b24 : b23 < b24 := Nat.lt_of_lt_of_le u23_3.lt u24_0
      have G_b24 : n0 ≤ b24 := Nat.le_trans ZN23 u24_0
      have SZ_b24 : h0.size ≤ b24 := Nat.le_trans KK23.1 u24_0
      have c24_0 := c23_0.keep K24
      have c24_1 := c23_1.keep K24 nin0
      have c24_2 := c23_2.keep K24
      have c24_3 := c23_3.keep K24 nin0
      have c24_4 := u23_3.keep K24
      have c24_5 := u23_4.keep K24 nin0
      have KK24 : Keep h0 T24.heap [] := KK23.trans K24 all0
      have ZN24 : n0 ≤ T24.heap.size := Nat.le_trans ZN23 K24.1
      refine go st24 ?_
      show Go _ p e below s _ _ _ (T24.setTop (mkF m 66 #[.val (.long q1), .second, .val (.long q2), .second, .val (.long q3), .second, .val (.long q4), .second, .val (.long t), .second, .val (.long g), .second, .val (.ref b21), .val (.ref b22), .val (.ref b23), .unset, .unset, .unset, .unset, .unset, .unset, .unset, .unset, .unset, .unset, .unset, .unset, .unset] [(.ref b24)]))
      refine go (fun _ => XS.astore X24.here hx rfl (hb hby at_66) rfl rfl (l' := #[.val (.long q1), .second, .val (.long q2), .second, .val (.long q3), .second, .val (.long q4), .second, .val (.long t), .second, .val (.long g), .second, .val (.ref b21), .val (.ref b22), .val (.ref b23), .val (.ref b24), .unset, .unset, .unset, .unset, .unset, .unset, .unset, .unset, .unset, .unset, .unset, .unset]) rfl) ?_
      show Go _ p e below s _ _ _ (T24.setTop (mkF m 68 #[.val (.long q1), .second, .val (.long q2), .second, .val (.long q3), .second, .val (.long q4), .second, .val (.long t), .second, .val (.long g), .second, .val (.ref b21), .val (.ref b22), .val (.ref b23), .val (.ref b24), .unset, .unset, .unset, .unset, .unset, .unset, .unset, .unset, .unset, .unset, .unset, .unset] []))
      refine go (fun _ => XS.aload X24.here hx rfl (hb hby at_68) rfl rfl) ?_
      show Go _ p e below s _ _ _ (T24.setTop (mkF m 70 #[.val (.long q1), .second, .val (.long q2), .second, .val (.long q3), .second, .val (.long q4), .second, .val (.long t), .second, .val (.long g), .second, .val (.ref b21), .val (.ref b22), .val (.ref b23), .val (.ref b24), .unset, .unset, .unset, .unset, .unset, .unset, .unset, .unset, .unset, .unset, .unset, .unset] [(.ref b21)]))
      obtain ⟨cq25, kq25, q25a, q25b, q25c⟩ := isOf hZ rfl c24_0
      obtain ⟨_, _, ⟨T25, L25, k25, n25⟩, -, X25, ⟨Lc25, hQ25, l25, y25, z25⟩, st25⟩ := X24.virtualBack hx (y := (⟨"com/example/fuller_query/fullerquery/vectors/SplitMix", "next", "()J"⟩ : MethodName)) (z := (⟨"com/example/fuller_query/fullerquery/vectors/SplitMix", "next", "()J"⟩ : MethodName)) hown (mvT hZ (hw _ (List.mem_of_getElem? (i := 19) rfl))) (mvT hZ (hw _ (List.mem_of_getElem? (i := 20) rfl))) (notFace_of_selects (args := #[]) (mvT hZ (hw _ (List.mem_of_getElem? (i := 22) rfl)))) (mvT hZ (hw _ (List.mem_of_getElem? (i := 22) rfl))) (mvT hZ (hw _ (List.mem_of_getElem? (i := 21) rfl))) (by decide) (backOf (W := 0) (rm5 l Z a0 hw [] b21 (own_mix ((own_mix q1) + q2)) (T24.heap) n0 ZN24 c24_0 c24_1 u21_1) hZ (hw _ (List.mem_of_getElem? (i := 23) rfl)) (hw _ (List.mem_of_getElem? (i := 2) rfl)) (by decide) (by decide)) q25a q25c (g := (mkF m 70 #[.val (.long q1), .second, .val (.long q2), .second, .val (.long q3), .second, .val (.long q4), .second, .val (.long t), .second, .val (.long g), .second, .val (.ref b21), .val (.ref b22), .val (.ref b23), .val (.ref b24), .unset, .unset, .unset, .unset, .unset, .unset, .unset, .unset, .unset, .unset, .unset, .unset] [(.ref b21)])) rfl (by rw [hml]; rfl) (Steps.refl _) (argsL := []) (rest := []) (lenOf pd_0_1 rfl) rfl (by show 2 * 0 + _ ≤ _; exact Nat.le_of_eq rfl) (hb hby at_70) (fun _ _ => ⟨rfl, rfl, (by decide : 4 + 0 ≤ _), (by decide : 4 + 0 ≤ _)⟩)
      dsimp only [Pt.U, Pt.locs, Pt.cells, Pt.slots] at X25 l25 y25 z25 st25 hQ25
      subst l25 y25 z25
      obtain ⟨rfl, N25q, K25, u25_1⟩ := hQ25
      have N25 := Fr.app N24 N25q
      have c25_0 := c24_0.keep K25
      have c25_1 := c24_2.keep K25
      have c25_2 := c24_3.keep K25 (ninS (Ne.symm (Nat.ne_of_lt lt22_b21_b22)) nin0)
      have c25_3 := c24_4.keep K25
      have c25_4 := c24_5.keep K25 (ninS (Ne.symm (Nat.ne_of_lt lt23_b21_b23)) nin0)
      have c25_5 := u24_3.keep K25
      have c25_6 := u24_4.keep K25 (ninS (Ne.symm (Nat.ne_of_lt lt24_b21_b24)) nin0)
      have KK25 : Keep h0 T25.heap [] := KK24.trans K25 (allS (P := fun x => x ∈ [] ∨ h0.size ≤ x) (Or.inr SZ_b21) all0)
      have ZN25 : n0 ≤ T25.heap.size := Nat.le_trans ZN24 K25.1
      refine goT st25 ?_
      show Go _ p e below s _ _ _ (T25.setTop (mkF m 73 #[.val (.long q1), .second, .val (.long q2), .second, .val (.long q3), .second, .val (.long q4), .second, .val (.long t), .second, .val (.long g), .second, .val (.ref b21), .val (.ref b22), .val (.ref b23), .val (.ref b24), .unset, .unset, .unset, .unset, .unset, .unset, .unset, .unset, .unset, .unset, .unset, .unset] [(.long (own_mix ((own_mix ((own_mix q1) + q2)) + (-7046029254386353131 : Int64))))]))
      refine go (fun _ => XS.lstore X25.here hx rfl (hb hby at_73) rfl (l' := #[.val (.long q1), .second, .val (.long q2), .second, .val (.long q3), .second, .val (.long q4), .second, .val (.long t), .second, .val (.long g), .second, .val (.ref b21), .val (.ref b22), .val (.ref b23), .val (.ref b24), .val (.long (own_mix ((own_mix ((own_mix q1) + q2)) + (-7046029254386353131 : Int64)))), .second, .unset, .unset, .unset, .unset, .unset, .unset, .unset, .unset, .unset, .unset]) rfl) ?_
      show Go _ p e below s _ _ _ (T25.setTop (mkF m 75 #[.val (.long q1), .second, .val (.long q2), .second, .val (.long q3), .second, .val (.long q4), .second, .val (.long t), .second, .val (.long g), .second, .val (.ref b21), .val (.ref b22), .val (.ref b23), .val (.ref b24), .val (.long (own_mix ((own_mix ((own_mix q1) + q2)) + (-7046029254386353131 : Int64)))), .second, .unset, .unset, .unset, .unset, .unset, .unset, .unset, .unset, .unset, .unset] []))
      refine go (fun _ => XS.aload X25.here hx rfl (hb hby at_75) rfl rfl) ?_
      show Go _ p e below s _ _ _ (T25.setTop (mkF m 77 #[.val (.long q1), .second, .val (.long q2), .second, .val (.long q3), .second, .val (.long q4), .second, .val (.long t), .second, .val (.long g), .second, .val (.ref b21), .val (.ref b22), .val (.ref b23), .val (.ref b24), .val (.long (own_mix ((own_mix ((own_mix q1) + q2)) + (-7046029254386353131 : Int64)))), .second, .unset, .unset, .unset, .unset, .unset, .unset, .unset, .unset, .unset, .unset] [(.ref b21)]))
      obtain ⟨cq26, kq26, q26a, q26b, q26c⟩ := isOf hZ rfl c25_0
      obtain ⟨_, _, ⟨T26, L26, k26, n26⟩, -, X26, ⟨Lc26, hQ26, l26, y26, z26⟩, st26⟩ := X25.virtualBack hx (y := (⟨"com/example/fuller_query/fullerquery/vectors/SplitMix", "next", "()J"⟩ : MethodName)) (z := (⟨"com/example/fuller_query/fullerquery/vectors/SplitMix", "next", "()J"⟩ : MethodName)) hown (mvT hZ (hw _ (List.mem_of_getElem? (i := 19) rfl))) (mvT hZ (hw _ (List.mem_of_getElem? (i := 20) rfl))) (notFace_of_selects (args := #[]) (mvT hZ (hw _ (List.mem_of_getElem? (i := 22) rfl)))) (mvT hZ (hw _ (List.mem_of_getElem? (i := 22) rfl))) (mvT hZ (hw _ (List.mem_of_getElem? (i := 21) rfl))) (by decide) (backOf (W := 0) (rm5 l Z a0 hw [] b21 ((own_mix ((own_mix q1) + q2)) + (-7046029254386353131 : Int64)) (T25.heap) n0 ZN25 c25_0 u25_1 u21_1) hZ (hw _ (List.mem_of_getElem? (i := 23) rfl)) (hw _ (List.mem_of_getElem? (i := 2) rfl)) (by decide) (by decide)) q26a q26c (g := (mkF m 77 #[.val (.long q1), .second, .val (.long q2), .second, .val (.long q3), .second, .val (.long q4), .second, .val (.long t), .second, .val (.long g), .second, .val (.ref b21), .val (.ref b22), .val (.ref b23), .val (.ref b24), .val (.long (own_mix ((own_mix ((own_mix q1) + q2)) + (-7046029254386353131 : Int64)))), .second, .unset, .unset, .unset, .unset, .unset, .unset, .unset, .unset, .unset, .unset] [(.ref b21)])) rfl (by rw [hml]; rfl) (Steps.refl _) (argsL := []) (rest := []) (lenOf pd_0_1 rfl) rfl (by show 2 * 0 + _ ≤ _; exact Nat.le_of_eq rfl) (hb hby at_77) (fun _ _ => ⟨rfl, rfl, (by decide : 4 + 0 ≤ _), (by decide : 4 + 0 ≤ _)⟩)
      dsimp only [Pt.U, Pt.locs, Pt.cells, Pt.slots] at X26 l26 y26 z26 st26 hQ26
      subst l26 y26 z26
      obtain ⟨rfl, N26q, K26, u26_1⟩ := hQ26
      have N26 := Fr.app N25 N26q
      have c26_0 := c25_0.keep K26
      have c26_1 := c25_1.keep K26
      have c26_2 := c25_2.keep K26 (ninS (Ne.symm (Nat.ne_of_lt lt22_b21_b22)) nin0)
      have c26_3 := c25_3.keep K26
      have c26_4 := c25_4.keep K26 (ninS (Ne.symm (Nat.ne_of_lt lt23_b21_b23)) nin0)
      have c26_5 := c25_5.keep K26
      have c26_6 := c25_6.keep K26 (ninS (Ne.symm (Nat.ne_of_lt lt24_b21_b24)) nin0)
      have KK26 : Keep h0 T26.heap [] := KK25.trans K26 (allS (P := fun x => x ∈ [] ∨ h0.size ≤ x) (Or.inr SZ_b21) all0)
      have ZN26 : n0 ≤ T26.heap.size := Nat.le_trans ZN25 K26.1
      refine goT st26 ?_
      show Go _ p e below s _ _ _ (T26.setTop (mkF m 80 #[.val (.long q1), .second, .val (.long q2), .second, .val (.long q3), .second, .val (.long q4), .second, .val (.long t), .second, .val (.long g), .second, .val (.ref b21), .val (.ref b22), .val (.ref b23), .val (.ref b24), .val (.long (own_mix ((own_mix ((own_mix q1) + q2)) + (-7046029254386353131 : Int64)))), .second, .unset, .unset, .unset, .unset, .unset, .unset, .unset, .unset, .unset, .unset] [(.long (own_mix (((own_mix ((own_mix q1) + q2)) + (-7046029254386353131 : Int64)) + (-7046029254386353131 : Int64))))]))
      refine go (fun _ => XS.lstore X26.here hx rfl (hb hby at_80) rfl (l' := #[.val (.long q1), .second, .val (.long q2), .second, .val (.long q3), .second, .val (.long q4), .second, .val (.long t), .second, .val (.long g), .second, .val (.ref b21), .val (.ref b22), .val (.ref b23), .val (.ref b24), .val (.long (own_mix ((own_mix ((own_mix q1) + q2)) + (-7046029254386353131 : Int64)))), .second, .val (.long (own_mix (((own_mix ((own_mix q1) + q2)) + (-7046029254386353131 : Int64)) + (-7046029254386353131 : Int64)))), .second, .unset, .unset, .unset, .unset, .unset, .unset, .unset, .unset]) rfl) ?_
      show Go _ p e below s _ _ _ (T26.setTop (mkF m 82 #[.val (.long q1), .second, .val (.long q2), .second, .val (.long q3), .second, .val (.long q4), .second, .val (.long t), .second, .val (.long g), .second, .val (.ref b21), .val (.ref b22), .val (.ref b23), .val (.ref b24), .val (.long (own_mix ((own_mix ((own_mix q1) + q2)) + (-7046029254386353131 : Int64)))), .second, .val (.long (own_mix (((own_mix ((own_mix q1) + q2)) + (-7046029254386353131 : Int64)) + (-7046029254386353131 : Int64)))), .second, .unset, .unset, .unset, .unset, .unset, .unset, .unset, .unset] []))
      refine go (fun _ => XS.aload X26.here hx rfl (hb hby at_82) rfl rfl) ?_
      show Go _ p e below s _ _ _ (T26.setTop (mkF m 84 #[.val (.long q1), .second, .val (.long q2), .second, .val (.long q3), .second, .val (.long q4), .second, .val (.long t), .second, .val (.long g), .second, .val (.ref b21), .val (.ref b22), .val (.ref b23), .val (.ref b24), .val (.long (own_mix ((own_mix ((own_mix q1) + q2)) + (-7046029254386353131 : Int64)))), .second, .val (.long (own_mix (((own_mix ((own_mix q1) + q2)) + (-7046029254386353131 : Int64)) + (-7046029254386353131 : Int64)))), .second, .unset, .unset, .unset, .unset, .unset, .unset, .unset, .unset] [(.ref b22)]))
      obtain ⟨cq27, kq27, q27a, q27b, q27c⟩ := isOf hZ rfl c26_1
      obtain ⟨_, _, ⟨T27, L27, k27, n27⟩, -, X27, ⟨Lc27, hQ27, l27, y27, z27⟩, st27⟩ := X26.virtualBack hx (y := (⟨"com/example/fuller_query/fullerquery/vectors/SplitMix", "next", "()J"⟩ : MethodName)) (z := (⟨"com/example/fuller_query/fullerquery/vectors/SplitMix", "next", "()J"⟩ : MethodName)) hown (mvT hZ (hw _ (List.mem_of_getElem? (i := 19) rfl))) (mvT hZ (hw _ (List.mem_of_getElem? (i := 20) rfl))) (notFace_of_selects (args := #[]) (mvT hZ (hw _ (List.mem_of_getElem? (i := 22) rfl)))) (mvT hZ (hw _ (List.mem_of_getElem? (i := 22) rfl))) (mvT hZ (hw _ (List.mem_of_getElem? (i := 21) rfl))) (by decide) (backOf (W := 0) (rm5 l Z a0 hw [] b22 (own_mix ((own_mix q1) + q2)) (T26.heap) n0 ZN26 c26_1 c26_2 u22_1) hZ (hw _ (List.mem_of_getElem? (i := 23) rfl)) (hw _ (List.mem_of_getElem? (i := 2) rfl)) (by decide) (by decide)) q27a q27c (g := (mkF m 84 #[.val (.long q1), .second, .val (.long q2), .second, .val (.long q3), .second, .val (.long q4), .second, .val (.long t), .second, .val (.long g), .second, .val (.ref b21), .val (.ref b22), .val (.ref b23), .val (.ref b24), .val (.long (own_mix ((own_mix ((own_mix q1) + q2)) + (-7046029254386353131 : Int64)))), .second, .val (.long (own_mix (((own_mix ((own_mix q1) + q2)) + (-7046029254386353131 : Int64)) + (-7046029254386353131 : Int64)))), .second, .unset, .unset, .unset, .unset, .unset, .unset, .unset, .unset] [(.ref b22)])) rfl (by rw [hml]; rfl) (Steps.refl _) (argsL := []) (rest := []) (lenOf pd_0_1 rfl) rfl (by show 2 * 0 + _ ≤ _; exact Nat.le_of_eq rfl) (hb hby at_84) (fun _ _ => ⟨rfl, rfl, (by decide : 4 + 0 ≤ _), (by decide : 4 + 0 ≤ _)⟩)
      dsimp only [Pt.U, Pt.locs, Pt.cells, Pt.slots] at X27 l27 y27 z27 st27 hQ27
      subst l27 y27 z27
      obtain ⟨rfl, N27q, K27, u27_1⟩ := hQ27
      have N27 := Fr.app N26 N27q
      have c27_0 := c26_0.keep K27
      have c27_1 := c26_1.keep K27
      have c27_2 := c26_3.keep K27
      have c27_3 := c26_4.keep K27 (ninS (Ne.symm (Nat.ne_of_lt lt23_b22_b23)) nin0)
      have c27_4 := c26_5.keep K27
      have c27_5 := c26_6.keep K27 (ninS (Ne.symm (Nat.ne_of_lt lt24_b22_b24)) nin0)
      have c27_6 := u26_1.keep K27 (ninS (Nat.ne_of_lt lt22_b21_b22) nin0)
      have KK27 : Keep h0 T27.heap [] := KK26.trans K27 (allS (P := fun x => x ∈ [] ∨ h0.size ≤ x) (Or.inr SZ_b22) all0)
      have ZN27 : n0 ≤ T27.heap.size := Nat.le_trans ZN26 K27.1
      refine goT st27 ?_
      show Go _ p e below s _ _ _ (T27.setTop (mkF m 87 #[.val (.long q1), .second, .val (.long q2), .second, .val (.long q3), .second, .val (.long q4), .second, .val (.long t), .second, .val (.long g), .second, .val (.ref b21), .val (.ref b22), .val (.ref b23), .val (.ref b24), .val (.long (own_mix ((own_mix ((own_mix q1) + q2)) + (-7046029254386353131 : Int64)))), .second, .val (.long (own_mix (((own_mix ((own_mix q1) + q2)) + (-7046029254386353131 : Int64)) + (-7046029254386353131 : Int64)))), .second, .unset, .unset, .unset, .unset, .unset, .unset, .unset, .unset] [(.long (own_mix ((own_mix ((own_mix q1) + q2)) + (-7046029254386353131 : Int64))))]))
      refine go (fun _ => XS.lstore X27.here hx rfl (hb hby at_87) rfl (l' := #[.val (.long q1), .second, .val (.long q2), .second, .val (.long q3), .second, .val (.long q4), .second, .val (.long t), .second, .val (.long g), .second, .val (.ref b21), .val (.ref b22), .val (.ref b23), .val (.ref b24), .val (.long (own_mix ((own_mix ((own_mix q1) + q2)) + (-7046029254386353131 : Int64)))), .second, .val (.long (own_mix (((own_mix ((own_mix q1) + q2)) + (-7046029254386353131 : Int64)) + (-7046029254386353131 : Int64)))), .second, .val (.long (own_mix ((own_mix ((own_mix q1) + q2)) + (-7046029254386353131 : Int64)))), .second, .unset, .unset, .unset, .unset, .unset, .unset]) rfl) ?_
      show Go _ p e below s _ _ _ (T27.setTop (mkF m 89 #[.val (.long q1), .second, .val (.long q2), .second, .val (.long q3), .second, .val (.long q4), .second, .val (.long t), .second, .val (.long g), .second, .val (.ref b21), .val (.ref b22), .val (.ref b23), .val (.ref b24), .val (.long (own_mix ((own_mix ((own_mix q1) + q2)) + (-7046029254386353131 : Int64)))), .second, .val (.long (own_mix (((own_mix ((own_mix q1) + q2)) + (-7046029254386353131 : Int64)) + (-7046029254386353131 : Int64)))), .second, .val (.long (own_mix ((own_mix ((own_mix q1) + q2)) + (-7046029254386353131 : Int64)))), .second, .unset, .unset, .unset, .unset, .unset, .unset] []))
      refine go (fun _ => XS.aload X27.here hx rfl (hb hby at_89) rfl rfl) ?_
      show Go _ p e below s _ _ _ (T27.setTop (mkF m 91 #[.val (.long q1), .second, .val (.long q2), .second, .val (.long q3), .second, .val (.long q4), .second, .val (.long t), .second, .val (.long g), .second, .val (.ref b21), .val (.ref b22), .val (.ref b23), .val (.ref b24), .val (.long (own_mix ((own_mix ((own_mix q1) + q2)) + (-7046029254386353131 : Int64)))), .second, .val (.long (own_mix (((own_mix ((own_mix q1) + q2)) + (-7046029254386353131 : Int64)) + (-7046029254386353131 : Int64)))), .second, .val (.long (own_mix ((own_mix ((own_mix q1) + q2)) + (-7046029254386353131 : Int64)))), .second, .unset, .unset, .unset, .unset, .unset, .unset] [(.ref b22)]))
      obtain ⟨cq28, kq28, q28a, q28b, q28c⟩ := isOf hZ rfl c27_1
      obtain ⟨_, _, ⟨T28, L28, k28, n28⟩, -, X28, ⟨Lc28, hQ28, l28, y28, z28⟩, st28⟩ := X27.virtualBack hx (y := (⟨"com/example/fuller_query/fullerquery/vectors/SplitMix", "next", "()J"⟩ : MethodName)) (z := (⟨"com/example/fuller_query/fullerquery/vectors/SplitMix", "next", "()J"⟩ : MethodName)) hown (mvT hZ (hw _ (List.mem_of_getElem? (i := 19) rfl))) (mvT hZ (hw _ (List.mem_of_getElem? (i := 20) rfl))) (notFace_of_selects (args := #[]) (mvT hZ (hw _ (List.mem_of_getElem? (i := 22) rfl)))) (mvT hZ (hw _ (List.mem_of_getElem? (i := 22) rfl))) (mvT hZ (hw _ (List.mem_of_getElem? (i := 21) rfl))) (by decide) (backOf (W := 0) (rm5 l Z a0 hw [] b22 ((own_mix ((own_mix q1) + q2)) + (-7046029254386353131 : Int64)) (T27.heap) n0 ZN27 c27_1 u27_1 u22_1) hZ (hw _ (List.mem_of_getElem? (i := 23) rfl)) (hw _ (List.mem_of_getElem? (i := 2) rfl)) (by decide) (by decide)) q28a q28c (g := (mkF m 91 #[.val (.long q1), .second, .val (.long q2), .second, .val (.long q3), .second, .val (.long q4), .second, .val (.long t), .second, .val (.long g), .second, .val (.ref b21), .val (.ref b22), .val (.ref b23), .val (.ref b24), .val (.long (own_mix ((own_mix ((own_mix q1) + q2)) + (-7046029254386353131 : Int64)))), .second, .val (.long (own_mix (((own_mix ((own_mix q1) + q2)) + (-7046029254386353131 : Int64)) + (-7046029254386353131 : Int64)))), .second, .val (.long (own_mix ((own_mix ((own_mix q1) + q2)) + (-7046029254386353131 : Int64)))), .second, .unset, .unset, .unset, .unset, .unset, .unset] [(.ref b22)])) rfl (by rw [hml]; rfl) (Steps.refl _) (argsL := []) (rest := []) (lenOf pd_0_1 rfl) rfl (by show 2 * 0 + _ ≤ _; exact Nat.le_of_eq rfl) (hb hby at_91) (fun _ _ => ⟨rfl, rfl, (by decide : 4 + 0 ≤ _), (by decide : 4 + 0 ≤ _)⟩)
      dsimp only [Pt.U, Pt.locs, Pt.cells, Pt.slots] at X28 l28 y28 z28 st28 hQ28
      subst l28 y28 z28
      obtain ⟨rfl, N28q, K28, u28_1⟩ := hQ28
      have N28 := Fr.app N27 N28q
      have c28_0 := c27_0.keep K28
      have c28_1 := c27_1.keep K28
      have c28_2 := c27_2.keep K28
      have c28_3 := c27_3.keep K28 (ninS (Ne.symm (Nat.ne_of_lt lt23_b22_b23)) nin0)
      have c28_4 := c27_4.keep K28
      have c28_5 := c27_5.keep K28 (ninS (Ne.symm (Nat.ne_of_lt lt24_b22_b24)) nin0)
      have c28_6 := c27_6.keep K28 (ninS (Nat.ne_of_lt lt22_b21_b22) nin0)
      have KK28 : Keep h0 T28.heap [] := KK27.trans K28 (allS (P := fun x => x ∈ [] ∨ h0.size ≤ x) (Or.inr SZ_b22) all0)
      have ZN28 : n0 ≤ T28.heap.size := Nat.le_trans ZN27 K28.1
      refine goT st28 ?_
      show Go _ p e below s _ _ _ (T28.setTop (mkF m 94 #[.val (.long q1), .second, .val (.long q2), .second, .val (.long q3), .second, .val (.long q4), .second, .val (.long t), .second, .val (.long g), .second, .val (.ref b21), .val (.ref b22), .val (.ref b23), .val (.ref b24), .val (.long (own_mix ((own_mix ((own_mix q1) + q2)) + (-7046029254386353131 : Int64)))), .second, .val (.long (own_mix (((own_mix ((own_mix q1) + q2)) + (-7046029254386353131 : Int64)) + (-7046029254386353131 : Int64)))), .second, .val (.long (own_mix ((own_mix ((own_mix q1) + q2)) + (-7046029254386353131 : Int64)))), .second, .unset, .unset, .unset, .unset, .unset, .unset] [(.long (own_mix (((own_mix ((own_mix q1) + q2)) + (-7046029254386353131 : Int64)) + (-7046029254386353131 : Int64))))]))
      refine go (fun _ => XS.lstore X28.here hx rfl (hb hby at_94) rfl (l' := #[.val (.long q1), .second, .val (.long q2), .second, .val (.long q3), .second, .val (.long q4), .second, .val (.long t), .second, .val (.long g), .second, .val (.ref b21), .val (.ref b22), .val (.ref b23), .val (.ref b24), .val (.long (own_mix ((own_mix ((own_mix q1) + q2)) + (-7046029254386353131 : Int64)))), .second, .val (.long (own_mix (((own_mix ((own_mix q1) + q2)) + (-7046029254386353131 : Int64)) + (-7046029254386353131 : Int64)))), .second, .val (.long (own_mix ((own_mix ((own_mix q1) + q2)) + (-7046029254386353131 : Int64)))), .second, .val (.long (own_mix (((own_mix ((own_mix q1) + q2)) + (-7046029254386353131 : Int64)) + (-7046029254386353131 : Int64)))), .second, .unset, .unset, .unset, .unset]) rfl) ?_
      show Go _ p e below s _ _ _ (T28.setTop (mkF m 96 #[.val (.long q1), .second, .val (.long q2), .second, .val (.long q3), .second, .val (.long q4), .second, .val (.long t), .second, .val (.long g), .second, .val (.ref b21), .val (.ref b22), .val (.ref b23), .val (.ref b24), .val (.long (own_mix ((own_mix ((own_mix q1) + q2)) + (-7046029254386353131 : Int64)))), .second, .val (.long (own_mix (((own_mix ((own_mix q1) + q2)) + (-7046029254386353131 : Int64)) + (-7046029254386353131 : Int64)))), .second, .val (.long (own_mix ((own_mix ((own_mix q1) + q2)) + (-7046029254386353131 : Int64)))), .second, .val (.long (own_mix (((own_mix ((own_mix q1) + q2)) + (-7046029254386353131 : Int64)) + (-7046029254386353131 : Int64)))), .second, .unset, .unset, .unset, .unset] []))
      refine go (fun _ => XS.aload X28.here hx rfl (hb hby at_96) rfl rfl) ?_
      show Go _ p e below s _ _ _ (T28.setTop (mkF m 98 #[.val (.long q1), .second, .val (.long q2), .second, .val (.long q3), .second, .val (.long q4), .second, .val (.long t), .second, .val (.long g), .second, .val (.ref b21), .val (.ref b22), .val (.ref b23), .val (.ref b24), .val (.long (own_mix ((own_mix ((own_mix q1) + q2)) + (-7046029254386353131 : Int64)))), .second, .val (.long (own_mix (((own_mix ((own_mix q1) + q2)) + (-7046029254386353131 : Int64)) + (-7046029254386353131 : Int64)))), .second, .val (.long (own_mix ((own_mix ((own_mix q1) + q2)) + (-7046029254386353131 : Int64)))), .second, .val (.long (own_mix (((own_mix ((own_mix q1) + q2)) + (-7046029254386353131 : Int64)) + (-7046029254386353131 : Int64)))), .second, .unset, .unset, .unset, .unset] [(.ref b23)]))
      obtain ⟨cq29, kq29, q29a, q29b, q29c⟩ := isOf hZ rfl c28_2
      obtain ⟨_, _, ⟨T29, L29, k29, n29⟩, -, X29, ⟨Lc29, hQ29, l29, y29, z29⟩, st29⟩ := X28.virtualBack hx (y := (⟨"com/example/fuller_query/fullerquery/vectors/SplitMix", "next", "()J"⟩ : MethodName)) (z := (⟨"com/example/fuller_query/fullerquery/vectors/SplitMix", "next", "()J"⟩ : MethodName)) hown (mvT hZ (hw _ (List.mem_of_getElem? (i := 19) rfl))) (mvT hZ (hw _ (List.mem_of_getElem? (i := 20) rfl))) (notFace_of_selects (args := #[]) (mvT hZ (hw _ (List.mem_of_getElem? (i := 22) rfl)))) (mvT hZ (hw _ (List.mem_of_getElem? (i := 22) rfl))) (mvT hZ (hw _ (List.mem_of_getElem? (i := 21) rfl))) (by decide) (backOf (W := 0) (rm5 l Z a0 hw [] b23 (own_mix ((own_mix q1) + t)) (T28.heap) n0 ZN28 c28_2 c28_3 u23_1) hZ (hw _ (List.mem_of_getElem? (i := 23) rfl)) (hw _ (List.mem_of_getElem? (i := 2) rfl)) (by decide) (by decide)) q29a q29c (g := (mkF m 98 #[.val (.long q1), .second, .val (.long q2), .second, .val (.long q3), .second, .val (.long q4), .second, .val (.long t), .second, .val (.long g), .second, .val (.ref b21), .val (.ref b22), .val (.ref b23), .val (.ref b24), .val (.long (own_mix ((own_mix ((own_mix q1) + q2)) + (-7046029254386353131 : Int64)))), .second, .val (.long (own_mix (((own_mix ((own_mix q1) + q2)) + (-7046029254386353131 : Int64)) + (-7046029254386353131 : Int64)))), .second, .val (.long (own_mix ((own_mix ((own_mix q1) + q2)) + (-7046029254386353131 : Int64)))), .second, .val (.long (own_mix (((own_mix ((own_mix q1) + q2)) + (-7046029254386353131 : Int64)) + (-7046029254386353131 : Int64)))), .second, .unset, .unset, .unset, .unset] [(.ref b23)])) rfl (by rw [hml]; rfl) (Steps.refl _) (argsL := []) (rest := []) (lenOf pd_0_1 rfl) rfl (by show 2 * 0 + _ ≤ _; exact Nat.le_of_eq rfl) (hb hby at_98) (fun _ _ => ⟨rfl, rfl, (by decide : 4 + 0 ≤ _), (by decide : 4 + 0 ≤ _)⟩)
      dsimp only [Pt.U, Pt.locs, Pt.cells, Pt.slots] at X29 l29 y29 z29 st29 hQ29
      subst l29 y29 z29
      obtain ⟨rfl, N29q, K29, u29_1⟩ := hQ29
      have N29 := Fr.app N28 N29q
      have c29_0 := c28_0.keep K29
      have c29_1 := c28_1.keep K29
      have c29_2 := c28_2.keep K29
      have c29_3 := c28_4.keep K29
      have c29_4 := c28_5.keep K29 (ninS (Ne.symm (Nat.ne_of_lt lt24_b23_b24)) nin0)
      have c29_5 := c28_6.keep K29 (ninS (Nat.ne_of_lt lt23_b21_b23) nin0)
      have c29_6 := u28_1.keep K29 (ninS (Nat.ne_of_lt lt23_b22_b23) nin0)
      have KK29 : Keep h0 T29.heap [] := KK28.trans K29 (allS (P := fun x => x ∈ [] ∨ h0.size ≤ x) (Or.inr SZ_b23) all0)
      have ZN29 : n0 ≤ T29.heap.size := Nat.le_trans ZN28 K29.1
      refine goT st29 ?_
      show Go _ p e below s _ _ _ (T29.setTop (mkF m 101 #[.val (.long q1), .second, .val (.long q2), .second, .val (.long q3), .second, .val (.long q4), .second, .val (.long t), .second, .val (.long g), .second, .val (.ref b21), .val (.ref b22), .val (.ref b23), .val (.ref b24), .val (.long (own_mix ((own_mix ((own_mix q1) + q2)) + (-7046029254386353131 : Int64)))), .second, .val (.long (own_mix (((own_mix ((own_mix q1) + q2)) + (-7046029254386353131 : Int64)) + (-7046029254386353131 : Int64)))), .second, .val (.long (own_mix ((own_mix ((own_mix q1) + q2)) + (-7046029254386353131 : Int64)))), .second, .val (.long (own_mix (((own_mix ((own_mix q1) + q2)) + (-7046029254386353131 : Int64)) + (-7046029254386353131 : Int64)))), .second, .unset, .unset, .unset, .unset] [(.long (own_mix ((own_mix ((own_mix q1) + t)) + (-7046029254386353131 : Int64))))]))
      refine go (fun _ => XS.lstore X29.here hx rfl (hb hby at_101) rfl (l' := #[.val (.long q1), .second, .val (.long q2), .second, .val (.long q3), .second, .val (.long q4), .second, .val (.long t), .second, .val (.long g), .second, .val (.ref b21), .val (.ref b22), .val (.ref b23), .val (.ref b24), .val (.long (own_mix ((own_mix ((own_mix q1) + q2)) + (-7046029254386353131 : Int64)))), .second, .val (.long (own_mix (((own_mix ((own_mix q1) + q2)) + (-7046029254386353131 : Int64)) + (-7046029254386353131 : Int64)))), .second, .val (.long (own_mix ((own_mix ((own_mix q1) + q2)) + (-7046029254386353131 : Int64)))), .second, .val (.long (own_mix (((own_mix ((own_mix q1) + q2)) + (-7046029254386353131 : Int64)) + (-7046029254386353131 : Int64)))), .second, .val (.long (own_mix ((own_mix ((own_mix q1) + t)) + (-7046029254386353131 : Int64)))), .second, .unset, .unset]) rfl) ?_
      show Go _ p e below s _ _ _ (T29.setTop (mkF m 103 #[.val (.long q1), .second, .val (.long q2), .second, .val (.long q3), .second, .val (.long q4), .second, .val (.long t), .second, .val (.long g), .second, .val (.ref b21), .val (.ref b22), .val (.ref b23), .val (.ref b24), .val (.long (own_mix ((own_mix ((own_mix q1) + q2)) + (-7046029254386353131 : Int64)))), .second, .val (.long (own_mix (((own_mix ((own_mix q1) + q2)) + (-7046029254386353131 : Int64)) + (-7046029254386353131 : Int64)))), .second, .val (.long (own_mix ((own_mix ((own_mix q1) + q2)) + (-7046029254386353131 : Int64)))), .second, .val (.long (own_mix (((own_mix ((own_mix q1) + q2)) + (-7046029254386353131 : Int64)) + (-7046029254386353131 : Int64)))), .second, .val (.long (own_mix ((own_mix ((own_mix q1) + t)) + (-7046029254386353131 : Int64)))), .second, .unset, .unset] []))
      refine go (fun _ => XS.aload X29.here hx rfl (hb hby at_103) rfl rfl) ?_
      show Go _ p e below s _ _ _ (T29.setTop (mkF m 105 #[.val (.long q1), .second, .val (.long q2), .second, .val (.long q3), .second, .val (.long q4), .second, .val (.long t), .second, .val (.long g), .second, .val (.ref b21), .val (.ref b22), .val (.ref b23), .val (.ref b24), .val (.long (own_mix ((own_mix ((own_mix q1) + q2)) + (-7046029254386353131 : Int64)))), .second, .val (.long (own_mix (((own_mix ((own_mix q1) + q2)) + (-7046029254386353131 : Int64)) + (-7046029254386353131 : Int64)))), .second, .val (.long (own_mix ((own_mix ((own_mix q1) + q2)) + (-7046029254386353131 : Int64)))), .second, .val (.long (own_mix (((own_mix ((own_mix q1) + q2)) + (-7046029254386353131 : Int64)) + (-7046029254386353131 : Int64)))), .second, .val (.long (own_mix ((own_mix ((own_mix q1) + t)) + (-7046029254386353131 : Int64)))), .second, .unset, .unset] [(.ref b24)]))
      obtain ⟨cq30, kq30, q30a, q30b, q30c⟩ := isOf hZ rfl c29_3
      obtain ⟨_, _, ⟨T30, L30, k30, n30⟩, -, X30, ⟨Lc30, hQ30, l30, y30, z30⟩, st30⟩ := X29.virtualBack hx (y := (⟨"com/example/fuller_query/fullerquery/vectors/SplitMix", "next", "()J"⟩ : MethodName)) (z := (⟨"com/example/fuller_query/fullerquery/vectors/SplitMix", "next", "()J"⟩ : MethodName)) hown (mvT hZ (hw _ (List.mem_of_getElem? (i := 19) rfl))) (mvT hZ (hw _ (List.mem_of_getElem? (i := 20) rfl))) (notFace_of_selects (args := #[]) (mvT hZ (hw _ (List.mem_of_getElem? (i := 22) rfl)))) (mvT hZ (hw _ (List.mem_of_getElem? (i := 22) rfl))) (mvT hZ (hw _ (List.mem_of_getElem? (i := 21) rfl))) (by decide) (backOf (W := 0) (rm5 l Z a0 hw [] b24 (own_mix ((own_mix g) + q2)) (T29.heap) n0 ZN29 c29_3 c29_4 u24_1) hZ (hw _ (List.mem_of_getElem? (i := 23) rfl)) (hw _ (List.mem_of_getElem? (i := 2) rfl)) (by decide) (by decide)) q30a q30c (g := (mkF m 105 #[.val (.long q1), .second, .val (.long q2), .second, .val (.long q3), .second, .val (.long q4), .second, .val (.long t), .second, .val (.long g), .second, .val (.ref b21), .val (.ref b22), .val (.ref b23), .val (.ref b24), .val (.long (own_mix ((own_mix ((own_mix q1) + q2)) + (-7046029254386353131 : Int64)))), .second, .val (.long (own_mix (((own_mix ((own_mix q1) + q2)) + (-7046029254386353131 : Int64)) + (-7046029254386353131 : Int64)))), .second, .val (.long (own_mix ((own_mix ((own_mix q1) + q2)) + (-7046029254386353131 : Int64)))), .second, .val (.long (own_mix (((own_mix ((own_mix q1) + q2)) + (-7046029254386353131 : Int64)) + (-7046029254386353131 : Int64)))), .second, .val (.long (own_mix ((own_mix ((own_mix q1) + t)) + (-7046029254386353131 : Int64)))), .second, .unset, .unset] [(.ref b24)])) rfl (by rw [hml]; rfl) (Steps.refl _) (argsL := []) (rest := []) (lenOf pd_0_1 rfl) rfl (by show 2 * 0 + _ ≤ _; exact Nat.le_of_eq rfl) (hb hby at_105) (fun _ _ => ⟨rfl, rfl, (by decide : 4 + 0 ≤ _), (by decide : 4 + 0 ≤ _)⟩)
      dsimp only [Pt.U, Pt.locs, Pt.cells, Pt.slots] at X30 l30 y30 z30 st30 hQ30
      subst l30 y30 z30
      obtain ⟨rfl, N30q, K30, u30_1⟩ := hQ30
      have N30 := Fr.app N29 N30q
      have c30_0 := c29_0.keep K30
      have c30_1 := c29_1.keep K30
      have c30_2 := c29_2.keep K30
      have c30_3 := c29_3.keep K30
      have c30_4 := c29_5.keep K30 (ninS (Nat.ne_of_lt lt24_b21_b24) nin0)
      have c30_5 := c29_6.keep K30 (ninS (Nat.ne_of_lt lt24_b22_b24) nin0)
      have c30_6 := u29_1.keep K30 (ninS (Nat.ne_of_lt lt24_b23_b24) nin0)
      have KK30 : Keep h0 T30.heap [] := KK29.trans K30 (allS (P := fun x => x ∈ [] ∨ h0.size ≤ x) (Or.inr SZ_b24) all0)
      have ZN30 : n0 ≤ T30.heap.size := Nat.le_trans ZN29 K30.1
      refine goT st30 ?_
      show Go _ p e below s _ _ _ (T30.setTop (mkF m 108 #[.val (.long q1), .second, .val (.long q2), .second, .val (.long q3), .second, .val (.long q4), .second, .val (.long t), .second, .val (.long g), .second, .val (.ref b21), .val (.ref b22), .val (.ref b23), .val (.ref b24), .val (.long (own_mix ((own_mix ((own_mix q1) + q2)) + (-7046029254386353131 : Int64)))), .second, .val (.long (own_mix (((own_mix ((own_mix q1) + q2)) + (-7046029254386353131 : Int64)) + (-7046029254386353131 : Int64)))), .second, .val (.long (own_mix ((own_mix ((own_mix q1) + q2)) + (-7046029254386353131 : Int64)))), .second, .val (.long (own_mix (((own_mix ((own_mix q1) + q2)) + (-7046029254386353131 : Int64)) + (-7046029254386353131 : Int64)))), .second, .val (.long (own_mix ((own_mix ((own_mix q1) + t)) + (-7046029254386353131 : Int64)))), .second, .unset, .unset] [(.long (own_mix ((own_mix ((own_mix g) + q2)) + (-7046029254386353131 : Int64))))]))
      refine go (fun _ => XS.lstore X30.here hx rfl (hb hby at_108) rfl (l' := #[.val (.long q1), .second, .val (.long q2), .second, .val (.long q3), .second, .val (.long q4), .second, .val (.long t), .second, .val (.long g), .second, .val (.ref b21), .val (.ref b22), .val (.ref b23), .val (.ref b24), .val (.long (own_mix ((own_mix ((own_mix q1) + q2)) + (-7046029254386353131 : Int64)))), .second, .val (.long (own_mix (((own_mix ((own_mix q1) + q2)) + (-7046029254386353131 : Int64)) + (-7046029254386353131 : Int64)))), .second, .val (.long (own_mix ((own_mix ((own_mix q1) + q2)) + (-7046029254386353131 : Int64)))), .second, .val (.long (own_mix (((own_mix ((own_mix q1) + q2)) + (-7046029254386353131 : Int64)) + (-7046029254386353131 : Int64)))), .second, .val (.long (own_mix ((own_mix ((own_mix q1) + t)) + (-7046029254386353131 : Int64)))), .second, .val (.long (own_mix ((own_mix ((own_mix g) + q2)) + (-7046029254386353131 : Int64)))), .second]) rfl) ?_
      show Go _ p e below s _ _ _ (T30.setTop (mkF m 110 #[.val (.long q1), .second, .val (.long q2), .second, .val (.long q3), .second, .val (.long q4), .second, .val (.long t), .second, .val (.long g), .second, .val (.ref b21), .val (.ref b22), .val (.ref b23), .val (.ref b24), .val (.long (own_mix ((own_mix ((own_mix q1) + q2)) + (-7046029254386353131 : Int64)))), .second, .val (.long (own_mix (((own_mix ((own_mix q1) + q2)) + (-7046029254386353131 : Int64)) + (-7046029254386353131 : Int64)))), .second, .val (.long (own_mix ((own_mix ((own_mix q1) + q2)) + (-7046029254386353131 : Int64)))), .second, .val (.long (own_mix (((own_mix ((own_mix q1) + q2)) + (-7046029254386353131 : Int64)) + (-7046029254386353131 : Int64)))), .second, .val (.long (own_mix ((own_mix ((own_mix q1) + t)) + (-7046029254386353131 : Int64)))), .second, .val (.long (own_mix ((own_mix ((own_mix g) + q2)) + (-7046029254386353131 : Int64)))), .second] []))
      refine go (fun _ => XS.lload X30.here hx rfl (hb hby at_110) rfl) ?_
      show Go _ p e below s _ _ _ (T30.setTop (mkF m 112 #[.val (.long q1), .second, .val (.long q2), .second, .val (.long q3), .second, .val (.long q4), .second, .val (.long t), .second, .val (.long g), .second, .val (.ref b21), .val (.ref b22), .val (.ref b23), .val (.ref b24), .val (.long (own_mix ((own_mix ((own_mix q1) + q2)) + (-7046029254386353131 : Int64)))), .second, .val (.long (own_mix (((own_mix ((own_mix q1) + q2)) + (-7046029254386353131 : Int64)) + (-7046029254386353131 : Int64)))), .second, .val (.long (own_mix ((own_mix ((own_mix q1) + q2)) + (-7046029254386353131 : Int64)))), .second, .val (.long (own_mix (((own_mix ((own_mix q1) + q2)) + (-7046029254386353131 : Int64)) + (-7046029254386353131 : Int64)))), .second, .val (.long (own_mix ((own_mix ((own_mix q1) + t)) + (-7046029254386353131 : Int64)))), .second, .val (.long (own_mix ((own_mix ((own_mix g) + q2)) + (-7046029254386353131 : Int64)))), .second] [(.long (own_mix ((own_mix ((own_mix q1) + q2)) + (-7046029254386353131 : Int64))))]))
      refine go (fun _ => XS.lload X30.here hx rfl (hb hby at_112) rfl) ?_
      show Go _ p e below s _ _ _ (T30.setTop (mkF m 114 #[.val (.long q1), .second, .val (.long q2), .second, .val (.long q3), .second, .val (.long q4), .second, .val (.long t), .second, .val (.long g), .second, .val (.ref b21), .val (.ref b22), .val (.ref b23), .val (.ref b24), .val (.long (own_mix ((own_mix ((own_mix q1) + q2)) + (-7046029254386353131 : Int64)))), .second, .val (.long (own_mix (((own_mix ((own_mix q1) + q2)) + (-7046029254386353131 : Int64)) + (-7046029254386353131 : Int64)))), .second, .val (.long (own_mix ((own_mix ((own_mix q1) + q2)) + (-7046029254386353131 : Int64)))), .second, .val (.long (own_mix (((own_mix ((own_mix q1) + q2)) + (-7046029254386353131 : Int64)) + (-7046029254386353131 : Int64)))), .second, .val (.long (own_mix ((own_mix ((own_mix q1) + t)) + (-7046029254386353131 : Int64)))), .second, .val (.long (own_mix ((own_mix ((own_mix g) + q2)) + (-7046029254386353131 : Int64)))), .second] [(.long (own_mix ((own_mix ((own_mix q1) + q2)) + (-7046029254386353131 : Int64)))), (.long (own_mix ((own_mix ((own_mix q1) + q2)) + (-7046029254386353131 : Int64))))]))
      refine go (fun _ => XS.lcmp X30.here hx rfl (hb hby at_114) rfl) ?_
      show Go _ p e below s _ _ _ (T30.setTop (mkF m 115 #[.val (.long q1), .second, .val (.long q2), .second, .val (.long q3), .second, .val (.long q4), .second, .val (.long t), .second, .val (.long g), .second, .val (.ref b21), .val (.ref b22), .val (.ref b23), .val (.ref b24), .val (.long (own_mix ((own_mix ((own_mix q1) + q2)) + (-7046029254386353131 : Int64)))), .second, .val (.long (own_mix (((own_mix ((own_mix q1) + q2)) + (-7046029254386353131 : Int64)) + (-7046029254386353131 : Int64)))), .second, .val (.long (own_mix ((own_mix ((own_mix q1) + q2)) + (-7046029254386353131 : Int64)))), .second, .val (.long (own_mix (((own_mix ((own_mix q1) + q2)) + (-7046029254386353131 : Int64)) + (-7046029254386353131 : Int64)))), .second, .val (.long (own_mix ((own_mix ((own_mix q1) + t)) + (-7046029254386353131 : Int64)))), .second, .val (.long (own_mix ((own_mix ((own_mix g) + q2)) + (-7046029254386353131 : Int64)))), .second] [(.int (lcmpW (own_mix ((own_mix ((own_mix q1) + q2)) + (-7046029254386353131 : Int64))) (own_mix ((own_mix ((own_mix q1) + q2)) + (-7046029254386353131 : Int64)))))]))
      refine go (fun _ => XS.ifNo X30.here hx rfl (hb hby at_115) rfl ((if0 _ _).trans (teq ((lw_eq (own_mix ((own_mix ((own_mix q1) + q2)) + (-7046029254386353131 : Int64))) (own_mix ((own_mix ((own_mix q1) + q2)) + (-7046029254386353131 : Int64)))).mpr (rfl : (own_mix ((own_mix ((own_mix q1) + q2)) + (-7046029254386353131 : Int64))) = (own_mix ((own_mix ((own_mix q1) + q2)) + (-7046029254386353131 : Int64)))))).2)) ?_
      show Go _ p e below s _ _ _ (T30.setTop (mkF m 118 #[.val (.long q1), .second, .val (.long q2), .second, .val (.long q3), .second, .val (.long q4), .second, .val (.long t), .second, .val (.long g), .second, .val (.ref b21), .val (.ref b22), .val (.ref b23), .val (.ref b24), .val (.long (own_mix ((own_mix ((own_mix q1) + q2)) + (-7046029254386353131 : Int64)))), .second, .val (.long (own_mix (((own_mix ((own_mix q1) + q2)) + (-7046029254386353131 : Int64)) + (-7046029254386353131 : Int64)))), .second, .val (.long (own_mix ((own_mix ((own_mix q1) + q2)) + (-7046029254386353131 : Int64)))), .second, .val (.long (own_mix (((own_mix ((own_mix q1) + q2)) + (-7046029254386353131 : Int64)) + (-7046029254386353131 : Int64)))), .second, .val (.long (own_mix ((own_mix ((own_mix q1) + t)) + (-7046029254386353131 : Int64)))), .second, .val (.long (own_mix ((own_mix ((own_mix g) + q2)) + (-7046029254386353131 : Int64)))), .second] []))
      refine go (fun _ => XS.lload X30.here hx rfl (hb hby at_118) rfl) ?_
      show Go _ p e below s _ _ _ (T30.setTop (mkF m 120 #[.val (.long q1), .second, .val (.long q2), .second, .val (.long q3), .second, .val (.long q4), .second, .val (.long t), .second, .val (.long g), .second, .val (.ref b21), .val (.ref b22), .val (.ref b23), .val (.ref b24), .val (.long (own_mix ((own_mix ((own_mix q1) + q2)) + (-7046029254386353131 : Int64)))), .second, .val (.long (own_mix (((own_mix ((own_mix q1) + q2)) + (-7046029254386353131 : Int64)) + (-7046029254386353131 : Int64)))), .second, .val (.long (own_mix ((own_mix ((own_mix q1) + q2)) + (-7046029254386353131 : Int64)))), .second, .val (.long (own_mix (((own_mix ((own_mix q1) + q2)) + (-7046029254386353131 : Int64)) + (-7046029254386353131 : Int64)))), .second, .val (.long (own_mix ((own_mix ((own_mix q1) + t)) + (-7046029254386353131 : Int64)))), .second, .val (.long (own_mix ((own_mix ((own_mix g) + q2)) + (-7046029254386353131 : Int64)))), .second] [(.long (own_mix (((own_mix ((own_mix q1) + q2)) + (-7046029254386353131 : Int64)) + (-7046029254386353131 : Int64))))]))
      refine go (fun _ => XS.lload X30.here hx rfl (hb hby at_120) rfl) ?_
      show Go _ p e below s _ _ _ (T30.setTop (mkF m 122 #[.val (.long q1), .second, .val (.long q2), .second, .val (.long q3), .second, .val (.long q4), .second, .val (.long t), .second, .val (.long g), .second, .val (.ref b21), .val (.ref b22), .val (.ref b23), .val (.ref b24), .val (.long (own_mix ((own_mix ((own_mix q1) + q2)) + (-7046029254386353131 : Int64)))), .second, .val (.long (own_mix (((own_mix ((own_mix q1) + q2)) + (-7046029254386353131 : Int64)) + (-7046029254386353131 : Int64)))), .second, .val (.long (own_mix ((own_mix ((own_mix q1) + q2)) + (-7046029254386353131 : Int64)))), .second, .val (.long (own_mix (((own_mix ((own_mix q1) + q2)) + (-7046029254386353131 : Int64)) + (-7046029254386353131 : Int64)))), .second, .val (.long (own_mix ((own_mix ((own_mix q1) + t)) + (-7046029254386353131 : Int64)))), .second, .val (.long (own_mix ((own_mix ((own_mix g) + q2)) + (-7046029254386353131 : Int64)))), .second] [(.long (own_mix (((own_mix ((own_mix q1) + q2)) + (-7046029254386353131 : Int64)) + (-7046029254386353131 : Int64)))), (.long (own_mix (((own_mix ((own_mix q1) + q2)) + (-7046029254386353131 : Int64)) + (-7046029254386353131 : Int64))))]))
      refine go (fun _ => XS.lcmp X30.here hx rfl (hb hby at_122) rfl) ?_
      show Go _ p e below s _ _ _ (T30.setTop (mkF m 123 #[.val (.long q1), .second, .val (.long q2), .second, .val (.long q3), .second, .val (.long q4), .second, .val (.long t), .second, .val (.long g), .second, .val (.ref b21), .val (.ref b22), .val (.ref b23), .val (.ref b24), .val (.long (own_mix ((own_mix ((own_mix q1) + q2)) + (-7046029254386353131 : Int64)))), .second, .val (.long (own_mix (((own_mix ((own_mix q1) + q2)) + (-7046029254386353131 : Int64)) + (-7046029254386353131 : Int64)))), .second, .val (.long (own_mix ((own_mix ((own_mix q1) + q2)) + (-7046029254386353131 : Int64)))), .second, .val (.long (own_mix (((own_mix ((own_mix q1) + q2)) + (-7046029254386353131 : Int64)) + (-7046029254386353131 : Int64)))), .second, .val (.long (own_mix ((own_mix ((own_mix q1) + t)) + (-7046029254386353131 : Int64)))), .second, .val (.long (own_mix ((own_mix ((own_mix g) + q2)) + (-7046029254386353131 : Int64)))), .second] [(.int (lcmpW (own_mix (((own_mix ((own_mix q1) + q2)) + (-7046029254386353131 : Int64)) + (-7046029254386353131 : Int64))) (own_mix (((own_mix ((own_mix q1) + q2)) + (-7046029254386353131 : Int64)) + (-7046029254386353131 : Int64)))))]))
      refine go (fun _ => XS.ifNo X30.here hx rfl (hb hby at_123) rfl ((if0 _ _).trans (teq ((lw_eq (own_mix (((own_mix ((own_mix q1) + q2)) + (-7046029254386353131 : Int64)) + (-7046029254386353131 : Int64))) (own_mix (((own_mix ((own_mix q1) + q2)) + (-7046029254386353131 : Int64)) + (-7046029254386353131 : Int64)))).mpr (rfl : (own_mix (((own_mix ((own_mix q1) + q2)) + (-7046029254386353131 : Int64)) + (-7046029254386353131 : Int64))) = (own_mix (((own_mix ((own_mix q1) + q2)) + (-7046029254386353131 : Int64)) + (-7046029254386353131 : Int64)))))).2)) ?_
      show Go _ p e below s _ _ _ (T30.setTop (mkF m 126 #[.val (.long q1), .second, .val (.long q2), .second, .val (.long q3), .second, .val (.long q4), .second, .val (.long t), .second, .val (.long g), .second, .val (.ref b21), .val (.ref b22), .val (.ref b23), .val (.ref b24), .val (.long (own_mix ((own_mix ((own_mix q1) + q2)) + (-7046029254386353131 : Int64)))), .second, .val (.long (own_mix (((own_mix ((own_mix q1) + q2)) + (-7046029254386353131 : Int64)) + (-7046029254386353131 : Int64)))), .second, .val (.long (own_mix ((own_mix ((own_mix q1) + q2)) + (-7046029254386353131 : Int64)))), .second, .val (.long (own_mix (((own_mix ((own_mix q1) + q2)) + (-7046029254386353131 : Int64)) + (-7046029254386353131 : Int64)))), .second, .val (.long (own_mix ((own_mix ((own_mix q1) + t)) + (-7046029254386353131 : Int64)))), .second, .val (.long (own_mix ((own_mix ((own_mix g) + q2)) + (-7046029254386353131 : Int64)))), .second] []))
      refine go (fun _ => XS.lload X30.here hx rfl (hb hby at_126) rfl) ?_
      show Go _ p e below s _ _ _ (T30.setTop (mkF m 128 #[.val (.long q1), .second, .val (.long q2), .second, .val (.long q3), .second, .val (.long q4), .second, .val (.long t), .second, .val (.long g), .second, .val (.ref b21), .val (.ref b22), .val (.ref b23), .val (.ref b24), .val (.long (own_mix ((own_mix ((own_mix q1) + q2)) + (-7046029254386353131 : Int64)))), .second, .val (.long (own_mix (((own_mix ((own_mix q1) + q2)) + (-7046029254386353131 : Int64)) + (-7046029254386353131 : Int64)))), .second, .val (.long (own_mix ((own_mix ((own_mix q1) + q2)) + (-7046029254386353131 : Int64)))), .second, .val (.long (own_mix (((own_mix ((own_mix q1) + q2)) + (-7046029254386353131 : Int64)) + (-7046029254386353131 : Int64)))), .second, .val (.long (own_mix ((own_mix ((own_mix q1) + t)) + (-7046029254386353131 : Int64)))), .second, .val (.long (own_mix ((own_mix ((own_mix g) + q2)) + (-7046029254386353131 : Int64)))), .second] [(.long (own_mix ((own_mix ((own_mix q1) + t)) + (-7046029254386353131 : Int64))))]))
      refine go (fun _ => XS.lload X30.here hx rfl (hb hby at_128) rfl) ?_
      show Go _ p e below s _ _ _ (T30.setTop (mkF m 130 #[.val (.long q1), .second, .val (.long q2), .second, .val (.long q3), .second, .val (.long q4), .second, .val (.long t), .second, .val (.long g), .second, .val (.ref b21), .val (.ref b22), .val (.ref b23), .val (.ref b24), .val (.long (own_mix ((own_mix ((own_mix q1) + q2)) + (-7046029254386353131 : Int64)))), .second, .val (.long (own_mix (((own_mix ((own_mix q1) + q2)) + (-7046029254386353131 : Int64)) + (-7046029254386353131 : Int64)))), .second, .val (.long (own_mix ((own_mix ((own_mix q1) + q2)) + (-7046029254386353131 : Int64)))), .second, .val (.long (own_mix (((own_mix ((own_mix q1) + q2)) + (-7046029254386353131 : Int64)) + (-7046029254386353131 : Int64)))), .second, .val (.long (own_mix ((own_mix ((own_mix q1) + t)) + (-7046029254386353131 : Int64)))), .second, .val (.long (own_mix ((own_mix ((own_mix g) + q2)) + (-7046029254386353131 : Int64)))), .second] [(.long (own_mix ((own_mix ((own_mix q1) + q2)) + (-7046029254386353131 : Int64)))), (.long (own_mix ((own_mix ((own_mix q1) + t)) + (-7046029254386353131 : Int64))))]))
      refine go (fun _ => XS.lcmp X30.here hx rfl (hb hby at_130) rfl) ?_
      show Go _ p e below s _ _ _ (T30.setTop (mkF m 131 #[.val (.long q1), .second, .val (.long q2), .second, .val (.long q3), .second, .val (.long q4), .second, .val (.long t), .second, .val (.long g), .second, .val (.ref b21), .val (.ref b22), .val (.ref b23), .val (.ref b24), .val (.long (own_mix ((own_mix ((own_mix q1) + q2)) + (-7046029254386353131 : Int64)))), .second, .val (.long (own_mix (((own_mix ((own_mix q1) + q2)) + (-7046029254386353131 : Int64)) + (-7046029254386353131 : Int64)))), .second, .val (.long (own_mix ((own_mix ((own_mix q1) + q2)) + (-7046029254386353131 : Int64)))), .second, .val (.long (own_mix (((own_mix ((own_mix q1) + q2)) + (-7046029254386353131 : Int64)) + (-7046029254386353131 : Int64)))), .second, .val (.long (own_mix ((own_mix ((own_mix q1) + t)) + (-7046029254386353131 : Int64)))), .second, .val (.long (own_mix ((own_mix ((own_mix g) + q2)) + (-7046029254386353131 : Int64)))), .second] [(.int (lcmpW (own_mix ((own_mix ((own_mix q1) + t)) + (-7046029254386353131 : Int64))) (own_mix ((own_mix ((own_mix q1) + q2)) + (-7046029254386353131 : Int64)))))]))
      refine go (fun _ => XS.ifNo X30.here hx rfl (hb hby at_131) rfl ((if0 _ _).trans (feq (fun q => (fun q => ht (own_add_l (own_inj (own_add_r (own_inj q))))) ((lw_eq (own_mix ((own_mix ((own_mix q1) + t)) + (-7046029254386353131 : Int64))) (own_mix ((own_mix ((own_mix q1) + q2)) + (-7046029254386353131 : Int64)))).mp q))).1)) ?_
      show Go _ p e below s _ _ _ (T30.setTop (mkF m 134 #[.val (.long q1), .second, .val (.long q2), .second, .val (.long q3), .second, .val (.long q4), .second, .val (.long t), .second, .val (.long g), .second, .val (.ref b21), .val (.ref b22), .val (.ref b23), .val (.ref b24), .val (.long (own_mix ((own_mix ((own_mix q1) + q2)) + (-7046029254386353131 : Int64)))), .second, .val (.long (own_mix (((own_mix ((own_mix q1) + q2)) + (-7046029254386353131 : Int64)) + (-7046029254386353131 : Int64)))), .second, .val (.long (own_mix ((own_mix ((own_mix q1) + q2)) + (-7046029254386353131 : Int64)))), .second, .val (.long (own_mix (((own_mix ((own_mix q1) + q2)) + (-7046029254386353131 : Int64)) + (-7046029254386353131 : Int64)))), .second, .val (.long (own_mix ((own_mix ((own_mix q1) + t)) + (-7046029254386353131 : Int64)))), .second, .val (.long (own_mix ((own_mix ((own_mix g) + q2)) + (-7046029254386353131 : Int64)))), .second] []))
      refine go (fun _ => XS.lload X30.here hx rfl (hb hby at_134) rfl) ?_
      show Go _ p e below s _ _ _ (T30.setTop (mkF m 136 #[.val (.long q1), .second, .val (.long q2), .second, .val (.long q3), .second, .val (.long q4), .second, .val (.long t), .second, .val (.long g), .second, .val (.ref b21), .val (.ref b22), .val (.ref b23), .val (.ref b24), .val (.long (own_mix ((own_mix ((own_mix q1) + q2)) + (-7046029254386353131 : Int64)))), .second, .val (.long (own_mix (((own_mix ((own_mix q1) + q2)) + (-7046029254386353131 : Int64)) + (-7046029254386353131 : Int64)))), .second, .val (.long (own_mix ((own_mix ((own_mix q1) + q2)) + (-7046029254386353131 : Int64)))), .second, .val (.long (own_mix (((own_mix ((own_mix q1) + q2)) + (-7046029254386353131 : Int64)) + (-7046029254386353131 : Int64)))), .second, .val (.long (own_mix ((own_mix ((own_mix q1) + t)) + (-7046029254386353131 : Int64)))), .second, .val (.long (own_mix ((own_mix ((own_mix g) + q2)) + (-7046029254386353131 : Int64)))), .second] [(.long (own_mix ((own_mix ((own_mix g) + q2)) + (-7046029254386353131 : Int64))))]))
      refine go (fun _ => XS.lload X30.here hx rfl (hb hby at_136) rfl) ?_
      show Go _ p e below s _ _ _ (T30.setTop (mkF m 138 #[.val (.long q1), .second, .val (.long q2), .second, .val (.long q3), .second, .val (.long q4), .second, .val (.long t), .second, .val (.long g), .second, .val (.ref b21), .val (.ref b22), .val (.ref b23), .val (.ref b24), .val (.long (own_mix ((own_mix ((own_mix q1) + q2)) + (-7046029254386353131 : Int64)))), .second, .val (.long (own_mix (((own_mix ((own_mix q1) + q2)) + (-7046029254386353131 : Int64)) + (-7046029254386353131 : Int64)))), .second, .val (.long (own_mix ((own_mix ((own_mix q1) + q2)) + (-7046029254386353131 : Int64)))), .second, .val (.long (own_mix (((own_mix ((own_mix q1) + q2)) + (-7046029254386353131 : Int64)) + (-7046029254386353131 : Int64)))), .second, .val (.long (own_mix ((own_mix ((own_mix q1) + t)) + (-7046029254386353131 : Int64)))), .second, .val (.long (own_mix ((own_mix ((own_mix g) + q2)) + (-7046029254386353131 : Int64)))), .second] [(.long (own_mix ((own_mix ((own_mix q1) + q2)) + (-7046029254386353131 : Int64)))), (.long (own_mix ((own_mix ((own_mix g) + q2)) + (-7046029254386353131 : Int64))))]))
      refine go (fun _ => XS.lcmp X30.here hx rfl (hb hby at_138) rfl) ?_
      show Go _ p e below s _ _ _ (T30.setTop (mkF m 139 #[.val (.long q1), .second, .val (.long q2), .second, .val (.long q3), .second, .val (.long q4), .second, .val (.long t), .second, .val (.long g), .second, .val (.ref b21), .val (.ref b22), .val (.ref b23), .val (.ref b24), .val (.long (own_mix ((own_mix ((own_mix q1) + q2)) + (-7046029254386353131 : Int64)))), .second, .val (.long (own_mix (((own_mix ((own_mix q1) + q2)) + (-7046029254386353131 : Int64)) + (-7046029254386353131 : Int64)))), .second, .val (.long (own_mix ((own_mix ((own_mix q1) + q2)) + (-7046029254386353131 : Int64)))), .second, .val (.long (own_mix (((own_mix ((own_mix q1) + q2)) + (-7046029254386353131 : Int64)) + (-7046029254386353131 : Int64)))), .second, .val (.long (own_mix ((own_mix ((own_mix q1) + t)) + (-7046029254386353131 : Int64)))), .second, .val (.long (own_mix ((own_mix ((own_mix g) + q2)) + (-7046029254386353131 : Int64)))), .second] [(.int (lcmpW (own_mix ((own_mix ((own_mix g) + q2)) + (-7046029254386353131 : Int64))) (own_mix ((own_mix ((own_mix q1) + q2)) + (-7046029254386353131 : Int64)))))]))
      refine go (fun _ => XS.ifNo X30.here hx rfl (hb hby at_139) rfl ((if0 _ _).trans (feq (fun q => (fun q => hg (own_inj (own_add_r (own_inj (own_add_r (own_inj q)))))) ((lw_eq (own_mix ((own_mix ((own_mix g) + q2)) + (-7046029254386353131 : Int64))) (own_mix ((own_mix ((own_mix q1) + q2)) + (-7046029254386353131 : Int64)))).mp q))).1)) ?_
      show Go _ p e below s _ _ _ (T30.setTop (mkF m 142 #[.val (.long q1), .second, .val (.long q2), .second, .val (.long q3), .second, .val (.long q4), .second, .val (.long t), .second, .val (.long g), .second, .val (.ref b21), .val (.ref b22), .val (.ref b23), .val (.ref b24), .val (.long (own_mix ((own_mix ((own_mix q1) + q2)) + (-7046029254386353131 : Int64)))), .second, .val (.long (own_mix (((own_mix ((own_mix q1) + q2)) + (-7046029254386353131 : Int64)) + (-7046029254386353131 : Int64)))), .second, .val (.long (own_mix ((own_mix ((own_mix q1) + q2)) + (-7046029254386353131 : Int64)))), .second, .val (.long (own_mix (((own_mix ((own_mix q1) + q2)) + (-7046029254386353131 : Int64)) + (-7046029254386353131 : Int64)))), .second, .val (.long (own_mix ((own_mix ((own_mix q1) + t)) + (-7046029254386353131 : Int64)))), .second, .val (.long (own_mix ((own_mix ((own_mix g) + q2)) + (-7046029254386353131 : Int64)))), .second] []))
      refine go (fun _ => XS.iconst X30.here hx rfl (hb hby at_142)) ?_
      show Go _ p e below s _ _ _ (T30.setTop (mkF m 143 #[.val (.long q1), .second, .val (.long q2), .second, .val (.long q3), .second, .val (.long q4), .second, .val (.long t), .second, .val (.long g), .second, .val (.ref b21), .val (.ref b22), .val (.ref b23), .val (.ref b24), .val (.long (own_mix ((own_mix ((own_mix q1) + q2)) + (-7046029254386353131 : Int64)))), .second, .val (.long (own_mix (((own_mix ((own_mix q1) + q2)) + (-7046029254386353131 : Int64)) + (-7046029254386353131 : Int64)))), .second, .val (.long (own_mix ((own_mix ((own_mix q1) + q2)) + (-7046029254386353131 : Int64)))), .second, .val (.long (own_mix (((own_mix ((own_mix q1) + q2)) + (-7046029254386353131 : Int64)) + (-7046029254386353131 : Int64)))), .second, .val (.long (own_mix ((own_mix ((own_mix q1) + t)) + (-7046029254386353131 : Int64)))), .second, .val (.long (own_mix ((own_mix ((own_mix g) + q2)) + (-7046029254386353131 : Int64)))), .second] [(.int (1 : Int32))]))
      refine go (fun _ => XS.goto X30.here hx rfl (pc0 := 143) (pc' := 147) rfl (hb hby at_143) (by decide) (by decide)) ?_
      show Go _ p e below s _ _ _ (T30.setTop (mkF m 147 #[.val (.long q1), .second, .val (.long q2), .second, .val (.long q3), .second, .val (.long q4), .second, .val (.long t), .second, .val (.long g), .second, .val (.ref b21), .val (.ref b22), .val (.ref b23), .val (.ref b24), .val (.long (own_mix ((own_mix ((own_mix q1) + q2)) + (-7046029254386353131 : Int64)))), .second, .val (.long (own_mix (((own_mix ((own_mix q1) + q2)) + (-7046029254386353131 : Int64)) + (-7046029254386353131 : Int64)))), .second, .val (.long (own_mix ((own_mix ((own_mix q1) + q2)) + (-7046029254386353131 : Int64)))), .second, .val (.long (own_mix (((own_mix ((own_mix q1) + q2)) + (-7046029254386353131 : Int64)) + (-7046029254386353131 : Int64)))), .second, .val (.long (own_mix ((own_mix ((own_mix q1) + t)) + (-7046029254386353131 : Int64)))), .second, .val (.long (own_mix ((own_mix ((own_mix g) + q2)) + (-7046029254386353131 : Int64)))), .second] [(.int (1 : Int32))]))
      refine goRet X30 hx Bd.notSynchronized Bd.returns rfl (Or.inl ⟨rfl, Or.inr (Or.inl rfl), _, rfl⟩) (hb hby at_147) (by decide) (by decide) (by refine ⟨rfl, N30⟩)
    refine go (fun _ => XS.lload X0.here hx rfl (hb hby at_19) rfl) ?_
    show Go _ p e below s _ _ _ (s₁.setTop (mkF m 21 #[.val (.long q1), .second, .val (.long q2), .second, .val (.long q3), .second, .val (.long q4), .second, .val (.long t), .second, .unset, .unset, .unset, .unset, .unset, .unset, .unset, .unset, .unset, .unset, .unset, .unset, .unset, .unset, .unset, .unset, .unset, .unset] [(.long q4)]))
    refine go (fun _ => XS.lconst X0.here hx rfl (hb hby at_21)) ?_
    show Go _ p e below s _ _ _ (s₁.setTop (mkF m 22 #[.val (.long q1), .second, .val (.long q2), .second, .val (.long q3), .second, .val (.long q4), .second, .val (.long t), .second, .unset, .unset, .unset, .unset, .unset, .unset, .unset, .unset, .unset, .unset, .unset, .unset, .unset, .unset, .unset, .unset, .unset, .unset] [(.long (0 : Int64)), (.long q4)]))
    refine go (fun _ => XS.lcmp X0.here hx rfl (hb hby at_22) rfl) ?_
    show Go _ p e below s _ _ _ (s₁.setTop (mkF m 23 #[.val (.long q1), .second, .val (.long q2), .second, .val (.long q3), .second, .val (.long q4), .second, .val (.long t), .second, .unset, .unset, .unset, .unset, .unset, .unset, .unset, .unset, .unset, .unset, .unset, .unset, .unset, .unset, .unset, .unset, .unset, .unset] [(.int (lcmpW q4 (0 : Int64)))]))
    by_cases hc23_31 : q4 = (0 : Int64)
    · refine go (fun _ => XS.ifNo X0.here hx rfl (hb hby at_23) rfl ((if0 _ _).trans (teq ((lw_eq q4 (0 : Int64)).mpr hc23_31)).2)) ?_
      show Go _ p e below s _ _ _ (s₁.setTop (mkF m 26 #[.val (.long q1), .second, .val (.long q2), .second, .val (.long q3), .second, .val (.long q4), .second, .val (.long t), .second, .unset, .unset, .unset, .unset, .unset, .unset, .unset, .unset, .unset, .unset, .unset, .unset, .unset, .unset, .unset, .unset, .unset, .unset] []))
      refine go (fun _ => XS.lloadN X0.here hx rfl (hb hby at_26) rfl) ?_
      show Go _ p e below s _ _ _ (s₁.setTop (mkF m 27 #[.val (.long q1), .second, .val (.long q2), .second, .val (.long q3), .second, .val (.long q4), .second, .val (.long t), .second, .unset, .unset, .unset, .unset, .unset, .unset, .unset, .unset, .unset, .unset, .unset, .unset, .unset, .unset, .unset, .unset, .unset, .unset] [(.long q1)]))
      refine go (fun _ => XS.lconst X0.here hx rfl (hb hby at_27)) ?_
      show Go _ p e below s _ _ _ (s₁.setTop (mkF m 28 #[.val (.long q1), .second, .val (.long q2), .second, .val (.long q3), .second, .val (.long q4), .second, .val (.long t), .second, .unset, .unset, .unset, .unset, .unset, .unset, .unset, .unset, .unset, .unset, .unset, .unset, .unset, .unset, .unset, .unset, .unset, .unset] [(.long (1 : Int64)), (.long q1)]))
      refine go (fun _ => XS.ladd X0.here hx rfl (hb hby at_28) rfl) ?_
      show Go _ p e below s _ _ _ (s₁.setTop (mkF m 29 #[.val (.long q1), .second, .val (.long q2), .second, .val (.long q3), .second, .val (.long q4), .second, .val (.long t), .second, .unset, .unset, .unset, .unset, .unset, .unset, .unset, .unset, .unset, .unset, .unset, .unset, .unset, .unset, .unset, .unset, .unset, .unset] [(.long (q1 + (1 : Int64)))]))
      refine go (fun _ => XS.goto X0.here hx rfl (pc0 := 29) (pc' := 36) rfl (hb hby at_29) (by decide) (by decide)) ?_
      show Go _ p e below s _ _ _ (s₁.setTop (mkF m 36 #[.val (.long q1), .second, .val (.long q2), .second, .val (.long q3), .second, .val (.long q4), .second, .val (.long t), .second, .unset, .unset, .unset, .unset, .unset, .unset, .unset, .unset, .unset, .unset, .unset, .unset, .unset, .unset, .unset, .unset, .unset, .unset] [(.long (q1 + (1 : Int64)))]))
      exact J2 _ (own_ne q1 (by decide))
    · refine go (fun _ => XS.ifYes X0.here hx rfl (pc0 := 23) (pc' := 32) rfl (hb hby at_23) rfl ((if0 _ _).trans (feq (fun q => hc23_31 ((lw_eq q4 (0 : Int64)).mp q))).2) (by decide) (by decide)) ?_
      show Go _ p e below s _ _ _ (s₁.setTop (mkF m 32 #[.val (.long q1), .second, .val (.long q2), .second, .val (.long q3), .second, .val (.long q4), .second, .val (.long t), .second, .unset, .unset, .unset, .unset, .unset, .unset, .unset, .unset, .unset, .unset, .unset, .unset, .unset, .unset, .unset, .unset, .unset, .unset] []))
      refine go (fun _ => XS.lloadN X0.here hx rfl (hb hby at_32) rfl) ?_
      show Go _ p e below s _ _ _ (s₁.setTop (mkF m 33 #[.val (.long q1), .second, .val (.long q2), .second, .val (.long q3), .second, .val (.long q4), .second, .val (.long t), .second, .unset, .unset, .unset, .unset, .unset, .unset, .unset, .unset, .unset, .unset, .unset, .unset, .unset, .unset, .unset, .unset, .unset, .unset] [(.long q1)]))
      refine go (fun _ => XS.lload X0.here hx rfl (hb hby at_33) rfl) ?_
      show Go _ p e below s _ _ _ (s₁.setTop (mkF m 35 #[.val (.long q1), .second, .val (.long q2), .second, .val (.long q3), .second, .val (.long q4), .second, .val (.long t), .second, .unset, .unset, .unset, .unset, .unset, .unset, .unset, .unset, .unset, .unset, .unset, .unset, .unset, .unset, .unset, .unset, .unset, .unset] [(.long q4), (.long q1)]))
      refine go (fun _ => XS.ladd X0.here hx rfl (hb hby at_35) rfl) ?_
      show Go _ p e below s _ _ _ (s₁.setTop (mkF m 36 #[.val (.long q1), .second, .val (.long q2), .second, .val (.long q3), .second, .val (.long q4), .second, .val (.long t), .second, .unset, .unset, .unset, .unset, .unset, .unset, .unset, .unset, .unset, .unset, .unset, .unset, .unset, .unset, .unset, .unset, .unset, .unset] [(.long (q1 + q4))]))
      exact J2 _ (own_ne q1 hc23_31)
  refine go (fun _ => XS.lload X0.here hx rfl (hb hby at_0) rfl) ?_
  show Go _ p e below s _ _ _ (s₁.setTop (mkF m 2 #[.val (.long q1), .second, .val (.long q2), .second, .val (.long q3), .second, .val (.long q4), .second, .unset, .unset, .unset, .unset, .unset, .unset, .unset, .unset, .unset, .unset, .unset, .unset, .unset, .unset, .unset, .unset, .unset, .unset, .unset, .unset] [(.long q3)]))
  refine go (fun _ => XS.lconst X0.here hx rfl (hb hby at_2)) ?_
  show Go _ p e below s _ _ _ (s₁.setTop (mkF m 3 #[.val (.long q1), .second, .val (.long q2), .second, .val (.long q3), .second, .val (.long q4), .second, .unset, .unset, .unset, .unset, .unset, .unset, .unset, .unset, .unset, .unset, .unset, .unset, .unset, .unset, .unset, .unset, .unset, .unset, .unset, .unset] [(.long (0 : Int64)), (.long q3)]))
  refine go (fun _ => XS.lcmp X0.here hx rfl (hb hby at_3) rfl) ?_
  show Go _ p e below s _ _ _ (s₁.setTop (mkF m 4 #[.val (.long q1), .second, .val (.long q2), .second, .val (.long q3), .second, .val (.long q4), .second, .unset, .unset, .unset, .unset, .unset, .unset, .unset, .unset, .unset, .unset, .unset, .unset, .unset, .unset, .unset, .unset, .unset, .unset, .unset, .unset] [(.int (lcmpW q3 (0 : Int64)))]))
  by_cases hc4_32 : q3 = (0 : Int64)
  · refine go (fun _ => XS.ifNo X0.here hx rfl (hb hby at_4) rfl ((if0 _ _).trans (teq ((lw_eq q3 (0 : Int64)).mpr hc4_32)).2)) ?_
    show Go _ p e below s _ _ _ (s₁.setTop (mkF m 7 #[.val (.long q1), .second, .val (.long q2), .second, .val (.long q3), .second, .val (.long q4), .second, .unset, .unset, .unset, .unset, .unset, .unset, .unset, .unset, .unset, .unset, .unset, .unset, .unset, .unset, .unset, .unset, .unset, .unset, .unset, .unset] []))
    refine go (fun _ => XS.lloadN X0.here hx rfl (hb hby at_7) rfl) ?_
    show Go _ p e below s _ _ _ (s₁.setTop (mkF m 8 #[.val (.long q1), .second, .val (.long q2), .second, .val (.long q3), .second, .val (.long q4), .second, .unset, .unset, .unset, .unset, .unset, .unset, .unset, .unset, .unset, .unset, .unset, .unset, .unset, .unset, .unset, .unset, .unset, .unset, .unset, .unset] [(.long q2)]))
    refine go (fun _ => XS.lconst X0.here hx rfl (hb hby at_8)) ?_
    show Go _ p e below s _ _ _ (s₁.setTop (mkF m 9 #[.val (.long q1), .second, .val (.long q2), .second, .val (.long q3), .second, .val (.long q4), .second, .unset, .unset, .unset, .unset, .unset, .unset, .unset, .unset, .unset, .unset, .unset, .unset, .unset, .unset, .unset, .unset, .unset, .unset, .unset, .unset] [(.long (1 : Int64)), (.long q2)]))
    refine go (fun _ => XS.ladd X0.here hx rfl (hb hby at_9) rfl) ?_
    show Go _ p e below s _ _ _ (s₁.setTop (mkF m 10 #[.val (.long q1), .second, .val (.long q2), .second, .val (.long q3), .second, .val (.long q4), .second, .unset, .unset, .unset, .unset, .unset, .unset, .unset, .unset, .unset, .unset, .unset, .unset, .unset, .unset, .unset, .unset, .unset, .unset, .unset, .unset] [(.long (q2 + (1 : Int64)))]))
    refine go (fun _ => XS.goto X0.here hx rfl (pc0 := 10) (pc' := 17) rfl (hb hby at_10) (by decide) (by decide)) ?_
    show Go _ p e below s _ _ _ (s₁.setTop (mkF m 17 #[.val (.long q1), .second, .val (.long q2), .second, .val (.long q3), .second, .val (.long q4), .second, .unset, .unset, .unset, .unset, .unset, .unset, .unset, .unset, .unset, .unset, .unset, .unset, .unset, .unset, .unset, .unset, .unset, .unset, .unset, .unset] [(.long (q2 + (1 : Int64)))]))
    exact J1 _ (own_ne q2 (by decide))
  · refine go (fun _ => XS.ifYes X0.here hx rfl (pc0 := 4) (pc' := 13) rfl (hb hby at_4) rfl ((if0 _ _).trans (feq (fun q => hc4_32 ((lw_eq q3 (0 : Int64)).mp q))).2) (by decide) (by decide)) ?_
    show Go _ p e below s _ _ _ (s₁.setTop (mkF m 13 #[.val (.long q1), .second, .val (.long q2), .second, .val (.long q3), .second, .val (.long q4), .second, .unset, .unset, .unset, .unset, .unset, .unset, .unset, .unset, .unset, .unset, .unset, .unset, .unset, .unset, .unset, .unset, .unset, .unset, .unset, .unset] []))
    refine go (fun _ => XS.lloadN X0.here hx rfl (hb hby at_13) rfl) ?_
    show Go _ p e below s _ _ _ (s₁.setTop (mkF m 14 #[.val (.long q1), .second, .val (.long q2), .second, .val (.long q3), .second, .val (.long q4), .second, .unset, .unset, .unset, .unset, .unset, .unset, .unset, .unset, .unset, .unset, .unset, .unset, .unset, .unset, .unset, .unset, .unset, .unset, .unset, .unset] [(.long q2)]))
    refine go (fun _ => XS.lload X0.here hx rfl (hb hby at_14) rfl) ?_
    show Go _ p e below s _ _ _ (s₁.setTop (mkF m 16 #[.val (.long q1), .second, .val (.long q2), .second, .val (.long q3), .second, .val (.long q4), .second, .unset, .unset, .unset, .unset, .unset, .unset, .unset, .unset, .unset, .unset, .unset, .unset, .unset, .unset, .unset, .unset, .unset, .unset, .unset, .unset] [(.long q3), (.long q2)]))
    refine go (fun _ => XS.ladd X0.here hx rfl (hb hby at_16) rfl) ?_
    show Go _ p e below s _ _ _ (s₁.setTop (mkF m 17 #[.val (.long q1), .second, .val (.long q2), .second, .val (.long q3), .second, .val (.long q4), .second, .unset, .unset, .unset, .unset, .unset, .unset, .unset, .unset, .unset, .unset, .unset, .unset, .unset, .unset, .unset, .unset, .unset, .unset, .unset, .unset] [(.long (q2 + q3))]))
    exact J1 _ (own_ne q2 hc4_32)
set_option maxRecDepth 65536 in
set_option maxHeartbeats 40000000 in
theorem comes_1 {Post : Tables → Env → Array Value → State → Outcome → State → Prop} (hpost : ∀ tb e args s v u, (limb_1_1.after args s (.returned v) u = true ∧ limb_1_2.after args s (.returned v) u = true ∧ True) → FrameEnd s (.returned v) u (Jvm.fieldLocs frame_1_writes args s ++ Jvm.arrayLocs frame_1_arrays args s ++ Jvm.staticLocs frame_1_statics s) 16 128 → Post tb e args s (.returned v) u) :
    ArmFor flags0 classFile x code maxLocals ret World_1 tables_1 room_1 Calls_1 rest_1 Pre_1 Post := by
  intro l hfl _ _ p e ha hc hk s m args below hf hA hF happ hP
  obtain ⟨hcalls, hrest, hpre⟩ := hP
  obtain ⟨-, -, -, hnamed, -, -, -, hat⟩ := (Spec.applies_iff hf).mp happ
  obtain ⟨hg, hn⟩ := and_e (Cond.before_iff.mp (show (Jvm.Cond.and given_1 narrow_1).before args s = true from hpre))
  obtain ⟨q0, r0⟩ := and_e hg
  obtain ⟨q1, r1⟩ := and_e r0
  obtain ⟨q2, r2⟩ := and_e r1
  obtain ⟨q3, r3⟩ := and_e r2
  obtain ⟨w0, w1, w2, w3, rfl⟩ : ∃ w0 w1 w2 w3 : Value, args = #[w0, w1, w2, w3] := by
    have hs : args.size = 4 := by simpa [Cond.value, given_1] using q0
    obtain ⟨L⟩ := args
    match L, hs with
    | [w0, w1, w2, w3], _ => exact ⟨w0, w1, w2, w3, rfl⟩
  have hw := fun d (hd : d ∈ tables_1) => atoms_spec (ws := Jvm.Cond.code x code maxLocals ret :: tables_1) hat d (List.mem_cons_of_mem _ hd)
  have hfit : Fit s := fun {y c} hc i hi => by
    obtain ⟨ha, rfl⟩ := Array.getElem?_eq_some_iff.mp hc
    have q := List.all_eq_true.mp ((Array.all_eq_true_iff_forall_mem.mp hF) _ (Array.getElem_mem ha)) i (List.mem_range.mpr hi)
    simpa [Array.getElem?_eq_getElem hi] using q
  obtain ⟨i0, ei0⟩ := isL_v q1
  obtain rfl : w0 = (.long i0) := Option.some.inj ei0
  obtain ⟨i1, ei1⟩ := isL_v q2
  obtain rfl : w1 = (.long i1) := Option.some.inj ei1
  obtain ⟨i2, ei2⟩ := isL_v q3
  obtain rfl : w2 = (.long i2) := Option.some.inj ei2
  obtain ⟨i3, ei3⟩ := isL_v r3
  obtain rfl : w3 = (.long i3) := Option.some.inj ei3
  obtain ⟨n, o, h1, h2, h3, _, L, rfl, ⟨rfl, N⟩, hq⟩ := rm0 l s _ hw tables_1 i0 i1 i2 i3  s.heap s.heap.size (Nat.le_refl _)  p e ha hc hk s m _ below hf ((Spec.applies_iff_loose hf).mp happ).1 ⟨rfl, State.Warmed39.refl s, rfl⟩ trivial
  refine ⟨n, _, h1, h2, h3, hpost _ _ _ _ _ _ ⟨Cond.after_iff.mpr rfl, Cond.after_iff.mpr (eq_i res_at (Term.int_eval (1)) rfl), trivial⟩ ⟨hq.1, hq.2.1, (hq.2.2.sift fun y hy => Or.inr (N y hy)).mono (by decide) (by decide)⟩⟩
theorem main_1_1 : Claimed_1_1 := comes_1 fun _ _ _ _ _ _ h hF => ⟨h.1, hF⟩
theorem main_1_2 : Claimed_1_2 := comes_1 fun _ _ _ _ _ _ h hF => ⟨h.2.1, hF⟩
end Jvm.Pilot.@@N@@
namespace Jvm.Pilot.@@N@@
open Jvm Jvm.ClassFile Sem Op Lib Jvm.Free Jvm.Stand Jvm.Pilot.@@N@@.Jvm.D
/-! MADE BY PROGRAM (witnessworld.py) out of the Statement's table words and the real class files: 9 classes; the members and pool entries that the words name. The judged class is class 1, her method 1. -/
namespace start1
open Jvm.ClassFile
def u (s : String) : CpInfo := .utf8 (stringToUtf16 s)
/-- a pool by its gaps: so many unusable entries, then the entry; so many at the end -/
def gap : Nat → List CpInfo → List CpInfo
  | 0, r => r
  | n + 1, r => .unusable :: gap n r
def poolList (es : List (Nat × CpInfo)) (last : Nat) : List CpInfo := es.foldr (fun e r => gap e.1 (e.2 :: r)) (gap last [])
def pool (es : List (Nat × CpInfo)) (last : Nat) : Array CpInfo := ⟨poolList es last⟩
def fileOf (pool : Array CpInfo) (this : Nat) (attrs : Array Attribute := #[]) (ms : Array MethodInfo := #[]) (fl : Nat := 33) (sup : Nat := 0) (ifs : Array Nat := #[]) (fds : Array FieldInfo := #[]) : ClassFile where
  minorVersion := 0
  majorVersion := 65
  constantPool := pool
  accessFlags := fl
  thisClass := this
  superClass := sup
  interfaces := ifs
  fields := fds
  methods := ms
  attributes := attrs
def plain (name : String) (sup : Option ClassId) : Class where
  name := name
  kind := .ordinary
  loader := none
  accessFlags := 33
  super := sup
  interfaces := #[]
  cf := none
  fields := #[]
  methods := #[]
  instanceTypes := #[]
  staticTypes := #[]
  resolved := #[]
  callSites := []
  init := .initialized
  statics := none
  mirror := none

def pool0 : Array CpInfo := pool [(5, u "<init>"), (0, u "()V"), (1, .class_ 10), (1, u "java/lang/Object")] 113

def k0c0 : Code := { maxStack := 0, maxLocals := 1, code := object_method_1_code, exceptionTable := #[], attributes := #[] }
def k0m0 : Method := { name := "<init>", desc := "()V", sig := { parameters := [], returnType := none }, accessFlags := 1, code := some k0c0 }
/-- java/lang/Object -/
def k0 : Class := { plain "java/lang/Object" none with
  accessFlags := 33
  interfaces := #[]
  cf := some (fileOf pool0 8 #[] #[{ accessFlags := 1, nameIndex := 5, descriptorIndex := 6, attributes := #[] }] 33 0 #[] #[])
  fields := #[]
  methods := #[k0m0]
  instanceTypes := #[]
  staticTypes := #[]
  resolved := Array.replicate 124 none
  statics := none }

def pool1 : Array CpInfo := pool [(2, .class_ 4), (1, u "java/lang/Object"), (0, u "<init>"), (0, u "()V"), (0, .methodref 8 9), (0, .class_ 10), (0, .nameAndType 11 12), (0, u "com/example/fuller_query/fullerquery/vectors/SplitMix"), (0, u "stream"), (0, u "(JJ)Lcom/example/fuller_query/fullerquery/vectors/SplitMix;"), (0, .methodref 8 14), (0, .nameAndType 15 16), (0, u "next"), (0, u "()J"), (0, .class_ 18), (0, u "com/example/fuller_query/fullerquery/vectors/SplitMixStreamPinLaw"), (2, u "law"), (0, u "(JJJJ)Z")] 3

def k1m0 : Method := { name := "<init>", desc := "()V", sig := { parameters := [], returnType := none }, accessFlags := 2, code := none }
def k1c1 : Code := { maxStack := 4, maxLocals := 28, code := code, exceptionTable := #[], attributes := #[] }
def k1m1 : Method := { name := "law", desc := "(JJJJ)Z", sig := { parameters := [.long, .long, .long, .long], returnType := some .boolean }, accessFlags := 9, code := some k1c1 }
/-- com/example/fuller_query/fullerquery/vectors/SplitMixStreamPinLaw -/
def k1 : Class := { plain "com/example/fuller_query/fullerquery/vectors/SplitMixStreamPinLaw" (some 0) with
  accessFlags := 49
  interfaces := #[]
  cf := some (fileOf pool1 17 #[] #[{ accessFlags := 2, nameIndex := 5, descriptorIndex := 6, attributes := #[] }, { accessFlags := 9, nameIndex := 21, descriptorIndex := 22, attributes := #[] }] 49 2 #[] #[])
  fields := #[]
  methods := #[k1m0, k1m1]
  instanceTypes := #[]
  staticTypes := #[]
  resolved := Array.replicate 26 none
  statics := none }

def pool2 : Array CpInfo := pool [(1, .methodref 2 3), (0, .class_ 4), (0, .nameAndType 5 6), (0, u "java/lang/Object"), (0, u "<init>"), (0, u "()V"), (0, .fieldref 8 9), (0, .class_ 10), (0, .nameAndType 11 12), (0, u "com/example/fuller_query/fullerquery/vectors/SplitMix"), (0, u "state"), (0, u "J"), (0, .methodref 8 14), (0, .nameAndType 15 16), (0, u "mix"), (0, u "(J)J"), (0, .methodref 8 18), (0, .nameAndType 5 19), (0, u "(J)V"), (0, .long 11400714819323198485), (3, u "next"), (0, u "()J"), (2, .long 13787848793156543929), (1, .long 10723151780598845931), (1, u "GAMMA"), (3, u "stream"), (0, u "(JJ)Lcom/example/fuller_query/fullerquery/vectors/SplitMix;")] 6

def k2c0 : Code := { maxStack := 3, maxLocals := 3, code := prog_40_method_1_code, exceptionTable := #[], attributes := #[] }
def k2m0 : Method := { name := "<init>", desc := "(J)V", sig := { parameters := [.long], returnType := none }, accessFlags := 2, code := some k2c0 }
def k2c1 : Code := { maxStack := 6, maxLocals := 4, code := prog_40_method_2_code, exceptionTable := #[], attributes := #[] }
def k2m1 : Method := { name := "stream", desc := "(JJ)Lcom/example/fuller_query/fullerquery/vectors/SplitMix;", sig := { parameters := [.long, .long], returnType := some (.object "com/example/fuller_query/fullerquery/vectors/SplitMix") }, accessFlags := 8, code := some k2c1 }
def k2c2 : Code := { maxStack := 5, maxLocals := 1, code := prog_40_method_3_code, exceptionTable := #[], attributes := #[] }
def k2m2 : Method := { name := "next", desc := "()J", sig := { parameters := [], returnType := some .long }, accessFlags := 0, code := some k2c2 }
def k2c3 : Code := { maxStack := 5, maxLocals := 4, code := prog_40_method_6_code, exceptionTable := #[], attributes := #[] }
def k2m3 : Method := { name := "mix", desc := "(J)J", sig := { parameters := [.long], returnType := some .long }, accessFlags := 10, code := some k2c3 }
/-- com/example/fuller_query/fullerquery/vectors/SplitMix -/
def k2 : Class := { plain "com/example/fuller_query/fullerquery/vectors/SplitMix" (some 0) with
  accessFlags := 32
  interfaces := #[]
  cf := some (fileOf pool2 8 #[] #[{ accessFlags := 2, nameIndex := 5, descriptorIndex := 19, attributes := #[] }, { accessFlags := 8, nameIndex := 36, descriptorIndex := 37, attributes := #[] }, { accessFlags := 0, nameIndex := 24, descriptorIndex := 25, attributes := #[] }, { accessFlags := 10, nameIndex := 15, descriptorIndex := 16, attributes := #[] }] 32 2 #[] #[{ accessFlags := 26, nameIndex := 32, descriptorIndex := 12, attributes := #[] }, { accessFlags := 2, nameIndex := 11, descriptorIndex := 12, attributes := #[] }])
  fields := #[{ name := "GAMMA", type := .long, accessFlags := 26, slot := 0, constantValue := 0 }, { name := "state", type := .long, accessFlags := 2, slot := 0, constantValue := 0 }]
  methods := #[k2m0, k2m1, k2m2, k2m3]
  instanceTypes := #[.long]
  staticTypes := #[.long]
  resolved := Array.replicate 44 none
  statics := none }

def pool3 : Array CpInfo := pool [(1, u "java/lang/Cloneable"), (0, .class_ 1), (0, u "java/lang/Object"), (0, .class_ 3)] 3

/-- java/lang/Cloneable -/
def k3 : Class := { plain "java/lang/Cloneable" (some 0) with
  accessFlags := 1537
  interfaces := #[]
  cf := some (fileOf pool3 2 #[] #[] 1537 4 #[] #[])
  fields := #[]
  methods := #[]
  instanceTypes := #[]
  staticTypes := #[]
  resolved := Array.replicate 8 none
  statics := none }

def pool4 : Array CpInfo := pool [(1, u "java/io/Serializable"), (0, .class_ 1), (0, u "java/lang/Object"), (0, .class_ 3)] 3

/-- java/io/Serializable -/
def k4 : Class := { plain "java/io/Serializable" (some 0) with
  accessFlags := 1537
  interfaces := #[]
  cf := some (fileOf pool4 2 #[] #[] 1537 4 #[] #[])
  fields := #[]
  methods := #[]
  instanceTypes := #[]
  staticTypes := #[]
  resolved := Array.replicate 8 none
  statics := none }

/-- the primitive byte -/
def k5 : Class := { plain "byte" none with kind := .primitive 'B', accessFlags := 0x411 }
/-- [B -/
def k6 : Class := { plain "[B" (some 0) with kind := .array 5 .byte, interfaces := #[3, 4], accessFlags := 1041 }

/-- the primitive int -/
def k7 : Class := { plain "int" none with kind := .primitive 'I', accessFlags := 0x411 }
/-- [I -/
def k8 : Class := { plain "[I" (some 0) with kind := .array 7 .int, interfaces := #[3, 4], accessFlags := 1041 }

def heap : Heap := #[]
def classes : Array Class := #[k0, k1, k2, k3, k4, k5, k6, k7, k8]
def interned : List (Array UInt16 × Addr) := []
def slotsUsed : Nat := 0
def theMethod : MethodId := ⟨1, 1⟩
def args0 : Array Value := #[.long 5, .long 6, .long 0, .long 3]
def aboutOver (below : List Frame) : State where
  vm := { classes := classes, interned := interned.toArray }
  heap := heap
  slotsUsed := slotsUsed
  threads := #[{ frames := .invoking theMethod args0 :: below }]
def below0 : List Frame := [.native { method := ⟨0, 0⟩, args := #[] }]
def about1 : State := aboutOver below0
def p0 : Program := .bare "" "" ""
def e0 : Env := launch0.env 0 0 0
theorem w_frames : about1.frames = Frame.invoking theMethod args0 :: below0 := rfl
set_option maxRecDepth 65536 in
theorem w_args : argsFit about1.vm theMethod args0 = true := by decide +kernel
set_option maxRecDepth 65536 in
theorem w_heap : heapFits about1 = true := by decide +kernel
set_option maxRecDepth 65536 in
theorem w_runnable : about1.curStatus? = some .runnable := by decide +kernel
set_option maxRecDepth 65536 in
theorem w_alone : about1.alone = true := by decide +kernel
set_option maxRecDepth 65536 in
theorem w_named : about1.methodNamed? x = some theMethod := by decide +kernel
set_option maxRecDepth 65536 in
theorem w_hears : about1.hears theMethod below0 = true := by decide +kernel
set_option maxRecDepth 65536 in
theorem w_ripe : about1.ripe theMethod args0 below0 = true := by decide +kernel
theorem w_running : about1.status = .running := rfl
set_option maxRecDepth 65536 in
theorem w_room : about1.hasRoom e0.platform room_1 = true :=
  launch0.hasRoom_least _ room_1 (by decide +kernel) (by decide +kernel) (by decide +kernel) (by decide +kernel) (by decide +kernel) (by decide +kernel)
theorem allAtoms_all (ts : List Jvm.Cond) (a : Array Jvm.Value) (st : Jvm.State) : (allAtoms ts).before a st = ts.all (fun c => c.before a st) := by
  induction ts with
  | nil => rfl
  | cons c t ih =>
    show (Jvm.Cond.and c (allAtoms t)).before a st = _
    rw [Jvm.Cond.before_and, ih, List.all_cons]
def words1 : List Jvm.Cond := Jvm.Cond.code x code maxLocals ret :: tables_1
/-- a 'code' word, met by the world's own term for the bytes: nothing is compared byte by byte -/
theorem code_word {y : MethodName} {bytes : ByteArray} {mx : Nat} {rt : Option FieldType} {a : Array Value} {s : State} {m : MethodId} {meth : Method} {c : Code} (h1 : s.methodNamed? y = some m) (h2 : s.vm.method? m = some meth) (h3 : meth.code = some c) (h4 : c.code = bytes)
    (h5 : (c.maxLocals == mx && c.exceptionTable.isEmpty && decide (c.maxStack ≤ mostOperands) && decide (meth.sig.returnType = rt) && !meth.locks && decide (parseMethodDescriptor y.desc = some meth.sig)) = true) : (Jvm.Cond.code y bytes mx rt).before a s = true := by
  simp only [Bool.and_eq_true, beq_iff_eq, Bool.not_eq_true', decide_eq_true_eq] at h5
  obtain ⟨⟨⟨⟨⟨g1, g2⟩, g3⟩, g4⟩, g5⟩, g6⟩ := h5
  simp [Cond.before, Cond.holds, Cond.value, h1, h2, h3, h4, g1, g2, g3, g4, g5, g6]
def isCode : Jvm.Cond → Bool
  | .code _ _ _ _ => true
  | _ => false
theorem all_split {L : List Jvm.Cond} {P : Jvm.Cond → Bool} (h1 : L.all (fun c => isCode c || P c) = true) (h2 : ∀ c ∈ L.filter isCode, P c = true) : L.all P = true := by
  refine List.all_eq_true.mpr fun c hc => ?_
  have h := List.all_eq_true.mp h1 c hc
  rcases Bool.eq_false_or_eq_true (isCode c) with hi | hi
  · exact h2 c (List.mem_filter.mpr ⟨hc, hi⟩)
  · simpa [hi] using h
set_option maxRecDepth 65536 in
theorem w_c0 : (Jvm.Cond.code x code maxLocals ret).before args0 about1 = true := code_word (m := ⟨1, 1⟩) (meth := k1m1) (c := k1c1) (by decide +kernel) rfl rfl rfl (by decide +kernel)
set_option maxRecDepth 65536 in
theorem w_c1 : (Jvm.Cond.code ({ cls := "com/example/fuller_query/fullerquery/vectors/SplitMix", name := "stream", desc := "(JJ)Lcom/example/fuller_query/fullerquery/vectors/SplitMix;" } : Jvm.MethodName) prog_40_method_2_code (4 : Nat) (Option.some (Jvm.ClassFile.FieldType.object "com/example/fuller_query/fullerquery/vectors/SplitMix"))).before args0 about1 = true := code_word (m := ⟨2, 1⟩) (meth := k2m1) (c := k2c1) (by decide +kernel) rfl rfl rfl (by decide +kernel)
set_option maxRecDepth 65536 in
theorem w_c2 : (Jvm.Cond.code ({ cls := "com/example/fuller_query/fullerquery/vectors/SplitMix", name := "mix", desc := "(J)J" } : Jvm.MethodName) prog_40_method_6_code (4 : Nat) (Option.some Jvm.ClassFile.FieldType.long)).before args0 about1 = true := code_word (m := ⟨2, 3⟩) (meth := k2m3) (c := k2c3) (by decide +kernel) rfl rfl rfl (by decide +kernel)
set_option maxRecDepth 65536 in
theorem w_c3 : (Jvm.Cond.code ({ cls := "com/example/fuller_query/fullerquery/vectors/SplitMix", name := "<init>", desc := "(J)V" } : Jvm.MethodName) prog_40_method_1_code (3 : Nat) (Option.none : Option Jvm.ClassFile.FieldType)).before args0 about1 = true := code_word (m := ⟨2, 0⟩) (meth := k2m0) (c := k2c0) (by decide +kernel) rfl rfl rfl (by decide +kernel)
set_option maxRecDepth 65536 in
theorem w_c4 : (Jvm.Cond.code ({ cls := "java/lang/Object", name := "<init>", desc := "()V" } : Jvm.MethodName) object_method_1_code (1 : Nat) (Option.none : Option Jvm.ClassFile.FieldType)).before args0 about1 = true := code_word (m := ⟨0, 0⟩) (meth := k0m0) (c := k0c0) (by decide +kernel) rfl rfl rfl (by decide +kernel)
set_option maxRecDepth 65536 in
theorem w_c5 : (Jvm.Cond.code ({ cls := "com/example/fuller_query/fullerquery/vectors/SplitMix", name := "next", desc := "()J" } : Jvm.MethodName) prog_40_method_3_code (1 : Nat) (Option.some Jvm.ClassFile.FieldType.long)).before args0 about1 = true := code_word (m := ⟨2, 2⟩) (meth := k2m2) (c := k2c2) (by decide +kernel) rfl rfl rfl (by decide +kernel)
def codes1 : List Jvm.Cond := [Jvm.Cond.code x code maxLocals ret, Jvm.Cond.code ({ cls := "com/example/fuller_query/fullerquery/vectors/SplitMix", name := "stream", desc := "(JJ)Lcom/example/fuller_query/fullerquery/vectors/SplitMix;" } : Jvm.MethodName) prog_40_method_2_code (4 : Nat) (Option.some (Jvm.ClassFile.FieldType.object "com/example/fuller_query/fullerquery/vectors/SplitMix")), Jvm.Cond.code ({ cls := "com/example/fuller_query/fullerquery/vectors/SplitMix", name := "mix", desc := "(J)J" } : Jvm.MethodName) prog_40_method_6_code (4 : Nat) (Option.some Jvm.ClassFile.FieldType.long), Jvm.Cond.code ({ cls := "com/example/fuller_query/fullerquery/vectors/SplitMix", name := "<init>", desc := "(J)V" } : Jvm.MethodName) prog_40_method_1_code (3 : Nat) (Option.none : Option Jvm.ClassFile.FieldType), Jvm.Cond.code ({ cls := "java/lang/Object", name := "<init>", desc := "()V" } : Jvm.MethodName) object_method_1_code (1 : Nat) (Option.none : Option Jvm.ClassFile.FieldType), Jvm.Cond.code ({ cls := "com/example/fuller_query/fullerquery/vectors/SplitMix", name := "next", desc := "()J" } : Jvm.MethodName) prog_40_method_3_code (1 : Nat) (Option.some Jvm.ClassFile.FieldType.long)]
set_option maxRecDepth 65536 in
theorem codes_eq : words1.filter isCode = codes1 := rfl
theorem w_codes : ∀ c ∈ words1.filter isCode, c.before args0 about1 = true := by
  rw [codes_eq]
  intro c hc
  simp only [codes1, List.mem_cons, List.not_mem_nil, or_false] at hc
  rcases hc with rfl | rfl | rfl | rfl | rfl | rfl
  · exact w_c0
  · exact w_c1
  · exact w_c2
  · exact w_c3
  · exact w_c4
  · exact w_c5
set_option maxRecDepth 65536 in
theorem w_t1 : (words1.take 24).all (fun c => isCode c || c.before args0 about1) = true := by decide +kernel
set_option maxRecDepth 65536 in
theorem w_t2 : (words1.drop 24).all (fun c => isCode c || c.before args0 about1) = true := by decide +kernel
theorem w_tables : (allAtoms (Jvm.Cond.code x code maxLocals ret :: tables_1)).before args0 about1 = true := by
  rw [allAtoms_all]
  show words1.all (fun c => c.before args0 about1) = true
  refine all_split ?_ w_codes
  rw [← List.take_append_drop 24 words1, List.all_append, w_t1, w_t2]
  rfl
set_option maxRecDepth 65536 in
theorem w_case : (Jvm.Cond.and given_1 narrow_1).before args0 about1 = true := by decide +kernel
theorem w_applies : (headSpec (Jvm.Cond.code x code maxLocals ret :: tables_1) room_1).applies x e0.platform about1 = true :=
  (Spec.applies_iff w_frames).mpr ⟨w_running, w_runnable, w_alone, w_named, w_hears, w_ripe, w_room, w_tables⟩
theorem atStart : AtStart classFile x code maxLocals ret World_1 tables_1 room_1 Calls_1 rest_1 Pre_1 launch0 p0 e0 about1 theMethod args0 below0 :=
  ⟨lists_1, trivial, launch0.admits_env _ _ _, launch0.least_env, fairChoices_fair.cas, fairChoices_fair.clock, w_frames, w_args, w_heap, w_applies, trivial, trivial, w_case⟩
end start1
theorem witness_1 : WitnessClaimed_1 := ⟨start1.p0, start1.e0, start1.about1, start1.theMethod, start1.args0, start1.below0, start1.atStart⟩
end Jvm.Pilot.@@N@@
