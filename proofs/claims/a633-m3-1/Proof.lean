import JvmDerived
import JvmDerived.Pilot.@@N@@Statement
import JvmDerived.Pilot.@@N@@Code
set_option linter.unusedVariables false
set_option linter.unusedSimpArgs false
namespace Jvm.Pilot.@@N@@
open Jvm Jvm.ClassFile Sem Op Lib Jvm.Free Jvm.Stand Jvm.LawKit Jvm.RoadKit Bundle Jvm.Pilot.@@N@@.Jvm.D
section Own
variable {p : Program} {l : Launch} {e : Env} {R : Room} {s : State} {m : MethodId} {args : Array Value} {below : List Frame} {meth : Method} {c : Code} {T : State} {locs : List Loc} {cells slots : Nat}
/-- the walk from the state t ends as the contract Q says; End: the narrow frame or the wide one -/
def Go (End : State → Outcome → State → List Loc → Nat → Nat → Prop) (p : Program) (e : Env) (below : List Frame) (s : State) (rc rs : Nat) (Q : Option Value → Heap → List Loc → Prop) (t : State) : Prop :=
  ∃ s₂ o, Steps p.tables e below t s₂ ∧ s₂.status = .running ∧ Ended s₂ below o ∧ ∃ v L, o = .returned v ∧ Q v s₂.heap L ∧ End s o s₂ L rc rs
variable {End : State → Outcome → State → List Loc → Nat → Nat → Prop}
theorem go {rc rs : Nat} {Q : Option Value → Heap → List Loc → Prop} {t t' : State} (k : ∀ target, Steps p.tables e below t' target → Steps p.tables e below t target) (h : Go End p e below s rc rs Q t') : Go End p e below s rc rs Q t := by
  obtain ⟨s₂, o, h1, h2⟩ := h
  exact ⟨s₂, o, k _ h1, h2⟩
theorem goT {rc rs : Nat} {Q : Option Value → Heap → List Loc → Prop} {t t' : State} (k : Steps p.tables e below t t') (h : Go End p e below s rc rs Q t') : Go End p e below s rc rs Q t := by
  obtain ⟨s₂, o, h1, h2⟩ := h
  exact ⟨s₂, o, k.trans h1, h2⟩
theorem goRet {rc rs : Nat} {Q : Option Value → Heap → List Loc → Prop} (X : Stand p l e R s m args below meth c T locs cells slots) (hx : p.tables.exec = Jvm.exec) (hlk : meth.locks = false) {pc : Nat} {Ls : Array Slot} {w : Value} {t : FieldType} {i : Instr} {rest : List Value} (hret : meth.sig.returnType = some t) (hn : narrow t w = w)
    (hi : (i = .ireturn ∧ (t = .int ∨ t = .boolean ∨ t = .byte ∨ t = .char ∨ t = .short) ∧ ∃ z, w = .int z) ∨ (i = .lreturn ∧ t = .long ∧ ∃ z, w = .long z) ∨ (i = .dreturn ∧ t = .double ∧ ∃ z, w = .double z) ∨ (i = .freturn ∧ t = .float ∧ ∃ z, w = .float z) ∨ (i = .areturn ∧ t.isReference = true ∧ w.isRef = true))
    (hd : decode c.code pc = .ok (i, 1)) (hc : cells ≤ rc) (hs : slots ≤ rs) (hq : Q (some w) T.heap locs) : Go FrameEnd p e below s rc rs Q (T.setTop (mkF m pc Ls (w :: rest))) := by
  obtain ⟨fs, hr, hrun, hended, hW, hsame⟩ := X.leave (v := some w) (fun h => by rw [hret] at h; cases h) hlk
  refine ⟨_, _, retOut X hx hret hn hi hd hr, hrun, hended, _, _, rfl, ?_, ⟨_, rfl⟩, hW, hsame.mono hc hs⟩
  show Q _ T.heap _
  exact hq
theorem goRetN {rc rs : Nat} {Q : Option Value → Heap → List Loc → Prop} (X : Stand p l e R s m args below meth c T locs cells slots) (hx : p.tables.exec = Jvm.exec) (hlk : meth.locks = false) {pc : Nat} {Ls : Array Slot} {z : Int32} {t : FieldType} {rest : List Value} (hret : meth.sig.returnType = some t) (ht : t = .boolean ∨ t = .byte ∨ t = .char ∨ t = .short)
    (hd : decode c.code pc = .ok (.ireturn, 1)) (hc : cells ≤ rc) (hs : slots ≤ rs) (hq : Q (some (.int (nar t z))) T.heap locs) : Go FrameEnd p e below s rc rs Q (T.setTop (mkF m pc Ls (.int z :: rest))) := by
  obtain ⟨fs, hr, hrun, hended, hW, hsame⟩ := X.leave (v := some (.int (nar t z))) (fun h => by rw [hret] at h; cases h) hlk
  refine ⟨_, _, retN X hx hret ht hd hr, hrun, hended, _, _, rfl, ?_, ⟨_, rfl⟩, hW, hsame.mono hc hs⟩
  show Q _ T.heap _
  exact hq
theorem goRet0 {rc rs : Nat} {Q : Option Value → Heap → List Loc → Prop} (X : Stand p l e R s m args below meth c T locs cells slots) (hx : p.tables.exec = Jvm.exec) (hlk : meth.locks = false) {pc : Nat} {Ls : Array Slot} (hret : meth.sig.returnType = none)
    (hd : decode c.code pc = .ok (.return_, 1)) (hc : cells ≤ rc) (hs : slots ≤ rs) (hq : Q none T.heap locs) : Go FrameEnd p e below s rc rs Q (T.setTop (mkF m pc Ls [])) := by
  obtain ⟨fs, hr, hrun, hended, hW, hsame⟩ := X.leave (v := none) (fun _ => rfl) hlk
  refine ⟨_, _, X.returnOut hx hret hd hr, hrun, hended, _, _, rfl, ?_, ⟨_, rfl⟩, hW, hsame.mono hc hs⟩
  show Q _ T.heap _
  exact hq
end Own
def own_mix (x : Int64) : Int64 :=
  ((((((x ^^^ ((x.toUInt64 >>> ((30 : Int32) &&& 0x3f).toInt64.toUInt64).toInt64)) * (-4658895280553007687 : Int64)) ^^^ ((((x ^^^ ((x.toUInt64 >>> ((30 : Int32) &&& 0x3f).toInt64.toUInt64).toInt64)) * (-4658895280553007687 : Int64)).toUInt64 >>> ((27 : Int32) &&& 0x3f).toInt64.toUInt64).toInt64)) * (-7723592293110705685 : Int64))) ^^^ ((((((x ^^^ ((x.toUInt64 >>> ((30 : Int32) &&& 0x3f).toInt64.toUInt64).toInt64)) * (-4658895280553007687 : Int64)) ^^^ ((((x ^^^ ((x.toUInt64 >>> ((30 : Int32) &&& 0x3f).toInt64.toUInt64).toInt64)) * (-4658895280553007687 : Int64)).toUInt64 >>> ((27 : Int32) &&& 0x3f).toInt64.toUInt64).toInt64)) * (-7723592293110705685 : Int64)).toUInt64 >>> ((31 : Int32) &&& 0x3f).toInt64.toUInt64).toInt64))
def own_unmix (y : Int64) : Int64 := ((((((((y ^^^ ((y.toUInt64 >>> ((31 : Int32) &&& 0x3f).toInt64.toUInt64).toInt64)) ^^^ ((y.toUInt64 >>> ((62 : Int32) &&& 0x3f).toInt64.toUInt64).toInt64)) * (3573116690164977347 : Int64)) ^^^ (((((y ^^^ ((y.toUInt64 >>> ((31 : Int32) &&& 0x3f).toInt64.toUInt64).toInt64)) ^^^ ((y.toUInt64 >>> ((62 : Int32) &&& 0x3f).toInt64.toUInt64).toInt64)) * (3573116690164977347 : Int64)).toUInt64 >>> ((27 : Int32) &&& 0x3f).toInt64.toUInt64).toInt64)) ^^^ (((((y ^^^ ((y.toUInt64 >>> ((31 : Int32) &&& 0x3f).toInt64.toUInt64).toInt64)) ^^^ ((y.toUInt64 >>> ((62 : Int32) &&& 0x3f).toInt64.toUInt64).toInt64)) * (3573116690164977347 : Int64)).toUInt64 >>> ((54 : Int32) &&& 0x3f).toInt64.toUInt64).toInt64)) * (-7575587736534282103 : Int64)) ^^^ ((((((((y ^^^ ((y.toUInt64 >>> ((31 : Int32) &&& 0x3f).toInt64.toUInt64).toInt64)) ^^^ ((y.toUInt64 >>> ((62 : Int32) &&& 0x3f).toInt64.toUInt64).toInt64)) * (3573116690164977347 : Int64)) ^^^ (((((y ^^^ ((y.toUInt64 >>> ((31 : Int32) &&& 0x3f).toInt64.toUInt64).toInt64)) ^^^ ((y.toUInt64 >>> ((62 : Int32) &&& 0x3f).toInt64.toUInt64).toInt64)) * (3573116690164977347 : Int64)).toUInt64 >>> ((27 : Int32) &&& 0x3f).toInt64.toUInt64).toInt64)) ^^^ (((((y ^^^ ((y.toUInt64 >>> ((31 : Int32) &&& 0x3f).toInt64.toUInt64).toInt64)) ^^^ ((y.toUInt64 >>> ((62 : Int32) &&& 0x3f).toInt64.toUInt64).toInt64)) * (3573116690164977347 : Int64)).toUInt64 >>> ((54 : Int32) &&& 0x3f).toInt64.toUInt64).toInt64)) * (-7575587736534282103 : Int64)).toUInt64 >>> ((30 : Int32) &&& 0x3f).toInt64.toUInt64).toInt64)) ^^^ ((((((((y ^^^ ((y.toUInt64 >>> ((31 : Int32) &&& 0x3f).toInt64.toUInt64).toInt64)) ^^^ ((y.toUInt64 >>> ((62 : Int32) &&& 0x3f).toInt64.toUInt64).toInt64)) * (3573116690164977347 : Int64)) ^^^ (((((y ^^^ ((y.toUInt64 >>> ((31 : Int32) &&& 0x3f).toInt64.toUInt64).toInt64)) ^^^ ((y.toUInt64 >>> ((62 : Int32) &&& 0x3f).toInt64.toUInt64).toInt64)) * (3573116690164977347 : Int64)).toUInt64 >>> ((27 : Int32) &&& 0x3f).toInt64.toUInt64).toInt64)) ^^^ (((((y ^^^ ((y.toUInt64 >>> ((31 : Int32) &&& 0x3f).toInt64.toUInt64).toInt64)) ^^^ ((y.toUInt64 >>> ((62 : Int32) &&& 0x3f).toInt64.toUInt64).toInt64)) * (3573116690164977347 : Int64)).toUInt64 >>> ((54 : Int32) &&& 0x3f).toInt64.toUInt64).toInt64)) * (-7575587736534282103 : Int64)).toUInt64 >>> ((60 : Int32) &&& 0x3f).toInt64.toUInt64).toInt64))
theorem own_sh (x : Int64) (n : Int32) (k : Nat) (h : ((n &&& 0x3f).toInt64.toUInt64).toNat % 64 = k) : ((x.toUInt64 >>> (n &&& 0x3f).toInt64.toUInt64).toInt64).toBitVec = x.toBitVec >>> k := by
  show (x.toUInt64 >>> (n &&& 0x3f).toInt64.toUInt64).toBitVec = _
  apply BitVec.eq_of_toNat_eq
  show (x.toUInt64 >>> (n &&& 0x3f).toInt64.toUInt64).toNat = _
  rw [UInt64.toNat_shiftRight, h, BitVec.toNat_ushiftRight]
  rfl
theorem own_xs (x : BitVec 64) (k : Nat) (h : 64 ≤ k + k + k) : ((x ^^^ (x >>> k)) ^^^ ((x ^^^ (x >>> k)) >>> k)) ^^^ ((x ^^^ (x >>> k)) >>> (k + k)) = x := by
  apply BitVec.eq_of_getLsbD_eq
  intro i hi
  simp only [BitVec.getLsbD_xor, BitVec.getLsbD_ushiftRight]
  have e1 : k + (k + i) = k + k + i := by omega
  have e2 : x.getLsbD (k + (k + k + i)) = false := BitVec.getLsbD_of_ge _ _ (by omega)
  rw [e1, e2]
  cases x.getLsbD i <;> cases x.getLsbD (k + i) <;> cases x.getLsbD (k + k + i) <;> rfl
theorem own_back (x : Int64) (n n2 : Int32) (k : Nat) (h : ((n &&& 0x3f).toInt64.toUInt64).toNat % 64 = k) (h2 : ((n2 &&& 0x3f).toInt64.toUInt64).toNat % 64 = k + k) (hk : 64 ≤ k + k + k) {y : Int64} (hy : y = x ^^^ ((x.toUInt64 >>> (n &&& 0x3f).toInt64.toUInt64).toInt64)) :
    ((y ^^^ ((y.toUInt64 >>> (n &&& 0x3f).toInt64.toUInt64).toInt64)) ^^^ ((y.toUInt64 >>> (n2 &&& 0x3f).toInt64.toUInt64).toInt64)) = x := by
  apply Int64.toBitVec_inj.mp
  have e : y.toBitVec = x.toBitVec ^^^ (x.toBitVec >>> k) := by rw [hy, Int64.toBitVec_xor, own_sh x n k h]
  rw [Int64.toBitVec_xor, Int64.toBitVec_xor, own_sh y n k h, own_sh y n2 (k + k) h2, e]
  exact own_xs _ k hk
theorem own_mul (x a b : Int64) (h : a * b = 1) : x * a * b = x := by rw [Int64.mul_assoc, h, Int64.mul_one]
theorem own_inv (x : Int64) : own_unmix (own_mix x) = x := by
  unfold own_mix
  generalize hA : (x ^^^ ((x.toUInt64 >>> ((30 : Int32) &&& 0x3f).toInt64.toUInt64).toInt64)) = A
  generalize hB : ((A * (-4658895280553007687 : Int64)) ^^^ (((A * (-4658895280553007687 : Int64)).toUInt64 >>> ((27 : Int32) &&& 0x3f).toInt64.toUInt64).toInt64)) = B
  generalize hC : ((B * (-7723592293110705685 : Int64)) ^^^ (((B * (-7723592293110705685 : Int64)).toUInt64 >>> ((31 : Int32) &&& 0x3f).toInt64.toUInt64).toInt64)) = C
  unfold own_unmix
  rw [own_back (B * (-7723592293110705685 : Int64)) 31 62 31 (by decide) (by decide) (by decide) hC.symm, own_mul B _ _ (by decide), own_back (A * (-4658895280553007687 : Int64)) 27 54 27 (by decide) (by decide) (by decide) hB.symm, own_mul A _ _ (by decide), own_back x 30 60 30 (by decide) (by decide) (by decide) hA.symm]
theorem own_inj {x y : Int64} (h : own_mix x = own_mix y) : x = y := by rw [← own_inv x, ← own_inv y, h]
theorem own_vK : FP.Core.val64 (4368491638549381120 : UInt64) = .fin false 4503599627370496 (-105) := by decide +kernel
theorem own_qmin : FP.Core.b64.qmin = -1074 := by decide +kernel
theorem own_qmax : FP.Core.b64.qmax = 971 := by decide +kernel
theorem own_tails : FP.Core.b64.tails = 4503599627370496 := by decide +kernel
theorem own_exps : FP.Core.b64.exps = 2048 := by decide +kernel
theorem own_zm (a : Int64) : FP.Core.zval FP.Core.b64 (FP.Core.val64 (FP.Core.dmul (FP.Core.l2d a) (4368491638549381120 : UInt64))) * ((9007199254740992 : Nat) : Int) = FP.Core.zval FP.Core.b64 (FP.Core.val64 (FP.Core.l2d a)) := by
  obtain ⟨sg, cc, qq, hv⟩ := FP.Core.l2d_fin a
  have hf := FP.Core.val64_fits (FP.Core.l2d a)
  rw [FP.Core.val64_dmul, own_vK]
  rw [hv] at hf ⊢
  by_cases hc : cc = 0
  · subst hc
    show FP.Core.zval _ (FP.Core.roundRatio _ _ (0 * _) 1 _) * _ = _
    rw [Nat.zero_mul]; cases sg <;> simp [FP.Core.roundRatio, FP.Core.zval, FP.Core.zmag, FP.Core.sgn, FP.Core.inUnits, FP.Core.signed]
  · have ha : a.toInt ≠ 0 := by
      intro h0
      have h1 : a = 0 := by rw [← Int64.toInt_inj, h0]; rfl
      subst h1
      have : FP.Core.val64 (FP.Core.l2d 0) = .fin false 0 (-1074) := by decide +kernel
      rw [this] at hv; injection hv with _ h2 _; exact hc h2.symm
    have hb := (FP.Core.l2d_big ha).1
    have hq : -1074 + 53 ≤ qq := by
      have hd : FP.Core.decode FP.Core.b64 (FP.Core.l2d a).toNat = .fin sg cc qq := hv
      generalize (FP.Core.l2d a).toNat = nn at hb hd
      unfold FP.Core.decode at hd
      have hE : 1023 ≤ FP.Core.fieldE FP.Core.b64 nn := by
        unfold FP.Core.fieldE; rw [own_tails, own_exps]; omega
      split at hd
      · split at hd <;> exact absurd hd nofun
      · split at hd
        · omega
        · injection hd with _ _ h3; rw [own_qmin] at h3; omega
    obtain ⟨f1, f2, f3, f4⟩ := hf
    rw [own_qmin] at f2 f4; rw [own_qmax] at f3
    have f4' : FP.Core.b64.tails ≤ cc := by rcases f4 with f4 | f4; · omega
                                            · exact f4
    have hr : FP.Core.round FP.Core.b64 (FP.Core.exactProduct (.fin sg cc qq) (.fin false 4503599627370496 (-105))) = .fin sg cc (qq - 53) := by
      show FP.Core.roundRatio _ (sg != false) (cc * 4503599627370496) 1 (qq + -105) = _
      rw [show (sg != false) = sg by cases sg <;> rfl]
      refine FP.Core.roundRatio_exact FP.Core.good_b64 (by decide) ⟨f1, by rw [own_qmin]; omega, by rw [own_qmax]; omega, Or.inr f4'⟩ ?_
      rw [show (qq + -105 - (qq - 53)).toNat = 0 by omega, show (qq - 53 - (qq + -105)).toNat = 52 by omega]
      omega
    rw [hr]
    show FP.Core.signed sg (cc * 2 ^ (qq - 53 - FP.Core.b64.qmin).toNat) * _ = FP.Core.signed sg (cc * 2 ^ (qq - FP.Core.b64.qmin).toNat)
    rw [← FP.Core.signed_mul, own_qmin, Nat.mul_assoc, show (9007199254740992 : Nat) = 2 ^ 53 by decide +kernel, ← Nat.pow_add, show (qq - 53 - -1074).toNat + 53 = (qq - -1074).toNat by omega]
theorem own_nan (a : Int64) : FP.Core.val64 (FP.Core.dmul (FP.Core.l2d a) (4368491638549381120 : UInt64)) ≠ .nan := by
  obtain ⟨sg, cc, qq, hv⟩ := FP.Core.l2d_fin a
  rw [FP.Core.val64_dmul, own_vK, hv]
  exact FP.Core.roundRatio_ne_nan _ _ _ _ _
theorem own_zl (a : Int64) (h : a.toInt.natAbs ≤ 2 ^ 53) : FP.Core.zval FP.Core.b64 (FP.Core.val64 (FP.Core.l2d a)) = a.toInt * ((FP.Core.one64 : Nat) : Int) := by
  have := FP.Core.whole_zval FP.Core.good_b64 (FP.Core.val64_fits _) (FP.Core.l2d_int h)
  rw [FP.Core.pow_qmin64] at this; exact this
theorem own_zlt (u j : Int64) (h1 : 0 ≤ u.toInt) (h2 : u.toInt < 9007199254740992) : FP.Core.zval FP.Core.b64 (FP.Core.val64 (FP.Core.l2d u)) < FP.Core.zval FP.Core.b64 (FP.Core.val64 (FP.Core.l2d j)) ↔ u.toInt < j.toInt := by
  have e53 : (2 : Nat) ^ 53 = 9007199254740992 := by decide +kernel
  have hp : (0 : Int) < ((FP.Core.one64 : Nat) : Int) := by exact_mod_cast FP.Core.one64_pos
  rw [own_zl u (by rw [e53]; omega)]
  by_cases hj : j.toInt.natAbs ≤ 2 ^ 53
  · rw [own_zl j hj]; exact Int.mul_lt_mul_right hp
  · rw [e53] at hj
    by_cases hs : j.toInt < 0
    · have q : FP.Core.zval FP.Core.b64 (FP.Core.val64 (FP.Core.l2d j)) ≤ FP.Core.zval FP.Core.b64 (FP.Core.val64 0) := by
        rw [FP.Core.val64_l2d]
        refine FP.Core.zval_round_le FP.Core.good_b64 (FP.Core.val64_fits _) (by rw [FP.Core.val64_zero]; exact nofun) (e0 := FP.Core.b64.qmin) (Int.le_refl _) (by rw [own_qmin]; decide) ?_
        rw [FP.Core.zval64_zero, Int.zero_mul, decide_eq_true hs]
        simp only [FP.Core.signed, if_true]; omega
      rw [FP.Core.zval64_zero] at q
      have q2 := Int.mul_nonneg h1 (Int.le_of_lt hp)
      constructor <;> intro _ <;> omega
    · have q : FP.Core.zval FP.Core.b64 (FP.Core.val64 (FP.Core.l2d 9007199254740992)) ≤ FP.Core.zval FP.Core.b64 (FP.Core.val64 (FP.Core.l2d j)) := by
        conv => rhs; rw [FP.Core.val64_l2d]
        refine FP.Core.zval_round_ge FP.Core.good_b64 (FP.Core.val64_fits _) (by obtain ⟨sg, cc, qq, hv⟩ := FP.Core.l2d_fin 9007199254740992; rw [hv]; exact nofun) (e0 := FP.Core.b64.qmin) (Int.le_refl _) (by rw [own_qmin]; decide) ?_
        rw [own_zl _ (by decide +kernel), decide_eq_false hs, Int.sub_self, show (2 ^ (0 : Int).toNat : Nat) = 1 by decide]
        simp only [FP.Core.signed, FP.Core.inUnits, Bool.false_eq_true, if_false]
        rw [Int.zero_sub, FP.Core.pow_qmin64, show (9007199254740992 : Int64).toInt = 9007199254740992 by decide, Int.natCast_mul]
        have := Int.mul_le_mul_of_nonneg_right (show (9007199254740992 : Int) ≤ (j.toInt.natAbs : Int) by omega) (Int.le_of_lt hp)
        omega
      rw [own_zl _ (by decide +kernel), show (9007199254740992 : Int64).toInt = 9007199254740992 by decide] at q
      have q2 := Int.mul_lt_mul_of_pos_right h2 hp
      constructor <;> intro _ <;> omega
theorem own_cmp (u j : Int64) (h1 : 0 ≤ u.toInt) (h2 : u.toInt < 9007199254740992) : (cmpValue (FP.dcmp (FP.dmul (FP.l2d u) (4368491638549381120 : UInt64)) (FP.dmul (FP.l2d j) (4368491638549381120 : UInt64))) .g < 0) ↔ u < j := by
  have h : FP.dcmp (FP.dmul (FP.l2d u) (4368491638549381120 : UInt64)) (FP.dmul (FP.l2d j) (4368491638549381120 : UInt64)) = some (compare (FP.Core.zval FP.Core.b64 (FP.Core.val64 (FP.Core.l2d u))) (FP.Core.zval FP.Core.b64 (FP.Core.val64 (FP.Core.l2d j)))) := by
    rw [← own_zm u, ← own_zm j, FP.Core.compare_mul_pos _ _ _ (by decide)]
    exact FP.Core.dcmp_zval (own_nan u) (own_nan j)
  rw [h, Int64.lt_iff_toInt_lt, ← own_zlt u j h1 h2]
  generalize FP.Core.zval FP.Core.b64 (FP.Core.val64 (FP.Core.l2d u)) = z1
  generalize FP.Core.zval FP.Core.b64 (FP.Core.val64 (FP.Core.l2d j)) = z2
  by_cases q : z1 < z2
  · rw [show compare z1 z2 = .lt by simp only [compare, compareOfLessAndEq, if_pos q]]; exact ⟨fun _ => q, fun _ => by decide⟩
  · by_cases q2 : z1 = z2
    · subst q2; rw [show compare z1 z1 = .eq by simp only [compare, compareOfLessAndEq, if_neg (Int.lt_irrefl z1), if_pos]]; exact ⟨fun w => absurd w (by decide), fun w => absurd w q⟩
    · rw [show compare z1 z2 = .gt by simp only [compare, compareOfLessAndEq, if_neg q, if_neg q2]]; exact ⟨fun w => absurd w (by decide), fun w => absurd w q⟩
theorem own_nn (a : Int64) : Jvm.Free.Fl.NoNaN64 (FP.dmul (FP.l2d a) (4368491638549381120 : UInt64)) := by
  exact Jvm.Free.Fl.val64_no.mpr (own_nan a)
theorem own_ub (d : Int64) : 0 ≤ (((d.toUInt64 >>> ((11 : Int32) &&& 0x3f).toInt64.toUInt64).toInt64)).toInt ∧ (((d.toUInt64 >>> ((11 : Int32) &&& 0x3f).toInt64.toUInt64).toInt64)).toInt < 9007199254740992 := by
  rw [show (((11 : Int32) &&& 0x3f).toInt64.toUInt64) = 11 from by decide]
  have h : (d.toUInt64 >>> 11).toNat < 9007199254740992 := by
    rw [UInt64.toNat_shiftRight]; have := d.toUInt64.toNat_lt; rw [show (11 : UInt64).toNat % 64 = 11 from by decide, Nat.shiftRight_eq_div_pow]; omega
  generalize d.toUInt64 >>> 11 = z at h ⊢
  have q : z.toInt64.toInt = (z.toNat : Int) := by
    show z.toBitVec.toInt = _
    rw [BitVec.toInt_eq_toNat_of_lt (by show 2 * z.toNat < _; omega)]; rfl
  rw [q]; omega
def own_ch (u j : Int64) : Int32 := if u < j then 1 else 0
theorem d1_0 : decode prog_78_method_1_code 0 = .ok (.aload_n 0, 1) := by decide +kernel
theorem d1_1 : decode prog_78_method_1_code 1 = .ok (.invokespecial 1, 3) := by decide +kernel
theorem d1_4 : decode prog_78_method_1_code 4 = .ok (.aload_n 0, 1) := by decide +kernel
theorem d1_5 : decode prog_78_method_1_code 5 = .ok (.lload_n 1, 1) := by decide +kernel
theorem d1_6 : decode prog_78_method_1_code 6 = .ok (.putfield 7, 3) := by decide +kernel
theorem d1_9 : decode prog_78_method_1_code 9 = .ok (.return_, 1) := by decide +kernel
theorem pn_1 : plainName "com/example/sunder/sunder/random/SeededRandom" = true := by first | (simp [plainName, overriddenIn]; done) | decide +kernel
theorem ef_1 (m : MethodId) (a1 : Addr) (q2 : Int64) : entryFrame m #[(.ref a1), (.long q2)] 3 = mkF m 0 #[.val (.ref a1), .val (.long q2), .second] [] := by first | (simp [entryFrame, mkF, argsToLocals, Value.category]; done) | rfl
def Q1 (Z : State) (a1 : Addr) (q2 : Int64) (u1 : Value) (h0 : Heap) (n0 : Nat) (v : Option Value) (h : Heap) (L : List Loc) : Prop := v = none ∧ Fr n0 L ∧ (Keep h0 h [a1]) ∧ (Fld Z h a1 "com/example/sunder/sunder/random/SeededRandom" "state" "J" (.long q2))
set_option maxRecDepth 65536 in
set_option maxHeartbeats 40000000 in
theorem rm1 (l : Launch) (Z : State) (a0 : Array Value) (hw : ∀ d ∈ tables_1, d.before a0 Z = true) (ws : List Jvm.Cond) (a1 : Addr) (q2 : Int64) (u1 : Value) (h0 : Heap) (n0 : Nat) (Z0 : n0 ≤ h0.size) (P0 : Exa Z h0 a1 "com/example/sunder/sunder/random/SeededRandom") (P1 : Fld Z h0 a1 "com/example/sunder/sunder/random/SeededRandom" "state" "J" u1) (P2 : n0 ≤ a1) :
    MetFree l (⟨"com/example/sunder/sunder/random/SeededRandom", "<init>", "(J)V"⟩ : MethodName) (head1 (Jvm.Cond.code (⟨"com/example/sunder/sunder/random/SeededRandom", "<init>", "(J)V"⟩ : MethodName) prog_78_method_1_code 3 none :: ws) ({ frames := 1, cells := 0, slots := 0, locals := 12 } : Room)) (fun a U => a = #[(.ref a1), (.long q2)] ∧ Z.Warmed39 U.vm ∧ U.heap = h0) (fun _ _ _ _ _ => True) (fun _ U o U' => ∃ v L, o = .returned v ∧ Q1 Z a1 q2 u1 h0 n0 v U'.heap L ∧ FrameEnd U o U' L ({ frames := 1, cells := 0, slots := 0, locals := 12 } : Room).cells ({ frames := 1, cells := 0, slots := 0, locals := 12 } : Room).slots) := by
  refine MetFree.of_bodySF (plainFor_of_name pn_1) hisR ?_
  intro p e s m args below meth c s₁ Bd hml0 hP hK
  obtain ⟨rfl, hZ, hh⟩ := hP
  have hx := Bd.exec
  have hby := Bd.bytes
  have hml : c.maxLocals = 3 := hml0
  have hown : s.vm.findClass "com/example/sunder/sunder/random/SeededRandom" = some m.cls := findClass_of_methodNamed Bd.named
  have hnm := (name_of_methodNamed Bd.named Bd.method).1
  have X0 : Stand p l e ({ frames := 1, cells := 0, slots := 0, locals := 12 } : Room) s m #[(.ref a1), (.long q2)] below meth c s₁ [] 0 0 := Stand.of_body Bd
  have e0 : s₁.heap = h0 := by rw [← hh, Bd.state]; rfl
  have N0 := Fr.nil n0
  have hS0 : s.Since s.vm 0 := (State.WarmedH.refl s).since 0
  show Go (FrameEnd) p e below s ({ frames := 1, cells := 0, slots := 0, locals := 12 } : Room).cells ({ frames := 1, cells := 0, slots := 0, locals := 12 } : Room).slots (Q1 Z a1 q2 u1 h0 n0) (s₁.setTop (entryFrame m #[(.ref a1), (.long q2)] 3))
  refine go (fun _ k => castTop (ef_1 m a1 q2) k) ?_
  show Go _ p e below s _ _ _ (s₁.setTop (mkF m 0 #[.val (.ref a1), .val (.long q2), .second] []))
  refine go (fun _ => XS.aloadN X0.here hx rfl (hb hby d1_0) rfl rfl) ?_
  show Go _ p e below s _ _ _ (s₁.setTop (mkF m 1 #[.val (.ref a1), .val (.long q2), .second] [(.ref a1)]))
  obtain ⟨T3, X3, e3, st3⟩ := initO X0 hx hZ hown (hw _ (List.mem_of_getElem? (i := 6) rfl)) (hw _ (List.mem_of_getElem? (i := 7) rfl)) (hw _ (List.mem_of_getElem? (i := 8) rfl)) e0 (g := (mkF m 1 #[.val (.ref a1), .val (.long q2), .second] [(.ref a1)])) rfl (by rw [hml]; rfl) rfl (hb hby d1_1) (by decide) (W := 0) (by show 2 * 0 + _ ≤ _; exact Nat.le_of_eq rfl) (by decide)
  refine go st3 ?_
  show Go _ p e below s _ _ _ (T3.setTop (mkF m 4 #[.val (.ref a1), .val (.long q2), .second] []))
  refine go (fun _ => XS.aloadN X3.here hx rfl (hb hby d1_4) rfl rfl) ?_
  show Go _ p e below s _ _ _ (T3.setTop (mkF m 5 #[.val (.ref a1), .val (.long q2), .second] [(.ref a1)]))
  refine go (fun _ => XS.lloadN X3.here hx rfl (hb hby d1_5) rfl) ?_
  show Go _ p e below s _ _ _ (T3.setTop (mkF m 6 #[.val (.ref a1), .val (.long q2), .second] [(.long q2), (.ref a1)]))
  obtain ⟨T4, h4, X4, e4, W4, st4⟩ := putF X3 hx hZ hown (host := "") (Or.inl (hw _ (List.mem_of_getElem? (i := 9) rfl))) Via.refl e3 P1 P0 (Or.inl (hw _ (List.mem_of_getElem? (i := 10) rfl))) (hw _ (List.mem_of_getElem? (i := 1) rfl)) (ty := .long) (by decide) rfl rfl (g := (mkF m 6 #[.val (.ref a1), .val (.long q2), .second] [(.long q2), (.ref a1)])) rfl rfl (hb hby d1_6)
  have Fw4 := P1.same W4
  have c4_0 := P0.wr W4
  have KK4 : Keep h0 h4 [a1] := (Keep.refl h0 [a1]).wr W4 (Or.inl (List.mem_of_getElem? (i := 0) rfl))
  have ZN4 : n0 ≤ h4.size := Nat.le_trans Z0 (Keep.of_wr W4).1
  have NN4 := Fr.snoc X4 N0 P2
  refine go st4 ?_
  show Go _ p e below s _ _ _ (T4.setTop (mkF m 9 #[.val (.ref a1), .val (.long q2), .second] []))
  refine goRet0 X4 hx Bd.notSynchronized Bd.returns (hb hby d1_9) (by decide) (by decide) (by rw [e4]; refine ⟨rfl, NN4, KK4, Fw4⟩)
theorem d3_0 : decode prog_78_method_2_code 0 = .ok (.aload_n 0, 1) := by decide +kernel
theorem d3_1 : decode prog_78_method_2_code 1 = .ok (.dup, 1) := by decide +kernel
theorem d3_2 : decode prog_78_method_2_code 2 = .ok (.getfield 7, 3) := by decide +kernel
theorem d3_5 : decode prog_78_method_2_code 5 = .ok (.ldc2_w 13, 3) := by decide +kernel
theorem d3_8 : decode prog_78_method_2_code 8 = .ok (.ladd, 1) := by decide +kernel
theorem d3_9 : decode prog_78_method_2_code 9 = .ok (.putfield 7, 3) := by decide +kernel
theorem d3_12 : decode prog_78_method_2_code 12 = .ok (.aload_n 0, 1) := by decide +kernel
theorem d3_13 : decode prog_78_method_2_code 13 = .ok (.getfield 7, 3) := by decide +kernel
theorem d3_16 : decode prog_78_method_2_code 16 = .ok (.lstore_n 1, 1) := by decide +kernel
theorem d3_17 : decode prog_78_method_2_code 17 = .ok (.lload_n 1, 1) := by decide +kernel
theorem d3_18 : decode prog_78_method_2_code 18 = .ok (.lload_n 1, 1) := by decide +kernel
theorem d3_19 : decode prog_78_method_2_code 19 = .ok (.bipush 30, 2) := by decide +kernel
theorem d3_21 : decode prog_78_method_2_code 21 = .ok (.lushr, 1) := by decide +kernel
theorem d3_22 : decode prog_78_method_2_code 22 = .ok (.lxor, 1) := by decide +kernel
theorem d3_23 : decode prog_78_method_2_code 23 = .ok (.ldc2_w 15, 3) := by decide +kernel
theorem d3_26 : decode prog_78_method_2_code 26 = .ok (.lmul, 1) := by decide +kernel
theorem d3_27 : decode prog_78_method_2_code 27 = .ok (.lstore_n 1, 1) := by decide +kernel
theorem d3_28 : decode prog_78_method_2_code 28 = .ok (.lload_n 1, 1) := by decide +kernel
theorem d3_29 : decode prog_78_method_2_code 29 = .ok (.lload_n 1, 1) := by decide +kernel
theorem d3_30 : decode prog_78_method_2_code 30 = .ok (.bipush 27, 2) := by decide +kernel
theorem d3_32 : decode prog_78_method_2_code 32 = .ok (.lushr, 1) := by decide +kernel
theorem d3_33 : decode prog_78_method_2_code 33 = .ok (.lxor, 1) := by decide +kernel
theorem d3_34 : decode prog_78_method_2_code 34 = .ok (.ldc2_w 17, 3) := by decide +kernel
theorem d3_37 : decode prog_78_method_2_code 37 = .ok (.lmul, 1) := by decide +kernel
theorem d3_38 : decode prog_78_method_2_code 38 = .ok (.lstore_n 1, 1) := by decide +kernel
theorem d3_39 : decode prog_78_method_2_code 39 = .ok (.lload_n 1, 1) := by decide +kernel
theorem d3_40 : decode prog_78_method_2_code 40 = .ok (.lload_n 1, 1) := by decide +kernel
theorem d3_41 : decode prog_78_method_2_code 41 = .ok (.bipush 31, 2) := by decide +kernel
theorem d3_43 : decode prog_78_method_2_code 43 = .ok (.lushr, 1) := by decide +kernel
theorem d3_44 : decode prog_78_method_2_code 44 = .ok (.lxor, 1) := by decide +kernel
theorem d3_45 : decode prog_78_method_2_code 45 = .ok (.lreturn, 1) := by decide +kernel
theorem pn_3 : plainName "com/example/sunder/sunder/random/SeededRandom" = true := by first | (simp [plainName, overriddenIn]; done) | decide +kernel
theorem ef_3 (m : MethodId) (a1 : Addr) : entryFrame m #[(.ref a1)] 3 = mkF m 0 #[.val (.ref a1), .unset, .unset] [] := by first | (simp [entryFrame, mkF, argsToLocals, Value.category]; done) | rfl
def Q3 (Z : State) (a1 : Addr) (w1 : Int64) (h0 : Heap) (n0 : Nat) (v : Option Value) (h : Heap) (L : List Loc) : Prop := v = some (.long (own_mix (w1 + (-7046029254386353131 : Int64)))) ∧ Fr n0 L ∧ (Keep h0 h [a1]) ∧ (Fld Z h a1 "com/example/sunder/sunder/random/SeededRandom" "state" "J" (.long (w1 + (-7046029254386353131 : Int64))))
set_option maxRecDepth 65536 in
set_option maxHeartbeats 40000000 in
theorem rm3 (l : Launch) (Z : State) (a0 : Array Value) (hw : ∀ d ∈ tables_1, d.before a0 Z = true) (ws : List Jvm.Cond) (a1 : Addr) (w1 : Int64) (h0 : Heap) (n0 : Nat) (Z0 : n0 ≤ h0.size) (P0 : Exa Z h0 a1 "com/example/sunder/sunder/random/SeededRandom") (P1 : Fld Z h0 a1 "com/example/sunder/sunder/random/SeededRandom" "state" "J" (.long w1)) (P2 : n0 ≤ a1) :
    MetFree l (⟨"com/example/sunder/sunder/random/SeededRandom", "nextLong", "()J"⟩ : MethodName) (head1 (Jvm.Cond.code (⟨"com/example/sunder/sunder/random/SeededRandom", "nextLong", "()J"⟩ : MethodName) prog_78_method_2_code 3 (some .long) :: ws) ({ frames := 0, cells := 0, slots := 0, locals := 0 } : Room)) (fun a U => a = #[(.ref a1)] ∧ Z.Warmed39 U.vm ∧ U.heap = h0) (fun _ _ _ _ _ => True) (fun _ U o U' => ∃ v L, o = .returned v ∧ Q3 Z a1 w1 h0 n0 v U'.heap L ∧ FrameEnd U o U' L ({ frames := 0, cells := 0, slots := 0, locals := 0 } : Room).cells ({ frames := 0, cells := 0, slots := 0, locals := 0 } : Room).slots) := by
  refine MetFree.of_bodySF (plainFor_of_name pn_3) hisR ?_
  intro p e s m args below meth c s₁ Bd hml0 hP hK
  obtain ⟨rfl, hZ, hh⟩ := hP
  have hx := Bd.exec
  have hby := Bd.bytes
  have hml : c.maxLocals = 3 := hml0
  have hown : s.vm.findClass "com/example/sunder/sunder/random/SeededRandom" = some m.cls := findClass_of_methodNamed Bd.named
  have hnm := (name_of_methodNamed Bd.named Bd.method).1
  have X0 : Stand p l e ({ frames := 0, cells := 0, slots := 0, locals := 0 } : Room) s m #[(.ref a1)] below meth c s₁ [] 0 0 := Stand.of_body Bd
  have e0 : s₁.heap = h0 := by rw [← hh, Bd.state]; rfl
  have N0 := Fr.nil n0
  have hS0 : s.Since s.vm 0 := (State.WarmedH.refl s).since 0
  show Go (FrameEnd) p e below s ({ frames := 0, cells := 0, slots := 0, locals := 0 } : Room).cells ({ frames := 0, cells := 0, slots := 0, locals := 0 } : Room).slots (Q3 Z a1 w1 h0 n0) (s₁.setTop (entryFrame m #[(.ref a1)] 3))
  refine go (fun _ k => castTop (ef_3 m a1) k) ?_
  show Go _ p e below s _ _ _ (s₁.setTop (mkF m 0 #[.val (.ref a1), .unset, .unset] []))
  refine go (fun _ => XS.aloadN X0.here hx rfl (hb hby d3_0) rfl rfl) ?_
  show Go _ p e below s _ _ _ (s₁.setTop (mkF m 1 #[.val (.ref a1), .unset, .unset] [(.ref a1)]))
  refine go (fun _ => XS.dup X0.here hx rfl (hb hby d3_1) rfl rfl) ?_
  show Go _ p e below s _ _ _ (s₁.setTop (mkF m 2 #[.val (.ref a1), .unset, .unset] [(.ref a1), (.ref a1)]))
  obtain ⟨T8, X8, e8, st8⟩ := getF X0 hx hZ hown (host := "") (Or.inl (hw _ (List.mem_of_getElem? (i := 9) rfl))) Via.refl e0 P1 (g := (mkF m 2 #[.val (.ref a1), .unset, .unset] [(.ref a1), (.ref a1)])) rfl rfl (hb hby d3_2)
  refine go st8 ?_
  show Go _ p e below s _ _ _ (T8.setTop (mkF m 5 #[.val (.ref a1), .unset, .unset] [(.long w1), (.ref a1)]))
  refine go (X8.ldc2Long hx hown (mvT hZ (hw _ (List.mem_of_getElem? (i := 16) rfl))) (g := (mkF m 5 #[.val (.ref a1), .unset, .unset] [(.long w1), (.ref a1)])) rfl (hb hby d3_5)) ?_
  show Go _ p e below s _ _ _ (T8.setTop (mkF m 8 #[.val (.ref a1), .unset, .unset] [(.long (-7046029254386353131 : Int64)), (.long w1), (.ref a1)]))
  refine go (fun _ => XS.ladd X8.here hx rfl (hb hby d3_8) rfl) ?_
  show Go _ p e below s _ _ _ (T8.setTop (mkF m 9 #[.val (.ref a1), .unset, .unset] [(.long (w1 + (-7046029254386353131 : Int64))), (.ref a1)]))
  obtain ⟨T9, h9, X9, e9, W9, st9⟩ := putF X8 hx hZ hown (host := "") (Or.inl (hw _ (List.mem_of_getElem? (i := 9) rfl))) Via.refl e8 P1 P0 (Or.inl (hw _ (List.mem_of_getElem? (i := 10) rfl))) (hw _ (List.mem_of_getElem? (i := 1) rfl)) (ty := .long) (by decide) rfl rfl (g := (mkF m 9 #[.val (.ref a1), .unset, .unset] [(.long (w1 + (-7046029254386353131 : Int64))), (.ref a1)])) rfl rfl (hb hby d3_9)
  have Fw9 := P1.same W9
  have c9_0 := P0.wr W9
  have KK9 : Keep h0 h9 [a1] := (Keep.refl h0 [a1]).wr W9 (Or.inl (List.mem_of_getElem? (i := 0) rfl))
  have ZN9 : n0 ≤ h9.size := Nat.le_trans Z0 (Keep.of_wr W9).1
  have NN9 := Fr.snoc X9 N0 P2
  refine go st9 ?_
  show Go _ p e below s _ _ _ (T9.setTop (mkF m 12 #[.val (.ref a1), .unset, .unset] []))
  refine go (fun _ => XS.aloadN X9.here hx rfl (hb hby d3_12) rfl rfl) ?_
  show Go _ p e below s _ _ _ (T9.setTop (mkF m 13 #[.val (.ref a1), .unset, .unset] [(.ref a1)]))
  obtain ⟨T10, X10, e10, st10⟩ := getF X9 hx hZ hown (host := "") (Or.inl (hw _ (List.mem_of_getElem? (i := 9) rfl))) Via.refl e9 Fw9 (g := (mkF m 13 #[.val (.ref a1), .unset, .unset] [(.ref a1)])) rfl rfl (hb hby d3_13)
  refine go st10 ?_
  show Go _ p e below s _ _ _ (T10.setTop (mkF m 16 #[.val (.ref a1), .unset, .unset] [(.long (w1 + (-7046029254386353131 : Int64)))]))
  refine go (fun _ => XS.lstoreN X10.here hx rfl (hb hby d3_16) rfl (l' := #[.val (.ref a1), .val (.long (w1 + (-7046029254386353131 : Int64))), .second]) rfl) ?_
  show Go _ p e below s _ _ _ (T10.setTop (mkF m 17 #[.val (.ref a1), .val (.long (w1 + (-7046029254386353131 : Int64))), .second] []))
  refine go (fun _ => XS.lloadN X10.here hx rfl (hb hby d3_17) rfl) ?_
  show Go _ p e below s _ _ _ (T10.setTop (mkF m 18 #[.val (.ref a1), .val (.long (w1 + (-7046029254386353131 : Int64))), .second] [(.long (w1 + (-7046029254386353131 : Int64)))]))
  refine go (fun _ => XS.lloadN X10.here hx rfl (hb hby d3_18) rfl) ?_
  show Go _ p e below s _ _ _ (T10.setTop (mkF m 19 #[.val (.ref a1), .val (.long (w1 + (-7046029254386353131 : Int64))), .second] [(.long (w1 + (-7046029254386353131 : Int64))), (.long (w1 + (-7046029254386353131 : Int64)))]))
  refine go (fun _ => XS.bipush X10.here hx rfl (hb hby d3_19)) ?_
  show Go _ p e below s _ _ _ (T10.setTop (mkF m 21 #[.val (.ref a1), .val (.long (w1 + (-7046029254386353131 : Int64))), .second] [(.int (30 : Int32)), (.long (w1 + (-7046029254386353131 : Int64))), (.long (w1 + (-7046029254386353131 : Int64)))]))
  refine go (fun _ => XS.lushr X10.here hx rfl (hb hby d3_21) rfl) ?_
  show Go _ p e below s _ _ _ (T10.setTop (mkF m 22 #[.val (.ref a1), .val (.long (w1 + (-7046029254386353131 : Int64))), .second] [(.long (((w1 + (-7046029254386353131 : Int64)).toUInt64 >>> ((30 : Int32) &&& 0x3f).toInt64.toUInt64).toInt64)), (.long (w1 + (-7046029254386353131 : Int64)))]))
  refine go (fun _ => XS.lxor X10.here hx rfl (hb hby d3_22) rfl) ?_
  show Go _ p e below s _ _ _ (T10.setTop (mkF m 23 #[.val (.ref a1), .val (.long (w1 + (-7046029254386353131 : Int64))), .second] [(.long ((w1 + (-7046029254386353131 : Int64)) ^^^ (((w1 + (-7046029254386353131 : Int64)).toUInt64 >>> ((30 : Int32) &&& 0x3f).toInt64.toUInt64).toInt64)))]))
  refine go (X10.ldc2Long hx hown (mvT hZ (hw _ (List.mem_of_getElem? (i := 17) rfl))) (g := (mkF m 23 #[.val (.ref a1), .val (.long (w1 + (-7046029254386353131 : Int64))), .second] [(.long ((w1 + (-7046029254386353131 : Int64)) ^^^ (((w1 + (-7046029254386353131 : Int64)).toUInt64 >>> ((30 : Int32) &&& 0x3f).toInt64.toUInt64).toInt64)))])) rfl (hb hby d3_23)) ?_
  show Go _ p e below s _ _ _ (T10.setTop (mkF m 26 #[.val (.ref a1), .val (.long (w1 + (-7046029254386353131 : Int64))), .second] [(.long (-4658895280553007687 : Int64)), (.long ((w1 + (-7046029254386353131 : Int64)) ^^^ (((w1 + (-7046029254386353131 : Int64)).toUInt64 >>> ((30 : Int32) &&& 0x3f).toInt64.toUInt64).toInt64)))]))
  refine go (fun _ => XS.lmul X10.here hx rfl (hb hby d3_26) rfl) ?_
  show Go _ p e below s _ _ _ (T10.setTop (mkF m 27 #[.val (.ref a1), .val (.long (w1 + (-7046029254386353131 : Int64))), .second] [(.long (((w1 + (-7046029254386353131 : Int64)) ^^^ (((w1 + (-7046029254386353131 : Int64)).toUInt64 >>> ((30 : Int32) &&& 0x3f).toInt64.toUInt64).toInt64)) * (-4658895280553007687 : Int64)))]))
  refine go (fun _ => XS.lstoreN X10.here hx rfl (hb hby d3_27) rfl (l' := #[.val (.ref a1), .val (.long (((w1 + (-7046029254386353131 : Int64)) ^^^ (((w1 + (-7046029254386353131 : Int64)).toUInt64 >>> ((30 : Int32) &&& 0x3f).toInt64.toUInt64).toInt64)) * (-4658895280553007687 : Int64))), .second]) rfl) ?_
  show Go _ p e below s _ _ _ (T10.setTop (mkF m 28 #[.val (.ref a1), .val (.long (((w1 + (-7046029254386353131 : Int64)) ^^^ (((w1 + (-7046029254386353131 : Int64)).toUInt64 >>> ((30 : Int32) &&& 0x3f).toInt64.toUInt64).toInt64)) * (-4658895280553007687 : Int64))), .second] []))
  refine go (fun _ => XS.lloadN X10.here hx rfl (hb hby d3_28) rfl) ?_
  show Go _ p e below s _ _ _ (T10.setTop (mkF m 29 #[.val (.ref a1), .val (.long (((w1 + (-7046029254386353131 : Int64)) ^^^ (((w1 + (-7046029254386353131 : Int64)).toUInt64 >>> ((30 : Int32) &&& 0x3f).toInt64.toUInt64).toInt64)) * (-4658895280553007687 : Int64))), .second] [(.long (((w1 + (-7046029254386353131 : Int64)) ^^^ (((w1 + (-7046029254386353131 : Int64)).toUInt64 >>> ((30 : Int32) &&& 0x3f).toInt64.toUInt64).toInt64)) * (-4658895280553007687 : Int64)))]))
  refine go (fun _ => XS.lloadN X10.here hx rfl (hb hby d3_29) rfl) ?_
  show Go _ p e below s _ _ _ (T10.setTop (mkF m 30 #[.val (.ref a1), .val (.long (((w1 + (-7046029254386353131 : Int64)) ^^^ (((w1 + (-7046029254386353131 : Int64)).toUInt64 >>> ((30 : Int32) &&& 0x3f).toInt64.toUInt64).toInt64)) * (-4658895280553007687 : Int64))), .second] [(.long (((w1 + (-7046029254386353131 : Int64)) ^^^ (((w1 + (-7046029254386353131 : Int64)).toUInt64 >>> ((30 : Int32) &&& 0x3f).toInt64.toUInt64).toInt64)) * (-4658895280553007687 : Int64))), (.long (((w1 + (-7046029254386353131 : Int64)) ^^^ (((w1 + (-7046029254386353131 : Int64)).toUInt64 >>> ((30 : Int32) &&& 0x3f).toInt64.toUInt64).toInt64)) * (-4658895280553007687 : Int64)))]))
  refine go (fun _ => XS.bipush X10.here hx rfl (hb hby d3_30)) ?_
  show Go _ p e below s _ _ _ (T10.setTop (mkF m 32 #[.val (.ref a1), .val (.long (((w1 + (-7046029254386353131 : Int64)) ^^^ (((w1 + (-7046029254386353131 : Int64)).toUInt64 >>> ((30 : Int32) &&& 0x3f).toInt64.toUInt64).toInt64)) * (-4658895280553007687 : Int64))), .second] [(.int (27 : Int32)), (.long (((w1 + (-7046029254386353131 : Int64)) ^^^ (((w1 + (-7046029254386353131 : Int64)).toUInt64 >>> ((30 : Int32) &&& 0x3f).toInt64.toUInt64).toInt64)) * (-4658895280553007687 : Int64))), (.long (((w1 + (-7046029254386353131 : Int64)) ^^^ (((w1 + (-7046029254386353131 : Int64)).toUInt64 >>> ((30 : Int32) &&& 0x3f).toInt64.toUInt64).toInt64)) * (-4658895280553007687 : Int64)))]))
  refine go (fun _ => XS.lushr X10.here hx rfl (hb hby d3_32) rfl) ?_
  show Go _ p e below s _ _ _ (T10.setTop (mkF m 33 #[.val (.ref a1), .val (.long (((w1 + (-7046029254386353131 : Int64)) ^^^ (((w1 + (-7046029254386353131 : Int64)).toUInt64 >>> ((30 : Int32) &&& 0x3f).toInt64.toUInt64).toInt64)) * (-4658895280553007687 : Int64))), .second] [(.long (((((w1 + (-7046029254386353131 : Int64)) ^^^ (((w1 + (-7046029254386353131 : Int64)).toUInt64 >>> ((30 : Int32) &&& 0x3f).toInt64.toUInt64).toInt64)) * (-4658895280553007687 : Int64)).toUInt64 >>> ((27 : Int32) &&& 0x3f).toInt64.toUInt64).toInt64)), (.long (((w1 + (-7046029254386353131 : Int64)) ^^^ (((w1 + (-7046029254386353131 : Int64)).toUInt64 >>> ((30 : Int32) &&& 0x3f).toInt64.toUInt64).toInt64)) * (-4658895280553007687 : Int64)))]))
  refine go (fun _ => XS.lxor X10.here hx rfl (hb hby d3_33) rfl) ?_
  show Go _ p e below s _ _ _ (T10.setTop (mkF m 34 #[.val (.ref a1), .val (.long (((w1 + (-7046029254386353131 : Int64)) ^^^ (((w1 + (-7046029254386353131 : Int64)).toUInt64 >>> ((30 : Int32) &&& 0x3f).toInt64.toUInt64).toInt64)) * (-4658895280553007687 : Int64))), .second] [(.long ((((w1 + (-7046029254386353131 : Int64)) ^^^ (((w1 + (-7046029254386353131 : Int64)).toUInt64 >>> ((30 : Int32) &&& 0x3f).toInt64.toUInt64).toInt64)) * (-4658895280553007687 : Int64)) ^^^ (((((w1 + (-7046029254386353131 : Int64)) ^^^ (((w1 + (-7046029254386353131 : Int64)).toUInt64 >>> ((30 : Int32) &&& 0x3f).toInt64.toUInt64).toInt64)) * (-4658895280553007687 : Int64)).toUInt64 >>> ((27 : Int32) &&& 0x3f).toInt64.toUInt64).toInt64)))]))
  refine go (X10.ldc2Long hx hown (mvT hZ (hw _ (List.mem_of_getElem? (i := 18) rfl))) (g := (mkF m 34 #[.val (.ref a1), .val (.long (((w1 + (-7046029254386353131 : Int64)) ^^^ (((w1 + (-7046029254386353131 : Int64)).toUInt64 >>> ((30 : Int32) &&& 0x3f).toInt64.toUInt64).toInt64)) * (-4658895280553007687 : Int64))), .second] [(.long ((((w1 + (-7046029254386353131 : Int64)) ^^^ (((w1 + (-7046029254386353131 : Int64)).toUInt64 >>> ((30 : Int32) &&& 0x3f).toInt64.toUInt64).toInt64)) * (-4658895280553007687 : Int64)) ^^^ (((((w1 + (-7046029254386353131 : Int64)) ^^^ (((w1 + (-7046029254386353131 : Int64)).toUInt64 >>> ((30 : Int32) &&& 0x3f).toInt64.toUInt64).toInt64)) * (-4658895280553007687 : Int64)).toUInt64 >>> ((27 : Int32) &&& 0x3f).toInt64.toUInt64).toInt64)))])) rfl (hb hby d3_34)) ?_
  show Go _ p e below s _ _ _ (T10.setTop (mkF m 37 #[.val (.ref a1), .val (.long (((w1 + (-7046029254386353131 : Int64)) ^^^ (((w1 + (-7046029254386353131 : Int64)).toUInt64 >>> ((30 : Int32) &&& 0x3f).toInt64.toUInt64).toInt64)) * (-4658895280553007687 : Int64))), .second] [(.long (-7723592293110705685 : Int64)), (.long ((((w1 + (-7046029254386353131 : Int64)) ^^^ (((w1 + (-7046029254386353131 : Int64)).toUInt64 >>> ((30 : Int32) &&& 0x3f).toInt64.toUInt64).toInt64)) * (-4658895280553007687 : Int64)) ^^^ (((((w1 + (-7046029254386353131 : Int64)) ^^^ (((w1 + (-7046029254386353131 : Int64)).toUInt64 >>> ((30 : Int32) &&& 0x3f).toInt64.toUInt64).toInt64)) * (-4658895280553007687 : Int64)).toUInt64 >>> ((27 : Int32) &&& 0x3f).toInt64.toUInt64).toInt64)))]))
  refine go (fun _ => XS.lmul X10.here hx rfl (hb hby d3_37) rfl) ?_
  show Go _ p e below s _ _ _ (T10.setTop (mkF m 38 #[.val (.ref a1), .val (.long (((w1 + (-7046029254386353131 : Int64)) ^^^ (((w1 + (-7046029254386353131 : Int64)).toUInt64 >>> ((30 : Int32) &&& 0x3f).toInt64.toUInt64).toInt64)) * (-4658895280553007687 : Int64))), .second] [(.long (((((w1 + (-7046029254386353131 : Int64)) ^^^ (((w1 + (-7046029254386353131 : Int64)).toUInt64 >>> ((30 : Int32) &&& 0x3f).toInt64.toUInt64).toInt64)) * (-4658895280553007687 : Int64)) ^^^ (((((w1 + (-7046029254386353131 : Int64)) ^^^ (((w1 + (-7046029254386353131 : Int64)).toUInt64 >>> ((30 : Int32) &&& 0x3f).toInt64.toUInt64).toInt64)) * (-4658895280553007687 : Int64)).toUInt64 >>> ((27 : Int32) &&& 0x3f).toInt64.toUInt64).toInt64)) * (-7723592293110705685 : Int64)))]))
  refine go (fun _ => XS.lstoreN X10.here hx rfl (hb hby d3_38) rfl (l' := #[.val (.ref a1), .val (.long (((((w1 + (-7046029254386353131 : Int64)) ^^^ (((w1 + (-7046029254386353131 : Int64)).toUInt64 >>> ((30 : Int32) &&& 0x3f).toInt64.toUInt64).toInt64)) * (-4658895280553007687 : Int64)) ^^^ (((((w1 + (-7046029254386353131 : Int64)) ^^^ (((w1 + (-7046029254386353131 : Int64)).toUInt64 >>> ((30 : Int32) &&& 0x3f).toInt64.toUInt64).toInt64)) * (-4658895280553007687 : Int64)).toUInt64 >>> ((27 : Int32) &&& 0x3f).toInt64.toUInt64).toInt64)) * (-7723592293110705685 : Int64))), .second]) rfl) ?_
  show Go _ p e below s _ _ _ (T10.setTop (mkF m 39 #[.val (.ref a1), .val (.long (((((w1 + (-7046029254386353131 : Int64)) ^^^ (((w1 + (-7046029254386353131 : Int64)).toUInt64 >>> ((30 : Int32) &&& 0x3f).toInt64.toUInt64).toInt64)) * (-4658895280553007687 : Int64)) ^^^ (((((w1 + (-7046029254386353131 : Int64)) ^^^ (((w1 + (-7046029254386353131 : Int64)).toUInt64 >>> ((30 : Int32) &&& 0x3f).toInt64.toUInt64).toInt64)) * (-4658895280553007687 : Int64)).toUInt64 >>> ((27 : Int32) &&& 0x3f).toInt64.toUInt64).toInt64)) * (-7723592293110705685 : Int64))), .second] []))
  refine go (fun _ => XS.lloadN X10.here hx rfl (hb hby d3_39) rfl) ?_
  show Go _ p e below s _ _ _ (T10.setTop (mkF m 40 #[.val (.ref a1), .val (.long (((((w1 + (-7046029254386353131 : Int64)) ^^^ (((w1 + (-7046029254386353131 : Int64)).toUInt64 >>> ((30 : Int32) &&& 0x3f).toInt64.toUInt64).toInt64)) * (-4658895280553007687 : Int64)) ^^^ (((((w1 + (-7046029254386353131 : Int64)) ^^^ (((w1 + (-7046029254386353131 : Int64)).toUInt64 >>> ((30 : Int32) &&& 0x3f).toInt64.toUInt64).toInt64)) * (-4658895280553007687 : Int64)).toUInt64 >>> ((27 : Int32) &&& 0x3f).toInt64.toUInt64).toInt64)) * (-7723592293110705685 : Int64))), .second] [(.long (((((w1 + (-7046029254386353131 : Int64)) ^^^ (((w1 + (-7046029254386353131 : Int64)).toUInt64 >>> ((30 : Int32) &&& 0x3f).toInt64.toUInt64).toInt64)) * (-4658895280553007687 : Int64)) ^^^ (((((w1 + (-7046029254386353131 : Int64)) ^^^ (((w1 + (-7046029254386353131 : Int64)).toUInt64 >>> ((30 : Int32) &&& 0x3f).toInt64.toUInt64).toInt64)) * (-4658895280553007687 : Int64)).toUInt64 >>> ((27 : Int32) &&& 0x3f).toInt64.toUInt64).toInt64)) * (-7723592293110705685 : Int64)))]))
  refine go (fun _ => XS.lloadN X10.here hx rfl (hb hby d3_40) rfl) ?_
  show Go _ p e below s _ _ _ (T10.setTop (mkF m 41 #[.val (.ref a1), .val (.long (((((w1 + (-7046029254386353131 : Int64)) ^^^ (((w1 + (-7046029254386353131 : Int64)).toUInt64 >>> ((30 : Int32) &&& 0x3f).toInt64.toUInt64).toInt64)) * (-4658895280553007687 : Int64)) ^^^ (((((w1 + (-7046029254386353131 : Int64)) ^^^ (((w1 + (-7046029254386353131 : Int64)).toUInt64 >>> ((30 : Int32) &&& 0x3f).toInt64.toUInt64).toInt64)) * (-4658895280553007687 : Int64)).toUInt64 >>> ((27 : Int32) &&& 0x3f).toInt64.toUInt64).toInt64)) * (-7723592293110705685 : Int64))), .second] [(.long (((((w1 + (-7046029254386353131 : Int64)) ^^^ (((w1 + (-7046029254386353131 : Int64)).toUInt64 >>> ((30 : Int32) &&& 0x3f).toInt64.toUInt64).toInt64)) * (-4658895280553007687 : Int64)) ^^^ (((((w1 + (-7046029254386353131 : Int64)) ^^^ (((w1 + (-7046029254386353131 : Int64)).toUInt64 >>> ((30 : Int32) &&& 0x3f).toInt64.toUInt64).toInt64)) * (-4658895280553007687 : Int64)).toUInt64 >>> ((27 : Int32) &&& 0x3f).toInt64.toUInt64).toInt64)) * (-7723592293110705685 : Int64))), (.long (((((w1 + (-7046029254386353131 : Int64)) ^^^ (((w1 + (-7046029254386353131 : Int64)).toUInt64 >>> ((30 : Int32) &&& 0x3f).toInt64.toUInt64).toInt64)) * (-4658895280553007687 : Int64)) ^^^ (((((w1 + (-7046029254386353131 : Int64)) ^^^ (((w1 + (-7046029254386353131 : Int64)).toUInt64 >>> ((30 : Int32) &&& 0x3f).toInt64.toUInt64).toInt64)) * (-4658895280553007687 : Int64)).toUInt64 >>> ((27 : Int32) &&& 0x3f).toInt64.toUInt64).toInt64)) * (-7723592293110705685 : Int64)))]))
  refine go (fun _ => XS.bipush X10.here hx rfl (hb hby d3_41)) ?_
  show Go _ p e below s _ _ _ (T10.setTop (mkF m 43 #[.val (.ref a1), .val (.long (((((w1 + (-7046029254386353131 : Int64)) ^^^ (((w1 + (-7046029254386353131 : Int64)).toUInt64 >>> ((30 : Int32) &&& 0x3f).toInt64.toUInt64).toInt64)) * (-4658895280553007687 : Int64)) ^^^ (((((w1 + (-7046029254386353131 : Int64)) ^^^ (((w1 + (-7046029254386353131 : Int64)).toUInt64 >>> ((30 : Int32) &&& 0x3f).toInt64.toUInt64).toInt64)) * (-4658895280553007687 : Int64)).toUInt64 >>> ((27 : Int32) &&& 0x3f).toInt64.toUInt64).toInt64)) * (-7723592293110705685 : Int64))), .second] [(.int (31 : Int32)), (.long (((((w1 + (-7046029254386353131 : Int64)) ^^^ (((w1 + (-7046029254386353131 : Int64)).toUInt64 >>> ((30 : Int32) &&& 0x3f).toInt64.toUInt64).toInt64)) * (-4658895280553007687 : Int64)) ^^^ (((((w1 + (-7046029254386353131 : Int64)) ^^^ (((w1 + (-7046029254386353131 : Int64)).toUInt64 >>> ((30 : Int32) &&& 0x3f).toInt64.toUInt64).toInt64)) * (-4658895280553007687 : Int64)).toUInt64 >>> ((27 : Int32) &&& 0x3f).toInt64.toUInt64).toInt64)) * (-7723592293110705685 : Int64))), (.long (((((w1 + (-7046029254386353131 : Int64)) ^^^ (((w1 + (-7046029254386353131 : Int64)).toUInt64 >>> ((30 : Int32) &&& 0x3f).toInt64.toUInt64).toInt64)) * (-4658895280553007687 : Int64)) ^^^ (((((w1 + (-7046029254386353131 : Int64)) ^^^ (((w1 + (-7046029254386353131 : Int64)).toUInt64 >>> ((30 : Int32) &&& 0x3f).toInt64.toUInt64).toInt64)) * (-4658895280553007687 : Int64)).toUInt64 >>> ((27 : Int32) &&& 0x3f).toInt64.toUInt64).toInt64)) * (-7723592293110705685 : Int64)))]))
  refine go (fun _ => XS.lushr X10.here hx rfl (hb hby d3_43) rfl) ?_
  show Go _ p e below s _ _ _ (T10.setTop (mkF m 44 #[.val (.ref a1), .val (.long (((((w1 + (-7046029254386353131 : Int64)) ^^^ (((w1 + (-7046029254386353131 : Int64)).toUInt64 >>> ((30 : Int32) &&& 0x3f).toInt64.toUInt64).toInt64)) * (-4658895280553007687 : Int64)) ^^^ (((((w1 + (-7046029254386353131 : Int64)) ^^^ (((w1 + (-7046029254386353131 : Int64)).toUInt64 >>> ((30 : Int32) &&& 0x3f).toInt64.toUInt64).toInt64)) * (-4658895280553007687 : Int64)).toUInt64 >>> ((27 : Int32) &&& 0x3f).toInt64.toUInt64).toInt64)) * (-7723592293110705685 : Int64))), .second] [(.long (((((((w1 + (-7046029254386353131 : Int64)) ^^^ (((w1 + (-7046029254386353131 : Int64)).toUInt64 >>> ((30 : Int32) &&& 0x3f).toInt64.toUInt64).toInt64)) * (-4658895280553007687 : Int64)) ^^^ (((((w1 + (-7046029254386353131 : Int64)) ^^^ (((w1 + (-7046029254386353131 : Int64)).toUInt64 >>> ((30 : Int32) &&& 0x3f).toInt64.toUInt64).toInt64)) * (-4658895280553007687 : Int64)).toUInt64 >>> ((27 : Int32) &&& 0x3f).toInt64.toUInt64).toInt64)) * (-7723592293110705685 : Int64)).toUInt64 >>> ((31 : Int32) &&& 0x3f).toInt64.toUInt64).toInt64)), (.long (((((w1 + (-7046029254386353131 : Int64)) ^^^ (((w1 + (-7046029254386353131 : Int64)).toUInt64 >>> ((30 : Int32) &&& 0x3f).toInt64.toUInt64).toInt64)) * (-4658895280553007687 : Int64)) ^^^ (((((w1 + (-7046029254386353131 : Int64)) ^^^ (((w1 + (-7046029254386353131 : Int64)).toUInt64 >>> ((30 : Int32) &&& 0x3f).toInt64.toUInt64).toInt64)) * (-4658895280553007687 : Int64)).toUInt64 >>> ((27 : Int32) &&& 0x3f).toInt64.toUInt64).toInt64)) * (-7723592293110705685 : Int64)))]))
  refine go (fun _ => XS.lxor X10.here hx rfl (hb hby d3_44) rfl) ?_
  show Go _ p e below s _ _ _ (T10.setTop (mkF m 45 #[.val (.ref a1), .val (.long (((((w1 + (-7046029254386353131 : Int64)) ^^^ (((w1 + (-7046029254386353131 : Int64)).toUInt64 >>> ((30 : Int32) &&& 0x3f).toInt64.toUInt64).toInt64)) * (-4658895280553007687 : Int64)) ^^^ (((((w1 + (-7046029254386353131 : Int64)) ^^^ (((w1 + (-7046029254386353131 : Int64)).toUInt64 >>> ((30 : Int32) &&& 0x3f).toInt64.toUInt64).toInt64)) * (-4658895280553007687 : Int64)).toUInt64 >>> ((27 : Int32) &&& 0x3f).toInt64.toUInt64).toInt64)) * (-7723592293110705685 : Int64))), .second] [(.long ((((((w1 + (-7046029254386353131 : Int64)) ^^^ (((w1 + (-7046029254386353131 : Int64)).toUInt64 >>> ((30 : Int32) &&& 0x3f).toInt64.toUInt64).toInt64)) * (-4658895280553007687 : Int64)) ^^^ (((((w1 + (-7046029254386353131 : Int64)) ^^^ (((w1 + (-7046029254386353131 : Int64)).toUInt64 >>> ((30 : Int32) &&& 0x3f).toInt64.toUInt64).toInt64)) * (-4658895280553007687 : Int64)).toUInt64 >>> ((27 : Int32) &&& 0x3f).toInt64.toUInt64).toInt64)) * (-7723592293110705685 : Int64)) ^^^ (((((((w1 + (-7046029254386353131 : Int64)) ^^^ (((w1 + (-7046029254386353131 : Int64)).toUInt64 >>> ((30 : Int32) &&& 0x3f).toInt64.toUInt64).toInt64)) * (-4658895280553007687 : Int64)) ^^^ (((((w1 + (-7046029254386353131 : Int64)) ^^^ (((w1 + (-7046029254386353131 : Int64)).toUInt64 >>> ((30 : Int32) &&& 0x3f).toInt64.toUInt64).toInt64)) * (-4658895280553007687 : Int64)).toUInt64 >>> ((27 : Int32) &&& 0x3f).toInt64.toUInt64).toInt64)) * (-7723592293110705685 : Int64)).toUInt64 >>> ((31 : Int32) &&& 0x3f).toInt64.toUInt64).toInt64)))]))
  refine goRet X10 hx Bd.notSynchronized Bd.returns rfl (Or.inr (Or.inl ⟨rfl, rfl, _, rfl⟩)) (hb hby d3_45) (by decide) (by decide) (by rw [e10]; refine ⟨rfl, NN9, KK9, Fw9⟩)
theorem d4_0 : decode prog_78_method_5_code 0 = .ok (.aload_n 0, 1) := by decide +kernel
theorem d4_1 : decode prog_78_method_5_code 1 = .ok (.invokevirtual 28, 3) := by decide +kernel
theorem d4_4 : decode prog_78_method_5_code 4 = .ok (.bipush 11, 2) := by decide +kernel
theorem d4_6 : decode prog_78_method_5_code 6 = .ok (.lushr, 1) := by decide +kernel
theorem d4_7 : decode prog_78_method_5_code 7 = .ok (.l2d, 1) := by decide +kernel
theorem d4_8 : decode prog_78_method_5_code 8 = .ok (.ldc2_w 36, 3) := by decide +kernel
theorem d4_11 : decode prog_78_method_5_code 11 = .ok (.dmul, 1) := by decide +kernel
theorem d4_12 : decode prog_78_method_5_code 12 = .ok (.dload_n 1, 1) := by decide +kernel
theorem d4_13 : decode prog_78_method_5_code 13 = .ok (.dcmp .g, 1) := by decide +kernel
theorem d4_14 : decode prog_78_method_5_code 14 = .ok (.ifCond .ge 7, 3) := by decide +kernel
theorem d4_17 : decode prog_78_method_5_code 17 = .ok (.iconst 1, 1) := by decide +kernel
theorem d4_18 : decode prog_78_method_5_code 18 = .ok (.goto 4, 3) := by decide +kernel
theorem d4_21 : decode prog_78_method_5_code 21 = .ok (.iconst 0, 1) := by decide +kernel
theorem d4_22 : decode prog_78_method_5_code 22 = .ok (.ireturn, 1) := by decide +kernel
theorem pn_4 : plainName "com/example/sunder/sunder/random/SeededRandom" = true := by first | (simp [plainName, overriddenIn]; done) | decide +kernel
theorem pd_4_0 : parseMethodDescriptor "()J" = some ⟨[], some .long⟩ := by decide +kernel
theorem ef_4 (m : MethodId) (a1 : Addr) (q2 : UInt64) : entryFrame m #[(.ref a1), (.double q2)] 3 = mkF m 0 #[.val (.ref a1), .val (.double q2), .second] [] := by first | (simp [entryFrame, mkF, argsToLocals, Value.category]; done) | rfl
def Q4 (Z : State) (a1 : Addr) (q2 : UInt64) (w1 : Int64) (jj : Int64) (h0 : Heap) (n0 : Nat) (v : Option Value) (h : Heap) (L : List Loc) : Prop := v = some (.int (own_ch (((own_mix (w1 + (-7046029254386353131 : Int64))).toUInt64 >>> ((11 : Int32) &&& 0x3f).toInt64.toUInt64).toInt64) jj)) ∧ Fr n0 L ∧ (Keep h0 h [a1]) ∧ (Fld Z h a1 "com/example/sunder/sunder/random/SeededRandom" "state" "J" (.long (w1 + (-7046029254386353131 : Int64))))
set_option maxRecDepth 65536 in
set_option maxHeartbeats 40000000 in
theorem rm4 (l : Launch) (Z : State) (a0 : Array Value) (hw : ∀ d ∈ tables_1, d.before a0 Z = true) (ws : List Jvm.Cond) (a1 : Addr) (q2 : UInt64) (w1 : Int64) (jj : Int64) (h0 : Heap) (n0 : Nat) (Z0 : n0 ≤ h0.size) (P0 : Exa Z h0 a1 "com/example/sunder/sunder/random/SeededRandom") (P1 : Fld Z h0 a1 "com/example/sunder/sunder/random/SeededRandom" "state" "J" (.long w1)) (P2 : n0 ≤ a1) (he : q2 = FP.dmul (FP.l2d jj) (4368491638549381120 : UInt64)) :
    MetFree l (⟨"com/example/sunder/sunder/random/SeededRandom", "chance", "(D)Z"⟩ : MethodName) (head1 (Jvm.Cond.code (⟨"com/example/sunder/sunder/random/SeededRandom", "chance", "(D)Z"⟩ : MethodName) prog_78_method_5_code 3 (some .boolean) :: ws) ({ frames := 1, cells := 0, slots := 0, locals := 14 } : Room)) (fun a U => a = #[(.ref a1), (.double q2)] ∧ Z.Warmed39 U.vm ∧ U.heap = h0) (fun _ _ _ _ _ => True) (fun _ U o U' => ∃ v L, o = .returned v ∧ Q4 Z a1 q2 w1 jj h0 n0 v U'.heap L ∧ FrameEnd U o U' L ({ frames := 1, cells := 0, slots := 0, locals := 14 } : Room).cells ({ frames := 1, cells := 0, slots := 0, locals := 14 } : Room).slots) := by
  refine MetFree.of_bodySF (plainFor_of_name pn_4) hisR ?_
  intro p e s m args below meth c s₁ Bd hml0 hP hK
  obtain ⟨rfl, hZ, hh⟩ := hP
  have hx := Bd.exec
  have hby := Bd.bytes
  have hml : c.maxLocals = 3 := hml0
  have hown : s.vm.findClass "com/example/sunder/sunder/random/SeededRandom" = some m.cls := findClass_of_methodNamed Bd.named
  have hnm := (name_of_methodNamed Bd.named Bd.method).1
  have X0 : Stand p l e ({ frames := 1, cells := 0, slots := 0, locals := 14 } : Room) s m #[(.ref a1), (.double q2)] below meth c s₁ [] 0 0 := Stand.of_body Bd
  have e0 : s₁.heap = h0 := by rw [← hh, Bd.state]; rfl
  have N0 := Fr.nil n0
  have hS0 : s.Since s.vm 0 := (State.WarmedH.refl s).since 0
  show Go (FrameEnd) p e below s ({ frames := 1, cells := 0, slots := 0, locals := 14 } : Room).cells ({ frames := 1, cells := 0, slots := 0, locals := 14 } : Room).slots (Q4 Z a1 q2 w1 jj h0 n0) (s₁.setTop (entryFrame m #[(.ref a1), (.double q2)] 3))
  refine go (fun _ k => castTop (ef_4 m a1 q2) k) ?_
  show Go _ p e below s _ _ _ (s₁.setTop (mkF m 0 #[.val (.ref a1), .val (.double q2), .second] []))
  subst he
  show Go _ p e below s _ _ _ (s₁.setTop (mkF m 0 #[.val (.ref a1), .val (.double (FP.dmul (FP.l2d jj) (4368491638549381120 : UInt64))), .second] []))
  refine go (fun _ => XS.aloadN X0.here hx rfl (hb hby d4_0) rfl rfl) ?_
  show Go _ p e below s _ _ _ (s₁.setTop (mkF m 1 #[.val (.ref a1), .val (.double (FP.dmul (FP.l2d jj) (4368491638549381120 : UInt64))), .second] [(.ref a1)]))
  obtain ⟨cq13, kq13, q13a, q13b, q13c⟩ := isOf hZ e0 P0
  obtain ⟨_, _, ⟨T13, L13, k13, n13⟩, -, X13, ⟨Lc13, hQ13, l13, y13, z13⟩, st13⟩ := X0.virtualBack hx (y := (⟨"com/example/sunder/sunder/random/SeededRandom", "nextLong", "()J"⟩ : MethodName)) (z := (⟨"com/example/sunder/sunder/random/SeededRandom", "nextLong", "()J"⟩ : MethodName)) hown (mvT hZ (hw _ (List.mem_of_getElem? (i := 26) rfl))) (mvT hZ (hw _ (List.mem_of_getElem? (i := 12) rfl))) (notFace_of_selects (args := #[]) (mvT hZ (hw _ (List.mem_of_getElem? (i := 14) rfl)))) (mvT hZ (hw _ (List.mem_of_getElem? (i := 14) rfl))) (mvT hZ (hw _ (List.mem_of_getElem? (i := 13) rfl))) (by decide) (backOf (W := 0) (rm3 l Z a0 hw [] a1 w1 h0 n0 Z0 P0 P1 P2) hZ (hw _ (List.mem_of_getElem? (i := 15) rfl)) (hw _ (List.mem_of_getElem? (i := 2) rfl)) (by decide) (by decide)) q13a q13c (g := (mkF m 1 #[.val (.ref a1), .val (.double (FP.dmul (FP.l2d jj) (4368491638549381120 : UInt64))), .second] [(.ref a1)])) rfl (by rw [hml]; rfl) (Steps.refl _) (argsL := []) (rest := []) (lenOf pd_4_0 rfl) rfl (by show 2 * 0 + _ ≤ _; exact Nat.le_of_eq rfl) (hb hby d4_1) (fun _ _ => ⟨rfl, e0, (by decide : 0 + 0 ≤ _), (by decide : 0 + 0 ≤ _)⟩)
  dsimp only [Pt.U, Pt.locs, Pt.cells, Pt.slots] at X13 l13 y13 z13 st13 hQ13
  subst l13 y13 z13
  obtain ⟨rfl, N13q, K13, u13_1⟩ := hQ13
  have N13 := Fr.app N0 N13q
  have c13_0 := P0.keep K13
  have KK13 : Keep h0 T13.heap [a1] := (Keep.refl h0 [a1]).trans K13 (allS (P := fun x => x ∈ [a1] ∨ h0.size ≤ x) (Or.inl (List.mem_of_getElem? (i := 0) rfl)) all0)
  have ZN13 : n0 ≤ T13.heap.size := Nat.le_trans Z0 K13.1
  refine goT st13 ?_
  show Go _ p e below s _ _ _ (T13.setTop (mkF m 4 #[.val (.ref a1), .val (.double (FP.dmul (FP.l2d jj) (4368491638549381120 : UInt64))), .second] [(.long (own_mix (w1 + (-7046029254386353131 : Int64))))]))
  refine go (fun _ => XS.bipush X13.here hx rfl (hb hby d4_4)) ?_
  show Go _ p e below s _ _ _ (T13.setTop (mkF m 6 #[.val (.ref a1), .val (.double (FP.dmul (FP.l2d jj) (4368491638549381120 : UInt64))), .second] [(.int (11 : Int32)), (.long (own_mix (w1 + (-7046029254386353131 : Int64))))]))
  refine go (fun _ => XS.lushr X13.here hx rfl (hb hby d4_6) rfl) ?_
  show Go _ p e below s _ _ _ (T13.setTop (mkF m 7 #[.val (.ref a1), .val (.double (FP.dmul (FP.l2d jj) (4368491638549381120 : UInt64))), .second] [(.long (((own_mix (w1 + (-7046029254386353131 : Int64))).toUInt64 >>> ((11 : Int32) &&& 0x3f).toInt64.toUInt64).toInt64))]))
  refine go (fun _ => XS.l2dS X13.here hx rfl (hb hby d4_7) rfl rfl) ?_
  show Go _ p e below s _ _ _ (T13.setTop (mkF m 8 #[.val (.ref a1), .val (.double (FP.dmul (FP.l2d jj) (4368491638549381120 : UInt64))), .second] [(.double (FP.l2d (((own_mix (w1 + (-7046029254386353131 : Int64))).toUInt64 >>> ((11 : Int32) &&& 0x3f).toInt64.toUInt64).toInt64)))]))
  refine go (X13.ldc2DoubleC hx hown (mvT hZ (hw _ (List.mem_of_getElem? (i := 27) rfl))) (g := (mkF m 8 #[.val (.ref a1), .val (.double (FP.dmul (FP.l2d jj) (4368491638549381120 : UInt64))), .second] [(.double (FP.l2d (((own_mix (w1 + (-7046029254386353131 : Int64))).toUInt64 >>> ((11 : Int32) &&& 0x3f).toInt64.toUInt64).toInt64)))])) rfl (hb hby d4_8)) ?_
  show Go _ p e below s _ _ _ (T13.setTop (mkF m 11 #[.val (.ref a1), .val (.double (FP.dmul (FP.l2d jj) (4368491638549381120 : UInt64))), .second] [(.double (4368491638549381120 : UInt64)), (.double (FP.l2d (((own_mix (w1 + (-7046029254386353131 : Int64))).toUInt64 >>> ((11 : Int32) &&& 0x3f).toInt64.toUInt64).toInt64)))]))
  refine go (fun _ => XS.dmulS X13.here hx rfl (hb hby d4_11) rfl (own_nn _) rfl) ?_
  show Go _ p e below s _ _ _ (T13.setTop (mkF m 12 #[.val (.ref a1), .val (.double (FP.dmul (FP.l2d jj) (4368491638549381120 : UInt64))), .second] [(.double (FP.dmul (FP.l2d (((own_mix (w1 + (-7046029254386353131 : Int64))).toUInt64 >>> ((11 : Int32) &&& 0x3f).toInt64.toUInt64).toInt64)) (4368491638549381120 : UInt64)))]))
  refine go (fun _ => XS.dloadN X13.here hx rfl (hb hby d4_12) rfl) ?_
  show Go _ p e below s _ _ _ (T13.setTop (mkF m 13 #[.val (.ref a1), .val (.double (FP.dmul (FP.l2d jj) (4368491638549381120 : UInt64))), .second] [(.double (FP.dmul (FP.l2d jj) (4368491638549381120 : UInt64))), (.double (FP.dmul (FP.l2d (((own_mix (w1 + (-7046029254386353131 : Int64))).toUInt64 >>> ((11 : Int32) &&& 0x3f).toInt64.toUInt64).toInt64)) (4368491638549381120 : UInt64)))]))
  refine go (fun _ => XS.dcmpS X13.here hx rfl (hb hby d4_13) rfl rfl) ?_
  show Go _ p e below s _ _ _ (T13.setTop (mkF m 14 #[.val (.ref a1), .val (.double (FP.dmul (FP.l2d jj) (4368491638549381120 : UInt64))), .second] [(.int (cmpValue (FP.dcmp (FP.dmul (FP.l2d (((own_mix (w1 + (-7046029254386353131 : Int64))).toUInt64 >>> ((11 : Int32) &&& 0x3f).toInt64.toUInt64).toInt64)) (4368491638549381120 : UInt64)) (FP.dmul (FP.l2d jj) (4368491638549381120 : UInt64))) .g))]))
  by_cases hc14_14 : (cmpValue (FP.dcmp (FP.dmul (FP.l2d (((own_mix (w1 + (-7046029254386353131 : Int64))).toUInt64 >>> ((11 : Int32) &&& 0x3f).toInt64.toUInt64).toInt64)) (4368491638549381120 : UInt64)) (FP.dmul (FP.l2d jj) (4368491638549381120 : UInt64))) .g) < (0 : Int32)
  · refine go (fun _ => XS.ifNo X13.here hx rfl (hb hby d4_14) rfl ((if0 _ _).trans (tlt hc14_14).2.1)) ?_
    show Go _ p e below s _ _ _ (T13.setTop (mkF m 17 #[.val (.ref a1), .val (.double (FP.dmul (FP.l2d jj) (4368491638549381120 : UInt64))), .second] []))
    refine go (fun _ => XS.iconst X13.here hx rfl (hb hby d4_17)) ?_
    show Go _ p e below s _ _ _ (T13.setTop (mkF m 18 #[.val (.ref a1), .val (.double (FP.dmul (FP.l2d jj) (4368491638549381120 : UInt64))), .second] [(.int (1 : Int32))]))
    refine go (fun _ => XS.goto X13.here hx rfl (pc0 := 18) (pc' := 22) rfl (hb hby d4_18) (by decide) (by decide)) ?_
    show Go _ p e below s _ _ _ (T13.setTop (mkF m 22 #[.val (.ref a1), .val (.double (FP.dmul (FP.l2d jj) (4368491638549381120 : UInt64))), .second] [(.int (1 : Int32))]))
    refine goRet X13 hx Bd.notSynchronized Bd.returns rfl (Or.inl ⟨rfl, Or.inr (Or.inl rfl), _, rfl⟩) (hb hby d4_22) (by decide) (by decide) (by refine ⟨(by unfold own_ch; rw [if_pos ((own_cmp _ _ (own_ub _).1 (own_ub _).2).mp hc14_14)]), N13, KK13, u13_1⟩)
  · refine go (fun _ => XS.ifYes X13.here hx rfl (pc0 := 14) (pc' := 21) rfl (hb hby d4_14) rfl ((if0 _ _).trans (flt hc14_14).2.1) (by decide) (by decide)) ?_
    show Go _ p e below s _ _ _ (T13.setTop (mkF m 21 #[.val (.ref a1), .val (.double (FP.dmul (FP.l2d jj) (4368491638549381120 : UInt64))), .second] []))
    refine go (fun _ => XS.iconst X13.here hx rfl (hb hby d4_21)) ?_
    show Go _ p e below s _ _ _ (T13.setTop (mkF m 22 #[.val (.ref a1), .val (.double (FP.dmul (FP.l2d jj) (4368491638549381120 : UInt64))), .second] [(.int (0 : Int32))]))
    refine goRet X13 hx Bd.notSynchronized Bd.returns rfl (Or.inl ⟨rfl, Or.inr (Or.inl rfl), _, rfl⟩) (hb hby d4_22) (by decide) (by decide) (by refine ⟨(by unfold own_ch; rw [if_neg (fun qq => hc14_14 ((own_cmp _ _ (own_ub _).1 (own_ub _).2).mpr qq))]), N13, KK13, u13_1⟩)
theorem pn_0 : plainName "com/example/sunder/sunder/random/SeededRandomChancePinLaw" = true := by first | (simp [plainName, overriddenIn]; done) | decide +kernel
theorem pd_0_0 : parseMethodDescriptor "(J)V" = some ⟨[.long], none⟩ := by decide +kernel
theorem pd_0_1 : parseMethodDescriptor "()J" = some ⟨[], some .long⟩ := by decide +kernel
theorem pd_0_2 : parseMethodDescriptor "(D)Z" = some ⟨[.double], some .boolean⟩ := by decide +kernel
theorem ef_0 (m : MethodId) (q1 : Int64) (q2 : Int64) (p3 : Int32) : entryFrame m #[(.long q1), (.long q2), (.int p3)] maxLocals = mkF m 0 #[.val (.long q1), .second, .val (.long q2), .second, .val (.int p3), .unset, .unset, .unset, .unset, .unset, .unset, .unset, .unset, .unset, .unset, .unset, .unset, .unset] [] := by first | (simp [entryFrame, mkF, argsToLocals, Value.category, maxLocals]; done) | rfl
def Q0 (Z : State) (q1 : Int64) (q2 : Int64) (p3 : Int32) (h0 : Heap) (n0 : Nat) (v : Option Value) (h : Heap) (L : List Loc) : Prop := v = some (.int (1 : Int32)) ∧ Fr n0 L
set_option maxRecDepth 65536 in
set_option maxHeartbeats 40000000 in
theorem rm0 (l : Launch) (Z : State) (a0 : Array Value) (hw : ∀ d ∈ tables_1, d.before a0 Z = true) (ws : List Jvm.Cond) (q1 : Int64) (q2 : Int64) (p3 : Int32) (h0 : Heap) (n0 : Nat) (Z0 : n0 ≤ h0.size)  :
    MetFree l x (head1 (Jvm.Cond.code x code maxLocals ret :: ws) room_1) (fun a U => a = #[(.long q1), (.long q2), (.int p3)] ∧ Z.Warmed39 U.vm ∧ U.heap = h0) (fun _ _ _ _ _ => True) (fun _ U o U' => ∃ v L, o = .returned v ∧ Q0 Z q1 q2 p3 h0 n0 v U'.heap L ∧ FrameEnd U o U' L room_1.cells room_1.slots) := by
  refine MetFree.of_bodySF (plainFor_of_name pn_0) hisR ?_
  intro p e s m args below meth c s₁ Bd hml0 hP hK
  obtain ⟨rfl, hZ, hh⟩ := hP
  have hx := Bd.exec
  have hby := Bd.bytes
  have hml : c.maxLocals = 18 := hml0
  have hown : s.vm.findClass "com/example/sunder/sunder/random/SeededRandomChancePinLaw" = some m.cls := findClass_of_methodNamed Bd.named
  have hnm := (name_of_methodNamed Bd.named Bd.method).1
  have X0 : Stand p l e room_1 s m #[(.long q1), (.long q2), (.int p3)] below meth c s₁ [] 0 0 := Stand.of_body Bd
  have e0 : s₁.heap = h0 := by rw [← hh, Bd.state]; rfl
  have N0 := Fr.nil n0
  have hS0 : s.Since s.vm 0 := (State.WarmedH.refl s).since 0
  show Go (FrameEnd) p e below s room_1.cells room_1.slots (Q0 Z q1 q2 p3 h0 n0) (s₁.setTop (entryFrame m #[(.long q1), (.long q2), (.int p3)] maxLocals))
  refine go (fun _ k => castTop (ef_0 m q1 q2 p3) k) ?_
  show Go _ p e below s _ _ _ (s₁.setTop (mkF m 0 #[.val (.long q1), .second, .val (.long q2), .second, .val (.int p3), .unset, .unset, .unset, .unset, .unset, .unset, .unset, .unset, .unset, .unset, .unset, .unset, .unset] []))
  obtain ⟨T15, h15, X15, e15, E15, A15, D15, -, st15⟩ := newO X0 hx hZ hown (hw _ (List.mem_of_getElem? (i := 0) rfl)) (hw _ (List.mem_of_getElem? (i := 1) rfl)) (hw _ (List.mem_of_getElem? (i := 2) rfl)) e0 (g := (mkF m 0 #[.val (.long q1), .second, .val (.long q2), .second, .val (.int p3), .unset, .unset, .unset, .unset, .unset, .unset, .unset, .unset, .unset, .unset, .unset, .unset, .unset] [])) rfl (hb hby at_0) (by decide) (by decide)
  obtain ⟨b15, g15⟩ : ∃ z, z = h0.size := ⟨_, rfl⟩
  rw [← g15] at A15 D15 st15
  have G_b15 : n0 ≤ b15 := Nat.le_trans Z0 (Nat.le_of_eq g15.symm)
  have SZ_b15 : h0.size ≤ b15 := Nat.le_trans (Keep.refl h0 []).1 (Nat.le_of_eq g15.symm)
  have KK15 : Keep h0 h15 [] := (Keep.refl h0 []).ext E15
  have ZN15 : n0 ≤ h15.size := Nat.le_trans Z0 E15.1
  have F15_10 : Fld Z h15 b15 "com/example/sunder/sunder/random/SeededRandom" "state" "J" (.long (0 : Int64)) := D15 (Or.inl (hw _ (List.mem_of_getElem? (i := 10) rfl))) (ty := .long) (by decide)
  refine go st15 ?_
  show Go _ p e below s _ _ _ (T15.setTop (mkF m 3 #[.val (.long q1), .second, .val (.long q2), .second, .val (.int p3), .unset, .unset, .unset, .unset, .unset, .unset, .unset, .unset, .unset, .unset, .unset, .unset, .unset] [(.ref b15)]))
  refine go (fun _ => XS.dup X15.here hx rfl (hb hby at_3) rfl rfl) ?_
  show Go _ p e below s _ _ _ (T15.setTop (mkF m 4 #[.val (.long q1), .second, .val (.long q2), .second, .val (.int p3), .unset, .unset, .unset, .unset, .unset, .unset, .unset, .unset, .unset, .unset, .unset, .unset, .unset] [(.ref b15), (.ref b15)]))
  refine go (fun _ => XS.lloadN X15.here hx rfl (hb hby at_4) rfl) ?_
  show Go _ p e below s _ _ _ (T15.setTop (mkF m 5 #[.val (.long q1), .second, .val (.long q2), .second, .val (.int p3), .unset, .unset, .unset, .unset, .unset, .unset, .unset, .unset, .unset, .unset, .unset, .unset, .unset] [(.long q1), (.ref b15), (.ref b15)]))
  obtain ⟨_, _, ⟨T16, L16, k16, n16⟩, -, X16, ⟨Lc16, hQ16, l16, y16, z16⟩, st16⟩ := X15.specialBack hx (y := (⟨"com/example/sunder/sunder/random/SeededRandom", "<init>", "(J)V"⟩ : MethodName)) rfl hown (mvT hZ (hw _ (List.mem_of_getElem? (i := 3) rfl))) (mvT hZ (hw _ (List.mem_of_getElem? (i := 4) rfl))) (mvT hZ (hw _ (List.mem_of_getElem? (i := 5) rfl))) (by decide) (backOf (W := 1) (rm1 l Z a0 hw [] b15 q1 (.long (0 : Int64)) h15 n0 ZN15 A15 F15_10 G_b15) hZ (hw _ (List.mem_of_getElem? (i := 5) rfl)) (hw _ (List.mem_of_getElem? (i := 2) rfl)) (by decide) (by decide)) (g := (mkF m 5 #[.val (.long q1), .second, .val (.long q2), .second, .val (.int p3), .unset, .unset, .unset, .unset, .unset, .unset, .unset, .unset, .unset, .unset, .unset, .unset, .unset] [(.long q1), (.ref b15), (.ref b15)])) rfl (by rw [hml]; rfl) (Steps.refl _) (a := b15) (argsL := [(.long q1)]) (rest := [(.ref b15)]) (lenOf pd_0_0 rfl) rfl (by show 2 * 0 + _ ≤ _; exact Nat.le_of_eq rfl) (hb hby at_5) (fun _ _ => ⟨rfl, e15, (by decide : 1 + 0 ≤ _), (by decide : 1 + 0 ≤ _)⟩)
  dsimp only [Pt.U, Pt.locs, Pt.cells, Pt.slots] at X16 l16 y16 z16 st16 hQ16
  subst l16 y16 z16
  obtain ⟨rfl, N16q, K16, u16_1⟩ := hQ16
  have N16 := Fr.app N0 N16q
  have c16_0 := A15.keep K16
  have KK16 : Keep h0 T16.heap [] := KK15.trans K16 (allS (P := fun x => x ∈ [] ∨ h0.size ≤ x) (Or.inr SZ_b15) all0)
  have ZN16 : n0 ≤ T16.heap.size := Nat.le_trans ZN15 K16.1
  refine goT st16 ?_
  show Go _ p e below s _ _ _ (T16.setTop (mkF m 8 #[.val (.long q1), .second, .val (.long q2), .second, .val (.int p3), .unset, .unset, .unset, .unset, .unset, .unset, .unset, .unset, .unset, .unset, .unset, .unset, .unset] [(.ref b15)]))
  refine go (fun _ => XS.astore X16.here hx rfl (hb hby at_8) rfl rfl (l' := #[.val (.long q1), .second, .val (.long q2), .second, .val (.int p3), .val (.ref b15), .unset, .unset, .unset, .unset, .unset, .unset, .unset, .unset, .unset, .unset, .unset, .unset]) rfl) ?_
  show Go _ p e below s _ _ _ (T16.setTop (mkF m 10 #[.val (.long q1), .second, .val (.long q2), .second, .val (.int p3), .val (.ref b15), .unset, .unset, .unset, .unset, .unset, .unset, .unset, .unset, .unset, .unset, .unset, .unset] []))
  obtain ⟨T17, h17, X17, e17, E17, A17, D17, -, st17⟩ := newO X16 hx hZ hown (hw _ (List.mem_of_getElem? (i := 0) rfl)) (hw _ (List.mem_of_getElem? (i := 1) rfl)) (hw _ (List.mem_of_getElem? (i := 2) rfl)) rfl (g := (mkF m 10 #[.val (.long q1), .second, .val (.long q2), .second, .val (.int p3), .val (.ref b15), .unset, .unset, .unset, .unset, .unset, .unset, .unset, .unset, .unset, .unset, .unset, .unset] [])) rfl (hb hby at_10) (by decide) (by decide)
  obtain ⟨b17, g17⟩ : ∃ z, z = T16.heap.size := ⟨_, rfl⟩
  rw [← g17] at A17 D17 st17
  have lt17_b15_b17 : b15 < b17 := Nat.lt_of_lt_of_le c16_0.lt (Nat.le_of_eq g17.symm)
  have G_b17 : n0 ≤ b17 := Nat.le_trans ZN16 (Nat.le_of_eq g17.symm)
  have SZ_b17 : h0.size ≤ b17 := Nat.le_trans KK16.1 (Nat.le_of_eq g17.symm)
  have c17_0 := c16_0.ext E17
  have c17_1 := u16_1.ext E17
  have KK17 : Keep h0 h17 [] := KK16.ext E17
  have ZN17 : n0 ≤ h17.size := Nat.le_trans ZN16 E17.1
  have F17_10 : Fld Z h17 b17 "com/example/sunder/sunder/random/SeededRandom" "state" "J" (.long (0 : Int64)) := D17 (Or.inl (hw _ (List.mem_of_getElem? (i := 10) rfl))) (ty := .long) (by decide)
  refine go st17 ?_
  show Go _ p e below s _ _ _ (T17.setTop (mkF m 13 #[.val (.long q1), .second, .val (.long q2), .second, .val (.int p3), .val (.ref b15), .unset, .unset, .unset, .unset, .unset, .unset, .unset, .unset, .unset, .unset, .unset, .unset] [(.ref b17)]))
  refine go (fun _ => XS.dup X17.here hx rfl (hb hby at_13) rfl rfl) ?_
  show Go _ p e below s _ _ _ (T17.setTop (mkF m 14 #[.val (.long q1), .second, .val (.long q2), .second, .val (.int p3), .val (.ref b15), .unset, .unset, .unset, .unset, .unset, .unset, .unset, .unset, .unset, .unset, .unset, .unset] [(.ref b17), (.ref b17)]))
  refine go (fun _ => XS.lloadN X17.here hx rfl (hb hby at_14) rfl) ?_
  show Go _ p e below s _ _ _ (T17.setTop (mkF m 15 #[.val (.long q1), .second, .val (.long q2), .second, .val (.int p3), .val (.ref b15), .unset, .unset, .unset, .unset, .unset, .unset, .unset, .unset, .unset, .unset, .unset, .unset] [(.long q1), (.ref b17), (.ref b17)]))
  obtain ⟨_, _, ⟨T18, L18, k18, n18⟩, -, X18, ⟨Lc18, hQ18, l18, y18, z18⟩, st18⟩ := X17.specialBack hx (y := (⟨"com/example/sunder/sunder/random/SeededRandom", "<init>", "(J)V"⟩ : MethodName)) rfl hown (mvT hZ (hw _ (List.mem_of_getElem? (i := 3) rfl))) (mvT hZ (hw _ (List.mem_of_getElem? (i := 4) rfl))) (mvT hZ (hw _ (List.mem_of_getElem? (i := 5) rfl))) (by decide) (backOf (W := 1) (rm1 l Z a0 hw [] b17 q1 (.long (0 : Int64)) h17 n0 ZN17 A17 F17_10 G_b17) hZ (hw _ (List.mem_of_getElem? (i := 5) rfl)) (hw _ (List.mem_of_getElem? (i := 2) rfl)) (by decide) (by decide)) (g := (mkF m 15 #[.val (.long q1), .second, .val (.long q2), .second, .val (.int p3), .val (.ref b15), .unset, .unset, .unset, .unset, .unset, .unset, .unset, .unset, .unset, .unset, .unset, .unset] [(.long q1), (.ref b17), (.ref b17)])) rfl (by rw [hml]; rfl) (Steps.refl _) (a := b17) (argsL := [(.long q1)]) (rest := [(.ref b17)]) (lenOf pd_0_0 rfl) rfl (by show 2 * 0 + _ ≤ _; exact Nat.le_of_eq rfl) (hb hby at_15) (fun _ _ => ⟨rfl, e17, (by decide : 2 + 0 ≤ _), (by decide : 2 + 0 ≤ _)⟩)
  dsimp only [Pt.U, Pt.locs, Pt.cells, Pt.slots] at X18 l18 y18 z18 st18 hQ18
  subst l18 y18 z18
  obtain ⟨rfl, N18q, K18, u18_1⟩ := hQ18
  have N18 := Fr.app N16 N18q
  have c18_0 := c17_0.keep K18
  have c18_1 := c17_1.keep K18 (ninS (Nat.ne_of_lt lt17_b15_b17) nin0)
  have c18_2 := A17.keep K18
  have KK18 : Keep h0 T18.heap [] := KK17.trans K18 (allS (P := fun x => x ∈ [] ∨ h0.size ≤ x) (Or.inr SZ_b17) all0)
  have ZN18 : n0 ≤ T18.heap.size := Nat.le_trans ZN17 K18.1
  refine goT st18 ?_
  show Go _ p e below s _ _ _ (T18.setTop (mkF m 18 #[.val (.long q1), .second, .val (.long q2), .second, .val (.int p3), .val (.ref b15), .unset, .unset, .unset, .unset, .unset, .unset, .unset, .unset, .unset, .unset, .unset, .unset] [(.ref b17)]))
  refine go (fun _ => XS.astore X18.here hx rfl (hb hby at_18) rfl rfl (l' := #[.val (.long q1), .second, .val (.long q2), .second, .val (.int p3), .val (.ref b15), .val (.ref b17), .unset, .unset, .unset, .unset, .unset, .unset, .unset, .unset, .unset, .unset, .unset]) rfl) ?_
  show Go _ p e below s _ _ _ (T18.setTop (mkF m 20 #[.val (.long q1), .second, .val (.long q2), .second, .val (.int p3), .val (.ref b15), .val (.ref b17), .unset, .unset, .unset, .unset, .unset, .unset, .unset, .unset, .unset, .unset, .unset] []))
  refine go (fun _ => XS.aload X18.here hx rfl (hb hby at_20) rfl rfl) ?_
  show Go _ p e below s _ _ _ (T18.setTop (mkF m 22 #[.val (.long q1), .second, .val (.long q2), .second, .val (.int p3), .val (.ref b15), .val (.ref b17), .unset, .unset, .unset, .unset, .unset, .unset, .unset, .unset, .unset, .unset, .unset] [(.ref b17)]))
  obtain ⟨cq19, kq19, q19a, q19b, q19c⟩ := isOf hZ rfl c18_2
  obtain ⟨_, _, ⟨T19, L19, k19, n19⟩, -, X19, ⟨Lc19, hQ19, l19, y19, z19⟩, st19⟩ := X18.virtualBack hx (y := (⟨"com/example/sunder/sunder/random/SeededRandom", "nextLong", "()J"⟩ : MethodName)) (z := (⟨"com/example/sunder/sunder/random/SeededRandom", "nextLong", "()J"⟩ : MethodName)) hown (mvT hZ (hw _ (List.mem_of_getElem? (i := 11) rfl))) (mvT hZ (hw _ (List.mem_of_getElem? (i := 12) rfl))) (notFace_of_selects (args := #[]) (mvT hZ (hw _ (List.mem_of_getElem? (i := 14) rfl)))) (mvT hZ (hw _ (List.mem_of_getElem? (i := 14) rfl))) (mvT hZ (hw _ (List.mem_of_getElem? (i := 13) rfl))) (by decide) (backOf (W := 0) (rm3 l Z a0 hw [] b17 q1 (T18.heap) n0 ZN18 c18_2 u18_1 G_b17) hZ (hw _ (List.mem_of_getElem? (i := 15) rfl)) (hw _ (List.mem_of_getElem? (i := 2) rfl)) (by decide) (by decide)) q19a q19c (g := (mkF m 22 #[.val (.long q1), .second, .val (.long q2), .second, .val (.int p3), .val (.ref b15), .val (.ref b17), .unset, .unset, .unset, .unset, .unset, .unset, .unset, .unset, .unset, .unset, .unset] [(.ref b17)])) rfl (by rw [hml]; rfl) (Steps.refl _) (argsL := []) (rest := []) (lenOf pd_0_1 rfl) rfl (by show 2 * 0 + _ ≤ _; exact Nat.le_of_eq rfl) (hb hby at_22) (fun _ _ => ⟨rfl, rfl, (by decide : 2 + 0 ≤ _), (by decide : 2 + 0 ≤ _)⟩)
  dsimp only [Pt.U, Pt.locs, Pt.cells, Pt.slots] at X19 l19 y19 z19 st19 hQ19
  subst l19 y19 z19
  obtain ⟨rfl, N19q, K19, u19_1⟩ := hQ19
  have N19 := Fr.app N18 N19q
  have c19_0 := c18_0.keep K19
  have c19_1 := c18_1.keep K19 (ninS (Nat.ne_of_lt lt17_b15_b17) nin0)
  have c19_2 := c18_2.keep K19
  have KK19 : Keep h0 T19.heap [] := KK18.trans K19 (allS (P := fun x => x ∈ [] ∨ h0.size ≤ x) (Or.inr SZ_b17) all0)
  have ZN19 : n0 ≤ T19.heap.size := Nat.le_trans ZN18 K19.1
  refine goT st19 ?_
  show Go _ p e below s _ _ _ (T19.setTop (mkF m 25 #[.val (.long q1), .second, .val (.long q2), .second, .val (.int p3), .val (.ref b15), .val (.ref b17), .unset, .unset, .unset, .unset, .unset, .unset, .unset, .unset, .unset, .unset, .unset] [(.long (own_mix (q1 + (-7046029254386353131 : Int64))))]))
  refine go (fun _ => XS.lstore X19.here hx rfl (hb hby at_25) rfl (l' := #[.val (.long q1), .second, .val (.long q2), .second, .val (.int p3), .val (.ref b15), .val (.ref b17), .val (.long (own_mix (q1 + (-7046029254386353131 : Int64)))), .second, .unset, .unset, .unset, .unset, .unset, .unset, .unset, .unset, .unset]) rfl) ?_
  show Go _ p e below s _ _ _ (T19.setTop (mkF m 27 #[.val (.long q1), .second, .val (.long q2), .second, .val (.int p3), .val (.ref b15), .val (.ref b17), .val (.long (own_mix (q1 + (-7046029254386353131 : Int64)))), .second, .unset, .unset, .unset, .unset, .unset, .unset, .unset, .unset, .unset] []))
  refine go (fun _ => XS.lload X19.here hx rfl (hb hby at_27) rfl) ?_
  show Go _ p e below s _ _ _ (T19.setTop (mkF m 29 #[.val (.long q1), .second, .val (.long q2), .second, .val (.int p3), .val (.ref b15), .val (.ref b17), .val (.long (own_mix (q1 + (-7046029254386353131 : Int64)))), .second, .unset, .unset, .unset, .unset, .unset, .unset, .unset, .unset, .unset] [(.long (own_mix (q1 + (-7046029254386353131 : Int64))))]))
  refine go (fun _ => XS.bipush X19.here hx rfl (hb hby at_29)) ?_
  show Go _ p e below s _ _ _ (T19.setTop (mkF m 31 #[.val (.long q1), .second, .val (.long q2), .second, .val (.int p3), .val (.ref b15), .val (.ref b17), .val (.long (own_mix (q1 + (-7046029254386353131 : Int64)))), .second, .unset, .unset, .unset, .unset, .unset, .unset, .unset, .unset, .unset] [(.int (11 : Int32)), (.long (own_mix (q1 + (-7046029254386353131 : Int64))))]))
  refine go (fun _ => XS.lushr X19.here hx rfl (hb hby at_31) rfl) ?_
  show Go _ p e below s _ _ _ (T19.setTop (mkF m 32 #[.val (.long q1), .second, .val (.long q2), .second, .val (.int p3), .val (.ref b15), .val (.ref b17), .val (.long (own_mix (q1 + (-7046029254386353131 : Int64)))), .second, .unset, .unset, .unset, .unset, .unset, .unset, .unset, .unset, .unset] [(.long (((own_mix (q1 + (-7046029254386353131 : Int64))).toUInt64 >>> ((11 : Int32) &&& 0x3f).toInt64.toUInt64).toInt64))]))
  refine go (fun _ => XS.lstore X19.here hx rfl (hb hby at_32) rfl (l' := #[.val (.long q1), .second, .val (.long q2), .second, .val (.int p3), .val (.ref b15), .val (.ref b17), .val (.long (own_mix (q1 + (-7046029254386353131 : Int64)))), .second, .val (.long (((own_mix (q1 + (-7046029254386353131 : Int64))).toUInt64 >>> ((11 : Int32) &&& 0x3f).toInt64.toUInt64).toInt64)), .second, .unset, .unset, .unset, .unset, .unset, .unset, .unset]) rfl) ?_
  show Go _ p e below s _ _ _ (T19.setTop (mkF m 34 #[.val (.long q1), .second, .val (.long q2), .second, .val (.int p3), .val (.ref b15), .val (.ref b17), .val (.long (own_mix (q1 + (-7046029254386353131 : Int64)))), .second, .val (.long (((own_mix (q1 + (-7046029254386353131 : Int64))).toUInt64 >>> ((11 : Int32) &&& 0x3f).toInt64.toUInt64).toInt64)), .second, .unset, .unset, .unset, .unset, .unset, .unset, .unset] []))
  refine go (fun _ => XS.iload X19.here hx rfl (hb hby at_34) rfl) ?_
  show Go _ p e below s _ _ _ (T19.setTop (mkF m 36 #[.val (.long q1), .second, .val (.long q2), .second, .val (.int p3), .val (.ref b15), .val (.ref b17), .val (.long (own_mix (q1 + (-7046029254386353131 : Int64)))), .second, .val (.long (((own_mix (q1 + (-7046029254386353131 : Int64))).toUInt64 >>> ((11 : Int32) &&& 0x3f).toInt64.toUInt64).toInt64)), .second, .unset, .unset, .unset, .unset, .unset, .unset, .unset] [(.int p3)]))
  refine go (fun _ => XS.bipush X19.here hx rfl (hb hby at_36)) ?_
  show Go _ p e below s _ _ _ (T19.setTop (mkF m 38 #[.val (.long q1), .second, .val (.long q2), .second, .val (.int p3), .val (.ref b15), .val (.ref b17), .val (.long (own_mix (q1 + (-7046029254386353131 : Int64)))), .second, .val (.long (((own_mix (q1 + (-7046029254386353131 : Int64))).toUInt64 >>> ((11 : Int32) &&& 0x3f).toInt64.toUInt64).toInt64)), .second, .unset, .unset, .unset, .unset, .unset, .unset, .unset] [(.int (7 : Int32)), (.int p3)]))
  refine go (fun _ => XS.iand X19.here hx rfl (hb hby at_38) rfl) ?_
  show Go _ p e below s _ _ _ (T19.setTop (mkF m 39 #[.val (.long q1), .second, .val (.long q2), .second, .val (.int p3), .val (.ref b15), .val (.ref b17), .val (.long (own_mix (q1 + (-7046029254386353131 : Int64)))), .second, .val (.long (((own_mix (q1 + (-7046029254386353131 : Int64))).toUInt64 >>> ((11 : Int32) &&& 0x3f).toInt64.toUInt64).toInt64)), .second, .unset, .unset, .unset, .unset, .unset, .unset, .unset] [(.int (p3 &&& (7 : Int32)))]))
  refine go (fun _ => XS.istore X19.here hx rfl (hb hby at_39) rfl (l' := #[.val (.long q1), .second, .val (.long q2), .second, .val (.int p3), .val (.ref b15), .val (.ref b17), .val (.long (own_mix (q1 + (-7046029254386353131 : Int64)))), .second, .val (.long (((own_mix (q1 + (-7046029254386353131 : Int64))).toUInt64 >>> ((11 : Int32) &&& 0x3f).toInt64.toUInt64).toInt64)), .second, .val (.int (p3 &&& (7 : Int32))), .unset, .unset, .unset, .unset, .unset, .unset]) rfl) ?_
  show Go _ p e below s _ _ _ (T19.setTop (mkF m 41 #[.val (.long q1), .second, .val (.long q2), .second, .val (.int p3), .val (.ref b15), .val (.ref b17), .val (.long (own_mix (q1 + (-7046029254386353131 : Int64)))), .second, .val (.long (((own_mix (q1 + (-7046029254386353131 : Int64))).toUInt64 >>> ((11 : Int32) &&& 0x3f).toInt64.toUInt64).toInt64)), .second, .val (.int (p3 &&& (7 : Int32))), .unset, .unset, .unset, .unset, .unset, .unset] []))
  have J130 : ∀ (jj : Int64), Go (FrameEnd) p e below s room_1.cells room_1.slots (Q0 Z q1 q2 p3 h0 n0) (T19.setTop (mkF m 130 #[.val (.long q1), .second, .val (.long q2), .second, .val (.int p3), .val (.ref b15), .val (.ref b17), .val (.long (own_mix (q1 + (-7046029254386353131 : Int64)))), .second, .val (.long (((own_mix (q1 + (-7046029254386353131 : Int64))).toUInt64 >>> ((11 : Int32) &&& 0x3f).toInt64.toUInt64).toInt64)), .second, .val (.int (p3 &&& (7 : Int32))), .val (.long jj), .second, .unset, .unset, .unset, .unset] [])) := by
    intro jj
    show Go _ p e below s _ _ _ (T19.setTop (mkF m 130 #[.val (.long q1), .second, .val (.long q2), .second, .val (.int p3), .val (.ref b15), .val (.ref b17), .val (.long (own_mix (q1 + (-7046029254386353131 : Int64)))), .second, .val (.long (((own_mix (q1 + (-7046029254386353131 : Int64))).toUInt64 >>> ((11 : Int32) &&& 0x3f).toInt64.toUInt64).toInt64)), .second, .val (.int (p3 &&& (7 : Int32))), .val (.long jj), .second, .unset, .unset, .unset, .unset] []))
    refine go (fun _ => XS.lload X19.here hx rfl (hb hby at_130) rfl) ?_
    show Go _ p e below s _ _ _ (T19.setTop (mkF m 132 #[.val (.long q1), .second, .val (.long q2), .second, .val (.int p3), .val (.ref b15), .val (.ref b17), .val (.long (own_mix (q1 + (-7046029254386353131 : Int64)))), .second, .val (.long (((own_mix (q1 + (-7046029254386353131 : Int64))).toUInt64 >>> ((11 : Int32) &&& 0x3f).toInt64.toUInt64).toInt64)), .second, .val (.int (p3 &&& (7 : Int32))), .val (.long jj), .second, .unset, .unset, .unset, .unset] [(.long jj)]))
    refine go (fun _ => XS.l2dS X19.here hx rfl (hb hby at_132) rfl rfl) ?_
    show Go _ p e below s _ _ _ (T19.setTop (mkF m 133 #[.val (.long q1), .second, .val (.long q2), .second, .val (.int p3), .val (.ref b15), .val (.ref b17), .val (.long (own_mix (q1 + (-7046029254386353131 : Int64)))), .second, .val (.long (((own_mix (q1 + (-7046029254386353131 : Int64))).toUInt64 >>> ((11 : Int32) &&& 0x3f).toInt64.toUInt64).toInt64)), .second, .val (.int (p3 &&& (7 : Int32))), .val (.long jj), .second, .unset, .unset, .unset, .unset] [(.double (FP.l2d jj))]))
    refine go (X19.ldc2DoubleC hx hown (mvT hZ (hw _ (List.mem_of_getElem? (i := 20) rfl))) (g := (mkF m 133 #[.val (.long q1), .second, .val (.long q2), .second, .val (.int p3), .val (.ref b15), .val (.ref b17), .val (.long (own_mix (q1 + (-7046029254386353131 : Int64)))), .second, .val (.long (((own_mix (q1 + (-7046029254386353131 : Int64))).toUInt64 >>> ((11 : Int32) &&& 0x3f).toInt64.toUInt64).toInt64)), .second, .val (.int (p3 &&& (7 : Int32))), .val (.long jj), .second, .unset, .unset, .unset, .unset] [(.double (FP.l2d jj))])) rfl (hb hby at_133)) ?_
    show Go _ p e below s _ _ _ (T19.setTop (mkF m 136 #[.val (.long q1), .second, .val (.long q2), .second, .val (.int p3), .val (.ref b15), .val (.ref b17), .val (.long (own_mix (q1 + (-7046029254386353131 : Int64)))), .second, .val (.long (((own_mix (q1 + (-7046029254386353131 : Int64))).toUInt64 >>> ((11 : Int32) &&& 0x3f).toInt64.toUInt64).toInt64)), .second, .val (.int (p3 &&& (7 : Int32))), .val (.long jj), .second, .unset, .unset, .unset, .unset] [(.double (4368491638549381120 : UInt64)), (.double (FP.l2d jj))]))
    refine go (fun _ => XS.dmulS X19.here hx rfl (hb hby at_136) rfl (own_nn _) rfl) ?_
    show Go _ p e below s _ _ _ (T19.setTop (mkF m 137 #[.val (.long q1), .second, .val (.long q2), .second, .val (.int p3), .val (.ref b15), .val (.ref b17), .val (.long (own_mix (q1 + (-7046029254386353131 : Int64)))), .second, .val (.long (((own_mix (q1 + (-7046029254386353131 : Int64))).toUInt64 >>> ((11 : Int32) &&& 0x3f).toInt64.toUInt64).toInt64)), .second, .val (.int (p3 &&& (7 : Int32))), .val (.long jj), .second, .unset, .unset, .unset, .unset] [(.double (FP.dmul (FP.l2d jj) (4368491638549381120 : UInt64)))]))
    refine go (fun _ => XS.dstore X19.here hx rfl (hb hby at_137) rfl (l' := #[.val (.long q1), .second, .val (.long q2), .second, .val (.int p3), .val (.ref b15), .val (.ref b17), .val (.long (own_mix (q1 + (-7046029254386353131 : Int64)))), .second, .val (.long (((own_mix (q1 + (-7046029254386353131 : Int64))).toUInt64 >>> ((11 : Int32) &&& 0x3f).toInt64.toUInt64).toInt64)), .second, .val (.int (p3 &&& (7 : Int32))), .val (.long jj), .second, .val (.double (FP.dmul (FP.l2d jj) (4368491638549381120 : UInt64))), .second, .unset, .unset]) rfl) ?_
    show Go _ p e below s _ _ _ (T19.setTop (mkF m 139 #[.val (.long q1), .second, .val (.long q2), .second, .val (.int p3), .val (.ref b15), .val (.ref b17), .val (.long (own_mix (q1 + (-7046029254386353131 : Int64)))), .second, .val (.long (((own_mix (q1 + (-7046029254386353131 : Int64))).toUInt64 >>> ((11 : Int32) &&& 0x3f).toInt64.toUInt64).toInt64)), .second, .val (.int (p3 &&& (7 : Int32))), .val (.long jj), .second, .val (.double (FP.dmul (FP.l2d jj) (4368491638549381120 : UInt64))), .second, .unset, .unset] []))
    refine go (fun _ => XS.aload X19.here hx rfl (hb hby at_139) rfl rfl) ?_
    show Go _ p e below s _ _ _ (T19.setTop (mkF m 141 #[.val (.long q1), .second, .val (.long q2), .second, .val (.int p3), .val (.ref b15), .val (.ref b17), .val (.long (own_mix (q1 + (-7046029254386353131 : Int64)))), .second, .val (.long (((own_mix (q1 + (-7046029254386353131 : Int64))).toUInt64 >>> ((11 : Int32) &&& 0x3f).toInt64.toUInt64).toInt64)), .second, .val (.int (p3 &&& (7 : Int32))), .val (.long jj), .second, .val (.double (FP.dmul (FP.l2d jj) (4368491638549381120 : UInt64))), .second, .unset, .unset] [(.ref b15)]))
    refine go (fun _ => XS.dload X19.here hx rfl (hb hby at_141) rfl) ?_
    show Go _ p e below s _ _ _ (T19.setTop (mkF m 143 #[.val (.long q1), .second, .val (.long q2), .second, .val (.int p3), .val (.ref b15), .val (.ref b17), .val (.long (own_mix (q1 + (-7046029254386353131 : Int64)))), .second, .val (.long (((own_mix (q1 + (-7046029254386353131 : Int64))).toUInt64 >>> ((11 : Int32) &&& 0x3f).toInt64.toUInt64).toInt64)), .second, .val (.int (p3 &&& (7 : Int32))), .val (.long jj), .second, .val (.double (FP.dmul (FP.l2d jj) (4368491638549381120 : UInt64))), .second, .unset, .unset] [(.double (FP.dmul (FP.l2d jj) (4368491638549381120 : UInt64))), (.ref b15)]))
    obtain ⟨cq20, kq20, q20a, q20b, q20c⟩ := isOf hZ rfl c19_0
    obtain ⟨_, _, ⟨T20, L20, k20, n20⟩, -, X20, ⟨Lc20, hQ20, l20, y20, z20⟩, st20⟩ := X19.virtualBack hx (y := (⟨"com/example/sunder/sunder/random/SeededRandom", "chance", "(D)Z"⟩ : MethodName)) (z := (⟨"com/example/sunder/sunder/random/SeededRandom", "chance", "(D)Z"⟩ : MethodName)) hown (mvT hZ (hw _ (List.mem_of_getElem? (i := 21) rfl))) (mvT hZ (hw _ (List.mem_of_getElem? (i := 22) rfl))) (notFace_of_selects (args := #[]) (mvT hZ (hw _ (List.mem_of_getElem? (i := 24) rfl)))) (mvT hZ (hw _ (List.mem_of_getElem? (i := 24) rfl))) (mvT hZ (hw _ (List.mem_of_getElem? (i := 23) rfl))) (by decide) (backOf (W := 0) (rm4 l Z a0 hw [] b15 (FP.dmul (FP.l2d jj) (4368491638549381120 : UInt64)) q1 jj (T19.heap) n0 ZN19 c19_0 c19_1 G_b15 rfl) hZ (hw _ (List.mem_of_getElem? (i := 25) rfl)) (hw _ (List.mem_of_getElem? (i := 2) rfl)) (by decide) (by decide)) q20a q20c (g := (mkF m 143 #[.val (.long q1), .second, .val (.long q2), .second, .val (.int p3), .val (.ref b15), .val (.ref b17), .val (.long (own_mix (q1 + (-7046029254386353131 : Int64)))), .second, .val (.long (((own_mix (q1 + (-7046029254386353131 : Int64))).toUInt64 >>> ((11 : Int32) &&& 0x3f).toInt64.toUInt64).toInt64)), .second, .val (.int (p3 &&& (7 : Int32))), .val (.long jj), .second, .val (.double (FP.dmul (FP.l2d jj) (4368491638549381120 : UInt64))), .second, .unset, .unset] [(.double (FP.dmul (FP.l2d jj) (4368491638549381120 : UInt64))), (.ref b15)])) rfl (by rw [hml]; rfl) (Steps.refl _) (argsL := [(.double (FP.dmul (FP.l2d jj) (4368491638549381120 : UInt64)))]) (rest := []) (lenOf pd_0_2 rfl) rfl (by show 2 * 0 + _ ≤ _; exact Nat.le_of_eq rfl) (hb hby at_143) (fun _ _ => ⟨rfl, rfl, (by decide : 2 + 0 ≤ _), (by decide : 2 + 0 ≤ _)⟩)
    dsimp only [Pt.U, Pt.locs, Pt.cells, Pt.slots] at X20 l20 y20 z20 st20 hQ20
    subst l20 y20 z20
    obtain ⟨rfl, N20q, K20, u20_1⟩ := hQ20
    have N20 := Fr.app N19 N20q
    have c20_0 := c19_0.keep K20
    have c20_1 := c19_2.keep K20
    have c20_2 := u19_1.keep K20 (ninS (Ne.symm (Nat.ne_of_lt lt17_b15_b17)) nin0)
    have KK20 : Keep h0 T20.heap [] := KK19.trans K20 (allS (P := fun x => x ∈ [] ∨ h0.size ≤ x) (Or.inr SZ_b15) all0)
    have ZN20 : n0 ≤ T20.heap.size := Nat.le_trans ZN19 K20.1
    refine goT st20 ?_
    show Go _ p e below s _ _ _ (T20.setTop (mkF m 146 #[.val (.long q1), .second, .val (.long q2), .second, .val (.int p3), .val (.ref b15), .val (.ref b17), .val (.long (own_mix (q1 + (-7046029254386353131 : Int64)))), .second, .val (.long (((own_mix (q1 + (-7046029254386353131 : Int64))).toUInt64 >>> ((11 : Int32) &&& 0x3f).toInt64.toUInt64).toInt64)), .second, .val (.int (p3 &&& (7 : Int32))), .val (.long jj), .second, .val (.double (FP.dmul (FP.l2d jj) (4368491638549381120 : UInt64))), .second, .unset, .unset] [(.int (own_ch (((own_mix (q1 + (-7046029254386353131 : Int64))).toUInt64 >>> ((11 : Int32) &&& 0x3f).toInt64.toUInt64).toInt64) jj))]))
    refine go (fun _ => XS.istore X20.here hx rfl (hb hby at_146) rfl (l' := #[.val (.long q1), .second, .val (.long q2), .second, .val (.int p3), .val (.ref b15), .val (.ref b17), .val (.long (own_mix (q1 + (-7046029254386353131 : Int64)))), .second, .val (.long (((own_mix (q1 + (-7046029254386353131 : Int64))).toUInt64 >>> ((11 : Int32) &&& 0x3f).toInt64.toUInt64).toInt64)), .second, .val (.int (p3 &&& (7 : Int32))), .val (.long jj), .second, .val (.double (FP.dmul (FP.l2d jj) (4368491638549381120 : UInt64))), .second, .val (.int (own_ch (((own_mix (q1 + (-7046029254386353131 : Int64))).toUInt64 >>> ((11 : Int32) &&& 0x3f).toInt64.toUInt64).toInt64) jj)), .unset]) rfl) ?_
    show Go _ p e below s _ _ _ (T20.setTop (mkF m 148 #[.val (.long q1), .second, .val (.long q2), .second, .val (.int p3), .val (.ref b15), .val (.ref b17), .val (.long (own_mix (q1 + (-7046029254386353131 : Int64)))), .second, .val (.long (((own_mix (q1 + (-7046029254386353131 : Int64))).toUInt64 >>> ((11 : Int32) &&& 0x3f).toInt64.toUInt64).toInt64)), .second, .val (.int (p3 &&& (7 : Int32))), .val (.long jj), .second, .val (.double (FP.dmul (FP.l2d jj) (4368491638549381120 : UInt64))), .second, .val (.int (own_ch (((own_mix (q1 + (-7046029254386353131 : Int64))).toUInt64 >>> ((11 : Int32) &&& 0x3f).toInt64.toUInt64).toInt64) jj)), .unset] []))
    refine go (fun _ => XS.lload X20.here hx rfl (hb hby at_148) rfl) ?_
    show Go _ p e below s _ _ _ (T20.setTop (mkF m 150 #[.val (.long q1), .second, .val (.long q2), .second, .val (.int p3), .val (.ref b15), .val (.ref b17), .val (.long (own_mix (q1 + (-7046029254386353131 : Int64)))), .second, .val (.long (((own_mix (q1 + (-7046029254386353131 : Int64))).toUInt64 >>> ((11 : Int32) &&& 0x3f).toInt64.toUInt64).toInt64)), .second, .val (.int (p3 &&& (7 : Int32))), .val (.long jj), .second, .val (.double (FP.dmul (FP.l2d jj) (4368491638549381120 : UInt64))), .second, .val (.int (own_ch (((own_mix (q1 + (-7046029254386353131 : Int64))).toUInt64 >>> ((11 : Int32) &&& 0x3f).toInt64.toUInt64).toInt64) jj)), .unset] [(.long (((own_mix (q1 + (-7046029254386353131 : Int64))).toUInt64 >>> ((11 : Int32) &&& 0x3f).toInt64.toUInt64).toInt64))]))
    refine go (fun _ => XS.lload X20.here hx rfl (hb hby at_150) rfl) ?_
    show Go _ p e below s _ _ _ (T20.setTop (mkF m 152 #[.val (.long q1), .second, .val (.long q2), .second, .val (.int p3), .val (.ref b15), .val (.ref b17), .val (.long (own_mix (q1 + (-7046029254386353131 : Int64)))), .second, .val (.long (((own_mix (q1 + (-7046029254386353131 : Int64))).toUInt64 >>> ((11 : Int32) &&& 0x3f).toInt64.toUInt64).toInt64)), .second, .val (.int (p3 &&& (7 : Int32))), .val (.long jj), .second, .val (.double (FP.dmul (FP.l2d jj) (4368491638549381120 : UInt64))), .second, .val (.int (own_ch (((own_mix (q1 + (-7046029254386353131 : Int64))).toUInt64 >>> ((11 : Int32) &&& 0x3f).toInt64.toUInt64).toInt64) jj)), .unset] [(.long jj), (.long (((own_mix (q1 + (-7046029254386353131 : Int64))).toUInt64 >>> ((11 : Int32) &&& 0x3f).toInt64.toUInt64).toInt64))]))
    refine go (fun _ => XS.lcmp X20.here hx rfl (hb hby at_152) rfl) ?_
    show Go _ p e below s _ _ _ (T20.setTop (mkF m 153 #[.val (.long q1), .second, .val (.long q2), .second, .val (.int p3), .val (.ref b15), .val (.ref b17), .val (.long (own_mix (q1 + (-7046029254386353131 : Int64)))), .second, .val (.long (((own_mix (q1 + (-7046029254386353131 : Int64))).toUInt64 >>> ((11 : Int32) &&& 0x3f).toInt64.toUInt64).toInt64)), .second, .val (.int (p3 &&& (7 : Int32))), .val (.long jj), .second, .val (.double (FP.dmul (FP.l2d jj) (4368491638549381120 : UInt64))), .second, .val (.int (own_ch (((own_mix (q1 + (-7046029254386353131 : Int64))).toUInt64 >>> ((11 : Int32) &&& 0x3f).toInt64.toUInt64).toInt64) jj)), .unset] [(.int (lcmpW (((own_mix (q1 + (-7046029254386353131 : Int64))).toUInt64 >>> ((11 : Int32) &&& 0x3f).toInt64.toUInt64).toInt64) jj))]))
    by_cases hc153_21 : (((own_mix (q1 + (-7046029254386353131 : Int64))).toUInt64 >>> ((11 : Int32) &&& 0x3f).toInt64.toUInt64).toInt64) < jj
    · refine go (fun _ => XS.ifNo X20.here hx rfl (hb hby at_153) rfl ((if0 _ _).trans (tlt ((lw_lt (((own_mix (q1 + (-7046029254386353131 : Int64))).toUInt64 >>> ((11 : Int32) &&& 0x3f).toInt64.toUInt64).toInt64) jj).mpr hc153_21)).2.1)) ?_
      show Go _ p e below s _ _ _ (T20.setTop (mkF m 156 #[.val (.long q1), .second, .val (.long q2), .second, .val (.int p3), .val (.ref b15), .val (.ref b17), .val (.long (own_mix (q1 + (-7046029254386353131 : Int64)))), .second, .val (.long (((own_mix (q1 + (-7046029254386353131 : Int64))).toUInt64 >>> ((11 : Int32) &&& 0x3f).toInt64.toUInt64).toInt64)), .second, .val (.int (p3 &&& (7 : Int32))), .val (.long jj), .second, .val (.double (FP.dmul (FP.l2d jj) (4368491638549381120 : UInt64))), .second, .val (.int (own_ch (((own_mix (q1 + (-7046029254386353131 : Int64))).toUInt64 >>> ((11 : Int32) &&& 0x3f).toInt64.toUInt64).toInt64) jj)), .unset] []))
      refine go (fun _ => XS.iconst X20.here hx rfl (hb hby at_156)) ?_
      show Go _ p e below s _ _ _ (T20.setTop (mkF m 157 #[.val (.long q1), .second, .val (.long q2), .second, .val (.int p3), .val (.ref b15), .val (.ref b17), .val (.long (own_mix (q1 + (-7046029254386353131 : Int64)))), .second, .val (.long (((own_mix (q1 + (-7046029254386353131 : Int64))).toUInt64 >>> ((11 : Int32) &&& 0x3f).toInt64.toUInt64).toInt64)), .second, .val (.int (p3 &&& (7 : Int32))), .val (.long jj), .second, .val (.double (FP.dmul (FP.l2d jj) (4368491638549381120 : UInt64))), .second, .val (.int (own_ch (((own_mix (q1 + (-7046029254386353131 : Int64))).toUInt64 >>> ((11 : Int32) &&& 0x3f).toInt64.toUInt64).toInt64) jj)), .unset] [(.int (1 : Int32))]))
      refine go (fun _ => XS.goto X20.here hx rfl (pc0 := 157) (pc' := 161) rfl (hb hby at_157) (by decide) (by decide)) ?_
      show Go _ p e below s _ _ _ (T20.setTop (mkF m 161 #[.val (.long q1), .second, .val (.long q2), .second, .val (.int p3), .val (.ref b15), .val (.ref b17), .val (.long (own_mix (q1 + (-7046029254386353131 : Int64)))), .second, .val (.long (((own_mix (q1 + (-7046029254386353131 : Int64))).toUInt64 >>> ((11 : Int32) &&& 0x3f).toInt64.toUInt64).toInt64)), .second, .val (.int (p3 &&& (7 : Int32))), .val (.long jj), .second, .val (.double (FP.dmul (FP.l2d jj) (4368491638549381120 : UInt64))), .second, .val (.int (own_ch (((own_mix (q1 + (-7046029254386353131 : Int64))).toUInt64 >>> ((11 : Int32) &&& 0x3f).toInt64.toUInt64).toInt64) jj)), .unset] [(.int (1 : Int32))]))
      refine go (fun _ => XS.istore X20.here hx rfl (hb hby at_161) rfl (l' := #[.val (.long q1), .second, .val (.long q2), .second, .val (.int p3), .val (.ref b15), .val (.ref b17), .val (.long (own_mix (q1 + (-7046029254386353131 : Int64)))), .second, .val (.long (((own_mix (q1 + (-7046029254386353131 : Int64))).toUInt64 >>> ((11 : Int32) &&& 0x3f).toInt64.toUInt64).toInt64)), .second, .val (.int (p3 &&& (7 : Int32))), .val (.long jj), .second, .val (.double (FP.dmul (FP.l2d jj) (4368491638549381120 : UInt64))), .second, .val (.int (own_ch (((own_mix (q1 + (-7046029254386353131 : Int64))).toUInt64 >>> ((11 : Int32) &&& 0x3f).toInt64.toUInt64).toInt64) jj)), .val (.int (1 : Int32))]) rfl) ?_
      show Go _ p e below s _ _ _ (T20.setTop (mkF m 163 #[.val (.long q1), .second, .val (.long q2), .second, .val (.int p3), .val (.ref b15), .val (.ref b17), .val (.long (own_mix (q1 + (-7046029254386353131 : Int64)))), .second, .val (.long (((own_mix (q1 + (-7046029254386353131 : Int64))).toUInt64 >>> ((11 : Int32) &&& 0x3f).toInt64.toUInt64).toInt64)), .second, .val (.int (p3 &&& (7 : Int32))), .val (.long jj), .second, .val (.double (FP.dmul (FP.l2d jj) (4368491638549381120 : UInt64))), .second, .val (.int (own_ch (((own_mix (q1 + (-7046029254386353131 : Int64))).toUInt64 >>> ((11 : Int32) &&& 0x3f).toInt64.toUInt64).toInt64) jj)), .val (.int (1 : Int32))] []))
      refine go (fun _ => XS.iload X20.here hx rfl (hb hby at_163) rfl) ?_
      show Go _ p e below s _ _ _ (T20.setTop (mkF m 165 #[.val (.long q1), .second, .val (.long q2), .second, .val (.int p3), .val (.ref b15), .val (.ref b17), .val (.long (own_mix (q1 + (-7046029254386353131 : Int64)))), .second, .val (.long (((own_mix (q1 + (-7046029254386353131 : Int64))).toUInt64 >>> ((11 : Int32) &&& 0x3f).toInt64.toUInt64).toInt64)), .second, .val (.int (p3 &&& (7 : Int32))), .val (.long jj), .second, .val (.double (FP.dmul (FP.l2d jj) (4368491638549381120 : UInt64))), .second, .val (.int (own_ch (((own_mix (q1 + (-7046029254386353131 : Int64))).toUInt64 >>> ((11 : Int32) &&& 0x3f).toInt64.toUInt64).toInt64) jj)), .val (.int (1 : Int32))] [(.int (own_ch (((own_mix (q1 + (-7046029254386353131 : Int64))).toUInt64 >>> ((11 : Int32) &&& 0x3f).toInt64.toUInt64).toInt64) jj))]))
      refine go (fun _ => XS.iload X20.here hx rfl (hb hby at_165) rfl) ?_
      show Go _ p e below s _ _ _ (T20.setTop (mkF m 167 #[.val (.long q1), .second, .val (.long q2), .second, .val (.int p3), .val (.ref b15), .val (.ref b17), .val (.long (own_mix (q1 + (-7046029254386353131 : Int64)))), .second, .val (.long (((own_mix (q1 + (-7046029254386353131 : Int64))).toUInt64 >>> ((11 : Int32) &&& 0x3f).toInt64.toUInt64).toInt64)), .second, .val (.int (p3 &&& (7 : Int32))), .val (.long jj), .second, .val (.double (FP.dmul (FP.l2d jj) (4368491638549381120 : UInt64))), .second, .val (.int (own_ch (((own_mix (q1 + (-7046029254386353131 : Int64))).toUInt64 >>> ((11 : Int32) &&& 0x3f).toInt64.toUInt64).toInt64) jj)), .val (.int (1 : Int32))] [(.int (1 : Int32)), (.int (own_ch (((own_mix (q1 + (-7046029254386353131 : Int64))).toUInt64 >>> ((11 : Int32) &&& 0x3f).toInt64.toUInt64).toInt64) jj))]))
      refine go (fun _ => XS.icmpYes X20.here hx rfl (pc0 := 167) (pc' := 172) rfl (hb hby at_167) rfl (teq (if_pos hc153_21 : (own_ch (((own_mix (q1 + (-7046029254386353131 : Int64))).toUInt64 >>> ((11 : Int32) &&& 0x3f).toInt64.toUInt64).toInt64) jj) = (1 : Int32))).1 (by decide) (by decide)) ?_
      show Go _ p e below s _ _ _ (T20.setTop (mkF m 172 #[.val (.long q1), .second, .val (.long q2), .second, .val (.int p3), .val (.ref b15), .val (.ref b17), .val (.long (own_mix (q1 + (-7046029254386353131 : Int64)))), .second, .val (.long (((own_mix (q1 + (-7046029254386353131 : Int64))).toUInt64 >>> ((11 : Int32) &&& 0x3f).toInt64.toUInt64).toInt64)), .second, .val (.int (p3 &&& (7 : Int32))), .val (.long jj), .second, .val (.double (FP.dmul (FP.l2d jj) (4368491638549381120 : UInt64))), .second, .val (.int (own_ch (((own_mix (q1 + (-7046029254386353131 : Int64))).toUInt64 >>> ((11 : Int32) &&& 0x3f).toInt64.toUInt64).toInt64) jj)), .val (.int (1 : Int32))] []))
      refine go (fun _ => XS.aload X20.here hx rfl (hb hby at_172) rfl rfl) ?_
      show Go _ p e below s _ _ _ (T20.setTop (mkF m 174 #[.val (.long q1), .second, .val (.long q2), .second, .val (.int p3), .val (.ref b15), .val (.ref b17), .val (.long (own_mix (q1 + (-7046029254386353131 : Int64)))), .second, .val (.long (((own_mix (q1 + (-7046029254386353131 : Int64))).toUInt64 >>> ((11 : Int32) &&& 0x3f).toInt64.toUInt64).toInt64)), .second, .val (.int (p3 &&& (7 : Int32))), .val (.long jj), .second, .val (.double (FP.dmul (FP.l2d jj) (4368491638549381120 : UInt64))), .second, .val (.int (own_ch (((own_mix (q1 + (-7046029254386353131 : Int64))).toUInt64 >>> ((11 : Int32) &&& 0x3f).toInt64.toUInt64).toInt64) jj)), .val (.int (1 : Int32))] [(.ref b15)]))
      obtain ⟨cq22, kq22, q22a, q22b, q22c⟩ := isOf hZ rfl c20_0
      obtain ⟨_, _, ⟨T22, L22, k22, n22⟩, -, X22, ⟨Lc22, hQ22, l22, y22, z22⟩, st22⟩ := X20.virtualBack hx (y := (⟨"com/example/sunder/sunder/random/SeededRandom", "nextLong", "()J"⟩ : MethodName)) (z := (⟨"com/example/sunder/sunder/random/SeededRandom", "nextLong", "()J"⟩ : MethodName)) hown (mvT hZ (hw _ (List.mem_of_getElem? (i := 11) rfl))) (mvT hZ (hw _ (List.mem_of_getElem? (i := 12) rfl))) (notFace_of_selects (args := #[]) (mvT hZ (hw _ (List.mem_of_getElem? (i := 14) rfl)))) (mvT hZ (hw _ (List.mem_of_getElem? (i := 14) rfl))) (mvT hZ (hw _ (List.mem_of_getElem? (i := 13) rfl))) (by decide) (backOf (W := 0) (rm3 l Z a0 hw [] b15 (q1 + (-7046029254386353131 : Int64)) (T20.heap) n0 ZN20 c20_0 u20_1 G_b15) hZ (hw _ (List.mem_of_getElem? (i := 15) rfl)) (hw _ (List.mem_of_getElem? (i := 2) rfl)) (by decide) (by decide)) q22a q22c (g := (mkF m 174 #[.val (.long q1), .second, .val (.long q2), .second, .val (.int p3), .val (.ref b15), .val (.ref b17), .val (.long (own_mix (q1 + (-7046029254386353131 : Int64)))), .second, .val (.long (((own_mix (q1 + (-7046029254386353131 : Int64))).toUInt64 >>> ((11 : Int32) &&& 0x3f).toInt64.toUInt64).toInt64)), .second, .val (.int (p3 &&& (7 : Int32))), .val (.long jj), .second, .val (.double (FP.dmul (FP.l2d jj) (4368491638549381120 : UInt64))), .second, .val (.int (own_ch (((own_mix (q1 + (-7046029254386353131 : Int64))).toUInt64 >>> ((11 : Int32) &&& 0x3f).toInt64.toUInt64).toInt64) jj)), .val (.int (1 : Int32))] [(.ref b15)])) rfl (by rw [hml]; rfl) (Steps.refl _) (argsL := []) (rest := []) (lenOf pd_0_1 rfl) rfl (by show 2 * 0 + _ ≤ _; exact Nat.le_of_eq rfl) (hb hby at_174) (fun _ _ => ⟨rfl, rfl, (by decide : 2 + 0 ≤ _), (by decide : 2 + 0 ≤ _)⟩)
      dsimp only [Pt.U, Pt.locs, Pt.cells, Pt.slots] at X22 l22 y22 z22 st22 hQ22
      subst l22 y22 z22
      obtain ⟨rfl, N22q, K22, u22_1⟩ := hQ22
      have N22 := Fr.app N20 N22q
      have c22_0 := c20_0.keep K22
      have c22_1 := c20_1.keep K22
      have c22_2 := c20_2.keep K22 (ninS (Ne.symm (Nat.ne_of_lt lt17_b15_b17)) nin0)
      have KK22 : Keep h0 T22.heap [] := KK20.trans K22 (allS (P := fun x => x ∈ [] ∨ h0.size ≤ x) (Or.inr SZ_b15) all0)
      have ZN22 : n0 ≤ T22.heap.size := Nat.le_trans ZN20 K22.1
      refine goT st22 ?_
      show Go _ p e below s _ _ _ (T22.setTop (mkF m 177 #[.val (.long q1), .second, .val (.long q2), .second, .val (.int p3), .val (.ref b15), .val (.ref b17), .val (.long (own_mix (q1 + (-7046029254386353131 : Int64)))), .second, .val (.long (((own_mix (q1 + (-7046029254386353131 : Int64))).toUInt64 >>> ((11 : Int32) &&& 0x3f).toInt64.toUInt64).toInt64)), .second, .val (.int (p3 &&& (7 : Int32))), .val (.long jj), .second, .val (.double (FP.dmul (FP.l2d jj) (4368491638549381120 : UInt64))), .second, .val (.int (own_ch (((own_mix (q1 + (-7046029254386353131 : Int64))).toUInt64 >>> ((11 : Int32) &&& 0x3f).toInt64.toUInt64).toInt64) jj)), .val (.int (1 : Int32))] [(.long (own_mix ((q1 + (-7046029254386353131 : Int64)) + (-7046029254386353131 : Int64))))]))
      refine go (fun _ => XS.aload X22.here hx rfl (hb hby at_177) rfl rfl) ?_
      show Go _ p e below s _ _ _ (T22.setTop (mkF m 179 #[.val (.long q1), .second, .val (.long q2), .second, .val (.int p3), .val (.ref b15), .val (.ref b17), .val (.long (own_mix (q1 + (-7046029254386353131 : Int64)))), .second, .val (.long (((own_mix (q1 + (-7046029254386353131 : Int64))).toUInt64 >>> ((11 : Int32) &&& 0x3f).toInt64.toUInt64).toInt64)), .second, .val (.int (p3 &&& (7 : Int32))), .val (.long jj), .second, .val (.double (FP.dmul (FP.l2d jj) (4368491638549381120 : UInt64))), .second, .val (.int (own_ch (((own_mix (q1 + (-7046029254386353131 : Int64))).toUInt64 >>> ((11 : Int32) &&& 0x3f).toInt64.toUInt64).toInt64) jj)), .val (.int (1 : Int32))] [(.ref b17), (.long (own_mix ((q1 + (-7046029254386353131 : Int64)) + (-7046029254386353131 : Int64))))]))
      obtain ⟨cq23, kq23, q23a, q23b, q23c⟩ := isOf hZ rfl c22_1
      obtain ⟨_, _, ⟨T23, L23, k23, n23⟩, -, X23, ⟨Lc23, hQ23, l23, y23, z23⟩, st23⟩ := X22.virtualBack hx (y := (⟨"com/example/sunder/sunder/random/SeededRandom", "nextLong", "()J"⟩ : MethodName)) (z := (⟨"com/example/sunder/sunder/random/SeededRandom", "nextLong", "()J"⟩ : MethodName)) hown (mvT hZ (hw _ (List.mem_of_getElem? (i := 11) rfl))) (mvT hZ (hw _ (List.mem_of_getElem? (i := 12) rfl))) (notFace_of_selects (args := #[]) (mvT hZ (hw _ (List.mem_of_getElem? (i := 14) rfl)))) (mvT hZ (hw _ (List.mem_of_getElem? (i := 14) rfl))) (mvT hZ (hw _ (List.mem_of_getElem? (i := 13) rfl))) (by decide) (backOf (W := 2) (rm3 l Z a0 hw [] b17 (q1 + (-7046029254386353131 : Int64)) (T22.heap) n0 ZN22 c22_1 c22_2 G_b17) hZ (hw _ (List.mem_of_getElem? (i := 15) rfl)) (hw _ (List.mem_of_getElem? (i := 2) rfl)) (by decide) (by decide)) q23a q23c (g := (mkF m 179 #[.val (.long q1), .second, .val (.long q2), .second, .val (.int p3), .val (.ref b15), .val (.ref b17), .val (.long (own_mix (q1 + (-7046029254386353131 : Int64)))), .second, .val (.long (((own_mix (q1 + (-7046029254386353131 : Int64))).toUInt64 >>> ((11 : Int32) &&& 0x3f).toInt64.toUInt64).toInt64)), .second, .val (.int (p3 &&& (7 : Int32))), .val (.long jj), .second, .val (.double (FP.dmul (FP.l2d jj) (4368491638549381120 : UInt64))), .second, .val (.int (own_ch (((own_mix (q1 + (-7046029254386353131 : Int64))).toUInt64 >>> ((11 : Int32) &&& 0x3f).toInt64.toUInt64).toInt64) jj)), .val (.int (1 : Int32))] [(.ref b17), (.long (own_mix ((q1 + (-7046029254386353131 : Int64)) + (-7046029254386353131 : Int64))))])) rfl (by rw [hml]; rfl) (Steps.refl _) (argsL := []) (rest := [(.long (own_mix ((q1 + (-7046029254386353131 : Int64)) + (-7046029254386353131 : Int64))))]) (lenOf pd_0_1 rfl) rfl (by show 2 * 0 + _ ≤ _; exact Nat.le_of_eq rfl) (hb hby at_179) (fun _ _ => ⟨rfl, rfl, (by decide : 2 + 0 ≤ _), (by decide : 2 + 0 ≤ _)⟩)
      dsimp only [Pt.U, Pt.locs, Pt.cells, Pt.slots] at X23 l23 y23 z23 st23 hQ23
      subst l23 y23 z23
      obtain ⟨rfl, N23q, K23, u23_1⟩ := hQ23
      have N23 := Fr.app N22 N23q
      have c23_0 := c22_0.keep K23
      have c23_1 := c22_1.keep K23
      have c23_2 := u22_1.keep K23 (ninS (Nat.ne_of_lt lt17_b15_b17) nin0)
      have KK23 : Keep h0 T23.heap [] := KK22.trans K23 (allS (P := fun x => x ∈ [] ∨ h0.size ≤ x) (Or.inr SZ_b17) all0)
      have ZN23 : n0 ≤ T23.heap.size := Nat.le_trans ZN22 K23.1
      refine goT st23 ?_
      show Go _ p e below s _ _ _ (T23.setTop (mkF m 182 #[.val (.long q1), .second, .val (.long q2), .second, .val (.int p3), .val (.ref b15), .val (.ref b17), .val (.long (own_mix (q1 + (-7046029254386353131 : Int64)))), .second, .val (.long (((own_mix (q1 + (-7046029254386353131 : Int64))).toUInt64 >>> ((11 : Int32) &&& 0x3f).toInt64.toUInt64).toInt64)), .second, .val (.int (p3 &&& (7 : Int32))), .val (.long jj), .second, .val (.double (FP.dmul (FP.l2d jj) (4368491638549381120 : UInt64))), .second, .val (.int (own_ch (((own_mix (q1 + (-7046029254386353131 : Int64))).toUInt64 >>> ((11 : Int32) &&& 0x3f).toInt64.toUInt64).toInt64) jj)), .val (.int (1 : Int32))] [(.long (own_mix ((q1 + (-7046029254386353131 : Int64)) + (-7046029254386353131 : Int64)))), (.long (own_mix ((q1 + (-7046029254386353131 : Int64)) + (-7046029254386353131 : Int64))))]))
      refine go (fun _ => XS.lcmp X23.here hx rfl (hb hby at_182) rfl) ?_
      show Go _ p e below s _ _ _ (T23.setTop (mkF m 183 #[.val (.long q1), .second, .val (.long q2), .second, .val (.int p3), .val (.ref b15), .val (.ref b17), .val (.long (own_mix (q1 + (-7046029254386353131 : Int64)))), .second, .val (.long (((own_mix (q1 + (-7046029254386353131 : Int64))).toUInt64 >>> ((11 : Int32) &&& 0x3f).toInt64.toUInt64).toInt64)), .second, .val (.int (p3 &&& (7 : Int32))), .val (.long jj), .second, .val (.double (FP.dmul (FP.l2d jj) (4368491638549381120 : UInt64))), .second, .val (.int (own_ch (((own_mix (q1 + (-7046029254386353131 : Int64))).toUInt64 >>> ((11 : Int32) &&& 0x3f).toInt64.toUInt64).toInt64) jj)), .val (.int (1 : Int32))] [(.int (lcmpW (own_mix ((q1 + (-7046029254386353131 : Int64)) + (-7046029254386353131 : Int64))) (own_mix ((q1 + (-7046029254386353131 : Int64)) + (-7046029254386353131 : Int64)))))]))
      refine go (fun _ => XS.ifNo X23.here hx rfl (hb hby at_183) rfl ((if0 _ _).trans (teq ((lw_eq (own_mix ((q1 + (-7046029254386353131 : Int64)) + (-7046029254386353131 : Int64))) (own_mix ((q1 + (-7046029254386353131 : Int64)) + (-7046029254386353131 : Int64)))).mpr (rfl : (own_mix ((q1 + (-7046029254386353131 : Int64)) + (-7046029254386353131 : Int64))) = (own_mix ((q1 + (-7046029254386353131 : Int64)) + (-7046029254386353131 : Int64)))))).2)) ?_
      show Go _ p e below s _ _ _ (T23.setTop (mkF m 186 #[.val (.long q1), .second, .val (.long q2), .second, .val (.int p3), .val (.ref b15), .val (.ref b17), .val (.long (own_mix (q1 + (-7046029254386353131 : Int64)))), .second, .val (.long (((own_mix (q1 + (-7046029254386353131 : Int64))).toUInt64 >>> ((11 : Int32) &&& 0x3f).toInt64.toUInt64).toInt64)), .second, .val (.int (p3 &&& (7 : Int32))), .val (.long jj), .second, .val (.double (FP.dmul (FP.l2d jj) (4368491638549381120 : UInt64))), .second, .val (.int (own_ch (((own_mix (q1 + (-7046029254386353131 : Int64))).toUInt64 >>> ((11 : Int32) &&& 0x3f).toInt64.toUInt64).toInt64) jj)), .val (.int (1 : Int32))] []))
      refine go (fun _ => XS.iconst X23.here hx rfl (hb hby at_186)) ?_
      show Go _ p e below s _ _ _ (T23.setTop (mkF m 187 #[.val (.long q1), .second, .val (.long q2), .second, .val (.int p3), .val (.ref b15), .val (.ref b17), .val (.long (own_mix (q1 + (-7046029254386353131 : Int64)))), .second, .val (.long (((own_mix (q1 + (-7046029254386353131 : Int64))).toUInt64 >>> ((11 : Int32) &&& 0x3f).toInt64.toUInt64).toInt64)), .second, .val (.int (p3 &&& (7 : Int32))), .val (.long jj), .second, .val (.double (FP.dmul (FP.l2d jj) (4368491638549381120 : UInt64))), .second, .val (.int (own_ch (((own_mix (q1 + (-7046029254386353131 : Int64))).toUInt64 >>> ((11 : Int32) &&& 0x3f).toInt64.toUInt64).toInt64) jj)), .val (.int (1 : Int32))] [(.int (1 : Int32))]))
      refine go (fun _ => XS.goto X23.here hx rfl (pc0 := 187) (pc' := 191) rfl (hb hby at_187) (by decide) (by decide)) ?_
      show Go _ p e below s _ _ _ (T23.setTop (mkF m 191 #[.val (.long q1), .second, .val (.long q2), .second, .val (.int p3), .val (.ref b15), .val (.ref b17), .val (.long (own_mix (q1 + (-7046029254386353131 : Int64)))), .second, .val (.long (((own_mix (q1 + (-7046029254386353131 : Int64))).toUInt64 >>> ((11 : Int32) &&& 0x3f).toInt64.toUInt64).toInt64)), .second, .val (.int (p3 &&& (7 : Int32))), .val (.long jj), .second, .val (.double (FP.dmul (FP.l2d jj) (4368491638549381120 : UInt64))), .second, .val (.int (own_ch (((own_mix (q1 + (-7046029254386353131 : Int64))).toUInt64 >>> ((11 : Int32) &&& 0x3f).toInt64.toUInt64).toInt64) jj)), .val (.int (1 : Int32))] [(.int (1 : Int32))]))
      refine goRet X23 hx Bd.notSynchronized Bd.returns rfl (Or.inl ⟨rfl, Or.inr (Or.inl rfl), _, rfl⟩) (hb hby at_191) (by decide) (by decide) (by refine ⟨rfl, N23⟩)
    · refine go (fun _ => XS.ifYes X20.here hx rfl (pc0 := 153) (pc' := 160) rfl (hb hby at_153) rfl ((if0 _ _).trans (flt (fun qq => hc153_21 ((lw_lt (((own_mix (q1 + (-7046029254386353131 : Int64))).toUInt64 >>> ((11 : Int32) &&& 0x3f).toInt64.toUInt64).toInt64) jj).mp qq))).2.1) (by decide) (by decide)) ?_
      show Go _ p e below s _ _ _ (T20.setTop (mkF m 160 #[.val (.long q1), .second, .val (.long q2), .second, .val (.int p3), .val (.ref b15), .val (.ref b17), .val (.long (own_mix (q1 + (-7046029254386353131 : Int64)))), .second, .val (.long (((own_mix (q1 + (-7046029254386353131 : Int64))).toUInt64 >>> ((11 : Int32) &&& 0x3f).toInt64.toUInt64).toInt64)), .second, .val (.int (p3 &&& (7 : Int32))), .val (.long jj), .second, .val (.double (FP.dmul (FP.l2d jj) (4368491638549381120 : UInt64))), .second, .val (.int (own_ch (((own_mix (q1 + (-7046029254386353131 : Int64))).toUInt64 >>> ((11 : Int32) &&& 0x3f).toInt64.toUInt64).toInt64) jj)), .unset] []))
      refine go (fun _ => XS.iconst X20.here hx rfl (hb hby at_160)) ?_
      show Go _ p e below s _ _ _ (T20.setTop (mkF m 161 #[.val (.long q1), .second, .val (.long q2), .second, .val (.int p3), .val (.ref b15), .val (.ref b17), .val (.long (own_mix (q1 + (-7046029254386353131 : Int64)))), .second, .val (.long (((own_mix (q1 + (-7046029254386353131 : Int64))).toUInt64 >>> ((11 : Int32) &&& 0x3f).toInt64.toUInt64).toInt64)), .second, .val (.int (p3 &&& (7 : Int32))), .val (.long jj), .second, .val (.double (FP.dmul (FP.l2d jj) (4368491638549381120 : UInt64))), .second, .val (.int (own_ch (((own_mix (q1 + (-7046029254386353131 : Int64))).toUInt64 >>> ((11 : Int32) &&& 0x3f).toInt64.toUInt64).toInt64) jj)), .unset] [(.int (0 : Int32))]))
      refine go (fun _ => XS.istore X20.here hx rfl (hb hby at_161) rfl (l' := #[.val (.long q1), .second, .val (.long q2), .second, .val (.int p3), .val (.ref b15), .val (.ref b17), .val (.long (own_mix (q1 + (-7046029254386353131 : Int64)))), .second, .val (.long (((own_mix (q1 + (-7046029254386353131 : Int64))).toUInt64 >>> ((11 : Int32) &&& 0x3f).toInt64.toUInt64).toInt64)), .second, .val (.int (p3 &&& (7 : Int32))), .val (.long jj), .second, .val (.double (FP.dmul (FP.l2d jj) (4368491638549381120 : UInt64))), .second, .val (.int (own_ch (((own_mix (q1 + (-7046029254386353131 : Int64))).toUInt64 >>> ((11 : Int32) &&& 0x3f).toInt64.toUInt64).toInt64) jj)), .val (.int (0 : Int32))]) rfl) ?_
      show Go _ p e below s _ _ _ (T20.setTop (mkF m 163 #[.val (.long q1), .second, .val (.long q2), .second, .val (.int p3), .val (.ref b15), .val (.ref b17), .val (.long (own_mix (q1 + (-7046029254386353131 : Int64)))), .second, .val (.long (((own_mix (q1 + (-7046029254386353131 : Int64))).toUInt64 >>> ((11 : Int32) &&& 0x3f).toInt64.toUInt64).toInt64)), .second, .val (.int (p3 &&& (7 : Int32))), .val (.long jj), .second, .val (.double (FP.dmul (FP.l2d jj) (4368491638549381120 : UInt64))), .second, .val (.int (own_ch (((own_mix (q1 + (-7046029254386353131 : Int64))).toUInt64 >>> ((11 : Int32) &&& 0x3f).toInt64.toUInt64).toInt64) jj)), .val (.int (0 : Int32))] []))
      refine go (fun _ => XS.iload X20.here hx rfl (hb hby at_163) rfl) ?_
      show Go _ p e below s _ _ _ (T20.setTop (mkF m 165 #[.val (.long q1), .second, .val (.long q2), .second, .val (.int p3), .val (.ref b15), .val (.ref b17), .val (.long (own_mix (q1 + (-7046029254386353131 : Int64)))), .second, .val (.long (((own_mix (q1 + (-7046029254386353131 : Int64))).toUInt64 >>> ((11 : Int32) &&& 0x3f).toInt64.toUInt64).toInt64)), .second, .val (.int (p3 &&& (7 : Int32))), .val (.long jj), .second, .val (.double (FP.dmul (FP.l2d jj) (4368491638549381120 : UInt64))), .second, .val (.int (own_ch (((own_mix (q1 + (-7046029254386353131 : Int64))).toUInt64 >>> ((11 : Int32) &&& 0x3f).toInt64.toUInt64).toInt64) jj)), .val (.int (0 : Int32))] [(.int (own_ch (((own_mix (q1 + (-7046029254386353131 : Int64))).toUInt64 >>> ((11 : Int32) &&& 0x3f).toInt64.toUInt64).toInt64) jj))]))
      refine go (fun _ => XS.iload X20.here hx rfl (hb hby at_165) rfl) ?_
      show Go _ p e below s _ _ _ (T20.setTop (mkF m 167 #[.val (.long q1), .second, .val (.long q2), .second, .val (.int p3), .val (.ref b15), .val (.ref b17), .val (.long (own_mix (q1 + (-7046029254386353131 : Int64)))), .second, .val (.long (((own_mix (q1 + (-7046029254386353131 : Int64))).toUInt64 >>> ((11 : Int32) &&& 0x3f).toInt64.toUInt64).toInt64)), .second, .val (.int (p3 &&& (7 : Int32))), .val (.long jj), .second, .val (.double (FP.dmul (FP.l2d jj) (4368491638549381120 : UInt64))), .second, .val (.int (own_ch (((own_mix (q1 + (-7046029254386353131 : Int64))).toUInt64 >>> ((11 : Int32) &&& 0x3f).toInt64.toUInt64).toInt64) jj)), .val (.int (0 : Int32))] [(.int (0 : Int32)), (.int (own_ch (((own_mix (q1 + (-7046029254386353131 : Int64))).toUInt64 >>> ((11 : Int32) &&& 0x3f).toInt64.toUInt64).toInt64) jj))]))
      refine go (fun _ => XS.icmpYes X20.here hx rfl (pc0 := 167) (pc' := 172) rfl (hb hby at_167) rfl (teq (if_neg hc153_21 : (own_ch (((own_mix (q1 + (-7046029254386353131 : Int64))).toUInt64 >>> ((11 : Int32) &&& 0x3f).toInt64.toUInt64).toInt64) jj) = (0 : Int32))).1 (by decide) (by decide)) ?_
      show Go _ p e below s _ _ _ (T20.setTop (mkF m 172 #[.val (.long q1), .second, .val (.long q2), .second, .val (.int p3), .val (.ref b15), .val (.ref b17), .val (.long (own_mix (q1 + (-7046029254386353131 : Int64)))), .second, .val (.long (((own_mix (q1 + (-7046029254386353131 : Int64))).toUInt64 >>> ((11 : Int32) &&& 0x3f).toInt64.toUInt64).toInt64)), .second, .val (.int (p3 &&& (7 : Int32))), .val (.long jj), .second, .val (.double (FP.dmul (FP.l2d jj) (4368491638549381120 : UInt64))), .second, .val (.int (own_ch (((own_mix (q1 + (-7046029254386353131 : Int64))).toUInt64 >>> ((11 : Int32) &&& 0x3f).toInt64.toUInt64).toInt64) jj)), .val (.int (0 : Int32))] []))
      refine go (fun _ => XS.aload X20.here hx rfl (hb hby at_172) rfl rfl) ?_
      show Go _ p e below s _ _ _ (T20.setTop (mkF m 174 #[.val (.long q1), .second, .val (.long q2), .second, .val (.int p3), .val (.ref b15), .val (.ref b17), .val (.long (own_mix (q1 + (-7046029254386353131 : Int64)))), .second, .val (.long (((own_mix (q1 + (-7046029254386353131 : Int64))).toUInt64 >>> ((11 : Int32) &&& 0x3f).toInt64.toUInt64).toInt64)), .second, .val (.int (p3 &&& (7 : Int32))), .val (.long jj), .second, .val (.double (FP.dmul (FP.l2d jj) (4368491638549381120 : UInt64))), .second, .val (.int (own_ch (((own_mix (q1 + (-7046029254386353131 : Int64))).toUInt64 >>> ((11 : Int32) &&& 0x3f).toInt64.toUInt64).toInt64) jj)), .val (.int (0 : Int32))] [(.ref b15)]))
      obtain ⟨cq24, kq24, q24a, q24b, q24c⟩ := isOf hZ rfl c20_0
      obtain ⟨_, _, ⟨T24, L24, k24, n24⟩, -, X24, ⟨Lc24, hQ24, l24, y24, z24⟩, st24⟩ := X20.virtualBack hx (y := (⟨"com/example/sunder/sunder/random/SeededRandom", "nextLong", "()J"⟩ : MethodName)) (z := (⟨"com/example/sunder/sunder/random/SeededRandom", "nextLong", "()J"⟩ : MethodName)) hown (mvT hZ (hw _ (List.mem_of_getElem? (i := 11) rfl))) (mvT hZ (hw _ (List.mem_of_getElem? (i := 12) rfl))) (notFace_of_selects (args := #[]) (mvT hZ (hw _ (List.mem_of_getElem? (i := 14) rfl)))) (mvT hZ (hw _ (List.mem_of_getElem? (i := 14) rfl))) (mvT hZ (hw _ (List.mem_of_getElem? (i := 13) rfl))) (by decide) (backOf (W := 0) (rm3 l Z a0 hw [] b15 (q1 + (-7046029254386353131 : Int64)) (T20.heap) n0 ZN20 c20_0 u20_1 G_b15) hZ (hw _ (List.mem_of_getElem? (i := 15) rfl)) (hw _ (List.mem_of_getElem? (i := 2) rfl)) (by decide) (by decide)) q24a q24c (g := (mkF m 174 #[.val (.long q1), .second, .val (.long q2), .second, .val (.int p3), .val (.ref b15), .val (.ref b17), .val (.long (own_mix (q1 + (-7046029254386353131 : Int64)))), .second, .val (.long (((own_mix (q1 + (-7046029254386353131 : Int64))).toUInt64 >>> ((11 : Int32) &&& 0x3f).toInt64.toUInt64).toInt64)), .second, .val (.int (p3 &&& (7 : Int32))), .val (.long jj), .second, .val (.double (FP.dmul (FP.l2d jj) (4368491638549381120 : UInt64))), .second, .val (.int (own_ch (((own_mix (q1 + (-7046029254386353131 : Int64))).toUInt64 >>> ((11 : Int32) &&& 0x3f).toInt64.toUInt64).toInt64) jj)), .val (.int (0 : Int32))] [(.ref b15)])) rfl (by rw [hml]; rfl) (Steps.refl _) (argsL := []) (rest := []) (lenOf pd_0_1 rfl) rfl (by show 2 * 0 + _ ≤ _; exact Nat.le_of_eq rfl) (hb hby at_174) (fun _ _ => ⟨rfl, rfl, (by decide : 2 + 0 ≤ _), (by decide : 2 + 0 ≤ _)⟩)
      dsimp only [Pt.U, Pt.locs, Pt.cells, Pt.slots] at X24 l24 y24 z24 st24 hQ24
      subst l24 y24 z24
      obtain ⟨rfl, N24q, K24, u24_1⟩ := hQ24
      have N24 := Fr.app N20 N24q
      have c24_0 := c20_0.keep K24
      have c24_1 := c20_1.keep K24
      have c24_2 := c20_2.keep K24 (ninS (Ne.symm (Nat.ne_of_lt lt17_b15_b17)) nin0)
      have KK24 : Keep h0 T24.heap [] := KK20.trans K24 (allS (P := fun x => x ∈ [] ∨ h0.size ≤ x) (Or.inr SZ_b15) all0)
      have ZN24 : n0 ≤ T24.heap.size := Nat.le_trans ZN20 K24.1
      refine goT st24 ?_
      show Go _ p e below s _ _ _ (T24.setTop (mkF m 177 #[.val (.long q1), .second, .val (.long q2), .second, .val (.int p3), .val (.ref b15), .val (.ref b17), .val (.long (own_mix (q1 + (-7046029254386353131 : Int64)))), .second, .val (.long (((own_mix (q1 + (-7046029254386353131 : Int64))).toUInt64 >>> ((11 : Int32) &&& 0x3f).toInt64.toUInt64).toInt64)), .second, .val (.int (p3 &&& (7 : Int32))), .val (.long jj), .second, .val (.double (FP.dmul (FP.l2d jj) (4368491638549381120 : UInt64))), .second, .val (.int (own_ch (((own_mix (q1 + (-7046029254386353131 : Int64))).toUInt64 >>> ((11 : Int32) &&& 0x3f).toInt64.toUInt64).toInt64) jj)), .val (.int (0 : Int32))] [(.long (own_mix ((q1 + (-7046029254386353131 : Int64)) + (-7046029254386353131 : Int64))))]))
      refine go (fun _ => XS.aload X24.here hx rfl (hb hby at_177) rfl rfl) ?_
      show Go _ p e below s _ _ _ (T24.setTop (mkF m 179 #[.val (.long q1), .second, .val (.long q2), .second, .val (.int p3), .val (.ref b15), .val (.ref b17), .val (.long (own_mix (q1 + (-7046029254386353131 : Int64)))), .second, .val (.long (((own_mix (q1 + (-7046029254386353131 : Int64))).toUInt64 >>> ((11 : Int32) &&& 0x3f).toInt64.toUInt64).toInt64)), .second, .val (.int (p3 &&& (7 : Int32))), .val (.long jj), .second, .val (.double (FP.dmul (FP.l2d jj) (4368491638549381120 : UInt64))), .second, .val (.int (own_ch (((own_mix (q1 + (-7046029254386353131 : Int64))).toUInt64 >>> ((11 : Int32) &&& 0x3f).toInt64.toUInt64).toInt64) jj)), .val (.int (0 : Int32))] [(.ref b17), (.long (own_mix ((q1 + (-7046029254386353131 : Int64)) + (-7046029254386353131 : Int64))))]))
      obtain ⟨cq25, kq25, q25a, q25b, q25c⟩ := isOf hZ rfl c24_1
      obtain ⟨_, _, ⟨T25, L25, k25, n25⟩, -, X25, ⟨Lc25, hQ25, l25, y25, z25⟩, st25⟩ := X24.virtualBack hx (y := (⟨"com/example/sunder/sunder/random/SeededRandom", "nextLong", "()J"⟩ : MethodName)) (z := (⟨"com/example/sunder/sunder/random/SeededRandom", "nextLong", "()J"⟩ : MethodName)) hown (mvT hZ (hw _ (List.mem_of_getElem? (i := 11) rfl))) (mvT hZ (hw _ (List.mem_of_getElem? (i := 12) rfl))) (notFace_of_selects (args := #[]) (mvT hZ (hw _ (List.mem_of_getElem? (i := 14) rfl)))) (mvT hZ (hw _ (List.mem_of_getElem? (i := 14) rfl))) (mvT hZ (hw _ (List.mem_of_getElem? (i := 13) rfl))) (by decide) (backOf (W := 2) (rm3 l Z a0 hw [] b17 (q1 + (-7046029254386353131 : Int64)) (T24.heap) n0 ZN24 c24_1 c24_2 G_b17) hZ (hw _ (List.mem_of_getElem? (i := 15) rfl)) (hw _ (List.mem_of_getElem? (i := 2) rfl)) (by decide) (by decide)) q25a q25c (g := (mkF m 179 #[.val (.long q1), .second, .val (.long q2), .second, .val (.int p3), .val (.ref b15), .val (.ref b17), .val (.long (own_mix (q1 + (-7046029254386353131 : Int64)))), .second, .val (.long (((own_mix (q1 + (-7046029254386353131 : Int64))).toUInt64 >>> ((11 : Int32) &&& 0x3f).toInt64.toUInt64).toInt64)), .second, .val (.int (p3 &&& (7 : Int32))), .val (.long jj), .second, .val (.double (FP.dmul (FP.l2d jj) (4368491638549381120 : UInt64))), .second, .val (.int (own_ch (((own_mix (q1 + (-7046029254386353131 : Int64))).toUInt64 >>> ((11 : Int32) &&& 0x3f).toInt64.toUInt64).toInt64) jj)), .val (.int (0 : Int32))] [(.ref b17), (.long (own_mix ((q1 + (-7046029254386353131 : Int64)) + (-7046029254386353131 : Int64))))])) rfl (by rw [hml]; rfl) (Steps.refl _) (argsL := []) (rest := [(.long (own_mix ((q1 + (-7046029254386353131 : Int64)) + (-7046029254386353131 : Int64))))]) (lenOf pd_0_1 rfl) rfl (by show 2 * 0 + _ ≤ _; exact Nat.le_of_eq rfl) (hb hby at_179) (fun _ _ => ⟨rfl, rfl, (by decide : 2 + 0 ≤ _), (by decide : 2 + 0 ≤ _)⟩)
      dsimp only [Pt.U, Pt.locs, Pt.cells, Pt.slots] at X25 l25 y25 z25 st25 hQ25
      subst l25 y25 z25
      obtain ⟨rfl, N25q, K25, u25_1⟩ := hQ25
      have N25 := Fr.app N24 N25q
      have c25_0 := c24_0.keep K25
      have c25_1 := c24_1.keep K25
      have c25_2 := u24_1.keep K25 (ninS (Nat.ne_of_lt lt17_b15_b17) nin0)
      have KK25 : Keep h0 T25.heap [] := KK24.trans K25 (allS (P := fun x => x ∈ [] ∨ h0.size ≤ x) (Or.inr SZ_b17) all0)
      have ZN25 : n0 ≤ T25.heap.size := Nat.le_trans ZN24 K25.1
      refine goT st25 ?_
      show Go _ p e below s _ _ _ (T25.setTop (mkF m 182 #[.val (.long q1), .second, .val (.long q2), .second, .val (.int p3), .val (.ref b15), .val (.ref b17), .val (.long (own_mix (q1 + (-7046029254386353131 : Int64)))), .second, .val (.long (((own_mix (q1 + (-7046029254386353131 : Int64))).toUInt64 >>> ((11 : Int32) &&& 0x3f).toInt64.toUInt64).toInt64)), .second, .val (.int (p3 &&& (7 : Int32))), .val (.long jj), .second, .val (.double (FP.dmul (FP.l2d jj) (4368491638549381120 : UInt64))), .second, .val (.int (own_ch (((own_mix (q1 + (-7046029254386353131 : Int64))).toUInt64 >>> ((11 : Int32) &&& 0x3f).toInt64.toUInt64).toInt64) jj)), .val (.int (0 : Int32))] [(.long (own_mix ((q1 + (-7046029254386353131 : Int64)) + (-7046029254386353131 : Int64)))), (.long (own_mix ((q1 + (-7046029254386353131 : Int64)) + (-7046029254386353131 : Int64))))]))
      refine go (fun _ => XS.lcmp X25.here hx rfl (hb hby at_182) rfl) ?_
      show Go _ p e below s _ _ _ (T25.setTop (mkF m 183 #[.val (.long q1), .second, .val (.long q2), .second, .val (.int p3), .val (.ref b15), .val (.ref b17), .val (.long (own_mix (q1 + (-7046029254386353131 : Int64)))), .second, .val (.long (((own_mix (q1 + (-7046029254386353131 : Int64))).toUInt64 >>> ((11 : Int32) &&& 0x3f).toInt64.toUInt64).toInt64)), .second, .val (.int (p3 &&& (7 : Int32))), .val (.long jj), .second, .val (.double (FP.dmul (FP.l2d jj) (4368491638549381120 : UInt64))), .second, .val (.int (own_ch (((own_mix (q1 + (-7046029254386353131 : Int64))).toUInt64 >>> ((11 : Int32) &&& 0x3f).toInt64.toUInt64).toInt64) jj)), .val (.int (0 : Int32))] [(.int (lcmpW (own_mix ((q1 + (-7046029254386353131 : Int64)) + (-7046029254386353131 : Int64))) (own_mix ((q1 + (-7046029254386353131 : Int64)) + (-7046029254386353131 : Int64)))))]))
      refine go (fun _ => XS.ifNo X25.here hx rfl (hb hby at_183) rfl ((if0 _ _).trans (teq ((lw_eq (own_mix ((q1 + (-7046029254386353131 : Int64)) + (-7046029254386353131 : Int64))) (own_mix ((q1 + (-7046029254386353131 : Int64)) + (-7046029254386353131 : Int64)))).mpr (rfl : (own_mix ((q1 + (-7046029254386353131 : Int64)) + (-7046029254386353131 : Int64))) = (own_mix ((q1 + (-7046029254386353131 : Int64)) + (-7046029254386353131 : Int64)))))).2)) ?_
      show Go _ p e below s _ _ _ (T25.setTop (mkF m 186 #[.val (.long q1), .second, .val (.long q2), .second, .val (.int p3), .val (.ref b15), .val (.ref b17), .val (.long (own_mix (q1 + (-7046029254386353131 : Int64)))), .second, .val (.long (((own_mix (q1 + (-7046029254386353131 : Int64))).toUInt64 >>> ((11 : Int32) &&& 0x3f).toInt64.toUInt64).toInt64)), .second, .val (.int (p3 &&& (7 : Int32))), .val (.long jj), .second, .val (.double (FP.dmul (FP.l2d jj) (4368491638549381120 : UInt64))), .second, .val (.int (own_ch (((own_mix (q1 + (-7046029254386353131 : Int64))).toUInt64 >>> ((11 : Int32) &&& 0x3f).toInt64.toUInt64).toInt64) jj)), .val (.int (0 : Int32))] []))
      refine go (fun _ => XS.iconst X25.here hx rfl (hb hby at_186)) ?_
      show Go _ p e below s _ _ _ (T25.setTop (mkF m 187 #[.val (.long q1), .second, .val (.long q2), .second, .val (.int p3), .val (.ref b15), .val (.ref b17), .val (.long (own_mix (q1 + (-7046029254386353131 : Int64)))), .second, .val (.long (((own_mix (q1 + (-7046029254386353131 : Int64))).toUInt64 >>> ((11 : Int32) &&& 0x3f).toInt64.toUInt64).toInt64)), .second, .val (.int (p3 &&& (7 : Int32))), .val (.long jj), .second, .val (.double (FP.dmul (FP.l2d jj) (4368491638549381120 : UInt64))), .second, .val (.int (own_ch (((own_mix (q1 + (-7046029254386353131 : Int64))).toUInt64 >>> ((11 : Int32) &&& 0x3f).toInt64.toUInt64).toInt64) jj)), .val (.int (0 : Int32))] [(.int (1 : Int32))]))
      refine go (fun _ => XS.goto X25.here hx rfl (pc0 := 187) (pc' := 191) rfl (hb hby at_187) (by decide) (by decide)) ?_
      show Go _ p e below s _ _ _ (T25.setTop (mkF m 191 #[.val (.long q1), .second, .val (.long q2), .second, .val (.int p3), .val (.ref b15), .val (.ref b17), .val (.long (own_mix (q1 + (-7046029254386353131 : Int64)))), .second, .val (.long (((own_mix (q1 + (-7046029254386353131 : Int64))).toUInt64 >>> ((11 : Int32) &&& 0x3f).toInt64.toUInt64).toInt64)), .second, .val (.int (p3 &&& (7 : Int32))), .val (.long jj), .second, .val (.double (FP.dmul (FP.l2d jj) (4368491638549381120 : UInt64))), .second, .val (.int (own_ch (((own_mix (q1 + (-7046029254386353131 : Int64))).toUInt64 >>> ((11 : Int32) &&& 0x3f).toInt64.toUInt64).toInt64) jj)), .val (.int (0 : Int32))] [(.int (1 : Int32))]))
      refine goRet X25 hx Bd.notSynchronized Bd.returns rfl (Or.inl ⟨rfl, Or.inr (Or.inl rfl), _, rfl⟩) (hb hby at_191) (by decide) (by decide) (by refine ⟨rfl, N25⟩)
  refine go (fun _ => XS.iload X19.here hx rfl (hb hby at_41) rfl) ?_
  show Go _ p e below s _ _ _ (T19.setTop (mkF m 43 #[.val (.long q1), .second, .val (.long q2), .second, .val (.int p3), .val (.ref b15), .val (.ref b17), .val (.long (own_mix (q1 + (-7046029254386353131 : Int64)))), .second, .val (.long (((own_mix (q1 + (-7046029254386353131 : Int64))).toUInt64 >>> ((11 : Int32) &&& 0x3f).toInt64.toUInt64).toInt64)), .second, .val (.int (p3 &&& (7 : Int32))), .unset, .unset, .unset, .unset, .unset, .unset] [(.int (p3 &&& (7 : Int32)))]))
  refine go (fun _ => XS.iconst X19.here hx rfl (hb hby at_43)) ?_
  show Go _ p e below s _ _ _ (T19.setTop (mkF m 44 #[.val (.long q1), .second, .val (.long q2), .second, .val (.int p3), .val (.ref b15), .val (.ref b17), .val (.long (own_mix (q1 + (-7046029254386353131 : Int64)))), .second, .val (.long (((own_mix (q1 + (-7046029254386353131 : Int64))).toUInt64 >>> ((11 : Int32) &&& 0x3f).toInt64.toUInt64).toInt64)), .second, .val (.int (p3 &&& (7 : Int32))), .unset, .unset, .unset, .unset, .unset, .unset] [(.int (1 : Int32)), (.int (p3 &&& (7 : Int32)))]))
  by_cases hc44_26 : (1 : Int32) < (p3 &&& (7 : Int32))
  · refine go (fun _ => XS.icmpYes X19.here hx rfl (pc0 := 44) (pc' := 57) rfl (hb hby at_44) rfl (tlt hc44_26).2.2.1 (by decide) (by decide)) ?_
    show Go _ p e below s _ _ _ (T19.setTop (mkF m 57 #[.val (.long q1), .second, .val (.long q2), .second, .val (.int p3), .val (.ref b15), .val (.ref b17), .val (.long (own_mix (q1 + (-7046029254386353131 : Int64)))), .second, .val (.long (((own_mix (q1 + (-7046029254386353131 : Int64))).toUInt64 >>> ((11 : Int32) &&& 0x3f).toInt64.toUInt64).toInt64)), .second, .val (.int (p3 &&& (7 : Int32))), .unset, .unset, .unset, .unset, .unset, .unset] []))
    refine go (fun _ => XS.iload X19.here hx rfl (hb hby at_57) rfl) ?_
    show Go _ p e below s _ _ _ (T19.setTop (mkF m 59 #[.val (.long q1), .second, .val (.long q2), .second, .val (.int p3), .val (.ref b15), .val (.ref b17), .val (.long (own_mix (q1 + (-7046029254386353131 : Int64)))), .second, .val (.long (((own_mix (q1 + (-7046029254386353131 : Int64))).toUInt64 >>> ((11 : Int32) &&& 0x3f).toInt64.toUInt64).toInt64)), .second, .val (.int (p3 &&& (7 : Int32))), .unset, .unset, .unset, .unset, .unset, .unset] [(.int (p3 &&& (7 : Int32)))]))
    refine go (fun _ => XS.iconst X19.here hx rfl (hb hby at_59)) ?_
    show Go _ p e below s _ _ _ (T19.setTop (mkF m 60 #[.val (.long q1), .second, .val (.long q2), .second, .val (.int p3), .val (.ref b15), .val (.ref b17), .val (.long (own_mix (q1 + (-7046029254386353131 : Int64)))), .second, .val (.long (((own_mix (q1 + (-7046029254386353131 : Int64))).toUInt64 >>> ((11 : Int32) &&& 0x3f).toInt64.toUInt64).toInt64)), .second, .val (.int (p3 &&& (7 : Int32))), .unset, .unset, .unset, .unset, .unset, .unset] [(.int (2 : Int32)), (.int (p3 &&& (7 : Int32)))]))
    by_cases hc60_27 : (p3 &&& (7 : Int32)) = (2 : Int32)
    · refine go (fun _ => XS.icmpNo X19.here hx rfl (hb hby at_60) rfl (teq hc60_27).2) ?_
      show Go _ p e below s _ _ _ (T19.setTop (mkF m 63 #[.val (.long q1), .second, .val (.long q2), .second, .val (.int p3), .val (.ref b15), .val (.ref b17), .val (.long (own_mix (q1 + (-7046029254386353131 : Int64)))), .second, .val (.long (((own_mix (q1 + (-7046029254386353131 : Int64))).toUInt64 >>> ((11 : Int32) &&& 0x3f).toInt64.toUInt64).toInt64)), .second, .val (.int (p3 &&& (7 : Int32))), .unset, .unset, .unset, .unset, .unset, .unset] []))
      refine go (fun _ => XS.lload X19.here hx rfl (hb hby at_63) rfl) ?_
      show Go _ p e below s _ _ _ (T19.setTop (mkF m 65 #[.val (.long q1), .second, .val (.long q2), .second, .val (.int p3), .val (.ref b15), .val (.ref b17), .val (.long (own_mix (q1 + (-7046029254386353131 : Int64)))), .second, .val (.long (((own_mix (q1 + (-7046029254386353131 : Int64))).toUInt64 >>> ((11 : Int32) &&& 0x3f).toInt64.toUInt64).toInt64)), .second, .val (.int (p3 &&& (7 : Int32))), .unset, .unset, .unset, .unset, .unset, .unset] [(.long (((own_mix (q1 + (-7046029254386353131 : Int64))).toUInt64 >>> ((11 : Int32) &&& 0x3f).toInt64.toUInt64).toInt64))]))
      refine go (fun _ => XS.lconst X19.here hx rfl (hb hby at_65)) ?_
      show Go _ p e below s _ _ _ (T19.setTop (mkF m 66 #[.val (.long q1), .second, .val (.long q2), .second, .val (.int p3), .val (.ref b15), .val (.ref b17), .val (.long (own_mix (q1 + (-7046029254386353131 : Int64)))), .second, .val (.long (((own_mix (q1 + (-7046029254386353131 : Int64))).toUInt64 >>> ((11 : Int32) &&& 0x3f).toInt64.toUInt64).toInt64)), .second, .val (.int (p3 &&& (7 : Int32))), .unset, .unset, .unset, .unset, .unset, .unset] [(.long (1 : Int64)), (.long (((own_mix (q1 + (-7046029254386353131 : Int64))).toUInt64 >>> ((11 : Int32) &&& 0x3f).toInt64.toUInt64).toInt64))]))
      refine go (fun _ => XS.lsub X19.here hx rfl (hb hby at_66) rfl) ?_
      show Go _ p e below s _ _ _ (T19.setTop (mkF m 67 #[.val (.long q1), .second, .val (.long q2), .second, .val (.int p3), .val (.ref b15), .val (.ref b17), .val (.long (own_mix (q1 + (-7046029254386353131 : Int64)))), .second, .val (.long (((own_mix (q1 + (-7046029254386353131 : Int64))).toUInt64 >>> ((11 : Int32) &&& 0x3f).toInt64.toUInt64).toInt64)), .second, .val (.int (p3 &&& (7 : Int32))), .unset, .unset, .unset, .unset, .unset, .unset] [(.long ((((own_mix (q1 + (-7046029254386353131 : Int64))).toUInt64 >>> ((11 : Int32) &&& 0x3f).toInt64.toUInt64).toInt64) - (1 : Int64)))]))
      refine go (fun _ => XS.lstore X19.here hx rfl (hb hby at_67) rfl (l' := #[.val (.long q1), .second, .val (.long q2), .second, .val (.int p3), .val (.ref b15), .val (.ref b17), .val (.long (own_mix (q1 + (-7046029254386353131 : Int64)))), .second, .val (.long (((own_mix (q1 + (-7046029254386353131 : Int64))).toUInt64 >>> ((11 : Int32) &&& 0x3f).toInt64.toUInt64).toInt64)), .second, .val (.int (p3 &&& (7 : Int32))), .val (.long ((((own_mix (q1 + (-7046029254386353131 : Int64))).toUInt64 >>> ((11 : Int32) &&& 0x3f).toInt64.toUInt64).toInt64) - (1 : Int64))), .second, .unset, .unset, .unset, .unset]) rfl) ?_
      show Go _ p e below s _ _ _ (T19.setTop (mkF m 69 #[.val (.long q1), .second, .val (.long q2), .second, .val (.int p3), .val (.ref b15), .val (.ref b17), .val (.long (own_mix (q1 + (-7046029254386353131 : Int64)))), .second, .val (.long (((own_mix (q1 + (-7046029254386353131 : Int64))).toUInt64 >>> ((11 : Int32) &&& 0x3f).toInt64.toUInt64).toInt64)), .second, .val (.int (p3 &&& (7 : Int32))), .val (.long ((((own_mix (q1 + (-7046029254386353131 : Int64))).toUInt64 >>> ((11 : Int32) &&& 0x3f).toInt64.toUInt64).toInt64) - (1 : Int64))), .second, .unset, .unset, .unset, .unset] []))
      refine go (fun _ => XS.goto X19.here hx rfl (pc0 := 69) (pc' := 130) rfl (hb hby at_69) (by decide) (by decide)) ?_
      show Go _ p e below s _ _ _ (T19.setTop (mkF m 130 #[.val (.long q1), .second, .val (.long q2), .second, .val (.int p3), .val (.ref b15), .val (.ref b17), .val (.long (own_mix (q1 + (-7046029254386353131 : Int64)))), .second, .val (.long (((own_mix (q1 + (-7046029254386353131 : Int64))).toUInt64 >>> ((11 : Int32) &&& 0x3f).toInt64.toUInt64).toInt64)), .second, .val (.int (p3 &&& (7 : Int32))), .val (.long ((((own_mix (q1 + (-7046029254386353131 : Int64))).toUInt64 >>> ((11 : Int32) &&& 0x3f).toInt64.toUInt64).toInt64) - (1 : Int64))), .second, .unset, .unset, .unset, .unset] []))
      exact J130 _
    · refine go (fun _ => XS.icmpYes X19.here hx rfl (pc0 := 60) (pc' := 72) rfl (hb hby at_60) rfl (feq hc60_27).2 (by decide) (by decide)) ?_
      show Go _ p e below s _ _ _ (T19.setTop (mkF m 72 #[.val (.long q1), .second, .val (.long q2), .second, .val (.int p3), .val (.ref b15), .val (.ref b17), .val (.long (own_mix (q1 + (-7046029254386353131 : Int64)))), .second, .val (.long (((own_mix (q1 + (-7046029254386353131 : Int64))).toUInt64 >>> ((11 : Int32) &&& 0x3f).toInt64.toUInt64).toInt64)), .second, .val (.int (p3 &&& (7 : Int32))), .unset, .unset, .unset, .unset, .unset, .unset] []))
      refine go (fun _ => XS.iload X19.here hx rfl (hb hby at_72) rfl) ?_
      show Go _ p e below s _ _ _ (T19.setTop (mkF m 74 #[.val (.long q1), .second, .val (.long q2), .second, .val (.int p3), .val (.ref b15), .val (.ref b17), .val (.long (own_mix (q1 + (-7046029254386353131 : Int64)))), .second, .val (.long (((own_mix (q1 + (-7046029254386353131 : Int64))).toUInt64 >>> ((11 : Int32) &&& 0x3f).toInt64.toUInt64).toInt64)), .second, .val (.int (p3 &&& (7 : Int32))), .unset, .unset, .unset, .unset, .unset, .unset] [(.int (p3 &&& (7 : Int32)))]))
      refine go (fun _ => XS.iconst X19.here hx rfl (hb hby at_74)) ?_
      show Go _ p e below s _ _ _ (T19.setTop (mkF m 75 #[.val (.long q1), .second, .val (.long q2), .second, .val (.int p3), .val (.ref b15), .val (.ref b17), .val (.long (own_mix (q1 + (-7046029254386353131 : Int64)))), .second, .val (.long (((own_mix (q1 + (-7046029254386353131 : Int64))).toUInt64 >>> ((11 : Int32) &&& 0x3f).toInt64.toUInt64).toInt64)), .second, .val (.int (p3 &&& (7 : Int32))), .unset, .unset, .unset, .unset, .unset, .unset] [(.int (3 : Int32)), (.int (p3 &&& (7 : Int32)))]))
      by_cases hc75_28 : (p3 &&& (7 : Int32)) = (3 : Int32)
      · refine go (fun _ => XS.icmpNo X19.here hx rfl (hb hby at_75) rfl (teq hc75_28).2) ?_
        show Go _ p e below s _ _ _ (T19.setTop (mkF m 78 #[.val (.long q1), .second, .val (.long q2), .second, .val (.int p3), .val (.ref b15), .val (.ref b17), .val (.long (own_mix (q1 + (-7046029254386353131 : Int64)))), .second, .val (.long (((own_mix (q1 + (-7046029254386353131 : Int64))).toUInt64 >>> ((11 : Int32) &&& 0x3f).toInt64.toUInt64).toInt64)), .second, .val (.int (p3 &&& (7 : Int32))), .unset, .unset, .unset, .unset, .unset, .unset] []))
        refine go (fun _ => XS.lload X19.here hx rfl (hb hby at_78) rfl) ?_
        show Go _ p e below s _ _ _ (T19.setTop (mkF m 80 #[.val (.long q1), .second, .val (.long q2), .second, .val (.int p3), .val (.ref b15), .val (.ref b17), .val (.long (own_mix (q1 + (-7046029254386353131 : Int64)))), .second, .val (.long (((own_mix (q1 + (-7046029254386353131 : Int64))).toUInt64 >>> ((11 : Int32) &&& 0x3f).toInt64.toUInt64).toInt64)), .second, .val (.int (p3 &&& (7 : Int32))), .unset, .unset, .unset, .unset, .unset, .unset] [(.long (((own_mix (q1 + (-7046029254386353131 : Int64))).toUInt64 >>> ((11 : Int32) &&& 0x3f).toInt64.toUInt64).toInt64))]))
        refine go (fun _ => XS.lstore X19.here hx rfl (hb hby at_80) rfl (l' := #[.val (.long q1), .second, .val (.long q2), .second, .val (.int p3), .val (.ref b15), .val (.ref b17), .val (.long (own_mix (q1 + (-7046029254386353131 : Int64)))), .second, .val (.long (((own_mix (q1 + (-7046029254386353131 : Int64))).toUInt64 >>> ((11 : Int32) &&& 0x3f).toInt64.toUInt64).toInt64)), .second, .val (.int (p3 &&& (7 : Int32))), .val (.long (((own_mix (q1 + (-7046029254386353131 : Int64))).toUInt64 >>> ((11 : Int32) &&& 0x3f).toInt64.toUInt64).toInt64)), .second, .unset, .unset, .unset, .unset]) rfl) ?_
        show Go _ p e below s _ _ _ (T19.setTop (mkF m 82 #[.val (.long q1), .second, .val (.long q2), .second, .val (.int p3), .val (.ref b15), .val (.ref b17), .val (.long (own_mix (q1 + (-7046029254386353131 : Int64)))), .second, .val (.long (((own_mix (q1 + (-7046029254386353131 : Int64))).toUInt64 >>> ((11 : Int32) &&& 0x3f).toInt64.toUInt64).toInt64)), .second, .val (.int (p3 &&& (7 : Int32))), .val (.long (((own_mix (q1 + (-7046029254386353131 : Int64))).toUInt64 >>> ((11 : Int32) &&& 0x3f).toInt64.toUInt64).toInt64)), .second, .unset, .unset, .unset, .unset] []))
        refine go (fun _ => XS.goto X19.here hx rfl (pc0 := 82) (pc' := 130) rfl (hb hby at_82) (by decide) (by decide)) ?_
        show Go _ p e below s _ _ _ (T19.setTop (mkF m 130 #[.val (.long q1), .second, .val (.long q2), .second, .val (.int p3), .val (.ref b15), .val (.ref b17), .val (.long (own_mix (q1 + (-7046029254386353131 : Int64)))), .second, .val (.long (((own_mix (q1 + (-7046029254386353131 : Int64))).toUInt64 >>> ((11 : Int32) &&& 0x3f).toInt64.toUInt64).toInt64)), .second, .val (.int (p3 &&& (7 : Int32))), .val (.long (((own_mix (q1 + (-7046029254386353131 : Int64))).toUInt64 >>> ((11 : Int32) &&& 0x3f).toInt64.toUInt64).toInt64)), .second, .unset, .unset, .unset, .unset] []))
        exact J130 _
      · refine go (fun _ => XS.icmpYes X19.here hx rfl (pc0 := 75) (pc' := 85) rfl (hb hby at_75) rfl (feq hc75_28).2 (by decide) (by decide)) ?_
        show Go _ p e below s _ _ _ (T19.setTop (mkF m 85 #[.val (.long q1), .second, .val (.long q2), .second, .val (.int p3), .val (.ref b15), .val (.ref b17), .val (.long (own_mix (q1 + (-7046029254386353131 : Int64)))), .second, .val (.long (((own_mix (q1 + (-7046029254386353131 : Int64))).toUInt64 >>> ((11 : Int32) &&& 0x3f).toInt64.toUInt64).toInt64)), .second, .val (.int (p3 &&& (7 : Int32))), .unset, .unset, .unset, .unset, .unset, .unset] []))
        refine go (fun _ => XS.iload X19.here hx rfl (hb hby at_85) rfl) ?_
        show Go _ p e below s _ _ _ (T19.setTop (mkF m 87 #[.val (.long q1), .second, .val (.long q2), .second, .val (.int p3), .val (.ref b15), .val (.ref b17), .val (.long (own_mix (q1 + (-7046029254386353131 : Int64)))), .second, .val (.long (((own_mix (q1 + (-7046029254386353131 : Int64))).toUInt64 >>> ((11 : Int32) &&& 0x3f).toInt64.toUInt64).toInt64)), .second, .val (.int (p3 &&& (7 : Int32))), .unset, .unset, .unset, .unset, .unset, .unset] [(.int (p3 &&& (7 : Int32)))]))
        refine go (fun _ => XS.iconst X19.here hx rfl (hb hby at_87)) ?_
        show Go _ p e below s _ _ _ (T19.setTop (mkF m 88 #[.val (.long q1), .second, .val (.long q2), .second, .val (.int p3), .val (.ref b15), .val (.ref b17), .val (.long (own_mix (q1 + (-7046029254386353131 : Int64)))), .second, .val (.long (((own_mix (q1 + (-7046029254386353131 : Int64))).toUInt64 >>> ((11 : Int32) &&& 0x3f).toInt64.toUInt64).toInt64)), .second, .val (.int (p3 &&& (7 : Int32))), .unset, .unset, .unset, .unset, .unset, .unset] [(.int (4 : Int32)), (.int (p3 &&& (7 : Int32)))]))
        by_cases hc88_29 : (p3 &&& (7 : Int32)) = (4 : Int32)
        · refine go (fun _ => XS.icmpNo X19.here hx rfl (hb hby at_88) rfl (teq hc88_29).2) ?_
          show Go _ p e below s _ _ _ (T19.setTop (mkF m 91 #[.val (.long q1), .second, .val (.long q2), .second, .val (.int p3), .val (.ref b15), .val (.ref b17), .val (.long (own_mix (q1 + (-7046029254386353131 : Int64)))), .second, .val (.long (((own_mix (q1 + (-7046029254386353131 : Int64))).toUInt64 >>> ((11 : Int32) &&& 0x3f).toInt64.toUInt64).toInt64)), .second, .val (.int (p3 &&& (7 : Int32))), .unset, .unset, .unset, .unset, .unset, .unset] []))
          refine go (fun _ => XS.lload X19.here hx rfl (hb hby at_91) rfl) ?_
          show Go _ p e below s _ _ _ (T19.setTop (mkF m 93 #[.val (.long q1), .second, .val (.long q2), .second, .val (.int p3), .val (.ref b15), .val (.ref b17), .val (.long (own_mix (q1 + (-7046029254386353131 : Int64)))), .second, .val (.long (((own_mix (q1 + (-7046029254386353131 : Int64))).toUInt64 >>> ((11 : Int32) &&& 0x3f).toInt64.toUInt64).toInt64)), .second, .val (.int (p3 &&& (7 : Int32))), .unset, .unset, .unset, .unset, .unset, .unset] [(.long (((own_mix (q1 + (-7046029254386353131 : Int64))).toUInt64 >>> ((11 : Int32) &&& 0x3f).toInt64.toUInt64).toInt64))]))
          refine go (fun _ => XS.lconst X19.here hx rfl (hb hby at_93)) ?_
          show Go _ p e below s _ _ _ (T19.setTop (mkF m 94 #[.val (.long q1), .second, .val (.long q2), .second, .val (.int p3), .val (.ref b15), .val (.ref b17), .val (.long (own_mix (q1 + (-7046029254386353131 : Int64)))), .second, .val (.long (((own_mix (q1 + (-7046029254386353131 : Int64))).toUInt64 >>> ((11 : Int32) &&& 0x3f).toInt64.toUInt64).toInt64)), .second, .val (.int (p3 &&& (7 : Int32))), .unset, .unset, .unset, .unset, .unset, .unset] [(.long (1 : Int64)), (.long (((own_mix (q1 + (-7046029254386353131 : Int64))).toUInt64 >>> ((11 : Int32) &&& 0x3f).toInt64.toUInt64).toInt64))]))
          refine go (fun _ => XS.ladd X19.here hx rfl (hb hby at_94) rfl) ?_
          show Go _ p e below s _ _ _ (T19.setTop (mkF m 95 #[.val (.long q1), .second, .val (.long q2), .second, .val (.int p3), .val (.ref b15), .val (.ref b17), .val (.long (own_mix (q1 + (-7046029254386353131 : Int64)))), .second, .val (.long (((own_mix (q1 + (-7046029254386353131 : Int64))).toUInt64 >>> ((11 : Int32) &&& 0x3f).toInt64.toUInt64).toInt64)), .second, .val (.int (p3 &&& (7 : Int32))), .unset, .unset, .unset, .unset, .unset, .unset] [(.long ((((own_mix (q1 + (-7046029254386353131 : Int64))).toUInt64 >>> ((11 : Int32) &&& 0x3f).toInt64.toUInt64).toInt64) + (1 : Int64)))]))
          refine go (fun _ => XS.lstore X19.here hx rfl (hb hby at_95) rfl (l' := #[.val (.long q1), .second, .val (.long q2), .second, .val (.int p3), .val (.ref b15), .val (.ref b17), .val (.long (own_mix (q1 + (-7046029254386353131 : Int64)))), .second, .val (.long (((own_mix (q1 + (-7046029254386353131 : Int64))).toUInt64 >>> ((11 : Int32) &&& 0x3f).toInt64.toUInt64).toInt64)), .second, .val (.int (p3 &&& (7 : Int32))), .val (.long ((((own_mix (q1 + (-7046029254386353131 : Int64))).toUInt64 >>> ((11 : Int32) &&& 0x3f).toInt64.toUInt64).toInt64) + (1 : Int64))), .second, .unset, .unset, .unset, .unset]) rfl) ?_
          show Go _ p e below s _ _ _ (T19.setTop (mkF m 97 #[.val (.long q1), .second, .val (.long q2), .second, .val (.int p3), .val (.ref b15), .val (.ref b17), .val (.long (own_mix (q1 + (-7046029254386353131 : Int64)))), .second, .val (.long (((own_mix (q1 + (-7046029254386353131 : Int64))).toUInt64 >>> ((11 : Int32) &&& 0x3f).toInt64.toUInt64).toInt64)), .second, .val (.int (p3 &&& (7 : Int32))), .val (.long ((((own_mix (q1 + (-7046029254386353131 : Int64))).toUInt64 >>> ((11 : Int32) &&& 0x3f).toInt64.toUInt64).toInt64) + (1 : Int64))), .second, .unset, .unset, .unset, .unset] []))
          refine go (fun _ => XS.goto X19.here hx rfl (pc0 := 97) (pc' := 130) rfl (hb hby at_97) (by decide) (by decide)) ?_
          show Go _ p e below s _ _ _ (T19.setTop (mkF m 130 #[.val (.long q1), .second, .val (.long q2), .second, .val (.int p3), .val (.ref b15), .val (.ref b17), .val (.long (own_mix (q1 + (-7046029254386353131 : Int64)))), .second, .val (.long (((own_mix (q1 + (-7046029254386353131 : Int64))).toUInt64 >>> ((11 : Int32) &&& 0x3f).toInt64.toUInt64).toInt64)), .second, .val (.int (p3 &&& (7 : Int32))), .val (.long ((((own_mix (q1 + (-7046029254386353131 : Int64))).toUInt64 >>> ((11 : Int32) &&& 0x3f).toInt64.toUInt64).toInt64) + (1 : Int64))), .second, .unset, .unset, .unset, .unset] []))
          exact J130 _
        · refine go (fun _ => XS.icmpYes X19.here hx rfl (pc0 := 88) (pc' := 100) rfl (hb hby at_88) rfl (feq hc88_29).2 (by decide) (by decide)) ?_
          show Go _ p e below s _ _ _ (T19.setTop (mkF m 100 #[.val (.long q1), .second, .val (.long q2), .second, .val (.int p3), .val (.ref b15), .val (.ref b17), .val (.long (own_mix (q1 + (-7046029254386353131 : Int64)))), .second, .val (.long (((own_mix (q1 + (-7046029254386353131 : Int64))).toUInt64 >>> ((11 : Int32) &&& 0x3f).toInt64.toUInt64).toInt64)), .second, .val (.int (p3 &&& (7 : Int32))), .unset, .unset, .unset, .unset, .unset, .unset] []))
          refine go (fun _ => XS.iload X19.here hx rfl (hb hby at_100) rfl) ?_
          show Go _ p e below s _ _ _ (T19.setTop (mkF m 102 #[.val (.long q1), .second, .val (.long q2), .second, .val (.int p3), .val (.ref b15), .val (.ref b17), .val (.long (own_mix (q1 + (-7046029254386353131 : Int64)))), .second, .val (.long (((own_mix (q1 + (-7046029254386353131 : Int64))).toUInt64 >>> ((11 : Int32) &&& 0x3f).toInt64.toUInt64).toInt64)), .second, .val (.int (p3 &&& (7 : Int32))), .unset, .unset, .unset, .unset, .unset, .unset] [(.int (p3 &&& (7 : Int32)))]))
          refine go (fun _ => XS.iconst X19.here hx rfl (hb hby at_102)) ?_
          show Go _ p e below s _ _ _ (T19.setTop (mkF m 103 #[.val (.long q1), .second, .val (.long q2), .second, .val (.int p3), .val (.ref b15), .val (.ref b17), .val (.long (own_mix (q1 + (-7046029254386353131 : Int64)))), .second, .val (.long (((own_mix (q1 + (-7046029254386353131 : Int64))).toUInt64 >>> ((11 : Int32) &&& 0x3f).toInt64.toUInt64).toInt64)), .second, .val (.int (p3 &&& (7 : Int32))), .unset, .unset, .unset, .unset, .unset, .unset] [(.int (5 : Int32)), (.int (p3 &&& (7 : Int32)))]))
          by_cases hc103_30 : (p3 &&& (7 : Int32)) = (5 : Int32)
          · refine go (fun _ => XS.icmpNo X19.here hx rfl (hb hby at_103) rfl (teq hc103_30).2) ?_
            show Go _ p e below s _ _ _ (T19.setTop (mkF m 106 #[.val (.long q1), .second, .val (.long q2), .second, .val (.int p3), .val (.ref b15), .val (.ref b17), .val (.long (own_mix (q1 + (-7046029254386353131 : Int64)))), .second, .val (.long (((own_mix (q1 + (-7046029254386353131 : Int64))).toUInt64 >>> ((11 : Int32) &&& 0x3f).toInt64.toUInt64).toInt64)), .second, .val (.int (p3 &&& (7 : Int32))), .unset, .unset, .unset, .unset, .unset, .unset] []))
            refine go (fun _ => XS.lconst X19.here hx rfl (hb hby at_106)) ?_
            show Go _ p e below s _ _ _ (T19.setTop (mkF m 107 #[.val (.long q1), .second, .val (.long q2), .second, .val (.int p3), .val (.ref b15), .val (.ref b17), .val (.long (own_mix (q1 + (-7046029254386353131 : Int64)))), .second, .val (.long (((own_mix (q1 + (-7046029254386353131 : Int64))).toUInt64 >>> ((11 : Int32) &&& 0x3f).toInt64.toUInt64).toInt64)), .second, .val (.int (p3 &&& (7 : Int32))), .unset, .unset, .unset, .unset, .unset, .unset] [(.long (0 : Int64))]))
            refine go (fun _ => XS.lstore X19.here hx rfl (hb hby at_107) rfl (l' := #[.val (.long q1), .second, .val (.long q2), .second, .val (.int p3), .val (.ref b15), .val (.ref b17), .val (.long (own_mix (q1 + (-7046029254386353131 : Int64)))), .second, .val (.long (((own_mix (q1 + (-7046029254386353131 : Int64))).toUInt64 >>> ((11 : Int32) &&& 0x3f).toInt64.toUInt64).toInt64)), .second, .val (.int (p3 &&& (7 : Int32))), .val (.long (0 : Int64)), .second, .unset, .unset, .unset, .unset]) rfl) ?_
            show Go _ p e below s _ _ _ (T19.setTop (mkF m 109 #[.val (.long q1), .second, .val (.long q2), .second, .val (.int p3), .val (.ref b15), .val (.ref b17), .val (.long (own_mix (q1 + (-7046029254386353131 : Int64)))), .second, .val (.long (((own_mix (q1 + (-7046029254386353131 : Int64))).toUInt64 >>> ((11 : Int32) &&& 0x3f).toInt64.toUInt64).toInt64)), .second, .val (.int (p3 &&& (7 : Int32))), .val (.long (0 : Int64)), .second, .unset, .unset, .unset, .unset] []))
            refine go (fun _ => XS.goto X19.here hx rfl (pc0 := 109) (pc' := 130) rfl (hb hby at_109) (by decide) (by decide)) ?_
            show Go _ p e below s _ _ _ (T19.setTop (mkF m 130 #[.val (.long q1), .second, .val (.long q2), .second, .val (.int p3), .val (.ref b15), .val (.ref b17), .val (.long (own_mix (q1 + (-7046029254386353131 : Int64)))), .second, .val (.long (((own_mix (q1 + (-7046029254386353131 : Int64))).toUInt64 >>> ((11 : Int32) &&& 0x3f).toInt64.toUInt64).toInt64)), .second, .val (.int (p3 &&& (7 : Int32))), .val (.long (0 : Int64)), .second, .unset, .unset, .unset, .unset] []))
            exact J130 _
          · refine go (fun _ => XS.icmpYes X19.here hx rfl (pc0 := 103) (pc' := 112) rfl (hb hby at_103) rfl (feq hc103_30).2 (by decide) (by decide)) ?_
            show Go _ p e below s _ _ _ (T19.setTop (mkF m 112 #[.val (.long q1), .second, .val (.long q2), .second, .val (.int p3), .val (.ref b15), .val (.ref b17), .val (.long (own_mix (q1 + (-7046029254386353131 : Int64)))), .second, .val (.long (((own_mix (q1 + (-7046029254386353131 : Int64))).toUInt64 >>> ((11 : Int32) &&& 0x3f).toInt64.toUInt64).toInt64)), .second, .val (.int (p3 &&& (7 : Int32))), .unset, .unset, .unset, .unset, .unset, .unset] []))
            refine go (fun _ => XS.iload X19.here hx rfl (hb hby at_112) rfl) ?_
            show Go _ p e below s _ _ _ (T19.setTop (mkF m 114 #[.val (.long q1), .second, .val (.long q2), .second, .val (.int p3), .val (.ref b15), .val (.ref b17), .val (.long (own_mix (q1 + (-7046029254386353131 : Int64)))), .second, .val (.long (((own_mix (q1 + (-7046029254386353131 : Int64))).toUInt64 >>> ((11 : Int32) &&& 0x3f).toInt64.toUInt64).toInt64)), .second, .val (.int (p3 &&& (7 : Int32))), .unset, .unset, .unset, .unset, .unset, .unset] [(.int (p3 &&& (7 : Int32)))]))
            refine go (fun _ => XS.bipush X19.here hx rfl (hb hby at_114)) ?_
            show Go _ p e below s _ _ _ (T19.setTop (mkF m 116 #[.val (.long q1), .second, .val (.long q2), .second, .val (.int p3), .val (.ref b15), .val (.ref b17), .val (.long (own_mix (q1 + (-7046029254386353131 : Int64)))), .second, .val (.long (((own_mix (q1 + (-7046029254386353131 : Int64))).toUInt64 >>> ((11 : Int32) &&& 0x3f).toInt64.toUInt64).toInt64)), .second, .val (.int (p3 &&& (7 : Int32))), .unset, .unset, .unset, .unset, .unset, .unset] [(.int (6 : Int32)), (.int (p3 &&& (7 : Int32)))]))
            by_cases hc116_31 : (p3 &&& (7 : Int32)) = (6 : Int32)
            · refine go (fun _ => XS.icmpNo X19.here hx rfl (hb hby at_116) rfl (teq hc116_31).2) ?_
              show Go _ p e below s _ _ _ (T19.setTop (mkF m 119 #[.val (.long q1), .second, .val (.long q2), .second, .val (.int p3), .val (.ref b15), .val (.ref b17), .val (.long (own_mix (q1 + (-7046029254386353131 : Int64)))), .second, .val (.long (((own_mix (q1 + (-7046029254386353131 : Int64))).toUInt64 >>> ((11 : Int32) &&& 0x3f).toInt64.toUInt64).toInt64)), .second, .val (.int (p3 &&& (7 : Int32))), .unset, .unset, .unset, .unset, .unset, .unset] []))
              refine go (X19.ldc2Long hx hown (mvT hZ (hw _ (List.mem_of_getElem? (i := 28) rfl))) (g := (mkF m 119 #[.val (.long q1), .second, .val (.long q2), .second, .val (.int p3), .val (.ref b15), .val (.ref b17), .val (.long (own_mix (q1 + (-7046029254386353131 : Int64)))), .second, .val (.long (((own_mix (q1 + (-7046029254386353131 : Int64))).toUInt64 >>> ((11 : Int32) &&& 0x3f).toInt64.toUInt64).toInt64)), .second, .val (.int (p3 &&& (7 : Int32))), .unset, .unset, .unset, .unset, .unset, .unset] [])) rfl (hb hby at_119)) ?_
              show Go _ p e below s _ _ _ (T19.setTop (mkF m 122 #[.val (.long q1), .second, .val (.long q2), .second, .val (.int p3), .val (.ref b15), .val (.ref b17), .val (.long (own_mix (q1 + (-7046029254386353131 : Int64)))), .second, .val (.long (((own_mix (q1 + (-7046029254386353131 : Int64))).toUInt64 >>> ((11 : Int32) &&& 0x3f).toInt64.toUInt64).toInt64)), .second, .val (.int (p3 &&& (7 : Int32))), .unset, .unset, .unset, .unset, .unset, .unset] [(.long (9007199254740992 : Int64))]))
              refine go (fun _ => XS.lstore X19.here hx rfl (hb hby at_122) rfl (l' := #[.val (.long q1), .second, .val (.long q2), .second, .val (.int p3), .val (.ref b15), .val (.ref b17), .val (.long (own_mix (q1 + (-7046029254386353131 : Int64)))), .second, .val (.long (((own_mix (q1 + (-7046029254386353131 : Int64))).toUInt64 >>> ((11 : Int32) &&& 0x3f).toInt64.toUInt64).toInt64)), .second, .val (.int (p3 &&& (7 : Int32))), .val (.long (9007199254740992 : Int64)), .second, .unset, .unset, .unset, .unset]) rfl) ?_
              show Go _ p e below s _ _ _ (T19.setTop (mkF m 124 #[.val (.long q1), .second, .val (.long q2), .second, .val (.int p3), .val (.ref b15), .val (.ref b17), .val (.long (own_mix (q1 + (-7046029254386353131 : Int64)))), .second, .val (.long (((own_mix (q1 + (-7046029254386353131 : Int64))).toUInt64 >>> ((11 : Int32) &&& 0x3f).toInt64.toUInt64).toInt64)), .second, .val (.int (p3 &&& (7 : Int32))), .val (.long (9007199254740992 : Int64)), .second, .unset, .unset, .unset, .unset] []))
              refine go (fun _ => XS.goto X19.here hx rfl (pc0 := 124) (pc' := 130) rfl (hb hby at_124) (by decide) (by decide)) ?_
              show Go _ p e below s _ _ _ (T19.setTop (mkF m 130 #[.val (.long q1), .second, .val (.long q2), .second, .val (.int p3), .val (.ref b15), .val (.ref b17), .val (.long (own_mix (q1 + (-7046029254386353131 : Int64)))), .second, .val (.long (((own_mix (q1 + (-7046029254386353131 : Int64))).toUInt64 >>> ((11 : Int32) &&& 0x3f).toInt64.toUInt64).toInt64)), .second, .val (.int (p3 &&& (7 : Int32))), .val (.long (9007199254740992 : Int64)), .second, .unset, .unset, .unset, .unset] []))
              exact J130 _
            · refine go (fun _ => XS.icmpYes X19.here hx rfl (pc0 := 116) (pc' := 127) rfl (hb hby at_116) rfl (feq hc116_31).2 (by decide) (by decide)) ?_
              show Go _ p e below s _ _ _ (T19.setTop (mkF m 127 #[.val (.long q1), .second, .val (.long q2), .second, .val (.int p3), .val (.ref b15), .val (.ref b17), .val (.long (own_mix (q1 + (-7046029254386353131 : Int64)))), .second, .val (.long (((own_mix (q1 + (-7046029254386353131 : Int64))).toUInt64 >>> ((11 : Int32) &&& 0x3f).toInt64.toUInt64).toInt64)), .second, .val (.int (p3 &&& (7 : Int32))), .unset, .unset, .unset, .unset, .unset, .unset] []))
              refine go (fun _ => XS.lloadN X19.here hx rfl (hb hby at_127) rfl) ?_
              show Go _ p e below s _ _ _ (T19.setTop (mkF m 128 #[.val (.long q1), .second, .val (.long q2), .second, .val (.int p3), .val (.ref b15), .val (.ref b17), .val (.long (own_mix (q1 + (-7046029254386353131 : Int64)))), .second, .val (.long (((own_mix (q1 + (-7046029254386353131 : Int64))).toUInt64 >>> ((11 : Int32) &&& 0x3f).toInt64.toUInt64).toInt64)), .second, .val (.int (p3 &&& (7 : Int32))), .unset, .unset, .unset, .unset, .unset, .unset] [(.long q2)]))
              refine go (fun _ => XS.lstore X19.here hx rfl (hb hby at_128) rfl (l' := #[.val (.long q1), .second, .val (.long q2), .second, .val (.int p3), .val (.ref b15), .val (.ref b17), .val (.long (own_mix (q1 + (-7046029254386353131 : Int64)))), .second, .val (.long (((own_mix (q1 + (-7046029254386353131 : Int64))).toUInt64 >>> ((11 : Int32) &&& 0x3f).toInt64.toUInt64).toInt64)), .second, .val (.int (p3 &&& (7 : Int32))), .val (.long q2), .second, .unset, .unset, .unset, .unset]) rfl) ?_
              show Go _ p e below s _ _ _ (T19.setTop (mkF m 130 #[.val (.long q1), .second, .val (.long q2), .second, .val (.int p3), .val (.ref b15), .val (.ref b17), .val (.long (own_mix (q1 + (-7046029254386353131 : Int64)))), .second, .val (.long (((own_mix (q1 + (-7046029254386353131 : Int64))).toUInt64 >>> ((11 : Int32) &&& 0x3f).toInt64.toUInt64).toInt64)), .second, .val (.int (p3 &&& (7 : Int32))), .val (.long q2), .second, .unset, .unset, .unset, .unset] []))
              exact J130 _
  · refine go (fun _ => XS.icmpNo X19.here hx rfl (hb hby at_44) rfl (flt hc44_26).2.2.1) ?_
    show Go _ p e below s _ _ _ (T19.setTop (mkF m 47 #[.val (.long q1), .second, .val (.long q2), .second, .val (.int p3), .val (.ref b15), .val (.ref b17), .val (.long (own_mix (q1 + (-7046029254386353131 : Int64)))), .second, .val (.long (((own_mix (q1 + (-7046029254386353131 : Int64))).toUInt64 >>> ((11 : Int32) &&& 0x3f).toInt64.toUInt64).toInt64)), .second, .val (.int (p3 &&& (7 : Int32))), .unset, .unset, .unset, .unset, .unset, .unset] []))
    refine go (fun _ => XS.lloadN X19.here hx rfl (hb hby at_47) rfl) ?_
    show Go _ p e below s _ _ _ (T19.setTop (mkF m 48 #[.val (.long q1), .second, .val (.long q2), .second, .val (.int p3), .val (.ref b15), .val (.ref b17), .val (.long (own_mix (q1 + (-7046029254386353131 : Int64)))), .second, .val (.long (((own_mix (q1 + (-7046029254386353131 : Int64))).toUInt64 >>> ((11 : Int32) &&& 0x3f).toInt64.toUInt64).toInt64)), .second, .val (.int (p3 &&& (7 : Int32))), .unset, .unset, .unset, .unset, .unset, .unset] [(.long q2)]))
    refine go (X19.ldc2Long hx hown (mvT hZ (hw _ (List.mem_of_getElem? (i := 19) rfl))) (g := (mkF m 48 #[.val (.long q1), .second, .val (.long q2), .second, .val (.int p3), .val (.ref b15), .val (.ref b17), .val (.long (own_mix (q1 + (-7046029254386353131 : Int64)))), .second, .val (.long (((own_mix (q1 + (-7046029254386353131 : Int64))).toUInt64 >>> ((11 : Int32) &&& 0x3f).toInt64.toUInt64).toInt64)), .second, .val (.int (p3 &&& (7 : Int32))), .unset, .unset, .unset, .unset, .unset, .unset] [(.long q2)])) rfl (hb hby at_48)) ?_
    show Go _ p e below s _ _ _ (T19.setTop (mkF m 51 #[.val (.long q1), .second, .val (.long q2), .second, .val (.int p3), .val (.ref b15), .val (.ref b17), .val (.long (own_mix (q1 + (-7046029254386353131 : Int64)))), .second, .val (.long (((own_mix (q1 + (-7046029254386353131 : Int64))).toUInt64 >>> ((11 : Int32) &&& 0x3f).toInt64.toUInt64).toInt64)), .second, .val (.int (p3 &&& (7 : Int32))), .unset, .unset, .unset, .unset, .unset, .unset] [(.long (9007199254740991 : Int64)), (.long q2)]))
    refine go (fun _ => XS.land X19.here hx rfl (hb hby at_51) rfl) ?_
    show Go _ p e below s _ _ _ (T19.setTop (mkF m 52 #[.val (.long q1), .second, .val (.long q2), .second, .val (.int p3), .val (.ref b15), .val (.ref b17), .val (.long (own_mix (q1 + (-7046029254386353131 : Int64)))), .second, .val (.long (((own_mix (q1 + (-7046029254386353131 : Int64))).toUInt64 >>> ((11 : Int32) &&& 0x3f).toInt64.toUInt64).toInt64)), .second, .val (.int (p3 &&& (7 : Int32))), .unset, .unset, .unset, .unset, .unset, .unset] [(.long (q2 &&& (9007199254740991 : Int64)))]))
    refine go (fun _ => XS.lstore X19.here hx rfl (hb hby at_52) rfl (l' := #[.val (.long q1), .second, .val (.long q2), .second, .val (.int p3), .val (.ref b15), .val (.ref b17), .val (.long (own_mix (q1 + (-7046029254386353131 : Int64)))), .second, .val (.long (((own_mix (q1 + (-7046029254386353131 : Int64))).toUInt64 >>> ((11 : Int32) &&& 0x3f).toInt64.toUInt64).toInt64)), .second, .val (.int (p3 &&& (7 : Int32))), .val (.long (q2 &&& (9007199254740991 : Int64))), .second, .unset, .unset, .unset, .unset]) rfl) ?_
    show Go _ p e below s _ _ _ (T19.setTop (mkF m 54 #[.val (.long q1), .second, .val (.long q2), .second, .val (.int p3), .val (.ref b15), .val (.ref b17), .val (.long (own_mix (q1 + (-7046029254386353131 : Int64)))), .second, .val (.long (((own_mix (q1 + (-7046029254386353131 : Int64))).toUInt64 >>> ((11 : Int32) &&& 0x3f).toInt64.toUInt64).toInt64)), .second, .val (.int (p3 &&& (7 : Int32))), .val (.long (q2 &&& (9007199254740991 : Int64))), .second, .unset, .unset, .unset, .unset] []))
    refine go (fun _ => XS.goto X19.here hx rfl (pc0 := 54) (pc' := 130) rfl (hb hby at_54) (by decide) (by decide)) ?_
    show Go _ p e below s _ _ _ (T19.setTop (mkF m 130 #[.val (.long q1), .second, .val (.long q2), .second, .val (.int p3), .val (.ref b15), .val (.ref b17), .val (.long (own_mix (q1 + (-7046029254386353131 : Int64)))), .second, .val (.long (((own_mix (q1 + (-7046029254386353131 : Int64))).toUInt64 >>> ((11 : Int32) &&& 0x3f).toInt64.toUInt64).toInt64)), .second, .val (.int (p3 &&& (7 : Int32))), .val (.long (q2 &&& (9007199254740991 : Int64))), .second, .unset, .unset, .unset, .unset] []))
    exact J130 _
set_option maxRecDepth 65536 in
set_option maxHeartbeats 40000000 in
theorem comes_1 {Post : Tables → Env → Array Value → State → Outcome → State → Prop} (hpost : ∀ tb e args s v u, (limb_1_1.after args s (.returned v) u = true ∧ limb_1_2.after args s (.returned v) u = true ∧ True) → FrameEnd s (.returned v) u (Jvm.fieldLocs frame_1_writes args s ++ Jvm.arrayLocs frame_1_arrays args s ++ Jvm.staticLocs frame_1_statics s) 16 128 → Post tb e args s (.returned v) u) :
    ArmFor flags0 classFile x code maxLocals ret World_1 tables_1 room_1 Calls_1 rest_1 Pre_1 Post := by
  intro l hfl _ _ p e ha hc hk s m args below hf hA hF happ hP
  obtain ⟨hcalls, hrest, hpre⟩ := hP
  obtain ⟨-, -, -, hnamed, -, -, -, hat⟩ := (Spec.applies_iff hf).mp happ
  obtain ⟨hg, hn⟩ := and_e (Cond.before_iff.mp (show (Jvm.Cond.and given_1 narrow_1).before args s = true from hpre))
  obtain ⟨q0, r0⟩ := and_e hg
  obtain ⟨q1, r1⟩ := and_e r0
  obtain ⟨q2, r2⟩ := and_e r1
  obtain ⟨w0, w1, w2, rfl⟩ : ∃ w0 w1 w2 : Value, args = #[w0, w1, w2] := by
    have hs : args.size = 3 := by simpa [Cond.value, given_1] using q0
    obtain ⟨L⟩ := args
    match L, hs with
    | [w0, w1, w2], _ => exact ⟨w0, w1, w2, rfl⟩
  have hw := fun d (hd : d ∈ tables_1) => atoms_spec (ws := Jvm.Cond.code x code maxLocals ret :: tables_1) hat d (List.mem_cons_of_mem _ hd)
  have hfit : Fit s := fun {y c} hc i hi => by
    obtain ⟨ha, rfl⟩ := Array.getElem?_eq_some_iff.mp hc
    have q := List.all_eq_true.mp ((Array.all_eq_true_iff_forall_mem.mp hF) _ (Array.getElem_mem ha)) i (List.mem_range.mpr hi)
    simpa [Array.getElem?_eq_getElem hi] using q
  obtain ⟨i0, ei0⟩ := isL_v q1
  obtain rfl : w0 = (.long i0) := Option.some.inj ei0
  obtain ⟨i1, ei1⟩ := isL_v q2
  obtain rfl : w1 = (.long i1) := Option.some.inj ei1
  obtain ⟨i2, ei2⟩ := is_v r2
  obtain rfl : w2 = (.int i2) := Option.some.inj ei2
  obtain ⟨n, o, h1, h2, h3, _, L, rfl, ⟨rfl, N⟩, hq⟩ := rm0 l s _ hw tables_1 i0 i1 i2  s.heap s.heap.size (Nat.le_refl _)  p e ha hc hk s m _ below hf ((Spec.applies_iff_loose hf).mp happ).1 ⟨rfl, State.Warmed39.refl s, rfl⟩ trivial
  refine ⟨n, _, h1, h2, h3, hpost _ _ _ _ _ _ ⟨Cond.after_iff.mpr rfl, Cond.after_iff.mpr (eq_i res_at (Term.int_eval (1)) rfl), trivial⟩ ⟨hq.1, hq.2.1, (hq.2.2.sift fun y hy => Or.inr (N y hy)).mono (by decide) (by decide)⟩⟩
theorem main_1_1 : Claimed_1_1 := comes_1 fun _ _ _ _ _ _ h hF => ⟨h.1, hF⟩
theorem main_1_2 : Claimed_1_2 := comes_1 fun _ _ _ _ _ _ h hF => ⟨h.2.1, hF⟩
end Jvm.Pilot.@@N@@
namespace Jvm.Pilot.@@N@@
open Jvm Jvm.ClassFile Sem Op Lib Jvm.Free Jvm.Stand Jvm.Pilot.@@N@@.Jvm.D
/-! MADE BY PROGRAM (witnessworld.py) out of the Statement's table words and the real class files: 9 classes; the members and pool entries that the words name. The judged class is class 1, her method 1. -/
namespace start1
open Jvm.ClassFile
def u (s : String) : CpInfo := .utf8 (stringToUtf16 s)
/-- a pool by its gaps: so many unusable entries, then the entry; so many at the end -/
def gap : Nat → List CpInfo → List CpInfo
  | 0, r => r
  | n + 1, r => .unusable :: gap n r
def poolList (es : List (Nat × CpInfo)) (last : Nat) : List CpInfo := es.foldr (fun e r => gap e.1 (e.2 :: r)) (gap last [])
def pool (es : List (Nat × CpInfo)) (last : Nat) : Array CpInfo := ⟨poolList es last⟩
def fileOf (pool : Array CpInfo) (this : Nat) (attrs : Array Attribute := #[]) (ms : Array MethodInfo := #[]) (fl : Nat := 33) (sup : Nat := 0) (ifs : Array Nat := #[]) (fds : Array FieldInfo := #[]) : ClassFile where
  minorVersion := 0
  majorVersion := 65
  constantPool := pool
  accessFlags := fl
  thisClass := this
  superClass := sup
  interfaces := ifs
  fields := fds
  methods := ms
  attributes := attrs
def plain (name : String) (sup : Option ClassId) : Class where
  name := name
  kind := .ordinary
  loader := none
  accessFlags := 33
  super := sup
  interfaces := #[]
  cf := none
  fields := #[]
  methods := #[]
  instanceTypes := #[]
  staticTypes := #[]
  resolved := #[]
  callSites := []
  init := .initialized
  statics := none
  mirror := none

def pool0 : Array CpInfo := pool [(5, u "<init>"), (0, u "()V"), (1, .class_ 10), (1, u "java/lang/Object")] 113

def k0c0 : Code := { maxStack := 0, maxLocals := 1, code := object_method_1_code, exceptionTable := #[], attributes := #[] }
def k0m0 : Method := { name := "<init>", desc := "()V", sig := { parameters := [], returnType := none }, accessFlags := 1, code := some k0c0 }
/-- java/lang/Object -/
def k0 : Class := { plain "java/lang/Object" none with
  accessFlags := 33
  interfaces := #[]
  cf := some (fileOf pool0 8 #[] #[{ accessFlags := 1, nameIndex := 5, descriptorIndex := 6, attributes := #[] }] 33 0 #[] #[])
  fields := #[]
  methods := #[k0m0]
  instanceTypes := #[]
  staticTypes := #[]
  resolved := Array.replicate 124 none
  statics := none }

def pool1 : Array CpInfo := pool [(2, .class_ 4), (1, u "java/lang/Object"), (0, u "<init>"), (0, u "()V"), (0, .class_ 8), (0, u "com/example/sunder/sunder/random/SeededRandom"), (0, .methodref 7 10), (0, .nameAndType 5 11), (0, u "(J)V"), (0, .methodref 7 13), (0, .nameAndType 14 15), (0, u "nextLong"), (0, u "()J"), (0, .long 9007199254740991), (1, .long 9007199254740992), (1, .double 4368491638549381120), (1, .methodref 7 23), (0, .nameAndType 24 25), (0, u "chance"), (0, u "(D)Z"), (0, .class_ 27), (0, u "com/example/sunder/sunder/random/SeededRandomChancePinLaw"), (2, u "law"), (0, u "(JJI)Z")] 3

def k1m0 : Method := { name := "<init>", desc := "()V", sig := { parameters := [], returnType := none }, accessFlags := 1, code := none }
def k1c1 : Code := { maxStack := 4, maxLocals := 18, code := code, exceptionTable := #[], attributes := #[] }
def k1m1 : Method := { name := "law", desc := "(JJI)Z", sig := { parameters := [.long, .long, .int], returnType := some .boolean }, accessFlags := 9, code := some k1c1 }
/-- com/example/sunder/sunder/random/SeededRandomChancePinLaw -/
def k1 : Class := { plain "com/example/sunder/sunder/random/SeededRandomChancePinLaw" (some 0) with
  accessFlags := 49
  interfaces := #[]
  cf := some (fileOf pool1 26 #[] #[{ accessFlags := 1, nameIndex := 5, descriptorIndex := 6, attributes := #[] }, { accessFlags := 9, nameIndex := 30, descriptorIndex := 31, attributes := #[] }] 49 2 #[] #[])
  fields := #[]
  methods := #[k1m0, k1m1]
  instanceTypes := #[]
  staticTypes := #[]
  resolved := Array.replicate 35 none
  statics := none }

def pool2 : Array CpInfo := pool [(1, .methodref 2 3), (0, .class_ 4), (0, .nameAndType 5 6), (0, u "java/lang/Object"), (0, u "<init>"), (0, u "()V"), (0, .fieldref 8 9), (0, .class_ 10), (0, .nameAndType 11 12), (0, u "com/example/sunder/sunder/random/SeededRandom"), (0, u "state"), (0, u "J"), (0, .long 11400714819323198485), (1, .long 13787848793156543929), (1, .long 10723151780598845931), (10, .methodref 8 29), (0, .nameAndType 30 31), (0, u "nextLong"), (0, u "()J"), (4, .double 4368491638549381120), (4, u "GAMMA"), (1, u "UNIT"), (0, u "D"), (0, u "(J)V"), (3, u "chance"), (0, u "(D)Z")] 19

def k2c0 : Code := { maxStack := 3, maxLocals := 3, code := prog_78_method_1_code, exceptionTable := #[], attributes := #[] }
def k2m0 : Method := { name := "<init>", desc := "(J)V", sig := { parameters := [.long], returnType := none }, accessFlags := 1, code := some k2c0 }
def k2c1 : Code := { maxStack := 5, maxLocals := 3, code := prog_78_method_2_code, exceptionTable := #[], attributes := #[] }
def k2m1 : Method := { name := "nextLong", desc := "()J", sig := { parameters := [], returnType := some .long }, accessFlags := 1, code := some k2c1 }
def k2c2 : Code := { maxStack := 4, maxLocals := 3, code := prog_78_method_5_code, exceptionTable := #[], attributes := #[] }
def k2m2 : Method := { name := "chance", desc := "(D)Z", sig := { parameters := [.double], returnType := some .boolean }, accessFlags := 1, code := some k2c2 }
/-- com/example/sunder/sunder/random/SeededRandom -/
def k2 : Class := { plain "com/example/sunder/sunder/random/SeededRandom" (some 0) with
  accessFlags := 49
  interfaces := #[]
  cf := some (fileOf pool2 8 #[] #[{ accessFlags := 1, nameIndex := 5, descriptorIndex := 45, attributes := #[] }, { accessFlags := 1, nameIndex := 30, descriptorIndex := 31, attributes := #[] }, { accessFlags := 1, nameIndex := 49, descriptorIndex := 50, attributes := #[] }] 49 2 #[] #[{ accessFlags := 26, nameIndex := 41, descriptorIndex := 12, attributes := #[] }, { accessFlags := 26, nameIndex := 43, descriptorIndex := 44, attributes := #[] }, { accessFlags := 2, nameIndex := 11, descriptorIndex := 12, attributes := #[] }])
  fields := #[{ name := "GAMMA", type := .long, accessFlags := 26, slot := 0, constantValue := 0 }, { name := "UNIT", type := .double, accessFlags := 26, slot := 1, constantValue := 0 }, { name := "state", type := .long, accessFlags := 2, slot := 0, constantValue := 0 }]
  methods := #[k2m0, k2m1, k2m2]
  instanceTypes := #[.long]
  staticTypes := #[.long, .double]
  resolved := Array.replicate 70 none
  statics := none }

def pool3 : Array CpInfo := pool [(1, u "java/lang/Cloneable"), (0, .class_ 1), (0, u "java/lang/Object"), (0, .class_ 3)] 3

/-- java/lang/Cloneable -/
def k3 : Class := { plain "java/lang/Cloneable" (some 0) with
  accessFlags := 1537
  interfaces := #[]
  cf := some (fileOf pool3 2 #[] #[] 1537 4 #[] #[])
  fields := #[]
  methods := #[]
  instanceTypes := #[]
  staticTypes := #[]
  resolved := Array.replicate 8 none
  statics := none }

def pool4 : Array CpInfo := pool [(1, u "java/io/Serializable"), (0, .class_ 1), (0, u "java/lang/Object"), (0, .class_ 3)] 3

/-- java/io/Serializable -/
def k4 : Class := { plain "java/io/Serializable" (some 0) with
  accessFlags := 1537
  interfaces := #[]
  cf := some (fileOf pool4 2 #[] #[] 1537 4 #[] #[])
  fields := #[]
  methods := #[]
  instanceTypes := #[]
  staticTypes := #[]
  resolved := Array.replicate 8 none
  statics := none }

/-- the primitive byte -/
def k5 : Class := { plain "byte" none with kind := .primitive 'B', accessFlags := 0x411 }
/-- [B -/
def k6 : Class := { plain "[B" (some 0) with kind := .array 5 .byte, interfaces := #[3, 4], accessFlags := 1041 }

/-- the primitive int -/
def k7 : Class := { plain "int" none with kind := .primitive 'I', accessFlags := 0x411 }
/-- [I -/
def k8 : Class := { plain "[I" (some 0) with kind := .array 7 .int, interfaces := #[3, 4], accessFlags := 1041 }

def heap : Heap := #[]
def classes : Array Class := #[k0, k1, k2, k3, k4, k5, k6, k7, k8]
def interned : List (Array UInt16 × Addr) := []
def slotsUsed : Nat := 0
def theMethod : MethodId := ⟨1, 1⟩
def args0 : Array Value := #[.long 5, .long 7, .int 3]
def aboutOver (below : List Frame) : State where
  vm := { classes := classes, interned := interned.toArray }
  heap := heap
  slotsUsed := slotsUsed
  threads := #[{ frames := .invoking theMethod args0 :: below }]
def below0 : List Frame := [.native { method := ⟨0, 0⟩, args := #[] }]
def about1 : State := aboutOver below0
def p0 : Program := .bare "" "" ""
def e0 : Env := launch0.env 0 0 0
theorem w_frames : about1.frames = Frame.invoking theMethod args0 :: below0 := rfl
set_option maxRecDepth 65536 in
theorem w_args : argsFit about1.vm theMethod args0 = true := by decide +kernel
set_option maxRecDepth 65536 in
theorem w_heap : heapFits about1 = true := by decide +kernel
set_option maxRecDepth 65536 in
theorem w_runnable : about1.curStatus? = some .runnable := by decide +kernel
set_option maxRecDepth 65536 in
theorem w_alone : about1.alone = true := by decide +kernel
set_option maxRecDepth 65536 in
theorem w_named : about1.methodNamed? x = some theMethod := by decide +kernel
set_option maxRecDepth 65536 in
theorem w_hears : about1.hears theMethod below0 = true := by decide +kernel
set_option maxRecDepth 65536 in
theorem w_ripe : about1.ripe theMethod args0 below0 = true := by decide +kernel
theorem w_running : about1.status = .running := rfl
set_option maxRecDepth 65536 in
theorem w_room : about1.hasRoom e0.platform room_1 = true :=
  launch0.hasRoom_least _ room_1 (by decide +kernel) (by decide +kernel) (by decide +kernel) (by decide +kernel) (by decide +kernel) (by decide +kernel)
theorem allAtoms_all (ts : List Jvm.Cond) (a : Array Jvm.Value) (st : Jvm.State) : (allAtoms ts).before a st = ts.all (fun c => c.before a st) := by
  induction ts with
  | nil => rfl
  | cons c t ih =>
    show (Jvm.Cond.and c (allAtoms t)).before a st = _
    rw [Jvm.Cond.before_and, ih, List.all_cons]
def words1 : List Jvm.Cond := Jvm.Cond.code x code maxLocals ret :: tables_1
/-- a 'code' word, met by the world's own term for the bytes: nothing is compared byte by byte -/
theorem code_word {y : MethodName} {bytes : ByteArray} {mx : Nat} {rt : Option FieldType} {a : Array Value} {s : State} {m : MethodId} {meth : Method} {c : Code} (h1 : s.methodNamed? y = some m) (h2 : s.vm.method? m = some meth) (h3 : meth.code = some c) (h4 : c.code = bytes)
    (h5 : (c.maxLocals == mx && c.exceptionTable.isEmpty && decide (c.maxStack ≤ mostOperands) && decide (meth.sig.returnType = rt) && !meth.locks && decide (parseMethodDescriptor y.desc = some meth.sig)) = true) : (Jvm.Cond.code y bytes mx rt).before a s = true := by
  simp only [Bool.and_eq_true, beq_iff_eq, Bool.not_eq_true', decide_eq_true_eq] at h5
  obtain ⟨⟨⟨⟨⟨g1, g2⟩, g3⟩, g4⟩, g5⟩, g6⟩ := h5
  simp [Cond.before, Cond.holds, Cond.value, h1, h2, h3, h4, g1, g2, g3, g4, g5, g6]
def isCode : Jvm.Cond → Bool
  | .code _ _ _ _ => true
  | _ => false
theorem all_split {L : List Jvm.Cond} {P : Jvm.Cond → Bool} (h1 : L.all (fun c => isCode c || P c) = true) (h2 : ∀ c ∈ L.filter isCode, P c = true) : L.all P = true := by
  refine List.all_eq_true.mpr fun c hc => ?_
  have h := List.all_eq_true.mp h1 c hc
  rcases Bool.eq_false_or_eq_true (isCode c) with hi | hi
  · exact h2 c (List.mem_filter.mpr ⟨hc, hi⟩)
  · simpa [hi] using h
set_option maxRecDepth 65536 in
theorem w_c0 : (Jvm.Cond.code x code maxLocals ret).before args0 about1 = true := code_word (m := ⟨1, 1⟩) (meth := k1m1) (c := k1c1) (by decide +kernel) rfl rfl rfl (by decide +kernel)
set_option maxRecDepth 65536 in
theorem w_c1 : (Jvm.Cond.code ({ cls := "com/example/sunder/sunder/random/SeededRandom", name := "<init>", desc := "(J)V" } : Jvm.MethodName) prog_78_method_1_code (3 : Nat) (Option.none : Option Jvm.ClassFile.FieldType)).before args0 about1 = true := code_word (m := ⟨2, 0⟩) (meth := k2m0) (c := k2c0) (by decide +kernel) rfl rfl rfl (by decide +kernel)
set_option maxRecDepth 65536 in
theorem w_c2 : (Jvm.Cond.code ({ cls := "java/lang/Object", name := "<init>", desc := "()V" } : Jvm.MethodName) object_method_1_code (1 : Nat) (Option.none : Option Jvm.ClassFile.FieldType)).before args0 about1 = true := code_word (m := ⟨0, 0⟩) (meth := k0m0) (c := k0c0) (by decide +kernel) rfl rfl rfl (by decide +kernel)
set_option maxRecDepth 65536 in
theorem w_c3 : (Jvm.Cond.code ({ cls := "com/example/sunder/sunder/random/SeededRandom", name := "nextLong", desc := "()J" } : Jvm.MethodName) prog_78_method_2_code (3 : Nat) (Option.some Jvm.ClassFile.FieldType.long)).before args0 about1 = true := code_word (m := ⟨2, 1⟩) (meth := k2m1) (c := k2c1) (by decide +kernel) rfl rfl rfl (by decide +kernel)
set_option maxRecDepth 65536 in
theorem w_c4 : (Jvm.Cond.code ({ cls := "com/example/sunder/sunder/random/SeededRandom", name := "chance", desc := "(D)Z" } : Jvm.MethodName) prog_78_method_5_code (3 : Nat) (Option.some Jvm.ClassFile.FieldType.boolean)).before args0 about1 = true := code_word (m := ⟨2, 2⟩) (meth := k2m2) (c := k2c2) (by decide +kernel) rfl rfl rfl (by decide +kernel)
def codes1 : List Jvm.Cond := [Jvm.Cond.code x code maxLocals ret, Jvm.Cond.code ({ cls := "com/example/sunder/sunder/random/SeededRandom", name := "<init>", desc := "(J)V" } : Jvm.MethodName) prog_78_method_1_code (3 : Nat) (Option.none : Option Jvm.ClassFile.FieldType), Jvm.Cond.code ({ cls := "java/lang/Object", name := "<init>", desc := "()V" } : Jvm.MethodName) object_method_1_code (1 : Nat) (Option.none : Option Jvm.ClassFile.FieldType), Jvm.Cond.code ({ cls := "com/example/sunder/sunder/random/SeededRandom", name := "nextLong", desc := "()J" } : Jvm.MethodName) prog_78_method_2_code (3 : Nat) (Option.some Jvm.ClassFile.FieldType.long), Jvm.Cond.code ({ cls := "com/example/sunder/sunder/random/SeededRandom", name := "chance", desc := "(D)Z" } : Jvm.MethodName) prog_78_method_5_code (3 : Nat) (Option.some Jvm.ClassFile.FieldType.boolean)]
set_option maxRecDepth 65536 in
theorem codes_eq : words1.filter isCode = codes1 := rfl
theorem w_codes : ∀ c ∈ words1.filter isCode, c.before args0 about1 = true := by
  rw [codes_eq]
  intro c hc
  simp only [codes1, List.mem_cons, List.not_mem_nil, or_false] at hc
  rcases hc with rfl | rfl | rfl | rfl | rfl
  · exact w_c0
  · exact w_c1
  · exact w_c2
  · exact w_c3
  · exact w_c4
set_option maxRecDepth 65536 in
theorem w_t1 : (words1.take 24).all (fun c => isCode c || c.before args0 about1) = true := by decide +kernel
set_option maxRecDepth 65536 in
theorem w_t2 : (words1.drop 24).all (fun c => isCode c || c.before args0 about1) = true := by decide +kernel
theorem w_tables : (allAtoms (Jvm.Cond.code x code maxLocals ret :: tables_1)).before args0 about1 = true := by
  rw [allAtoms_all]
  show words1.all (fun c => c.before args0 about1) = true
  refine all_split ?_ w_codes
  rw [← List.take_append_drop 24 words1, List.all_append, w_t1, w_t2]
  rfl
set_option maxRecDepth 65536 in
theorem w_case : (Jvm.Cond.and given_1 narrow_1).before args0 about1 = true := by decide +kernel
theorem w_applies : (headSpec (Jvm.Cond.code x code maxLocals ret :: tables_1) room_1).applies x e0.platform about1 = true :=
  (Spec.applies_iff w_frames).mpr ⟨w_running, w_runnable, w_alone, w_named, w_hears, w_ripe, w_room, w_tables⟩
theorem atStart : AtStart classFile x code maxLocals ret World_1 tables_1 room_1 Calls_1 rest_1 Pre_1 launch0 p0 e0 about1 theMethod args0 below0 :=
  ⟨lists_1, trivial, launch0.admits_env _ _ _, launch0.least_env, fairChoices_fair.cas, fairChoices_fair.clock, w_frames, w_args, w_heap, w_applies, trivial, trivial, w_case⟩
end start1
theorem witness_1 : WitnessClaimed_1 := ⟨start1.p0, start1.e0, start1.about1, start1.theMethod, start1.args0, start1.below0, start1.atStart⟩
end Jvm.Pilot.@@N@@
