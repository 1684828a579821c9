import JvmDerived
import JvmDerived.Pilot.@@N@@Statement
import JvmDerived.Pilot.@@N@@Code
set_option linter.unusedVariables false
set_option linter.unusedSimpArgs false
@@BLOCK:NumsL.lean.txt@@
namespace Jvm.Pilot.@@N@@
open Jvm Jvm.ClassFile Sem Op Lib Jvm.Free Jvm.Stand Jvm.LawKit Jvm.RoadKit Bundle Jvm.Pilot.@@N@@.Jvm.D
section Own
variable {p : Program} {l : Launch} {e : Env} {R : Room} {s : State} {m : MethodId} {args : Array Value} {below : List Frame} {meth : Method} {c : Code} {T : State} {locs : List Loc} {cells slots : Nat}
/-- the walk from the state t ends as the contract Q says; End: the narrow frame or the wide one -/
def Go (End : State → Outcome → State → List Loc → Nat → Nat → Prop) (p : Program) (e : Env) (below : List Frame) (s : State) (rc rs : Nat) (Q : Option Value → Heap → List Loc → Prop) (t : State) : Prop :=
  ∃ s₂ o, Steps p.tables e below t s₂ ∧ s₂.status = .running ∧ Ended s₂ below o ∧ ∃ v L, o = .returned v ∧ Q v s₂.heap L ∧ End s o s₂ L rc rs
variable {End : State → Outcome → State → List Loc → Nat → Nat → Prop}
theorem go {rc rs : Nat} {Q : Option Value → Heap → List Loc → Prop} {t t' : State} (k : ∀ target, Steps p.tables e below t' target → Steps p.tables e below t target) (h : Go End p e below s rc rs Q t') : Go End p e below s rc rs Q t := by
  obtain ⟨s₂, o, h1, h2⟩ := h
  exact ⟨s₂, o, k _ h1, h2⟩
theorem goT {rc rs : Nat} {Q : Option Value → Heap → List Loc → Prop} {t t' : State} (k : Steps p.tables e below t t') (h : Go End p e below s rc rs Q t') : Go End p e below s rc rs Q t := by
  obtain ⟨s₂, o, h1, h2⟩ := h
  exact ⟨s₂, o, k.trans h1, h2⟩
theorem goRet {rc rs : Nat} {Q : Option Value → Heap → List Loc → Prop} (X : Stand p l e R s m args below meth c T locs cells slots) (hx : p.tables.exec = Jvm.exec) (hlk : meth.locks = false) {pc : Nat} {Ls : Array Slot} {w : Value} {t : FieldType} {i : Instr} {rest : List Value} (hret : meth.sig.returnType = some t) (hn : narrow t w = w)
    (hi : (i = .ireturn ∧ (t = .int ∨ t = .boolean ∨ t = .byte ∨ t = .char ∨ t = .short) ∧ ∃ z, w = .int z) ∨ (i = .lreturn ∧ t = .long ∧ ∃ z, w = .long z) ∨ (i = .dreturn ∧ t = .double ∧ ∃ z, w = .double z) ∨ (i = .freturn ∧ t = .float ∧ ∃ z, w = .float z) ∨ (i = .areturn ∧ t.isReference = true ∧ w.isRef = true))
    (hd : decode c.code pc = .ok (i, 1)) (hc : cells ≤ rc) (hs : slots ≤ rs) (hq : Q (some w) T.heap locs) : Go FrameEnd p e below s rc rs Q (T.setTop (mkF m pc Ls (w :: rest))) := by
  obtain ⟨fs, hr, hrun, hended, hW, hsame⟩ := X.leave (v := some w) (fun h => by rw [hret] at h; cases h) hlk
  refine ⟨_, _, retOut X hx hret hn hi hd hr, hrun, hended, _, _, rfl, ?_, ⟨_, rfl⟩, hW, hsame.mono hc hs⟩
  show Q _ T.heap _
  exact hq
theorem goRet0 {rc rs : Nat} {Q : Option Value → Heap → List Loc → Prop} (X : Stand p l e R s m args below meth c T locs cells slots) (hx : p.tables.exec = Jvm.exec) (hlk : meth.locks = false) {pc : Nat} {Ls : Array Slot} (hret : meth.sig.returnType = none)
    (hd : decode c.code pc = .ok (.return_, 1)) (hc : cells ≤ rc) (hs : slots ≤ rs) (hq : Q none T.heap locs) : Go FrameEnd p e below s rc rs Q (T.setTop (mkF m pc Ls [])) := by
  obtain ⟨fs, hr, hrun, hended, hW, hsame⟩ := X.leave (v := none) (fun _ => rfl) hlk
  refine ⟨_, _, X.returnOut hx hret hd hr, hrun, hended, _, _, rfl, ?_, ⟨_, rfl⟩, hW, hsame.mono hc hs⟩
  show Q _ T.heap _
  exact hq
end Own
def own_lp : Nat → Nat → Nat → Bool
  | 0, _, _ => true
  | f + 1, n, k => if n / k < k then true else if n % k = 0 then false else own_lp f n (k + 1)
def own_prime (n : Nat) : Bool := decide (2 ≤ n) && own_lp n n 2
def own_res (P : Int) (r : Nat) : Prop := (r = 0 ∧ ∀ q : Nat, 2 ≤ q → ((q * q + q + 1 : Nat) : Int) = P → own_prime q = false) ∨ (2 ≤ r ∧ ((r * r + r + 1 : Nat) : Int) = P ∧ own_prime r = true)
theorem own_eq {n : Nat} (h : 2 ≤ n) : own_lp n n 2 = own_prime n := by unfold own_prime; simp [h]
theorem own_t1 : (1 : Int32).toInt = 1 := by decide
theorem own_t2 : (2 : Int32).toInt = 2 := by decide
theorem own_t0 : (0 : Int32).toInt = 0 := by decide
theorem own_nz {i : Int32} {k : Nat} (hi : i.toInt = k) (hk : 2 ≤ k) : i ≠ 0 := by rintro rfl; rw [own_t0] at hi; omega
theorem own_div {p i : Int32} {n k : Nat} (hp : p.toInt = n) (hi : i.toInt = k) (hk : 2 ≤ k) : (p / i < i) ↔ n / k < k := by
  have e : (p / i).toInt = ((n / k : Nat) : Int) := by
    rw [Jvm.Kit.i32_div (by omega), hp, hi, Int.tdiv_eq_ediv_of_nonneg (by omega)]; rfl
  rw [Int32.lt_iff_toInt_lt, e, hi]; omega
theorem own_rem {p i : Int32} {n k : Nat} (hp : p.toInt = n) (hi : i.toInt = k) : (p % i = 0) ↔ n % k = 0 := by
  have e : (p % i).toInt = ((n % k : Nat) : Int) := by
    rw [Jvm.Kit.i32_rem_nonneg (by omega), hp, hi]; rfl
  rw [← Int32.toInt_inj, e, own_t0]; omega
theorem own_inc {p i : Int32} {n k : Nat} (hp : p.toInt = n) (hi : i.toInt = k) (hk : 2 ≤ k) (h : ¬ n / k < k) : (i + 1).toInt = ((k + 1 : Nat) : Int) := by
  have hlt := Int32.toInt_lt p
  have h1 : k * k ≤ n := (Nat.le_div_iff_mul_le (by omega)).mp (Nat.le_of_not_lt h)
  have h2 : 2 * k ≤ k * k := Nat.mul_le_mul_right k hk
  rw [Jvm.Kit.i32_add (by rw [own_t1]; omega) (by rw [own_t1]; omega), own_t1, hi]; omega
theorem own_exit {n k : Nat} (h : n < k) : n / k < k := by rw [Nat.div_eq_of_lt h]; omega
theorem own_ge {p : Int32} {n : Nat} (hp : p.toInt = n) (h : 2 ≤ n) : ¬ p < 2 := by rw [Int32.lt_iff_toInt_lt, own_t2]; omega
theorem d3_0 : decode prog_21_method_5_code 0 = .ok (.iload_n 0, 1) := by decide +kernel
theorem d3_1 : decode prog_21_method_5_code 1 = .ok (.iconst 2, 1) := by decide +kernel
theorem d3_2 : decode prog_21_method_5_code 2 = .ok (.if_icmp .ge 5, 3) := by decide +kernel
theorem d3_7 : decode prog_21_method_5_code 7 = .ok (.iconst 2, 1) := by decide +kernel
theorem d3_8 : decode prog_21_method_5_code 8 = .ok (.istore_n 1, 1) := by decide +kernel
theorem d3_9 : decode prog_21_method_5_code 9 = .ok (.iload_n 1, 1) := by decide +kernel
theorem d3_10 : decode prog_21_method_5_code 10 = .ok (.iload_n 0, 1) := by decide +kernel
theorem d3_11 : decode prog_21_method_5_code 11 = .ok (.iload_n 1, 1) := by decide +kernel
theorem d3_12 : decode prog_21_method_5_code 12 = .ok (.idiv, 1) := by decide +kernel
theorem d3_13 : decode prog_21_method_5_code 13 = .ok (.if_icmp .gt 17, 3) := by decide +kernel
theorem d3_16 : decode prog_21_method_5_code 16 = .ok (.iload_n 0, 1) := by decide +kernel
theorem d3_17 : decode prog_21_method_5_code 17 = .ok (.iload_n 1, 1) := by decide +kernel
theorem d3_18 : decode prog_21_method_5_code 18 = .ok (.irem, 1) := by decide +kernel
theorem d3_19 : decode prog_21_method_5_code 19 = .ok (.ifCond .ne 5, 3) := by decide +kernel
theorem d3_22 : decode prog_21_method_5_code 22 = .ok (.iconst 0, 1) := by decide +kernel
theorem d3_23 : decode prog_21_method_5_code 23 = .ok (.ireturn, 1) := by decide +kernel
theorem d3_24 : decode prog_21_method_5_code 24 = .ok (.iinc 1 1, 3) := by decide +kernel
theorem d3_27 : decode prog_21_method_5_code 27 = .ok (.goto (-18), 3) := by decide +kernel
theorem d3_30 : decode prog_21_method_5_code 30 = .ok (.iconst 1, 1) := by decide +kernel
theorem d3_31 : decode prog_21_method_5_code 31 = .ok (.ireturn, 1) := by decide +kernel
theorem pn_3 : plainName "com/example/lim1/lim1/ProjectivePlane" = true := by first | (simp [plainName, overriddenIn]; done) | decide +kernel
theorem ef_3 (m : MethodId) (p1 : Int32) : entryFrame m #[(.int p1)] 2 = mkF m 0 #[.val (.int p1), .unset] [] := by first | (simp [entryFrame, mkF, argsToLocals, Value.category]; done) | rfl
def Q3 (Z : State) (p1 : Int32) (n : Nat) (h0 : Heap) (n0 : Nat) (v : Option Value) (h : Heap) (L : List Loc) : Prop := v = some (.int (if own_prime n = true then (1 : Int32) else 0)) ∧ Fr n0 L ∧ (h = h0)
set_option maxRecDepth 65536 in
set_option maxHeartbeats 40000000 in
theorem rm3 (l : Launch) (Z : State) (a0 : Array Value) (hw : ∀ d ∈ tables_1, d.before a0 Z = true) (ws : List Jvm.Cond) (p1 : Int32) (n : Nat) (h0 : Heap) (n0 : Nat) (Z0 : n0 ≤ h0.size) (hp : p1.toInt = (n : Int)) (hn : 2 ≤ n) :
    MetFree l (⟨"com/example/lim1/lim1/ProjectivePlane", "isPrime", "(I)Z"⟩ : MethodName) (head1 (Jvm.Cond.code (⟨"com/example/lim1/lim1/ProjectivePlane", "isPrime", "(I)Z"⟩ : MethodName) prog_21_method_5_code 2 (some .boolean) :: ws) ({ frames := 0, cells := 0, slots := 0, locals := 0 } : Room)) (fun a U => a = #[(.int p1)] ∧ Z.Warmed39 U.vm ∧ U.heap = h0) (fun _ _ _ _ _ => True) (fun _ U o U' => ∃ v L, o = .returned v ∧ Q3 Z p1 n h0 n0 v U'.heap L ∧ FrameEnd U o U' L ({ frames := 0, cells := 0, slots := 0, locals := 0 } : Room).cells ({ frames := 0, cells := 0, slots := 0, locals := 0 } : Room).slots) := by
  refine MetFree.of_bodySF (plainFor_of_name pn_3) hisR ?_
  intro p e s m args below meth c s₁ Bd hml0 hP hK
  obtain ⟨rfl, hZ, hh⟩ := hP
  have hx := Bd.exec
  have hby := Bd.bytes
  have hml : c.maxLocals = 2 := hml0
  have hown : s.vm.findClass "com/example/lim1/lim1/ProjectivePlane" = some m.cls := findClass_of_methodNamed Bd.named
  have hnm := (name_of_methodNamed Bd.named Bd.method).1
  have X0 : Stand p l e ({ frames := 0, cells := 0, slots := 0, locals := 0 } : Room) s m #[(.int p1)] below meth c s₁ [] 0 0 := Stand.of_body Bd
  have e0 : s₁.heap = h0 := by rw [← hh, Bd.state]; rfl
  have N0 := Fr.nil n0
  have hS0 : s.Since s.vm 0 := (State.WarmedH.refl s).since 0
  show Go FrameEnd p e below s ({ frames := 0, cells := 0, slots := 0, locals := 0 } : Room).cells ({ frames := 0, cells := 0, slots := 0, locals := 0 } : Room).slots (Q3 Z p1 n h0 n0) (s₁.setTop (entryFrame m #[(.int p1)] 2))
  refine go (fun _ k => castTop (ef_3 m p1) k) ?_
  show Go _ p e below s _ _ _ (s₁.setTop (mkF m 0 #[.val (.int p1), .unset] []))
  refine go (fun _ => XS.iloadN X0.here hx rfl (hb hby d3_0) rfl) ?_
  show Go _ p e below s _ _ _ (s₁.setTop (mkF m 1 #[.val (.int p1), .unset] [(.int p1)]))
  refine go (fun _ => XS.iconst X0.here hx rfl (hb hby d3_1)) ?_
  show Go _ p e below s _ _ _ (s₁.setTop (mkF m 2 #[.val (.int p1), .unset] [(.int (2 : Int32)), (.int p1)]))
  refine go (fun _ => XS.icmpYes X0.here hx rfl (pc0 := 2) (pc' := 7) rfl (hb hby d3_2) rfl (flt (own_ge hp hn)).2.1 (by decide) (by decide)) ?_
  show Go _ p e below s _ _ _ (s₁.setTop (mkF m 7 #[.val (.int p1), .unset] []))
  refine go (fun _ => XS.iconst X0.here hx rfl (hb hby d3_7)) ?_
  show Go _ p e below s _ _ _ (s₁.setTop (mkF m 8 #[.val (.int p1), .unset] [(.int (2 : Int32))]))
  refine go (fun _ => XS.istoreN X0.here hx rfl (hb hby d3_8) rfl (l' := #[.val (.int p1), .val (.int (2 : Int32))]) rfl) ?_
  show Go _ p e below s _ _ _ (s₁.setTop (mkF m 9 #[.val (.int p1), .val (.int (2 : Int32))] []))
  have LP : ∀ (f : Nat) (i : Int32) (k : Nat), i.toInt = (k : Int) → 2 ≤ k → n < k + f → own_lp f n k = own_prime n → Go FrameEnd p e below s ({ frames := 0, cells := 0, slots := 0, locals := 0 } : Room).cells ({ frames := 0, cells := 0, slots := 0, locals := 0 } : Room).slots (Q3 Z p1 n h0 n0) (s₁.setTop (mkF m 9 #[.val (.int p1), .val (.int i)] [])) := by
    intro f
    induction f with
    | zero => 
      intro i k hi hk hf hq
      show Go _ p e below s _ _ _ (s₁.setTop (mkF m 9 #[.val (.int p1), .val (.int i)] []))
      refine go (fun _ => XS.iloadN X0.here hx rfl (hb hby d3_9) rfl) ?_
      show Go _ p e below s _ _ _ (s₁.setTop (mkF m 10 #[.val (.int p1), .val (.int i)] [(.int i)]))
      refine go (fun _ => XS.iloadN X0.here hx rfl (hb hby d3_10) rfl) ?_
      show Go _ p e below s _ _ _ (s₁.setTop (mkF m 11 #[.val (.int p1), .val (.int i)] [(.int p1), (.int i)]))
      refine go (fun _ => XS.iloadN X0.here hx rfl (hb hby d3_11) rfl) ?_
      show Go _ p e below s _ _ _ (s₁.setTop (mkF m 12 #[.val (.int p1), .val (.int i)] [(.int i), (.int p1), (.int i)]))
      refine go (fun _ => XS.idiv X0.here hx rfl (hb hby d3_12) rfl (own_nz hi hk)) ?_
      show Go _ p e below s _ _ _ (s₁.setTop (mkF m 13 #[.val (.int p1), .val (.int i)] [(.int (p1 / i)), (.int i)]))
      refine go (fun _ => XS.icmpYes X0.here hx rfl (pc0 := 13) (pc' := 30) rfl (hb hby d3_13) rfl (tlt ((own_div hp hi hk).mpr (own_exit (by omega)))).2.2.1 (by decide) (by decide)) ?_
      show Go _ p e below s _ _ _ (s₁.setTop (mkF m 30 #[.val (.int p1), .val (.int i)] []))
      refine go (fun _ => XS.iconst X0.here hx rfl (hb hby d3_30)) ?_
      show Go _ p e below s _ _ _ (s₁.setTop (mkF m 31 #[.val (.int p1), .val (.int i)] [(.int (1 : Int32))]))
      refine goRet X0 hx Bd.notSynchronized Bd.returns rfl (Or.inl ⟨rfl, Or.inr (Or.inl rfl), _, rfl⟩) (hb hby d3_31) (by decide) (by decide) (by rw [e0]; refine ⟨(by rw [if_pos (show own_prime n = true from hq.symm)]), N0, rfl⟩)
    | succ f ih => 
      intro i k hi hk hf hq
      show Go _ p e below s _ _ _ (s₁.setTop (mkF m 9 #[.val (.int p1), .val (.int i)] []))
      refine go (fun _ => XS.iloadN X0.here hx rfl (hb hby d3_9) rfl) ?_
      show Go _ p e below s _ _ _ (s₁.setTop (mkF m 10 #[.val (.int p1), .val (.int i)] [(.int i)]))
      refine go (fun _ => XS.iloadN X0.here hx rfl (hb hby d3_10) rfl) ?_
      show Go _ p e below s _ _ _ (s₁.setTop (mkF m 11 #[.val (.int p1), .val (.int i)] [(.int p1), (.int i)]))
      refine go (fun _ => XS.iloadN X0.here hx rfl (hb hby d3_11) rfl) ?_
      show Go _ p e below s _ _ _ (s₁.setTop (mkF m 12 #[.val (.int p1), .val (.int i)] [(.int i), (.int p1), (.int i)]))
      refine go (fun _ => XS.idiv X0.here hx rfl (hb hby d3_12) rfl (own_nz hi hk)) ?_
      show Go _ p e below s _ _ _ (s₁.setTop (mkF m 13 #[.val (.int p1), .val (.int i)] [(.int (p1 / i)), (.int i)]))
      by_cases hc13_3 : (p1 / i) < i
      · refine go (fun _ => XS.icmpYes X0.here hx rfl (pc0 := 13) (pc' := 30) rfl (hb hby d3_13) rfl (tlt hc13_3).2.2.1 (by decide) (by decide)) ?_
        show Go _ p e below s _ _ _ (s₁.setTop (mkF m 30 #[.val (.int p1), .val (.int i)] []))
        refine go (fun _ => XS.iconst X0.here hx rfl (hb hby d3_30)) ?_
        show Go _ p e below s _ _ _ (s₁.setTop (mkF m 31 #[.val (.int p1), .val (.int i)] [(.int (1 : Int32))]))
        refine goRet X0 hx Bd.notSynchronized Bd.returns rfl (Or.inl ⟨rfl, Or.inr (Or.inl rfl), _, rfl⟩) (hb hby d3_31) (by decide) (by decide) (by rw [e0]; refine ⟨(by rw [if_pos (by rw [← hq]; unfold own_lp; rw [if_pos ((own_div hp hi hk).mp hc13_3)])]), N0, rfl⟩)
      · refine go (fun _ => XS.icmpNo X0.here hx rfl (hb hby d3_13) rfl (flt hc13_3).2.2.1) ?_
        show Go _ p e below s _ _ _ (s₁.setTop (mkF m 16 #[.val (.int p1), .val (.int i)] []))
        refine go (fun _ => XS.iloadN X0.here hx rfl (hb hby d3_16) rfl) ?_
        show Go _ p e below s _ _ _ (s₁.setTop (mkF m 17 #[.val (.int p1), .val (.int i)] [(.int p1)]))
        refine go (fun _ => XS.iloadN X0.here hx rfl (hb hby d3_17) rfl) ?_
        show Go _ p e below s _ _ _ (s₁.setTop (mkF m 18 #[.val (.int p1), .val (.int i)] [(.int i), (.int p1)]))
        refine go (fun _ => iremM X0 hx rfl (hb hby d3_18) rfl (own_nz hi hk)) ?_
        show Go _ p e below s _ _ _ (s₁.setTop (mkF m 19 #[.val (.int p1), .val (.int i)] [(.int (p1 % i))]))
        by_cases hc19_4 : (p1 % i) = (0 : Int32)
        · refine go (fun _ => XS.ifNo X0.here hx rfl (hb hby d3_19) rfl ((if0 _ _).trans (teq hc19_4).2)) ?_
          show Go _ p e below s _ _ _ (s₁.setTop (mkF m 22 #[.val (.int p1), .val (.int i)] []))
          refine go (fun _ => XS.iconst X0.here hx rfl (hb hby d3_22)) ?_
          show Go _ p e below s _ _ _ (s₁.setTop (mkF m 23 #[.val (.int p1), .val (.int i)] [(.int (0 : Int32))]))
          refine goRet X0 hx Bd.notSynchronized Bd.returns rfl (Or.inl ⟨rfl, Or.inr (Or.inl rfl), _, rfl⟩) (hb hby d3_23) (by decide) (by decide) (by rw [e0]; refine ⟨(by rw [if_neg (by rw [← hq]; unfold own_lp; rw [if_neg (fun q => hc13_3 ((own_div hp hi hk).mpr q)), if_pos ((own_rem hp hi).mp hc19_4)]; decide)]), N0, rfl⟩)
        · refine go (fun _ => XS.ifYes X0.here hx rfl (pc0 := 19) (pc' := 24) rfl (hb hby d3_19) rfl ((if0 _ _).trans (feq hc19_4).2) (by decide) (by decide)) ?_
          show Go _ p e below s _ _ _ (s₁.setTop (mkF m 24 #[.val (.int p1), .val (.int i)] []))
          refine go (fun _ => XS.iinc X0.here hx rfl (hb hby d3_24) rfl (l' := #[.val (.int p1), .val (.int (i + (1 : Int32)))]) rfl) ?_
          show Go _ p e below s _ _ _ (s₁.setTop (mkF m 27 #[.val (.int p1), .val (.int (i + (1 : Int32)))] []))
          refine go (fun _ => XS.goto X0.here hx rfl (pc0 := 27) (pc' := 9) rfl (hb hby d3_27) (by decide) (by decide)) ?_
          show Go _ p e below s _ _ _ (s₁.setTop (mkF m 9 #[.val (.int p1), .val (.int (i + (1 : Int32)))] []))
          exact ih _ (k + 1) (own_inc hp hi hk (fun q => hc13_3 ((own_div hp hi hk).mpr q))) (by omega) (by omega) (by rw [← hq]; conv => rhs; unfold own_lp; rw [if_neg (fun q => hc13_3 ((own_div hp hi hk).mpr q)), if_neg (fun q => hc19_4 ((own_rem hp hi).mpr q))])
  exact LP n _ 2 (by decide) (by omega) (by omega) (own_eq hn)
theorem own_mask0 : ∀ n : Fin 64, ((((2891462833508853932 : Int64).toUInt64 >>> ((Int32.ofNat n.val) &&& 0x3f).toInt64.toUInt64).toInt64 &&& (1 : Int64)) = 0) ↔ own_prime n.val = false := by decide +kernel
theorem own_small {p : Int32} {n : Nat} (hp : p.toInt = n) (h : n < 64) : p = Int32.ofNat n := by
  apply Int32.toInt_inj.mp; rw [hp, Int32.toInt_ofNat_of_lt (by omega)]
theorem own_mask {p : Int32} {n : Nat} (hp : p.toInt = n) (h : n < 64) : ((((2891462833508853932 : Int64).toUInt64 >>> (p &&& 0x3f).toInt64.toUInt64).toInt64 &&& (1 : Int64)) = 0) ↔ own_prime n = false := by
  rw [own_small hp h]; exact own_mask0 ⟨n, h⟩
theorem d2_0 : decode method_2_code 0 = .ok (.iload_n 0, 1) := by decide +kernel
theorem d2_1 : decode method_2_code 1 = .ok (.ifCond .lt 9, 3) := by decide +kernel
theorem d2_4 : decode method_2_code 4 = .ok (.iload_n 0, 1) := by decide +kernel
theorem d2_5 : decode method_2_code 5 = .ok (.bipush 63, 2) := by decide +kernel
theorem d2_7 : decode method_2_code 7 = .ok (.if_icmp .le 5, 3) := by decide +kernel
theorem d2_12 : decode method_2_code 12 = .ok (.ldc2_w 7, 3) := by decide +kernel
theorem d2_15 : decode method_2_code 15 = .ok (.iload_n 0, 1) := by decide +kernel
theorem d2_16 : decode method_2_code 16 = .ok (.lushr, 1) := by decide +kernel
theorem d2_17 : decode method_2_code 17 = .ok (.lconst 1, 1) := by decide +kernel
theorem d2_18 : decode method_2_code 18 = .ok (.land, 1) := by decide +kernel
theorem d2_19 : decode method_2_code 19 = .ok (.lconst 0, 1) := by decide +kernel
theorem d2_20 : decode method_2_code 20 = .ok (.lcmp, 1) := by decide +kernel
theorem d2_21 : decode method_2_code 21 = .ok (.ifCond .eq 7, 3) := by decide +kernel
theorem d2_24 : decode method_2_code 24 = .ok (.iconst 1, 1) := by decide +kernel
theorem d2_25 : decode method_2_code 25 = .ok (.goto 4, 3) := by decide +kernel
theorem d2_28 : decode method_2_code 28 = .ok (.iconst 0, 1) := by decide +kernel
theorem d2_29 : decode method_2_code 29 = .ok (.ireturn, 1) := by decide +kernel
theorem pn_2 : plainName "com/example/lim1/lim1/ProjectivePlanePrimeOrderPinLaw" = true := by first | (simp [plainName, overriddenIn]; done) | decide +kernel
theorem ef_2 (m : MethodId) (p1 : Int32) : entryFrame m #[(.int p1)] 1 = mkF m 0 #[.val (.int p1)] [] := by first | (simp [entryFrame, mkF, argsToLocals, Value.category]; done) | rfl
def Q2 (Z : State) (p1 : Int32) (n : Nat) (h0 : Heap) (n0 : Nat) (v : Option Value) (h : Heap) (L : List Loc) : Prop := v = some (.int (if own_prime n = true then (1 : Int32) else 0)) ∧ Fr n0 L ∧ (h = h0)
set_option maxRecDepth 65536 in
set_option maxHeartbeats 40000000 in
theorem rm2 (l : Launch) (Z : State) (a0 : Array Value) (hw : ∀ d ∈ tables_1, d.before a0 Z = true) (ws : List Jvm.Cond) (p1 : Int32) (n : Nat) (h0 : Heap) (n0 : Nat) (Z0 : n0 ≤ h0.size) (hp : p1.toInt = (n : Int)) (hn : n < 64) :
    MetFree l (⟨"com/example/lim1/lim1/ProjectivePlanePrimeOrderPinLaw", "isPrimeBelow64", "(I)Z"⟩ : MethodName) (head1 (Jvm.Cond.code (⟨"com/example/lim1/lim1/ProjectivePlanePrimeOrderPinLaw", "isPrimeBelow64", "(I)Z"⟩ : MethodName) method_2_code 1 (some .boolean) :: ws) ({ frames := 0, cells := 0, slots := 0, locals := 0 } : Room)) (fun a U => a = #[(.int p1)] ∧ Z.Warmed39 U.vm ∧ U.heap = h0) (fun _ _ _ _ _ => True) (fun _ U o U' => ∃ v L, o = .returned v ∧ Q2 Z p1 n h0 n0 v U'.heap L ∧ FrameEnd U o U' L ({ frames := 0, cells := 0, slots := 0, locals := 0 } : Room).cells ({ frames := 0, cells := 0, slots := 0, locals := 0 } : Room).slots) := by
  refine MetFree.of_bodySF (plainFor_of_name pn_2) hisR ?_
  intro p e s m args below meth c s₁ Bd hml0 hP hK
  obtain ⟨rfl, hZ, hh⟩ := hP
  have hx := Bd.exec
  have hby := Bd.bytes
  have hml : c.maxLocals = 1 := hml0
  have hown : s.vm.findClass "com/example/lim1/lim1/ProjectivePlanePrimeOrderPinLaw" = some m.cls := findClass_of_methodNamed Bd.named
  have hnm := (name_of_methodNamed Bd.named Bd.method).1
  have X0 : Stand p l e ({ frames := 0, cells := 0, slots := 0, locals := 0 } : Room) s m #[(.int p1)] below meth c s₁ [] 0 0 := Stand.of_body Bd
  have e0 : s₁.heap = h0 := by rw [← hh, Bd.state]; rfl
  have N0 := Fr.nil n0
  have hS0 : s.Since s.vm 0 := (State.WarmedH.refl s).since 0
  show Go FrameEnd p e below s ({ frames := 0, cells := 0, slots := 0, locals := 0 } : Room).cells ({ frames := 0, cells := 0, slots := 0, locals := 0 } : Room).slots (Q2 Z p1 n h0 n0) (s₁.setTop (entryFrame m #[(.int p1)] 1))
  refine go (fun _ k => castTop (ef_2 m p1) k) ?_
  show Go _ p e below s _ _ _ (s₁.setTop (mkF m 0 #[.val (.int p1)] []))
  refine go (fun _ => XS.iloadN X0.here hx rfl (hb hby d2_0) rfl) ?_
  show Go _ p e below s _ _ _ (s₁.setTop (mkF m 1 #[.val (.int p1)] [(.int p1)]))
  refine go (fun _ => XS.ifNo X0.here hx rfl (hb hby d2_1) rfl ((if0 _ _).trans (flt (by rw [Int32.lt_iff_toInt_lt, own_t0]; omega)).1)) ?_
  show Go _ p e below s _ _ _ (s₁.setTop (mkF m 4 #[.val (.int p1)] []))
  refine go (fun _ => XS.iloadN X0.here hx rfl (hb hby d2_4) rfl) ?_
  show Go _ p e below s _ _ _ (s₁.setTop (mkF m 5 #[.val (.int p1)] [(.int p1)]))
  refine go (fun _ => XS.bipush X0.here hx rfl (hb hby d2_5)) ?_
  show Go _ p e below s _ _ _ (s₁.setTop (mkF m 7 #[.val (.int p1)] [(.int (63 : Int32)), (.int p1)]))
  refine go (fun _ => XS.icmpYes X0.here hx rfl (pc0 := 7) (pc' := 12) rfl (hb hby d2_7) rfl (flt (by rw [Int32.lt_iff_toInt_lt, show (63 : Int32).toInt = 63 from by decide]; omega)).2.2.2 (by decide) (by decide)) ?_
  show Go _ p e below s _ _ _ (s₁.setTop (mkF m 12 #[.val (.int p1)] []))
  refine go (X0.ldc2Long hx hown (mvT hZ (hw _ (List.mem_of_getElem? (i := 10) rfl))) (g := (mkF m 12 #[.val (.int p1)] [])) rfl (hb hby d2_12)) ?_
  show Go _ p e below s _ _ _ (s₁.setTop (mkF m 15 #[.val (.int p1)] [(.long (2891462833508853932 : Int64))]))
  refine go (fun _ => XS.iloadN X0.here hx rfl (hb hby d2_15) rfl) ?_
  show Go _ p e below s _ _ _ (s₁.setTop (mkF m 16 #[.val (.int p1)] [(.int p1), (.long (2891462833508853932 : Int64))]))
  refine go (fun _ => XS.lushr X0.here hx rfl (hb hby d2_16) rfl) ?_
  show Go _ p e below s _ _ _ (s₁.setTop (mkF m 17 #[.val (.int p1)] [(.long (((2891462833508853932 : Int64).toUInt64 >>> (p1 &&& 0x3f).toInt64.toUInt64).toInt64))]))
  refine go (fun _ => XS.lconst X0.here hx rfl (hb hby d2_17)) ?_
  show Go _ p e below s _ _ _ (s₁.setTop (mkF m 18 #[.val (.int p1)] [(.long (1 : Int64)), (.long (((2891462833508853932 : Int64).toUInt64 >>> (p1 &&& 0x3f).toInt64.toUInt64).toInt64))]))
  refine go (fun _ => XS.land X0.here hx rfl (hb hby d2_18) rfl) ?_
  show Go _ p e below s _ _ _ (s₁.setTop (mkF m 19 #[.val (.int p1)] [(.long ((((2891462833508853932 : Int64).toUInt64 >>> (p1 &&& 0x3f).toInt64.toUInt64).toInt64) &&& (1 : Int64)))]))
  refine go (fun _ => XS.lconst X0.here hx rfl (hb hby d2_19)) ?_
  show Go _ p e below s _ _ _ (s₁.setTop (mkF m 20 #[.val (.int p1)] [(.long (0 : Int64)), (.long ((((2891462833508853932 : Int64).toUInt64 >>> (p1 &&& 0x3f).toInt64.toUInt64).toInt64) &&& (1 : Int64)))]))
  refine go (fun _ => XS.lcmp X0.here hx rfl (hb hby d2_20) rfl) ?_
  show Go _ p e below s _ _ _ (s₁.setTop (mkF m 21 #[.val (.int p1)] [(.int (lcmpW ((((2891462833508853932 : Int64).toUInt64 >>> (p1 &&& 0x3f).toInt64.toUInt64).toInt64) &&& (1 : Int64)) (0 : Int64)))]))
  by_cases hc21_6 : ((((2891462833508853932 : Int64).toUInt64 >>> (p1 &&& 0x3f).toInt64.toUInt64).toInt64) &&& (1 : Int64)) = (0 : Int64)
  · refine go (fun _ => XS.ifYes X0.here hx rfl (pc0 := 21) (pc' := 28) rfl (hb hby d2_21) rfl ((if0 _ _).trans (teq ((lw_eq ((((2891462833508853932 : Int64).toUInt64 >>> (p1 &&& 0x3f).toInt64.toUInt64).toInt64) &&& (1 : Int64)) (0 : Int64)).mpr hc21_6)).1) (by decide) (by decide)) ?_
    show Go _ p e below s _ _ _ (s₁.setTop (mkF m 28 #[.val (.int p1)] []))
    refine go (fun _ => XS.iconst X0.here hx rfl (hb hby d2_28)) ?_
    show Go _ p e below s _ _ _ (s₁.setTop (mkF m 29 #[.val (.int p1)] [(.int (0 : Int32))]))
    refine goRet X0 hx Bd.notSynchronized Bd.returns rfl (Or.inl ⟨rfl, Or.inr (Or.inl rfl), _, rfl⟩) (hb hby d2_29) (by decide) (by decide) (by rw [e0]; refine ⟨(by rw [if_neg (by rw [(own_mask hp hn).mp hc21_6]; decide)]), N0, rfl⟩)
  · refine go (fun _ => XS.ifNo X0.here hx rfl (hb hby d2_21) rfl ((if0 _ _).trans (feq (fun qq => hc21_6 ((lw_eq ((((2891462833508853932 : Int64).toUInt64 >>> (p1 &&& 0x3f).toInt64.toUInt64).toInt64) &&& (1 : Int64)) (0 : Int64)).mp qq))).1)) ?_
    show Go _ p e below s _ _ _ (s₁.setTop (mkF m 24 #[.val (.int p1)] []))
    refine go (fun _ => XS.iconst X0.here hx rfl (hb hby d2_24)) ?_
    show Go _ p e below s _ _ _ (s₁.setTop (mkF m 25 #[.val (.int p1)] [(.int (1 : Int32))]))
    refine go (fun _ => XS.goto X0.here hx rfl (pc0 := 25) (pc' := 29) rfl (hb hby d2_25) (by decide) (by decide)) ?_
    show Go _ p e below s _ _ _ (s₁.setTop (mkF m 29 #[.val (.int p1)] [(.int (1 : Int32))]))
    refine goRet X0 hx Bd.notSynchronized Bd.returns rfl (Or.inl ⟨rfl, Or.inr (Or.inl rfl), _, rfl⟩) (hb hby d2_29) (by decide) (by decide) (by rw [e0]; refine ⟨(by rw [if_pos (by cases q : own_prime n with | true => rfl | false => exact absurd ((own_mask hp hn).mpr q) hc21_6)]), N0, rfl⟩)
theorem own_v {q : Int64} {k : Nat} (hq : q.toInt = k) (hk : k ≤ 50000) : (((q * q) + q) + 1).toInt = ((k * k + k + 1 : Nat) : Int) := by
  have h1 : (1 : Int64).toInt = 1 := by decide
  have h2 : k * k ≤ 50000 * 50000 := Nat.mul_le_mul hk hk
  have e1 : (q * q).toInt = ((k * k : Nat) : Int) := by
    have e : q.toInt * q.toInt = ((k * k : Nat) : Int) := by rw [hq]; rfl
    rw [Jvm.Kit.i64_mul (by rw [e]; omega) (by rw [e]; omega), e]
  have e2 : (q * q + q).toInt = ((k * k + k : Nat) : Int) := by rw [Jvm.Kit.i64_add (by rw [e1, hq]; omega) (by rw [e1, hq]; omega), e1, hq]; rfl
  rw [Jvm.Kit.i64_add (by rw [e2, h1]; omega) (by rw [e2, h1]; omega), e2, h1]; rfl
theorem own_gt {p : Int32} {q : Int64} {k : Nat} (hq : q.toInt = k) (hk : k ≤ 50000) : (p.toInt64 < (((q * q) + q) + 1)) ↔ p.toInt < ((k * k + k + 1 : Nat) : Int) := by
  rw [Int64.lt_iff_toInt_lt, own_v hq hk, Jvm.Kit.i64_of_i32]
theorem own_eqv {p : Int32} {q : Int64} {k : Nat} (hq : q.toInt = k) (hk : k ≤ 50000) : ((((q * q) + q) + 1) = p.toInt64) ↔ ((k * k + k + 1 : Nat) : Int) = p.toInt := by
  rw [← Int64.toInt_inj, own_v hq hk, Jvm.Kit.i64_of_i32]
theorem own_big {p : Int32} {k : Nat} (h : 46341 ≤ k) : p.toInt < ((k * k + k + 1 : Nat) : Int) := by
  have h2 : 46341 * 46341 ≤ k * k := Nat.mul_le_mul h h
  have := Int32.toInt_lt p
  omega
theorem own_sq {a b : Nat} (h : a ≤ b) : a * a + a + 1 ≤ b * b + b + 1 := by have := Nat.mul_le_mul h h; omega
theorem own_l2i {q : Int64} {k : Nat} (hq : q.toInt = k) (hk : k ≤ 50000) : q.toInt32.toInt = k := by rw [Jvm.Kit.i32_of_i64 (by omega) (by omega), hq]
theorem own_up {q : Int64} {k : Nat} (hq : q.toInt = k) (hk : k ≤ 50000) : (q + 1).toInt = ((k + 1 : Nat) : Int) := by
  have h1 : (1 : Int64).toInt = 1 := by decide
  rw [Jvm.Kit.i64_add (by rw [h1]; omega) (by rw [h1]; omega), h1, hq]; rfl
theorem own_none {P : Int} {k : Nat} (h : P < ((k * k + k + 1 : Nat) : Int)) (hj : ∀ j : Nat, 2 ≤ j → j < k → ((j * j + j + 1 : Nat) : Int) = P → own_prime j = false) : own_res P 0 :=
  Or.inl ⟨rfl, fun q h2 e => by
    by_cases hq : q < k
    · exact hj q h2 hq e
    · have := own_sq (Nat.le_of_not_lt hq); omega⟩
theorem own_step {P : Int} {k : Nat} (hj : ∀ j : Nat, 2 ≤ j → j < k → ((j * j + j + 1 : Nat) : Int) = P → own_prime j = false) (h : ((k * k + k + 1 : Nat) : Int) = P → own_prime k = false) : ∀ j : Nat, 2 ≤ j → j < k + 1 → ((j * j + j + 1 : Nat) : Int) = P → own_prime j = false := fun j h2 hl e => by
  by_cases q : j = k
  · subst q; exact h e
  · exact hj j h2 (by omega) e
theorem d1_0 : decode prog_21_method_2_code 0 = .ok (.ldc2_w 7, 3) := by decide +kernel
theorem d1_3 : decode prog_21_method_2_code 3 = .ok (.lstore_n 1, 1) := by decide +kernel
theorem d1_4 : decode prog_21_method_2_code 4 = .ok (.lload_n 1, 1) := by decide +kernel
theorem d1_5 : decode prog_21_method_2_code 5 = .ok (.lload_n 1, 1) := by decide +kernel
theorem d1_6 : decode prog_21_method_2_code 6 = .ok (.lmul, 1) := by decide +kernel
theorem d1_7 : decode prog_21_method_2_code 7 = .ok (.lload_n 1, 1) := by decide +kernel
theorem d1_8 : decode prog_21_method_2_code 8 = .ok (.ladd, 1) := by decide +kernel
theorem d1_9 : decode prog_21_method_2_code 9 = .ok (.lconst 1, 1) := by decide +kernel
theorem d1_10 : decode prog_21_method_2_code 10 = .ok (.ladd, 1) := by decide +kernel
theorem d1_11 : decode prog_21_method_2_code 11 = .ok (.iload_n 0, 1) := by decide +kernel
theorem d1_12 : decode prog_21_method_2_code 12 = .ok (.i2l, 1) := by decide +kernel
theorem d1_13 : decode prog_21_method_2_code 13 = .ok (.lcmp, 1) := by decide +kernel
theorem d1_14 : decode prog_21_method_2_code 14 = .ok (.ifCond .gt 34, 3) := by decide +kernel
theorem d1_17 : decode prog_21_method_2_code 17 = .ok (.lload_n 1, 1) := by decide +kernel
theorem d1_18 : decode prog_21_method_2_code 18 = .ok (.lload_n 1, 1) := by decide +kernel
theorem d1_19 : decode prog_21_method_2_code 19 = .ok (.lmul, 1) := by decide +kernel
theorem d1_20 : decode prog_21_method_2_code 20 = .ok (.lload_n 1, 1) := by decide +kernel
theorem d1_21 : decode prog_21_method_2_code 21 = .ok (.ladd, 1) := by decide +kernel
theorem d1_22 : decode prog_21_method_2_code 22 = .ok (.lconst 1, 1) := by decide +kernel
theorem d1_23 : decode prog_21_method_2_code 23 = .ok (.ladd, 1) := by decide +kernel
theorem d1_24 : decode prog_21_method_2_code 24 = .ok (.iload_n 0, 1) := by decide +kernel
theorem d1_25 : decode prog_21_method_2_code 25 = .ok (.i2l, 1) := by decide +kernel
theorem d1_26 : decode prog_21_method_2_code 26 = .ok (.lcmp, 1) := by decide +kernel
theorem d1_27 : decode prog_21_method_2_code 27 = .ok (.ifCond .ne 14, 3) := by decide +kernel
theorem d1_30 : decode prog_21_method_2_code 30 = .ok (.lload_n 1, 1) := by decide +kernel
theorem d1_31 : decode prog_21_method_2_code 31 = .ok (.l2i, 1) := by decide +kernel
theorem d1_32 : decode prog_21_method_2_code 32 = .ok (.invokestatic 9, 3) := by decide +kernel
theorem d1_35 : decode prog_21_method_2_code 35 = .ok (.ifCond .eq 6, 3) := by decide +kernel
theorem d1_38 : decode prog_21_method_2_code 38 = .ok (.lload_n 1, 1) := by decide +kernel
theorem d1_39 : decode prog_21_method_2_code 39 = .ok (.l2i, 1) := by decide +kernel
theorem d1_40 : decode prog_21_method_2_code 40 = .ok (.ireturn, 1) := by decide +kernel
theorem d1_41 : decode prog_21_method_2_code 41 = .ok (.lload_n 1, 1) := by decide +kernel
theorem d1_42 : decode prog_21_method_2_code 42 = .ok (.lconst 1, 1) := by decide +kernel
theorem d1_43 : decode prog_21_method_2_code 43 = .ok (.ladd, 1) := by decide +kernel
theorem d1_44 : decode prog_21_method_2_code 44 = .ok (.lstore_n 1, 1) := by decide +kernel
theorem d1_45 : decode prog_21_method_2_code 45 = .ok (.goto (-41), 3) := by decide +kernel
theorem d1_48 : decode prog_21_method_2_code 48 = .ok (.iconst 0, 1) := by decide +kernel
theorem d1_49 : decode prog_21_method_2_code 49 = .ok (.ireturn, 1) := by decide +kernel
theorem pn_1 : plainName "com/example/lim1/lim1/ProjectivePlane" = true := by first | (simp [plainName, overriddenIn]; done) | decide +kernel
theorem pd_1_0 : parseMethodDescriptor "(I)Z" = some ⟨[.int], some .boolean⟩ := by decide +kernel
theorem ef_1 (m : MethodId) (p1 : Int32) : entryFrame m #[(.int p1)] 3 = mkF m 0 #[.val (.int p1), .unset, .unset] [] := by first | (simp [entryFrame, mkF, argsToLocals, Value.category]; done) | rfl
def Q1 (Z : State) (p1 : Int32) (h0 : Heap) (n0 : Nat) (v : Option Value) (h : Heap) (L : List Loc) : Prop := ∃ (r : Nat), ∃ (z : Int32), v = some (.int z) ∧ Fr n0 L ∧ (h = h0) ∧ (z.toInt = (r : Int) ∧ own_res p1.toInt r)
set_option maxRecDepth 65536 in
set_option maxHeartbeats 40000000 in
theorem rm1 (l : Launch) (Z : State) (a0 : Array Value) (hw : ∀ d ∈ tables_1, d.before a0 Z = true) (ws : List Jvm.Cond) (p1 : Int32) (h0 : Heap) (n0 : Nat) (Z0 : n0 ≤ h0.size)  :
    MetFree l (⟨"com/example/lim1/lim1/ProjectivePlane", "primeOrder", "(I)I"⟩ : MethodName) (head1 (Jvm.Cond.code (⟨"com/example/lim1/lim1/ProjectivePlane", "primeOrder", "(I)I"⟩ : MethodName) prog_21_method_2_code 3 (some .int) :: ws) ({ frames := 1, cells := 0, slots := 0, locals := 13 } : Room)) (fun a U => a = #[(.int p1)] ∧ Z.Warmed39 U.vm ∧ U.heap = h0) (fun _ _ _ _ _ => True) (fun _ U o U' => ∃ v L, o = .returned v ∧ Q1 Z p1 h0 n0 v U'.heap L ∧ FrameEnd U o U' L ({ frames := 1, cells := 0, slots := 0, locals := 13 } : Room).cells ({ frames := 1, cells := 0, slots := 0, locals := 13 } : Room).slots) := by
  refine MetFree.of_bodySF (plainFor_of_name pn_1) hisR ?_
  intro p e s m args below meth c s₁ Bd hml0 hP hK
  obtain ⟨rfl, hZ, hh⟩ := hP
  have hx := Bd.exec
  have hby := Bd.bytes
  have hml : c.maxLocals = 3 := hml0
  have hown : s.vm.findClass "com/example/lim1/lim1/ProjectivePlane" = some m.cls := findClass_of_methodNamed Bd.named
  have hnm := (name_of_methodNamed Bd.named Bd.method).1
  have X0 : Stand p l e ({ frames := 1, cells := 0, slots := 0, locals := 13 } : Room) s m #[(.int p1)] below meth c s₁ [] 0 0 := Stand.of_body Bd
  have e0 : s₁.heap = h0 := by rw [← hh, Bd.state]; rfl
  have N0 := Fr.nil n0
  have hS0 : s.Since s.vm 0 := (State.WarmedH.refl s).since 0
  show Go FrameEnd p e below s ({ frames := 1, cells := 0, slots := 0, locals := 13 } : Room).cells ({ frames := 1, cells := 0, slots := 0, locals := 13 } : Room).slots (Q1 Z p1 h0 n0) (s₁.setTop (entryFrame m #[(.int p1)] 3))
  refine go (fun _ k => castTop (ef_1 m p1) k) ?_
  show Go _ p e below s _ _ _ (s₁.setTop (mkF m 0 #[.val (.int p1), .unset, .unset] []))
  refine go (X0.ldc2Long hx hown (mvT hZ (hw _ (List.mem_of_getElem? (i := 4) rfl))) (g := (mkF m 0 #[.val (.int p1), .unset, .unset] [])) rfl (hb hby d1_0)) ?_
  show Go _ p e below s _ _ _ (s₁.setTop (mkF m 3 #[.val (.int p1), .unset, .unset] [(.long (2 : Int64))]))
  refine go (fun _ => XS.lstoreN X0.here hx rfl (hb hby d1_3) rfl (l' := #[.val (.int p1), .val (.long (2 : Int64)), .second]) rfl) ?_
  show Go _ p e below s _ _ _ (s₁.setTop (mkF m 4 #[.val (.int p1), .val (.long (2 : Int64)), .second] []))
  have LP : ∀ (f : Nat) (q : Int64) (k : Nat) (T12 : State) (locs12 : List Loc) (_ : Stand p l e ({ frames := 1, cells := 0, slots := 0, locals := 13 } : Room) s m #[(.int p1)] below meth c T12 locs12 0 0) (_ : T12.heap = h0) (_ : Fr n0 locs12), q.toInt = (k : Int) → 2 ≤ k → k ≤ 46341 → 46341 ≤ k + f → (∀ j : Nat, 2 ≤ j → j < k → ((j * j + j + 1 : Nat) : Int) = p1.toInt → own_prime j = false) → Go FrameEnd p e below s ({ frames := 1, cells := 0, slots := 0, locals := 13 } : Room).cells ({ frames := 1, cells := 0, slots := 0, locals := 13 } : Room).slots (Q1 Z p1 h0 n0) (T12.setTop (mkF m 4 #[.val (.int p1), .val (.long q), .second] [])) := by
    intro f
    induction f with
    | zero => 
      intro q k T12 locs12 X12 e12 NF12 hq h2 h3 hf hj
      show Go _ p e below s _ _ _ (T12.setTop (mkF m 4 #[.val (.int p1), .val (.long q), .second] []))
      refine go (fun _ => XS.lloadN X12.here hx rfl (hb hby d1_4) rfl) ?_
      show Go _ p e below s _ _ _ (T12.setTop (mkF m 5 #[.val (.int p1), .val (.long q), .second] [(.long q)]))
      refine go (fun _ => XS.lloadN X12.here hx rfl (hb hby d1_5) rfl) ?_
      show Go _ p e below s _ _ _ (T12.setTop (mkF m 6 #[.val (.int p1), .val (.long q), .second] [(.long q), (.long q)]))
      refine go (fun _ => XS.lmul X12.here hx rfl (hb hby d1_6) rfl) ?_
      show Go _ p e below s _ _ _ (T12.setTop (mkF m 7 #[.val (.int p1), .val (.long q), .second] [(.long (q * q))]))
      refine go (fun _ => XS.lloadN X12.here hx rfl (hb hby d1_7) rfl) ?_
      show Go _ p e below s _ _ _ (T12.setTop (mkF m 8 #[.val (.int p1), .val (.long q), .second] [(.long q), (.long (q * q))]))
      refine go (fun _ => XS.ladd X12.here hx rfl (hb hby d1_8) rfl) ?_
      show Go _ p e below s _ _ _ (T12.setTop (mkF m 9 #[.val (.int p1), .val (.long q), .second] [(.long ((q * q) + q))]))
      refine go (fun _ => XS.lconst X12.here hx rfl (hb hby d1_9)) ?_
      show Go _ p e below s _ _ _ (T12.setTop (mkF m 10 #[.val (.int p1), .val (.long q), .second] [(.long (1 : Int64)), (.long ((q * q) + q))]))
      refine go (fun _ => XS.ladd X12.here hx rfl (hb hby d1_10) rfl) ?_
      show Go _ p e below s _ _ _ (T12.setTop (mkF m 11 #[.val (.int p1), .val (.long q), .second] [(.long (((q * q) + q) + (1 : Int64)))]))
      refine go (fun _ => XS.iloadN X12.here hx rfl (hb hby d1_11) rfl) ?_
      show Go _ p e below s _ _ _ (T12.setTop (mkF m 12 #[.val (.int p1), .val (.long q), .second] [(.int p1), (.long (((q * q) + q) + (1 : Int64)))]))
      refine go (fun _ => XS.i2l X12.here hx rfl (hb hby d1_12) rfl) ?_
      show Go _ p e below s _ _ _ (T12.setTop (mkF m 13 #[.val (.int p1), .val (.long q), .second] [(.long (p1.toInt64)), (.long (((q * q) + q) + (1 : Int64)))]))
      refine go (fun _ => XS.lcmp X12.here hx rfl (hb hby d1_13) rfl) ?_
      show Go _ p e below s _ _ _ (T12.setTop (mkF m 14 #[.val (.int p1), .val (.long q), .second] [(.int (lcmpW (((q * q) + q) + (1 : Int64)) (p1.toInt64)))]))
      refine go (fun _ => XS.ifYes X12.here hx rfl (pc0 := 14) (pc' := 48) rfl (hb hby d1_14) rfl ((if0 _ _).trans (tlt ((lw_gt (((q * q) + q) + (1 : Int64)) (p1.toInt64)).mpr ((own_gt hq (by omega)).mpr (own_big (by omega))))).2.2.1) (by decide) (by decide)) ?_
      show Go _ p e below s _ _ _ (T12.setTop (mkF m 48 #[.val (.int p1), .val (.long q), .second] []))
      refine go (fun _ => XS.iconst X12.here hx rfl (hb hby d1_48)) ?_
      show Go _ p e below s _ _ _ (T12.setTop (mkF m 49 #[.val (.int p1), .val (.long q), .second] [(.int (0 : Int32))]))
      refine goRet X12 hx Bd.notSynchronized Bd.returns rfl (Or.inl ⟨rfl, Or.inl rfl, _, rfl⟩) (hb hby d1_49) (by decide) (by decide) (by rw [e12]; refine ⟨0, (0 : Int32), rfl, NF12, rfl, ⟨by decide, own_none (own_big (by omega)) hj⟩⟩)
    | succ f ih => 
      intro q k T12 locs12 X12 e12 NF12 hq h2 h3 hf hj
      show Go _ p e below s _ _ _ (T12.setTop (mkF m 4 #[.val (.int p1), .val (.long q), .second] []))
      refine go (fun _ => XS.lloadN X12.here hx rfl (hb hby d1_4) rfl) ?_
      show Go _ p e below s _ _ _ (T12.setTop (mkF m 5 #[.val (.int p1), .val (.long q), .second] [(.long q)]))
      refine go (fun _ => XS.lloadN X12.here hx rfl (hb hby d1_5) rfl) ?_
      show Go _ p e below s _ _ _ (T12.setTop (mkF m 6 #[.val (.int p1), .val (.long q), .second] [(.long q), (.long q)]))
      refine go (fun _ => XS.lmul X12.here hx rfl (hb hby d1_6) rfl) ?_
      show Go _ p e below s _ _ _ (T12.setTop (mkF m 7 #[.val (.int p1), .val (.long q), .second] [(.long (q * q))]))
      refine go (fun _ => XS.lloadN X12.here hx rfl (hb hby d1_7) rfl) ?_
      show Go _ p e below s _ _ _ (T12.setTop (mkF m 8 #[.val (.int p1), .val (.long q), .second] [(.long q), (.long (q * q))]))
      refine go (fun _ => XS.ladd X12.here hx rfl (hb hby d1_8) rfl) ?_
      show Go _ p e below s _ _ _ (T12.setTop (mkF m 9 #[.val (.int p1), .val (.long q), .second] [(.long ((q * q) + q))]))
      refine go (fun _ => XS.lconst X12.here hx rfl (hb hby d1_9)) ?_
      show Go _ p e below s _ _ _ (T12.setTop (mkF m 10 #[.val (.int p1), .val (.long q), .second] [(.long (1 : Int64)), (.long ((q * q) + q))]))
      refine go (fun _ => XS.ladd X12.here hx rfl (hb hby d1_10) rfl) ?_
      show Go _ p e below s _ _ _ (T12.setTop (mkF m 11 #[.val (.int p1), .val (.long q), .second] [(.long (((q * q) + q) + (1 : Int64)))]))
      refine go (fun _ => XS.iloadN X12.here hx rfl (hb hby d1_11) rfl) ?_
      show Go _ p e below s _ _ _ (T12.setTop (mkF m 12 #[.val (.int p1), .val (.long q), .second] [(.int p1), (.long (((q * q) + q) + (1 : Int64)))]))
      refine go (fun _ => XS.i2l X12.here hx rfl (hb hby d1_12) rfl) ?_
      show Go _ p e below s _ _ _ (T12.setTop (mkF m 13 #[.val (.int p1), .val (.long q), .second] [(.long (p1.toInt64)), (.long (((q * q) + q) + (1 : Int64)))]))
      refine go (fun _ => XS.lcmp X12.here hx rfl (hb hby d1_13) rfl) ?_
      show Go _ p e below s _ _ _ (T12.setTop (mkF m 14 #[.val (.int p1), .val (.long q), .second] [(.int (lcmpW (((q * q) + q) + (1 : Int64)) (p1.toInt64)))]))
      by_cases hc14_13 : (p1.toInt64) < (((q * q) + q) + (1 : Int64))
      · refine go (fun _ => XS.ifYes X12.here hx rfl (pc0 := 14) (pc' := 48) rfl (hb hby d1_14) rfl ((if0 _ _).trans (tlt ((lw_gt (((q * q) + q) + (1 : Int64)) (p1.toInt64)).mpr hc14_13)).2.2.1) (by decide) (by decide)) ?_
        show Go _ p e below s _ _ _ (T12.setTop (mkF m 48 #[.val (.int p1), .val (.long q), .second] []))
        refine go (fun _ => XS.iconst X12.here hx rfl (hb hby d1_48)) ?_
        show Go _ p e below s _ _ _ (T12.setTop (mkF m 49 #[.val (.int p1), .val (.long q), .second] [(.int (0 : Int32))]))
        refine goRet X12 hx Bd.notSynchronized Bd.returns rfl (Or.inl ⟨rfl, Or.inl rfl, _, rfl⟩) (hb hby d1_49) (by decide) (by decide) (by rw [e12]; refine ⟨0, (0 : Int32), rfl, NF12, rfl, ⟨by decide, own_none ((own_gt hq (by omega)).mp hc14_13) hj⟩⟩)
      · refine go (fun _ => XS.ifNo X12.here hx rfl (hb hby d1_14) rfl ((if0 _ _).trans (flt (fun qq => hc14_13 ((lw_gt (((q * q) + q) + (1 : Int64)) (p1.toInt64)).mp qq))).2.2.1)) ?_
        show Go _ p e below s _ _ _ (T12.setTop (mkF m 17 #[.val (.int p1), .val (.long q), .second] []))
        refine go (fun _ => XS.lloadN X12.here hx rfl (hb hby d1_17) rfl) ?_
        show Go _ p e below s _ _ _ (T12.setTop (mkF m 18 #[.val (.int p1), .val (.long q), .second] [(.long q)]))
        refine go (fun _ => XS.lloadN X12.here hx rfl (hb hby d1_18) rfl) ?_
        show Go _ p e below s _ _ _ (T12.setTop (mkF m 19 #[.val (.int p1), .val (.long q), .second] [(.long q), (.long q)]))
        refine go (fun _ => XS.lmul X12.here hx rfl (hb hby d1_19) rfl) ?_
        show Go _ p e below s _ _ _ (T12.setTop (mkF m 20 #[.val (.int p1), .val (.long q), .second] [(.long (q * q))]))
        refine go (fun _ => XS.lloadN X12.here hx rfl (hb hby d1_20) rfl) ?_
        show Go _ p e below s _ _ _ (T12.setTop (mkF m 21 #[.val (.int p1), .val (.long q), .second] [(.long q), (.long (q * q))]))
        refine go (fun _ => XS.ladd X12.here hx rfl (hb hby d1_21) rfl) ?_
        show Go _ p e below s _ _ _ (T12.setTop (mkF m 22 #[.val (.int p1), .val (.long q), .second] [(.long ((q * q) + q))]))
        refine go (fun _ => XS.lconst X12.here hx rfl (hb hby d1_22)) ?_
        show Go _ p e below s _ _ _ (T12.setTop (mkF m 23 #[.val (.int p1), .val (.long q), .second] [(.long (1 : Int64)), (.long ((q * q) + q))]))
        refine go (fun _ => XS.ladd X12.here hx rfl (hb hby d1_23) rfl) ?_
        show Go _ p e below s _ _ _ (T12.setTop (mkF m 24 #[.val (.int p1), .val (.long q), .second] [(.long (((q * q) + q) + (1 : Int64)))]))
        refine go (fun _ => XS.iloadN X12.here hx rfl (hb hby d1_24) rfl) ?_
        show Go _ p e below s _ _ _ (T12.setTop (mkF m 25 #[.val (.int p1), .val (.long q), .second] [(.int p1), (.long (((q * q) + q) + (1 : Int64)))]))
        refine go (fun _ => XS.i2l X12.here hx rfl (hb hby d1_25) rfl) ?_
        show Go _ p e below s _ _ _ (T12.setTop (mkF m 26 #[.val (.int p1), .val (.long q), .second] [(.long (p1.toInt64)), (.long (((q * q) + q) + (1 : Int64)))]))
        refine go (fun _ => XS.lcmp X12.here hx rfl (hb hby d1_26) rfl) ?_
        show Go _ p e below s _ _ _ (T12.setTop (mkF m 27 #[.val (.int p1), .val (.long q), .second] [(.int (lcmpW (((q * q) + q) + (1 : Int64)) (p1.toInt64)))]))
        by_cases hc27_14 : (((q * q) + q) + (1 : Int64)) = (p1.toInt64)
        · refine go (fun _ => XS.ifNo X12.here hx rfl (hb hby d1_27) rfl ((if0 _ _).trans (teq ((lw_eq (((q * q) + q) + (1 : Int64)) (p1.toInt64)).mpr hc27_14)).2)) ?_
          show Go _ p e below s _ _ _ (T12.setTop (mkF m 30 #[.val (.int p1), .val (.long q), .second] []))
          refine go (fun _ => XS.lloadN X12.here hx rfl (hb hby d1_30) rfl) ?_
          show Go _ p e below s _ _ _ (T12.setTop (mkF m 31 #[.val (.int p1), .val (.long q), .second] [(.long q)]))
          refine go (fun _ => XS.l2i X12.here hx rfl (hb hby d1_31) rfl) ?_
          show Go _ p e below s _ _ _ (T12.setTop (mkF m 32 #[.val (.int p1), .val (.long q), .second] [(.int (q.toInt32))]))
          obtain ⟨_, _, ⟨T15, L15, k15, n15⟩, -, X15, ⟨Lc15, hQ15, l15, y15, z15⟩, st15⟩ := Jvm.LawKit.callS X12 hx (y := (⟨"com/example/lim1/lim1/ProjectivePlane", "isPrime", "(I)Z"⟩ : MethodName)) hown (mvT hZ (hw _ (List.mem_of_getElem? (i := 11) rfl))) (mvT hZ (hw _ (List.mem_of_getElem? (i := 12) rfl))) (mvT hZ (hw _ (List.mem_of_getElem? (i := 2) rfl))) (mvT hZ (hw _ (List.mem_of_getElem? (i := 13) rfl))) (by decide) (backOf (W := 0) (rm3 l Z a0 hw [] (q.toInt32) k h0 n0 Z0 (own_l2i hq (by omega)) h2) hZ (hw _ (List.mem_of_getElem? (i := 13) rfl)) (hw _ (List.mem_of_getElem? (i := 2) rfl)) (by decide) (by decide)) (g := (mkF m 32 #[.val (.int p1), .val (.long q), .second] [(.int (q.toInt32))])) rfl (by rw [hml]; rfl) (argsL := [(.int (q.toInt32))]) (rest := []) (lenOf pd_1_0 rfl) rfl (by show 2 * 0 + _ ≤ _; exact Nat.le_of_eq rfl) (hb hby d1_32) (fun _ _ => ⟨rfl, e12, (by decide : 0 + 0 ≤ _), (by decide : 0 + 0 ≤ _)⟩)
          dsimp only [Pt.U, Pt.locs, Pt.cells, Pt.slots] at X15 l15 y15 z15 st15 hQ15
          subst l15 y15 z15
          obtain ⟨rfl, N15q, e15⟩ := hQ15
          have N15 := Fr.app NF12 N15q
          refine go st15 ?_
          show Go _ p e below s _ _ _ (T15.setTop (mkF m 35 #[.val (.int p1), .val (.long q), .second] [(.int (if own_prime k = true then (1 : Int32) else 0))]))
          by_cases hc35_16 : (if own_prime k = true then (1 : Int32) else 0) = (0 : Int32)
          · refine go (fun _ => XS.ifYes X15.here hx rfl (pc0 := 35) (pc' := 41) rfl (hb hby d1_35) rfl ((if0 _ _).trans (teq hc35_16).1) (by decide) (by decide)) ?_
            show Go _ p e below s _ _ _ (T15.setTop (mkF m 41 #[.val (.int p1), .val (.long q), .second] []))
            refine go (fun _ => XS.lloadN X15.here hx rfl (hb hby d1_41) rfl) ?_
            show Go _ p e below s _ _ _ (T15.setTop (mkF m 42 #[.val (.int p1), .val (.long q), .second] [(.long q)]))
            refine go (fun _ => XS.lconst X15.here hx rfl (hb hby d1_42)) ?_
            show Go _ p e below s _ _ _ (T15.setTop (mkF m 43 #[.val (.int p1), .val (.long q), .second] [(.long (1 : Int64)), (.long q)]))
            refine go (fun _ => XS.ladd X15.here hx rfl (hb hby d1_43) rfl) ?_
            show Go _ p e below s _ _ _ (T15.setTop (mkF m 44 #[.val (.int p1), .val (.long q), .second] [(.long (q + (1 : Int64)))]))
            refine go (fun _ => XS.lstoreN X15.here hx rfl (hb hby d1_44) rfl (l' := #[.val (.int p1), .val (.long (q + (1 : Int64))), .second]) rfl) ?_
            show Go _ p e below s _ _ _ (T15.setTop (mkF m 45 #[.val (.int p1), .val (.long (q + (1 : Int64))), .second] []))
            refine go (fun _ => XS.goto X15.here hx rfl (pc0 := 45) (pc' := 4) rfl (hb hby d1_45) (by decide) (by decide)) ?_
            show Go _ p e below s _ _ _ (T15.setTop (mkF m 4 #[.val (.int p1), .val (.long (q + (1 : Int64))), .second] []))
            have hlt : k < 46341 := by
              refine Nat.lt_of_not_le fun hle => hc14_13 ((own_gt hq (by omega)).mpr (own_big hle))
            exact ih _ (k + 1) T15 _ X15 e15 N15 (own_up hq (by omega)) (by omega) (by omega) (by omega) (own_step hj (fun _ => by cases u : own_prime k with | false => rfl | true => exact absurd hc35_16 (by rw [u]; decide)))
          · refine go (fun _ => XS.ifNo X15.here hx rfl (hb hby d1_35) rfl ((if0 _ _).trans (feq hc35_16).1)) ?_
            show Go _ p e below s _ _ _ (T15.setTop (mkF m 38 #[.val (.int p1), .val (.long q), .second] []))
            refine go (fun _ => XS.lloadN X15.here hx rfl (hb hby d1_38) rfl) ?_
            show Go _ p e below s _ _ _ (T15.setTop (mkF m 39 #[.val (.int p1), .val (.long q), .second] [(.long q)]))
            refine go (fun _ => XS.l2i X15.here hx rfl (hb hby d1_39) rfl) ?_
            show Go _ p e below s _ _ _ (T15.setTop (mkF m 40 #[.val (.int p1), .val (.long q), .second] [(.int (q.toInt32))]))
            refine goRet X15 hx Bd.notSynchronized Bd.returns rfl (Or.inl ⟨rfl, Or.inl rfl, _, rfl⟩) (hb hby d1_40) (by decide) (by decide) (by rw [e15]; refine ⟨k, (q.toInt32), rfl, N15, rfl, ⟨own_l2i hq (by omega), Or.inr ⟨h2, (own_eqv hq (by omega)).mp hc27_14, by cases u : own_prime k with | true => rfl | false => exact absurd (by rw [u]; rfl) hc35_16⟩⟩⟩)
        · refine go (fun _ => XS.ifYes X12.here hx rfl (pc0 := 27) (pc' := 41) rfl (hb hby d1_27) rfl ((if0 _ _).trans (feq (fun qq => hc27_14 ((lw_eq (((q * q) + q) + (1 : Int64)) (p1.toInt64)).mp qq))).2) (by decide) (by decide)) ?_
          show Go _ p e below s _ _ _ (T12.setTop (mkF m 41 #[.val (.int p1), .val (.long q), .second] []))
          refine go (fun _ => XS.lloadN X12.here hx rfl (hb hby d1_41) rfl) ?_
          show Go _ p e below s _ _ _ (T12.setTop (mkF m 42 #[.val (.int p1), .val (.long q), .second] [(.long q)]))
          refine go (fun _ => XS.lconst X12.here hx rfl (hb hby d1_42)) ?_
          show Go _ p e below s _ _ _ (T12.setTop (mkF m 43 #[.val (.int p1), .val (.long q), .second] [(.long (1 : Int64)), (.long q)]))
          refine go (fun _ => XS.ladd X12.here hx rfl (hb hby d1_43) rfl) ?_
          show Go _ p e below s _ _ _ (T12.setTop (mkF m 44 #[.val (.int p1), .val (.long q), .second] [(.long (q + (1 : Int64)))]))
          refine go (fun _ => XS.lstoreN X12.here hx rfl (hb hby d1_44) rfl (l' := #[.val (.int p1), .val (.long (q + (1 : Int64))), .second]) rfl) ?_
          show Go _ p e below s _ _ _ (T12.setTop (mkF m 45 #[.val (.int p1), .val (.long (q + (1 : Int64))), .second] []))
          refine go (fun _ => XS.goto X12.here hx rfl (pc0 := 45) (pc' := 4) rfl (hb hby d1_45) (by decide) (by decide)) ?_
          show Go _ p e below s _ _ _ (T12.setTop (mkF m 4 #[.val (.int p1), .val (.long (q + (1 : Int64))), .second] []))
          have hlt : k < 46341 := by
            refine Nat.lt_of_not_le fun hle => hc14_13 ((own_gt hq (by omega)).mpr (own_big hle))
          exact ih _ (k + 1) T12 _ X12 e12 NF12 (own_up hq (by omega)) (by omega) (by omega) (by omega) (own_step hj (fun u => absurd ((own_eqv hq (by omega)).mpr u) hc27_14))
  exact LP 46341 _ 2 s₁ _ X0 e0 N0 (by decide) (by omega) (by omega) (by omega) (fun j h1 h2 => absurd h1 (by omega))
def own_exp (n d : Nat) : Nat := if d = 0 ∧ own_prime n = true then n else 0
theorem own_p2 {n : Nat} (h : own_prime n = true) : 2 ≤ n := by unfold own_prime at h; simp at h; exact h.1
theorem own_law1 {n d r : Nat} {P : Int} (hP : P = ((n * n + n + 1 + d : Nat) : Int)) (hd : d < 2 * n + 2) (h : own_res P r) : r = own_exp n d := by
  unfold own_exp
  rcases h with ⟨h0, hall⟩ | ⟨h2, he, hp⟩
  · rw [h0]
    by_cases hc : d = 0 ∧ own_prime n = true
    · have := hall n (own_p2 hc.2) (by rw [hP, hc.1])
      rw [hc.2] at this; cases this
    · rw [if_neg hc]
  · have e : r * r + r + 1 = n * n + n + 1 + d := by rw [hP] at he; exact_mod_cast he
    have hr : r = n := by
      rcases Nat.lt_trichotomy r n with hl | hl | hl
      · have := own_sq (show r + 1 ≤ n from hl)
        have e2 : (r + 1) * (r + 1) = r * r + 2 * r + 1 := by rw [Nat.add_mul, Nat.mul_add]; omega
        omega
      · exact hl
      · have := own_sq (show n + 1 ≤ r from hl)
        have e2 : (n + 1) * (n + 1) = n * n + 2 * n + 1 := by rw [Nat.add_mul, Nat.mul_add]; omega
        omega
    subst hr
    rw [if_pos ⟨by omega, hp⟩]
theorem own_q (x : Int32) : ∃ n : Nat, (x &&& 63).toInt = n ∧ n < 64 := by
  have h := Jvm.Kit.i32_mask x 63 (k := 6) (by decide) (by decide)
  exact ⟨((x &&& 63).toInt).toNat, by omega, by omega⟩
theorem own_2q {q : Int32} {n : Nat} (hq : q.toInt = n) (hn : n < 64) : ((2 * q) + 2).toInt = ((2 * n + 2 : Nat) : Int) := by
  have e : (2 * q).toInt = 2 * q.toInt := by rw [Jvm.Kit.i32_mul (by rw [own_t2]; omega) (by rw [own_t2]; omega), own_t2]
  rw [Jvm.Kit.i32_add (by rw [e, own_t2]; omega) (by rw [e, own_t2]; omega), e, own_t2]; omega
theorem own_d {q b : Int32} {n : Nat} (hq : q.toInt = n) (hn : n < 64) : ∃ d : Nat, ((b &&& 2147483647) % ((2 * q) + 2)).toInt = d ∧ d < 2 * n + 2 := by
  have h := Jvm.Kit.i32_mask b 2147483647 (k := 31) (by decide) (by decide)
  have e := own_2q hq hn
  have e1 : ((b &&& 2147483647) % ((2 * q) + 2)).toInt = (b &&& 2147483647).toInt % ((2 * q) + 2).toInt := Jvm.Kit.i32_rem_nonneg (by omega)
  have g1 := Int.emod_nonneg (b &&& 2147483647).toInt (b := ((2 * q) + 2).toInt) (by omega)
  have g2 := Int.emod_lt_of_pos (b &&& 2147483647).toInt (b := ((2 * q) + 2).toInt) (by omega)
  exact ⟨((b &&& 2147483647) % ((2 * q) + 2)).toInt.toNat, by omega, by omega⟩
theorem own_2nz {q : Int32} {n : Nat} (hq : q.toInt = n) (hn : n < 64) : ((2 * q) + 2) ≠ 0 := fun u => by
  have e := own_2q hq hn
  rw [u, own_t0] at e; omega
theorem own_pts {q d : Int32} {n k : Nat} (hq : q.toInt = n) (hn : n < 64) (hd : d.toInt = k) (hk : k < 2 * n + 2) : ((((q * q) + q) + 1) + d).toInt = ((n * n + n + 1 + k : Nat) : Int) := by
  have h2 : n * n ≤ 63 * 63 := Nat.mul_le_mul (by omega) (by omega)
  have e0 : q.toInt * q.toInt = ((n * n : Nat) : Int) := by rw [hq]; rfl
  have e1 : (q * q).toInt = ((n * n : Nat) : Int) := by rw [Jvm.Kit.i32_mul (by rw [e0]; omega) (by rw [e0]; omega), e0]
  have e2 : (q * q + q).toInt = ((n * n + n : Nat) : Int) := by rw [Jvm.Kit.i32_add (by rw [e1, hq]; omega) (by rw [e1, hq]; omega), e1, hq]; rfl
  have e3 : (q * q + q + 1).toInt = ((n * n + n + 1 : Nat) : Int) := by rw [Jvm.Kit.i32_add (by rw [e2, own_t1]; omega) (by rw [e2, own_t1]; omega), e2, own_t1]; rfl
  rw [Jvm.Kit.i32_add (by rw [e3, hd]; omega) (by rw [e3, hd]; omega), e3, hd]; rfl
theorem own_d0 {d : Int32} {k : Nat} (hd : d.toInt = k) : d = 0 ↔ k = 0 := by rw [← Int32.toInt_inj, hd, own_t0]; omega
theorem own_one {n : Nat} (h : own_prime n = true) : (if own_prime n = true then (1 : Int32) else 0) = 1 := if_pos h
theorem own_isp {n : Nat} (h : ¬ (if own_prime n = true then (1 : Int32) else 0) = 0) : own_prime n = true := by
  cases u : own_prime n with
  | true => rfl
  | false => exact absurd (by rw [u]; rfl) h
theorem own_nop {n : Nat} (h : (if own_prime n = true then (1 : Int32) else 0) = 0) : own_prime n = false := by
  cases u : own_prime n with
  | false => rfl
  | true => rw [u] at h; exact absurd h (by decide)
theorem own_p7 {r : Nat} {P : Int} (h : own_res P r) (hP : P < 7) : r = 0 := by
  rcases h with ⟨h0, -⟩ | ⟨h2, he, -⟩
  · exact h0
  · have := own_sq h2; omega
theorem own_pos {r : Nat} {P : Int} (h : own_res P r) (hr : ¬ r = 0) : 2 ≤ r ∧ ((r * r + r + 1 : Nat) : Int) = P ∧ own_prime r = true := by
  rcases h with ⟨h0, -⟩ | h
  · exact absurd h0 hr
  · exact h
theorem own_rb {r : Nat} {x : Int32} (he : ((r * r + r + 1 : Nat) : Int) = x.toInt) : r ≤ 50000 := by
  have := Int32.toInt_lt x
  refine Nat.le_of_not_lt fun h => ?_
  have := own_sq (Nat.le_of_lt h); omega
theorem own_lv {z x : Int32} {r : Nat} (hz : z.toInt = r) (he : ((r * r + r + 1 : Nat) : Int) = x.toInt) : ((((z.toInt64 * z.toInt64) + z.toInt64) + 1) = x.toInt64) :=
  (own_eqv (by rw [Jvm.Kit.i64_of_i32, hz]) (own_rb he)).mpr he
theorem pn_0 : plainName "com/example/lim1/lim1/ProjectivePlanePrimeOrderPinLaw" = true := by first | (simp [plainName, overriddenIn]; done) | decide +kernel
theorem pd_0_0 : parseMethodDescriptor "(I)I" = some ⟨[.int], some .int⟩ := by decide +kernel
theorem pd_0_1 : parseMethodDescriptor "(I)Z" = some ⟨[.int], some .boolean⟩ := by decide +kernel
theorem ef_0 (m : MethodId) (p1 : Int32) (p2 : Int32) (p3 : Int32) (p4 : Int32) : entryFrame m #[(.int p1), (.int p2), (.int p3), (.int p4)] maxLocals = mkF m 0 #[.val (.int p1), .val (.int p2), .val (.int p3), .val (.int p4), .unset, .unset, .unset, .unset, .unset] [] := by first | (simp [entryFrame, mkF, argsToLocals, Value.category, maxLocals]; done) | rfl
def Q0 (Z : State) (p1 : Int32) (p2 : Int32) (p3 : Int32) (p4 : Int32) (h0 : Heap) (n0 : Nat) (v : Option Value) (h : Heap) (L : List Loc) : Prop := v = some (.int (1 : Int32)) ∧ Fr n0 L
set_option maxRecDepth 65536 in
set_option maxHeartbeats 40000000 in
theorem rm0 (l : Launch) (Z : State) (a0 : Array Value) (hw : ∀ d ∈ tables_1, d.before a0 Z = true) (ws : List Jvm.Cond) (p1 : Int32) (p2 : Int32) (p3 : Int32) (p4 : Int32) (h0 : Heap) (n0 : Nat) (Z0 : n0 ≤ h0.size)  :
    MetFree l x (head1 (Jvm.Cond.code x code maxLocals ret :: ws) room_1) (fun a U => a = #[(.int p1), (.int p2), (.int p3), (.int p4)] ∧ Z.Warmed39 U.vm ∧ U.heap = h0) (fun _ _ _ _ _ => True) (fun _ U o U' => ∃ v L, o = .returned v ∧ Q0 Z p1 p2 p3 p4 h0 n0 v U'.heap L ∧ FrameEnd U o U' L room_1.cells room_1.slots) := by
  refine MetFree.of_bodySF (plainFor_of_name pn_0) hisR ?_
  intro p e s m args below meth c s₁ Bd hml0 hP hK
  obtain ⟨rfl, hZ, hh⟩ := hP
  have hx := Bd.exec
  have hby := Bd.bytes
  have hml : c.maxLocals = 9 := hml0
  have hown : s.vm.findClass "com/example/lim1/lim1/ProjectivePlanePrimeOrderPinLaw" = some m.cls := findClass_of_methodNamed Bd.named
  have hnm := (name_of_methodNamed Bd.named Bd.method).1
  have X0 : Stand p l e room_1 s m #[(.int p1), (.int p2), (.int p3), (.int p4)] below meth c s₁ [] 0 0 := Stand.of_body Bd
  have e0 : s₁.heap = h0 := by rw [← hh, Bd.state]; rfl
  have N0 := Fr.nil n0
  have hS0 : s.Since s.vm 0 := (State.WarmedH.refl s).since 0
  show Go FrameEnd p e below s room_1.cells room_1.slots (Q0 Z p1 p2 p3 p4 h0 n0) (s₁.setTop (entryFrame m #[(.int p1), (.int p2), (.int p3), (.int p4)] maxLocals))
  refine go (fun _ k => castTop (ef_0 m p1 p2 p3 p4) k) ?_
  show Go _ p e below s _ _ _ (s₁.setTop (mkF m 0 #[.val (.int p1), .val (.int p2), .val (.int p3), .val (.int p4), .unset, .unset, .unset, .unset, .unset] []))
  refine go (fun _ => XS.iloadN X0.here hx rfl (hb hby at_0) rfl) ?_
  show Go _ p e below s _ _ _ (s₁.setTop (mkF m 1 #[.val (.int p1), .val (.int p2), .val (.int p3), .val (.int p4), .unset, .unset, .unset, .unset, .unset] [(.int p4)]))
  refine go (fun _ => XS.iconst X0.here hx rfl (hb hby at_1)) ?_
  show Go _ p e below s _ _ _ (s₁.setTop (mkF m 2 #[.val (.int p1), .val (.int p2), .val (.int p3), .val (.int p4), .unset, .unset, .unset, .unset, .unset] [(.int (1 : Int32)), (.int p4)]))
  refine go (fun _ => XS.iand X0.here hx rfl (hb hby at_2) rfl) ?_
  show Go _ p e below s _ _ _ (s₁.setTop (mkF m 3 #[.val (.int p1), .val (.int p2), .val (.int p3), .val (.int p4), .unset, .unset, .unset, .unset, .unset] [(.int (p4 &&& (1 : Int32)))]))
  by_cases hc3_17 : (p4 &&& (1 : Int32)) = (0 : Int32)
  · refine go (fun _ => XS.ifNo X0.here hx rfl (hb hby at_3) rfl ((if0 _ _).trans (teq hc3_17).2)) ?_
    show Go _ p e below s _ _ _ (s₁.setTop (mkF m 6 #[.val (.int p1), .val (.int p2), .val (.int p3), .val (.int p4), .unset, .unset, .unset, .unset, .unset] []))
    refine go (fun _ => XS.iloadN X0.here hx rfl (hb hby at_6) rfl) ?_
    show Go _ p e below s _ _ _ (s₁.setTop (mkF m 7 #[.val (.int p1), .val (.int p2), .val (.int p3), .val (.int p4), .unset, .unset, .unset, .unset, .unset] [(.int p1)]))
    refine go (fun _ => XS.bipush X0.here hx rfl (hb hby at_7)) ?_
    show Go _ p e below s _ _ _ (s₁.setTop (mkF m 9 #[.val (.int p1), .val (.int p2), .val (.int p3), .val (.int p4), .unset, .unset, .unset, .unset, .unset] [(.int (63 : Int32)), (.int p1)]))
    refine go (fun _ => XS.iand X0.here hx rfl (hb hby at_9) rfl) ?_
    show Go _ p e below s _ _ _ (s₁.setTop (mkF m 10 #[.val (.int p1), .val (.int p2), .val (.int p3), .val (.int p4), .unset, .unset, .unset, .unset, .unset] [(.int (p1 &&& (63 : Int32)))]))
    refine go (fun _ => XS.istore X0.here hx rfl (hb hby at_10) rfl (l' := #[.val (.int p1), .val (.int p2), .val (.int p3), .val (.int p4), .val (.int (p1 &&& (63 : Int32))), .unset, .unset, .unset, .unset]) rfl) ?_
    show Go _ p e below s _ _ _ (s₁.setTop (mkF m 12 #[.val (.int p1), .val (.int p2), .val (.int p3), .val (.int p4), .val (.int (p1 &&& (63 : Int32))), .unset, .unset, .unset, .unset] []))
    obtain ⟨n, hn, hlt⟩ := own_q p1
    generalize (p1 &&& (63 : Int32)) = q at hn ⊢
    show Go _ p e below s _ _ _ (s₁.setTop (mkF m 12 #[.val (.int p1), .val (.int p2), .val (.int p3), .val (.int p4), .val (.int q), .unset, .unset, .unset, .unset] []))
    refine go (fun _ => XS.iload X0.here hx rfl (hb hby at_12) rfl) ?_
    show Go _ p e below s _ _ _ (s₁.setTop (mkF m 14 #[.val (.int p1), .val (.int p2), .val (.int p3), .val (.int p4), .val (.int q), .unset, .unset, .unset, .unset] [(.int q)]))
    refine go (fun _ => XS.iload X0.here hx rfl (hb hby at_14) rfl) ?_
    show Go _ p e below s _ _ _ (s₁.setTop (mkF m 16 #[.val (.int p1), .val (.int p2), .val (.int p3), .val (.int p4), .val (.int q), .unset, .unset, .unset, .unset] [(.int q), (.int q)]))
    refine go (fun _ => XS.imul X0.here hx rfl (hb hby at_16) rfl) ?_
    show Go _ p e below s _ _ _ (s₁.setTop (mkF m 17 #[.val (.int p1), .val (.int p2), .val (.int p3), .val (.int p4), .val (.int q), .unset, .unset, .unset, .unset] [(.int (q * q))]))
    refine go (fun _ => XS.iload X0.here hx rfl (hb hby at_17) rfl) ?_
    show Go _ p e below s _ _ _ (s₁.setTop (mkF m 19 #[.val (.int p1), .val (.int p2), .val (.int p3), .val (.int p4), .val (.int q), .unset, .unset, .unset, .unset] [(.int q), (.int (q * q))]))
    refine go (fun _ => XS.iadd X0.here hx rfl (hb hby at_19) rfl) ?_
    show Go _ p e below s _ _ _ (s₁.setTop (mkF m 20 #[.val (.int p1), .val (.int p2), .val (.int p3), .val (.int p4), .val (.int q), .unset, .unset, .unset, .unset] [(.int ((q * q) + q))]))
    refine go (fun _ => XS.iconst X0.here hx rfl (hb hby at_20)) ?_
    show Go _ p e below s _ _ _ (s₁.setTop (mkF m 21 #[.val (.int p1), .val (.int p2), .val (.int p3), .val (.int p4), .val (.int q), .unset, .unset, .unset, .unset] [(.int (1 : Int32)), (.int ((q * q) + q))]))
    refine go (fun _ => XS.iadd X0.here hx rfl (hb hby at_21) rfl) ?_
    show Go _ p e below s _ _ _ (s₁.setTop (mkF m 22 #[.val (.int p1), .val (.int p2), .val (.int p3), .val (.int p4), .val (.int q), .unset, .unset, .unset, .unset] [(.int (((q * q) + q) + (1 : Int32)))]))
    refine go (fun _ => XS.istore X0.here hx rfl (hb hby at_22) rfl (l' := #[.val (.int p1), .val (.int p2), .val (.int p3), .val (.int p4), .val (.int q), .val (.int (((q * q) + q) + (1 : Int32))), .unset, .unset, .unset]) rfl) ?_
    show Go _ p e below s _ _ _ (s₁.setTop (mkF m 24 #[.val (.int p1), .val (.int p2), .val (.int p3), .val (.int p4), .val (.int q), .val (.int (((q * q) + q) + (1 : Int32))), .unset, .unset, .unset] []))
    refine go (fun _ => XS.iloadN X0.here hx rfl (hb hby at_24) rfl) ?_
    show Go _ p e below s _ _ _ (s₁.setTop (mkF m 25 #[.val (.int p1), .val (.int p2), .val (.int p3), .val (.int p4), .val (.int q), .val (.int (((q * q) + q) + (1 : Int32))), .unset, .unset, .unset] [(.int p2)]))
    refine go (X0.ldcInt hx hown (mvT hZ (hw _ (List.mem_of_getElem? (i := 5) rfl))) (g := (mkF m 25 #[.val (.int p1), .val (.int p2), .val (.int p3), .val (.int p4), .val (.int q), .val (.int (((q * q) + q) + (1 : Int32))), .unset, .unset, .unset] [(.int p2)])) rfl (hb hby at_25)) ?_
    show Go _ p e below s _ _ _ (s₁.setTop (mkF m 27 #[.val (.int p1), .val (.int p2), .val (.int p3), .val (.int p4), .val (.int q), .val (.int (((q * q) + q) + (1 : Int32))), .unset, .unset, .unset] [(.int (2147483647 : Int32)), (.int p2)]))
    refine go (fun _ => XS.iand X0.here hx rfl (hb hby at_27) rfl) ?_
    show Go _ p e below s _ _ _ (s₁.setTop (mkF m 28 #[.val (.int p1), .val (.int p2), .val (.int p3), .val (.int p4), .val (.int q), .val (.int (((q * q) + q) + (1 : Int32))), .unset, .unset, .unset] [(.int (p2 &&& (2147483647 : Int32)))]))
    refine go (fun _ => XS.iconst X0.here hx rfl (hb hby at_28)) ?_
    show Go _ p e below s _ _ _ (s₁.setTop (mkF m 29 #[.val (.int p1), .val (.int p2), .val (.int p3), .val (.int p4), .val (.int q), .val (.int (((q * q) + q) + (1 : Int32))), .unset, .unset, .unset] [(.int (2 : Int32)), (.int (p2 &&& (2147483647 : Int32)))]))
    refine go (fun _ => XS.iload X0.here hx rfl (hb hby at_29) rfl) ?_
    show Go _ p e below s _ _ _ (s₁.setTop (mkF m 31 #[.val (.int p1), .val (.int p2), .val (.int p3), .val (.int p4), .val (.int q), .val (.int (((q * q) + q) + (1 : Int32))), .unset, .unset, .unset] [(.int q), (.int (2 : Int32)), (.int (p2 &&& (2147483647 : Int32)))]))
    refine go (fun _ => XS.imul X0.here hx rfl (hb hby at_31) rfl) ?_
    show Go _ p e below s _ _ _ (s₁.setTop (mkF m 32 #[.val (.int p1), .val (.int p2), .val (.int p3), .val (.int p4), .val (.int q), .val (.int (((q * q) + q) + (1 : Int32))), .unset, .unset, .unset] [(.int ((2 : Int32) * q)), (.int (p2 &&& (2147483647 : Int32)))]))
    refine go (fun _ => XS.iconst X0.here hx rfl (hb hby at_32)) ?_
    show Go _ p e below s _ _ _ (s₁.setTop (mkF m 33 #[.val (.int p1), .val (.int p2), .val (.int p3), .val (.int p4), .val (.int q), .val (.int (((q * q) + q) + (1 : Int32))), .unset, .unset, .unset] [(.int (2 : Int32)), (.int ((2 : Int32) * q)), (.int (p2 &&& (2147483647 : Int32)))]))
    refine go (fun _ => XS.iadd X0.here hx rfl (hb hby at_33) rfl) ?_
    show Go _ p e below s _ _ _ (s₁.setTop (mkF m 34 #[.val (.int p1), .val (.int p2), .val (.int p3), .val (.int p4), .val (.int q), .val (.int (((q * q) + q) + (1 : Int32))), .unset, .unset, .unset] [(.int (((2 : Int32) * q) + (2 : Int32))), (.int (p2 &&& (2147483647 : Int32)))]))
    refine go (fun _ => iremM X0 hx rfl (hb hby at_34) rfl (own_2nz hn hlt)) ?_
    show Go _ p e below s _ _ _ (s₁.setTop (mkF m 35 #[.val (.int p1), .val (.int p2), .val (.int p3), .val (.int p4), .val (.int q), .val (.int (((q * q) + q) + (1 : Int32))), .unset, .unset, .unset] [(.int ((p2 &&& (2147483647 : Int32)) % (((2 : Int32) * q) + (2 : Int32))))]))
    refine go (fun _ => XS.istore X0.here hx rfl (hb hby at_35) rfl (l' := #[.val (.int p1), .val (.int p2), .val (.int p3), .val (.int p4), .val (.int q), .val (.int (((q * q) + q) + (1 : Int32))), .val (.int ((p2 &&& (2147483647 : Int32)) % (((2 : Int32) * q) + (2 : Int32)))), .unset, .unset]) rfl) ?_
    show Go _ p e below s _ _ _ (s₁.setTop (mkF m 37 #[.val (.int p1), .val (.int p2), .val (.int p3), .val (.int p4), .val (.int q), .val (.int (((q * q) + q) + (1 : Int32))), .val (.int ((p2 &&& (2147483647 : Int32)) % (((2 : Int32) * q) + (2 : Int32)))), .unset, .unset] []))
    obtain ⟨k, hk, hkl⟩ := own_d (b := p2) hn hlt
    generalize ((p2 &&& (2147483647 : Int32)) % (((2 : Int32) * q) + (2 : Int32))) = d at hk ⊢
    show Go _ p e below s _ _ _ (s₁.setTop (mkF m 37 #[.val (.int p1), .val (.int p2), .val (.int p3), .val (.int p4), .val (.int q), .val (.int (((q * q) + q) + (1 : Int32))), .val (.int d), .unset, .unset] []))
    refine go (fun _ => XS.iload X0.here hx rfl (hb hby at_37) rfl) ?_
    show Go _ p e below s _ _ _ (s₁.setTop (mkF m 39 #[.val (.int p1), .val (.int p2), .val (.int p3), .val (.int p4), .val (.int q), .val (.int (((q * q) + q) + (1 : Int32))), .val (.int d), .unset, .unset] [(.int (((q * q) + q) + (1 : Int32)))]))
    refine go (fun _ => XS.iload X0.here hx rfl (hb hby at_39) rfl) ?_
    show Go _ p e below s _ _ _ (s₁.setTop (mkF m 41 #[.val (.int p1), .val (.int p2), .val (.int p3), .val (.int p4), .val (.int q), .val (.int (((q * q) + q) + (1 : Int32))), .val (.int d), .unset, .unset] [(.int d), (.int (((q * q) + q) + (1 : Int32)))]))
    refine go (fun _ => XS.iadd X0.here hx rfl (hb hby at_41) rfl) ?_
    show Go _ p e below s _ _ _ (s₁.setTop (mkF m 42 #[.val (.int p1), .val (.int p2), .val (.int p3), .val (.int p4), .val (.int q), .val (.int (((q * q) + q) + (1 : Int32))), .val (.int d), .unset, .unset] [(.int ((((q * q) + q) + (1 : Int32)) + d))]))
    refine go (fun _ => XS.istore X0.here hx rfl (hb hby at_42) rfl (l' := #[.val (.int p1), .val (.int p2), .val (.int p3), .val (.int p4), .val (.int q), .val (.int (((q * q) + q) + (1 : Int32))), .val (.int d), .val (.int ((((q * q) + q) + (1 : Int32)) + d)), .unset]) rfl) ?_
    show Go _ p e below s _ _ _ (s₁.setTop (mkF m 44 #[.val (.int p1), .val (.int p2), .val (.int p3), .val (.int p4), .val (.int q), .val (.int (((q * q) + q) + (1 : Int32))), .val (.int d), .val (.int ((((q * q) + q) + (1 : Int32)) + d)), .unset] []))
    have J63 : ∀ (z : Int32) (T18 : State) (locs18 : List Loc) (_ : Stand p l e room_1 s m #[(.int p1), (.int p2), (.int p3), (.int p4)] below meth c T18 locs18 0 0) (_ : T18.heap = h0) (_ : Fr n0 locs18), (z.toInt = (own_exp n k : Nat)) → Go FrameEnd p e below s room_1.cells room_1.slots (Q0 Z p1 p2 p3 p4 h0 n0) (T18.setTop (mkF m 63 #[.val (.int p1), .val (.int p2), .val (.int p3), .val (.int p4), .val (.int q), .val (.int (((q * q) + q) + (1 : Int32))), .val (.int d), .val (.int ((((q * q) + q) + (1 : Int32)) + d)), .unset] [(.int z)])) := by
      intro z T18 locs18 X18 e18 NF18 hz
      show Go _ p e below s _ _ _ (T18.setTop (mkF m 63 #[.val (.int p1), .val (.int p2), .val (.int p3), .val (.int p4), .val (.int q), .val (.int (((q * q) + q) + (1 : Int32))), .val (.int d), .val (.int ((((q * q) + q) + (1 : Int32)) + d)), .unset] [(.int z)]))
      refine go (fun _ => XS.istore X18.here hx rfl (hb hby at_63) rfl (l' := #[.val (.int p1), .val (.int p2), .val (.int p3), .val (.int p4), .val (.int q), .val (.int (((q * q) + q) + (1 : Int32))), .val (.int d), .val (.int ((((q * q) + q) + (1 : Int32)) + d)), .val (.int z)]) rfl) ?_
      show Go _ p e below s _ _ _ (T18.setTop (mkF m 65 #[.val (.int p1), .val (.int p2), .val (.int p3), .val (.int p4), .val (.int q), .val (.int (((q * q) + q) + (1 : Int32))), .val (.int d), .val (.int ((((q * q) + q) + (1 : Int32)) + d)), .val (.int z)] []))
      refine go (fun _ => XS.iload X18.here hx rfl (hb hby at_65) rfl) ?_
      show Go _ p e below s _ _ _ (T18.setTop (mkF m 67 #[.val (.int p1), .val (.int p2), .val (.int p3), .val (.int p4), .val (.int q), .val (.int (((q * q) + q) + (1 : Int32))), .val (.int d), .val (.int ((((q * q) + q) + (1 : Int32)) + d)), .val (.int z)] [(.int ((((q * q) + q) + (1 : Int32)) + d))]))
      obtain ⟨_, _, ⟨T19, L19, k19, n19⟩, -, X19, ⟨Lc19, hQ19, l19, y19, z19⟩, st19⟩ := Jvm.LawKit.callS X18 hx (y := (⟨"com/example/lim1/lim1/ProjectivePlane", "primeOrder", "(I)I"⟩ : MethodName)) hown (mvT hZ (hw _ (List.mem_of_getElem? (i := 0) rfl))) (mvT hZ (hw _ (List.mem_of_getElem? (i := 1) rfl))) (mvT hZ (hw _ (List.mem_of_getElem? (i := 2) rfl))) (mvT hZ (hw _ (List.mem_of_getElem? (i := 3) rfl))) (by decide) (backOf (W := 0) (rm1 l Z a0 hw [] ((((q * q) + q) + (1 : Int32)) + d) h0 n0 Z0 ) hZ (hw _ (List.mem_of_getElem? (i := 3) rfl)) (hw _ (List.mem_of_getElem? (i := 2) rfl)) (by decide) (by decide)) (g := (mkF m 67 #[.val (.int p1), .val (.int p2), .val (.int p3), .val (.int p4), .val (.int q), .val (.int (((q * q) + q) + (1 : Int32))), .val (.int d), .val (.int ((((q * q) + q) + (1 : Int32)) + d)), .val (.int z)] [(.int ((((q * q) + q) + (1 : Int32)) + d))])) rfl (by rw [hml]; rfl) (argsL := [(.int ((((q * q) + q) + (1 : Int32)) + d))]) (rest := []) (lenOf pd_0_0 rfl) rfl (by show 2 * 0 + _ ≤ _; exact Nat.le_of_eq rfl) (hb hby at_67) (fun _ _ => ⟨rfl, e18, (by decide : 0 + 0 ≤ _), (by decide : 0 + 0 ≤ _)⟩)
      dsimp only [Pt.U, Pt.locs, Pt.cells, Pt.slots] at X19 l19 y19 z19 st19 hQ19
      subst l19 y19 z19
      obtain ⟨r19, z19, rfl, N19q, e19, u19_1⟩ := hQ19
      have N19 := Fr.app NF18 N19q
      refine go st19 ?_
      show Go _ p e below s _ _ _ (T19.setTop (mkF m 70 #[.val (.int p1), .val (.int p2), .val (.int p3), .val (.int p4), .val (.int q), .val (.int (((q * q) + q) + (1 : Int32))), .val (.int d), .val (.int ((((q * q) + q) + (1 : Int32)) + d)), .val (.int z)] [(.int z19)]))
      refine go (fun _ => XS.iload X19.here hx rfl (hb hby at_70) rfl) ?_
      show Go _ p e below s _ _ _ (T19.setTop (mkF m 72 #[.val (.int p1), .val (.int p2), .val (.int p3), .val (.int p4), .val (.int q), .val (.int (((q * q) + q) + (1 : Int32))), .val (.int d), .val (.int ((((q * q) + q) + (1 : Int32)) + d)), .val (.int z)] [(.int z), (.int z19)]))
      refine go (fun _ => XS.icmpNo X19.here hx rfl (hb hby at_72) rfl (teq (by apply Int32.toInt_inj.mp; rw [u19_1.1, hz, own_law1 (own_pts hn hlt hk hkl) hkl u19_1.2])).2) ?_
      show Go _ p e below s _ _ _ (T19.setTop (mkF m 75 #[.val (.int p1), .val (.int p2), .val (.int p3), .val (.int p4), .val (.int q), .val (.int (((q * q) + q) + (1 : Int32))), .val (.int d), .val (.int ((((q * q) + q) + (1 : Int32)) + d)), .val (.int z)] []))
      refine go (fun _ => XS.iconst X19.here hx rfl (hb hby at_75)) ?_
      show Go _ p e below s _ _ _ (T19.setTop (mkF m 76 #[.val (.int p1), .val (.int p2), .val (.int p3), .val (.int p4), .val (.int q), .val (.int (((q * q) + q) + (1 : Int32))), .val (.int d), .val (.int ((((q * q) + q) + (1 : Int32)) + d)), .val (.int z)] [(.int (1 : Int32))]))
      refine go (fun _ => XS.goto X19.here hx rfl (pc0 := 76) (pc' := 80) rfl (hb hby at_76) (by decide) (by decide)) ?_
      show Go _ p e below s _ _ _ (T19.setTop (mkF m 80 #[.val (.int p1), .val (.int p2), .val (.int p3), .val (.int p4), .val (.int q), .val (.int (((q * q) + q) + (1 : Int32))), .val (.int d), .val (.int ((((q * q) + q) + (1 : Int32)) + d)), .val (.int z)] [(.int (1 : Int32))]))
      refine goRet X19 hx Bd.notSynchronized Bd.returns rfl (Or.inl ⟨rfl, Or.inr (Or.inl rfl), _, rfl⟩) (hb hby at_80) (by decide) (by decide) (by rw [e19]; refine ⟨rfl, N19⟩)
    refine go (fun _ => XS.iload X0.here hx rfl (hb hby at_44) rfl) ?_
    show Go _ p e below s _ _ _ (s₁.setTop (mkF m 46 #[.val (.int p1), .val (.int p2), .val (.int p3), .val (.int p4), .val (.int q), .val (.int (((q * q) + q) + (1 : Int32))), .val (.int d), .val (.int ((((q * q) + q) + (1 : Int32)) + d)), .unset] [(.int d)]))
    by_cases hc46_20 : d = (0 : Int32)
    · refine go (fun _ => XS.ifNo X0.here hx rfl (hb hby at_46) rfl ((if0 _ _).trans (teq hc46_20).2)) ?_
      show Go _ p e below s _ _ _ (s₁.setTop (mkF m 49 #[.val (.int p1), .val (.int p2), .val (.int p3), .val (.int p4), .val (.int q), .val (.int (((q * q) + q) + (1 : Int32))), .val (.int d), .val (.int ((((q * q) + q) + (1 : Int32)) + d)), .unset] []))
      refine go (fun _ => XS.iload X0.here hx rfl (hb hby at_49) rfl) ?_
      show Go _ p e below s _ _ _ (s₁.setTop (mkF m 51 #[.val (.int p1), .val (.int p2), .val (.int p3), .val (.int p4), .val (.int q), .val (.int (((q * q) + q) + (1 : Int32))), .val (.int d), .val (.int ((((q * q) + q) + (1 : Int32)) + d)), .unset] [(.int q)]))
      obtain ⟨_, _, ⟨T21, L21, k21, n21⟩, -, X21, ⟨Lc21, hQ21, l21, y21, z21⟩, st21⟩ := Jvm.LawKit.callS X0 hx (y := (⟨"com/example/lim1/lim1/ProjectivePlanePrimeOrderPinLaw", "isPrimeBelow64", "(I)Z"⟩ : MethodName)) hown (mvT hZ (hw _ (List.mem_of_getElem? (i := 6) rfl))) (mvT hZ (hw _ (List.mem_of_getElem? (i := 7) rfl))) (mvT hZ (hw _ (List.mem_of_getElem? (i := 8) rfl))) (mvT hZ (hw _ (List.mem_of_getElem? (i := 9) rfl))) (by decide) (backOf (W := 0) (rm2 l Z a0 hw [] q n h0 n0 Z0 hn hlt) hZ (hw _ (List.mem_of_getElem? (i := 9) rfl)) (hw _ (List.mem_of_getElem? (i := 8) rfl)) (by decide) (by decide)) (g := (mkF m 51 #[.val (.int p1), .val (.int p2), .val (.int p3), .val (.int p4), .val (.int q), .val (.int (((q * q) + q) + (1 : Int32))), .val (.int d), .val (.int ((((q * q) + q) + (1 : Int32)) + d)), .unset] [(.int q)])) rfl (by rw [hml]; rfl) (argsL := [(.int q)]) (rest := []) (lenOf pd_0_1 rfl) rfl (by show 2 * 0 + _ ≤ _; exact Nat.le_of_eq rfl) (hb hby at_51) (fun _ _ => ⟨rfl, e0, (by decide : 0 + 0 ≤ _), (by decide : 0 + 0 ≤ _)⟩)
      dsimp only [Pt.U, Pt.locs, Pt.cells, Pt.slots] at X21 l21 y21 z21 st21 hQ21
      subst l21 y21 z21
      obtain ⟨rfl, N21q, e21⟩ := hQ21
      have N21 := Fr.app N0 N21q
      refine go st21 ?_
      show Go _ p e below s _ _ _ (T21.setTop (mkF m 54 #[.val (.int p1), .val (.int p2), .val (.int p3), .val (.int p4), .val (.int q), .val (.int (((q * q) + q) + (1 : Int32))), .val (.int d), .val (.int ((((q * q) + q) + (1 : Int32)) + d)), .unset] [(.int (if own_prime n = true then (1 : Int32) else 0))]))
      by_cases hc54_22 : (if own_prime n = true then (1 : Int32) else 0) = (0 : Int32)
      · refine go (fun _ => XS.ifYes X21.here hx rfl (pc0 := 54) (pc' := 62) rfl (hb hby at_54) rfl ((if0 _ _).trans (teq hc54_22).1) (by decide) (by decide)) ?_
        show Go _ p e below s _ _ _ (T21.setTop (mkF m 62 #[.val (.int p1), .val (.int p2), .val (.int p3), .val (.int p4), .val (.int q), .val (.int (((q * q) + q) + (1 : Int32))), .val (.int d), .val (.int ((((q * q) + q) + (1 : Int32)) + d)), .unset] []))
        refine go (fun _ => XS.iconst X21.here hx rfl (hb hby at_62)) ?_
        show Go _ p e below s _ _ _ (T21.setTop (mkF m 63 #[.val (.int p1), .val (.int p2), .val (.int p3), .val (.int p4), .val (.int q), .val (.int (((q * q) + q) + (1 : Int32))), .val (.int d), .val (.int ((((q * q) + q) + (1 : Int32)) + d)), .unset] [(.int (0 : Int32))]))
        exact J63 _ T21 _ X21 e21 N21 (by unfold own_exp; rw [if_neg (fun u => by have := own_nop hc54_22; rw [u.2] at this; cases this)]; decide)
      · refine go (fun _ => XS.ifNo X21.here hx rfl (hb hby at_54) rfl ((if0 _ _).trans (feq hc54_22).1)) ?_
        show Go _ p e below s _ _ _ (T21.setTop (mkF m 57 #[.val (.int p1), .val (.int p2), .val (.int p3), .val (.int p4), .val (.int q), .val (.int (((q * q) + q) + (1 : Int32))), .val (.int d), .val (.int ((((q * q) + q) + (1 : Int32)) + d)), .unset] []))
        refine go (fun _ => XS.iload X21.here hx rfl (hb hby at_57) rfl) ?_
        show Go _ p e below s _ _ _ (T21.setTop (mkF m 59 #[.val (.int p1), .val (.int p2), .val (.int p3), .val (.int p4), .val (.int q), .val (.int (((q * q) + q) + (1 : Int32))), .val (.int d), .val (.int ((((q * q) + q) + (1 : Int32)) + d)), .unset] [(.int q)]))
        refine go (fun _ => XS.goto X21.here hx rfl (pc0 := 59) (pc' := 63) rfl (hb hby at_59) (by decide) (by decide)) ?_
        show Go _ p e below s _ _ _ (T21.setTop (mkF m 63 #[.val (.int p1), .val (.int p2), .val (.int p3), .val (.int p4), .val (.int q), .val (.int (((q * q) + q) + (1 : Int32))), .val (.int d), .val (.int ((((q * q) + q) + (1 : Int32)) + d)), .unset] [(.int q)]))
        exact J63 _ T21 _ X21 e21 N21 (by unfold own_exp; rw [if_pos ⟨(own_d0 hk).mp hc46_20, own_isp hc54_22⟩]; exact hn)
    · refine go (fun _ => XS.ifYes X0.here hx rfl (pc0 := 46) (pc' := 62) rfl (hb hby at_46) rfl ((if0 _ _).trans (feq hc46_20).2) (by decide) (by decide)) ?_
      show Go _ p e below s _ _ _ (s₁.setTop (mkF m 62 #[.val (.int p1), .val (.int p2), .val (.int p3), .val (.int p4), .val (.int q), .val (.int (((q * q) + q) + (1 : Int32))), .val (.int d), .val (.int ((((q * q) + q) + (1 : Int32)) + d)), .unset] []))
      refine go (fun _ => XS.iconst X0.here hx rfl (hb hby at_62)) ?_
      show Go _ p e below s _ _ _ (s₁.setTop (mkF m 63 #[.val (.int p1), .val (.int p2), .val (.int p3), .val (.int p4), .val (.int q), .val (.int (((q * q) + q) + (1 : Int32))), .val (.int d), .val (.int ((((q * q) + q) + (1 : Int32)) + d)), .unset] [(.int (0 : Int32))]))
      exact J63 _ s₁ _ X0 e0 N0 (by unfold own_exp; rw [if_neg (fun u => hc46_20 ((own_d0 hk).mpr u.1))]; decide)
  · refine go (fun _ => XS.ifYes X0.here hx rfl (pc0 := 3) (pc' := 81) rfl (hb hby at_3) rfl ((if0 _ _).trans (feq hc3_17).2) (by decide) (by decide)) ?_
    show Go _ p e below s _ _ _ (s₁.setTop (mkF m 81 #[.val (.int p1), .val (.int p2), .val (.int p3), .val (.int p4), .unset, .unset, .unset, .unset, .unset] []))
    refine go (fun _ => XS.iloadN X0.here hx rfl (hb hby at_81) rfl) ?_
    show Go _ p e below s _ _ _ (s₁.setTop (mkF m 82 #[.val (.int p1), .val (.int p2), .val (.int p3), .val (.int p4), .unset, .unset, .unset, .unset, .unset] [(.int p3)]))
    obtain ⟨_, _, ⟨T23, L23, k23, n23⟩, -, X23, ⟨Lc23, hQ23, l23, y23, z23⟩, st23⟩ := Jvm.LawKit.callS X0 hx (y := (⟨"com/example/lim1/lim1/ProjectivePlane", "primeOrder", "(I)I"⟩ : MethodName)) hown (mvT hZ (hw _ (List.mem_of_getElem? (i := 0) rfl))) (mvT hZ (hw _ (List.mem_of_getElem? (i := 1) rfl))) (mvT hZ (hw _ (List.mem_of_getElem? (i := 2) rfl))) (mvT hZ (hw _ (List.mem_of_getElem? (i := 3) rfl))) (by decide) (backOf (W := 0) (rm1 l Z a0 hw [] p3 h0 n0 Z0 ) hZ (hw _ (List.mem_of_getElem? (i := 3) rfl)) (hw _ (List.mem_of_getElem? (i := 2) rfl)) (by decide) (by decide)) (g := (mkF m 82 #[.val (.int p1), .val (.int p2), .val (.int p3), .val (.int p4), .unset, .unset, .unset, .unset, .unset] [(.int p3)])) rfl (by rw [hml]; rfl) (argsL := [(.int p3)]) (rest := []) (lenOf pd_0_0 rfl) rfl (by show 2 * 0 + _ ≤ _; exact Nat.le_of_eq rfl) (hb hby at_82) (fun _ _ => ⟨rfl, e0, (by decide : 0 + 0 ≤ _), (by decide : 0 + 0 ≤ _)⟩)
    dsimp only [Pt.U, Pt.locs, Pt.cells, Pt.slots] at X23 l23 y23 z23 st23 hQ23
    subst l23 y23 z23
    obtain ⟨r23, z23, rfl, N23q, e23, u23_1⟩ := hQ23
    have N23 := Fr.app N0 N23q
    refine go st23 ?_
    show Go _ p e below s _ _ _ (T23.setTop (mkF m 85 #[.val (.int p1), .val (.int p2), .val (.int p3), .val (.int p4), .unset, .unset, .unset, .unset, .unset] [(.int z23)]))
    refine go (fun _ => XS.istore X23.here hx rfl (hb hby at_85) rfl (l' := #[.val (.int p1), .val (.int p2), .val (.int p3), .val (.int p4), .val (.int z23), .unset, .unset, .unset, .unset]) rfl) ?_
    show Go _ p e below s _ _ _ (T23.setTop (mkF m 87 #[.val (.int p1), .val (.int p2), .val (.int p3), .val (.int p4), .val (.int z23), .unset, .unset, .unset, .unset] []))
    refine go (fun _ => XS.iloadN X23.here hx rfl (hb hby at_87) rfl) ?_
    show Go _ p e below s _ _ _ (T23.setTop (mkF m 88 #[.val (.int p1), .val (.int p2), .val (.int p3), .val (.int p4), .val (.int z23), .unset, .unset, .unset, .unset] [(.int p3)]))
    refine go (fun _ => XS.bipush X23.here hx rfl (hb hby at_88)) ?_
    show Go _ p e below s _ _ _ (T23.setTop (mkF m 90 #[.val (.int p1), .val (.int p2), .val (.int p3), .val (.int p4), .val (.int z23), .unset, .unset, .unset, .unset] [(.int (7 : Int32)), (.int p3)]))
    by_cases hc90_24 : p3 < (7 : Int32)
    · refine go (fun _ => XS.icmpNo X23.here hx rfl (hb hby at_90) rfl (tlt hc90_24).2.1) ?_
      show Go _ p e below s _ _ _ (T23.setTop (mkF m 93 #[.val (.int p1), .val (.int p2), .val (.int p3), .val (.int p4), .val (.int z23), .unset, .unset, .unset, .unset] []))
      refine go (fun _ => XS.iload X23.here hx rfl (hb hby at_93) rfl) ?_
      show Go _ p e below s _ _ _ (T23.setTop (mkF m 95 #[.val (.int p1), .val (.int p2), .val (.int p3), .val (.int p4), .val (.int z23), .unset, .unset, .unset, .unset] [(.int z23)]))
      refine go (fun _ => XS.ifNo X23.here hx rfl (hb hby at_95) rfl ((if0 _ _).trans (teq (by apply Int32.toInt_inj.mp; rw [u23_1.1, own_p7 u23_1.2 (by have u := hc90_24; rw [Int32.lt_iff_toInt_lt, show (7 : Int32).toInt = 7 from by decide] at u; exact u)]; decide)).2)) ?_
      show Go _ p e below s _ _ _ (T23.setTop (mkF m 98 #[.val (.int p1), .val (.int p2), .val (.int p3), .val (.int p4), .val (.int z23), .unset, .unset, .unset, .unset] []))
      refine go (fun _ => XS.iconst X23.here hx rfl (hb hby at_98)) ?_
      show Go _ p e below s _ _ _ (T23.setTop (mkF m 99 #[.val (.int p1), .val (.int p2), .val (.int p3), .val (.int p4), .val (.int z23), .unset, .unset, .unset, .unset] [(.int (1 : Int32))]))
      refine go (fun _ => XS.goto X23.here hx rfl (pc0 := 99) (pc' := 103) rfl (hb hby at_99) (by decide) (by decide)) ?_
      show Go _ p e below s _ _ _ (T23.setTop (mkF m 103 #[.val (.int p1), .val (.int p2), .val (.int p3), .val (.int p4), .val (.int z23), .unset, .unset, .unset, .unset] [(.int (1 : Int32))]))
      refine goRet X23 hx Bd.notSynchronized Bd.returns rfl (Or.inl ⟨rfl, Or.inr (Or.inl rfl), _, rfl⟩) (hb hby at_103) (by decide) (by decide) (by rw [e23]; refine ⟨rfl, N23⟩)
    · refine go (fun _ => XS.icmpYes X23.here hx rfl (pc0 := 90) (pc' := 104) rfl (hb hby at_90) rfl (flt hc90_24).2.1 (by decide) (by decide)) ?_
      show Go _ p e below s _ _ _ (T23.setTop (mkF m 104 #[.val (.int p1), .val (.int p2), .val (.int p3), .val (.int p4), .val (.int z23), .unset, .unset, .unset, .unset] []))
      refine go (fun _ => XS.iload X23.here hx rfl (hb hby at_104) rfl) ?_
      show Go _ p e below s _ _ _ (T23.setTop (mkF m 106 #[.val (.int p1), .val (.int p2), .val (.int p3), .val (.int p4), .val (.int z23), .unset, .unset, .unset, .unset] [(.int z23)]))
      by_cases hc106_25 : z23 = (0 : Int32)
      · refine go (fun _ => XS.ifNo X23.here hx rfl (hb hby at_106) rfl ((if0 _ _).trans (teq hc106_25).2)) ?_
        show Go _ p e below s _ _ _ (T23.setTop (mkF m 109 #[.val (.int p1), .val (.int p2), .val (.int p3), .val (.int p4), .val (.int z23), .unset, .unset, .unset, .unset] []))
        refine go (fun _ => XS.iconst X23.here hx rfl (hb hby at_109)) ?_
        show Go _ p e below s _ _ _ (T23.setTop (mkF m 110 #[.val (.int p1), .val (.int p2), .val (.int p3), .val (.int p4), .val (.int z23), .unset, .unset, .unset, .unset] [(.int (1 : Int32))]))
        refine goRet X23 hx Bd.notSynchronized Bd.returns rfl (Or.inl ⟨rfl, Or.inr (Or.inl rfl), _, rfl⟩) (hb hby at_110) (by decide) (by decide) (by rw [e23]; refine ⟨rfl, N23⟩)
      · refine go (fun _ => XS.ifYes X23.here hx rfl (pc0 := 106) (pc' := 111) rfl (hb hby at_106) rfl ((if0 _ _).trans (feq hc106_25).2) (by decide) (by decide)) ?_
        show Go _ p e below s _ _ _ (T23.setTop (mkF m 111 #[.val (.int p1), .val (.int p2), .val (.int p3), .val (.int p4), .val (.int z23), .unset, .unset, .unset, .unset] []))
        refine go (fun _ => XS.iload X23.here hx rfl (hb hby at_111) rfl) ?_
        show Go _ p e below s _ _ _ (T23.setTop (mkF m 113 #[.val (.int p1), .val (.int p2), .val (.int p3), .val (.int p4), .val (.int z23), .unset, .unset, .unset, .unset] [(.int z23)]))
        refine go (fun _ => XS.iconst X23.here hx rfl (hb hby at_113)) ?_
        show Go _ p e below s _ _ _ (T23.setTop (mkF m 114 #[.val (.int p1), .val (.int p2), .val (.int p3), .val (.int p4), .val (.int z23), .unset, .unset, .unset, .unset] [(.int (2 : Int32)), (.int z23)]))
        refine go (fun _ => XS.icmpYes X23.here hx rfl (pc0 := 114) (pc' := 119) rfl (hb hby at_114) rfl (flt (by rw [Int32.lt_iff_toInt_lt, u23_1.1, own_t2]; have := (own_pos u23_1.2 (fun u => hc106_25 (by apply Int32.toInt_inj.mp; rw [u23_1.1, u]; decide))).1; omega)).2.1 (by decide) (by decide)) ?_
        show Go _ p e below s _ _ _ (T23.setTop (mkF m 119 #[.val (.int p1), .val (.int p2), .val (.int p3), .val (.int p4), .val (.int z23), .unset, .unset, .unset, .unset] []))
        refine go (fun _ => XS.iload X23.here hx rfl (hb hby at_119) rfl) ?_
        show Go _ p e below s _ _ _ (T23.setTop (mkF m 121 #[.val (.int p1), .val (.int p2), .val (.int p3), .val (.int p4), .val (.int z23), .unset, .unset, .unset, .unset] [(.int z23)]))
        refine go (fun _ => XS.i2l X23.here hx rfl (hb hby at_121) rfl) ?_
        show Go _ p e below s _ _ _ (T23.setTop (mkF m 122 #[.val (.int p1), .val (.int p2), .val (.int p3), .val (.int p4), .val (.int z23), .unset, .unset, .unset, .unset] [(.long (z23.toInt64))]))
        refine go (fun _ => XS.iload X23.here hx rfl (hb hby at_122) rfl) ?_
        show Go _ p e below s _ _ _ (T23.setTop (mkF m 124 #[.val (.int p1), .val (.int p2), .val (.int p3), .val (.int p4), .val (.int z23), .unset, .unset, .unset, .unset] [(.int z23), (.long (z23.toInt64))]))
        refine go (fun _ => XS.i2l X23.here hx rfl (hb hby at_124) rfl) ?_
        show Go _ p e below s _ _ _ (T23.setTop (mkF m 125 #[.val (.int p1), .val (.int p2), .val (.int p3), .val (.int p4), .val (.int z23), .unset, .unset, .unset, .unset] [(.long (z23.toInt64)), (.long (z23.toInt64))]))
        refine go (fun _ => XS.lmul X23.here hx rfl (hb hby at_125) rfl) ?_
        show Go _ p e below s _ _ _ (T23.setTop (mkF m 126 #[.val (.int p1), .val (.int p2), .val (.int p3), .val (.int p4), .val (.int z23), .unset, .unset, .unset, .unset] [(.long ((z23.toInt64) * (z23.toInt64)))]))
        refine go (fun _ => XS.iload X23.here hx rfl (hb hby at_126) rfl) ?_
        show Go _ p e below s _ _ _ (T23.setTop (mkF m 128 #[.val (.int p1), .val (.int p2), .val (.int p3), .val (.int p4), .val (.int z23), .unset, .unset, .unset, .unset] [(.int z23), (.long ((z23.toInt64) * (z23.toInt64)))]))
        refine go (fun _ => XS.i2l X23.here hx rfl (hb hby at_128) rfl) ?_
        show Go _ p e below s _ _ _ (T23.setTop (mkF m 129 #[.val (.int p1), .val (.int p2), .val (.int p3), .val (.int p4), .val (.int z23), .unset, .unset, .unset, .unset] [(.long (z23.toInt64)), (.long ((z23.toInt64) * (z23.toInt64)))]))
        refine go (fun _ => XS.ladd X23.here hx rfl (hb hby at_129) rfl) ?_
        show Go _ p e below s _ _ _ (T23.setTop (mkF m 130 #[.val (.int p1), .val (.int p2), .val (.int p3), .val (.int p4), .val (.int z23), .unset, .unset, .unset, .unset] [(.long (((z23.toInt64) * (z23.toInt64)) + (z23.toInt64)))]))
        refine go (fun _ => XS.lconst X23.here hx rfl (hb hby at_130)) ?_
        show Go _ p e below s _ _ _ (T23.setTop (mkF m 131 #[.val (.int p1), .val (.int p2), .val (.int p3), .val (.int p4), .val (.int z23), .unset, .unset, .unset, .unset] [(.long (1 : Int64)), (.long (((z23.toInt64) * (z23.toInt64)) + (z23.toInt64)))]))
        refine go (fun _ => XS.ladd X23.here hx rfl (hb hby at_131) rfl) ?_
        show Go _ p e below s _ _ _ (T23.setTop (mkF m 132 #[.val (.int p1), .val (.int p2), .val (.int p3), .val (.int p4), .val (.int z23), .unset, .unset, .unset, .unset] [(.long ((((z23.toInt64) * (z23.toInt64)) + (z23.toInt64)) + (1 : Int64)))]))
        refine go (fun _ => XS.iloadN X23.here hx rfl (hb hby at_132) rfl) ?_
        show Go _ p e below s _ _ _ (T23.setTop (mkF m 133 #[.val (.int p1), .val (.int p2), .val (.int p3), .val (.int p4), .val (.int z23), .unset, .unset, .unset, .unset] [(.int p3), (.long ((((z23.toInt64) * (z23.toInt64)) + (z23.toInt64)) + (1 : Int64)))]))
        refine go (fun _ => XS.i2l X23.here hx rfl (hb hby at_133) rfl) ?_
        show Go _ p e below s _ _ _ (T23.setTop (mkF m 134 #[.val (.int p1), .val (.int p2), .val (.int p3), .val (.int p4), .val (.int z23), .unset, .unset, .unset, .unset] [(.long (p3.toInt64)), (.long ((((z23.toInt64) * (z23.toInt64)) + (z23.toInt64)) + (1 : Int64)))]))
        refine go (fun _ => XS.lcmp X23.here hx rfl (hb hby at_134) rfl) ?_
        show Go _ p e below s _ _ _ (T23.setTop (mkF m 135 #[.val (.int p1), .val (.int p2), .val (.int p3), .val (.int p4), .val (.int z23), .unset, .unset, .unset, .unset] [(.int (lcmpW ((((z23.toInt64) * (z23.toInt64)) + (z23.toInt64)) + (1 : Int64)) (p3.toInt64)))]))
        refine go (fun _ => XS.ifYes X23.here hx rfl (pc0 := 135) (pc' := 140) rfl (hb hby at_135) rfl ((if0 _ _).trans (teq ((lw_eq ((((z23.toInt64) * (z23.toInt64)) + (z23.toInt64)) + (1 : Int64)) (p3.toInt64)).mpr (own_lv u23_1.1 (own_pos u23_1.2 (fun u => hc106_25 (by apply Int32.toInt_inj.mp; rw [u23_1.1, u]; decide))).2.1))).1) (by decide) (by decide)) ?_
        show Go _ p e below s _ _ _ (T23.setTop (mkF m 140 #[.val (.int p1), .val (.int p2), .val (.int p3), .val (.int p4), .val (.int z23), .unset, .unset, .unset, .unset] []))
        refine go (fun _ => XS.iload X23.here hx rfl (hb hby at_140) rfl) ?_
        show Go _ p e below s _ _ _ (T23.setTop (mkF m 142 #[.val (.int p1), .val (.int p2), .val (.int p3), .val (.int p4), .val (.int z23), .unset, .unset, .unset, .unset] [(.int z23)]))
        refine go (fun _ => XS.bipush X23.here hx rfl (hb hby at_142)) ?_
        show Go _ p e below s _ _ _ (T23.setTop (mkF m 144 #[.val (.int p1), .val (.int p2), .val (.int p3), .val (.int p4), .val (.int z23), .unset, .unset, .unset, .unset] [(.int (64 : Int32)), (.int z23)]))
        by_cases hc144_26 : z23 < (64 : Int32)
        · refine go (fun _ => XS.icmpNo X23.here hx rfl (hb hby at_144) rfl (tlt hc144_26).2.1) ?_
          show Go _ p e below s _ _ _ (T23.setTop (mkF m 147 #[.val (.int p1), .val (.int p2), .val (.int p3), .val (.int p4), .val (.int z23), .unset, .unset, .unset, .unset] []))
          refine go (fun _ => XS.iload X23.here hx rfl (hb hby at_147) rfl) ?_
          show Go _ p e below s _ _ _ (T23.setTop (mkF m 149 #[.val (.int p1), .val (.int p2), .val (.int p3), .val (.int p4), .val (.int z23), .unset, .unset, .unset, .unset] [(.int z23)]))
          obtain ⟨_, _, ⟨T27, L27, k27, n27⟩, -, X27, ⟨Lc27, hQ27, l27, y27, z27⟩, st27⟩ := Jvm.LawKit.callS X23 hx (y := (⟨"com/example/lim1/lim1/ProjectivePlanePrimeOrderPinLaw", "isPrimeBelow64", "(I)Z"⟩ : MethodName)) hown (mvT hZ (hw _ (List.mem_of_getElem? (i := 6) rfl))) (mvT hZ (hw _ (List.mem_of_getElem? (i := 7) rfl))) (mvT hZ (hw _ (List.mem_of_getElem? (i := 8) rfl))) (mvT hZ (hw _ (List.mem_of_getElem? (i := 9) rfl))) (by decide) (backOf (W := 0) (rm2 l Z a0 hw [] z23 r23 h0 n0 Z0 u23_1.1 (by have u := hc144_26; rw [Int32.lt_iff_toInt_lt, u23_1.1, show (64 : Int32).toInt = 64 from by decide] at u; omega)) hZ (hw _ (List.mem_of_getElem? (i := 9) rfl)) (hw _ (List.mem_of_getElem? (i := 8) rfl)) (by decide) (by decide)) (g := (mkF m 149 #[.val (.int p1), .val (.int p2), .val (.int p3), .val (.int p4), .val (.int z23), .unset, .unset, .unset, .unset] [(.int z23)])) rfl (by rw [hml]; rfl) (argsL := [(.int z23)]) (rest := []) (lenOf pd_0_1 rfl) rfl (by show 2 * 0 + _ ≤ _; exact Nat.le_of_eq rfl) (hb hby at_149) (fun _ _ => ⟨rfl, e23, (by decide : 0 + 0 ≤ _), (by decide : 0 + 0 ≤ _)⟩)
          dsimp only [Pt.U, Pt.locs, Pt.cells, Pt.slots] at X27 l27 y27 z27 st27 hQ27
          subst l27 y27 z27
          obtain ⟨rfl, N27q, e27⟩ := hQ27
          have N27 := Fr.app N23 N27q
          refine go st27 ?_
          show Go _ p e below s _ _ _ (T27.setTop (mkF m 152 #[.val (.int p1), .val (.int p2), .val (.int p3), .val (.int p4), .val (.int z23), .unset, .unset, .unset, .unset] [(.int (if own_prime r23 = true then (1 : Int32) else 0))]))
          rw [own_one (own_pos u23_1.2 (fun u => hc106_25 (by apply Int32.toInt_inj.mp; rw [u23_1.1, u]; decide))).2.2]
          show Go _ p e below s _ _ _ (T27.setTop (mkF m 152 #[.val (.int p1), .val (.int p2), .val (.int p3), .val (.int p4), .val (.int z23), .unset, .unset, .unset, .unset] [(.int (1 : Int32))]))
          refine goRet X27 hx Bd.notSynchronized Bd.returns rfl (Or.inl ⟨rfl, Or.inr (Or.inl rfl), _, rfl⟩) (hb hby at_152) (by decide) (by decide) (by rw [e27]; refine ⟨rfl, N27⟩)
        · refine go (fun _ => XS.icmpYes X23.here hx rfl (pc0 := 144) (pc' := 153) rfl (hb hby at_144) rfl (flt hc144_26).2.1 (by decide) (by decide)) ?_
          show Go _ p e below s _ _ _ (T23.setTop (mkF m 153 #[.val (.int p1), .val (.int p2), .val (.int p3), .val (.int p4), .val (.int z23), .unset, .unset, .unset, .unset] []))
          refine go (fun _ => XS.iconst X23.here hx rfl (hb hby at_153)) ?_
          show Go _ p e below s _ _ _ (T23.setTop (mkF m 154 #[.val (.int p1), .val (.int p2), .val (.int p3), .val (.int p4), .val (.int z23), .unset, .unset, .unset, .unset] [(.int (1 : Int32))]))
          refine goRet X23 hx Bd.notSynchronized Bd.returns rfl (Or.inl ⟨rfl, Or.inr (Or.inl rfl), _, rfl⟩) (hb hby at_154) (by decide) (by decide) (by rw [e23]; refine ⟨rfl, N23⟩)
set_option maxRecDepth 65536 in
set_option maxHeartbeats 40000000 in
theorem comes_1 {Post : Tables → Env → Array Value → State → Outcome → State → Prop} (hpost : ∀ tb e args s v u, (limb_1_1.after args s (.returned v) u = true ∧ limb_1_2.after args s (.returned v) u = true ∧ True) → FrameEnd s (.returned v) u (Jvm.fieldLocs frame_1_writes args s ++ Jvm.arrayLocs frame_1_arrays args s ++ Jvm.staticLocs frame_1_statics s) 0 0 → Post tb e args s (.returned v) u) :
    ArmFor flags0 classFile x code maxLocals ret World_1 tables_1 room_1 Calls_1 rest_1 Pre_1 Post := by
  intro l hfl _ _ p e ha hc hk s m args below hf hA hF happ hP
  obtain ⟨hcalls, hrest, hpre⟩ := hP
  obtain ⟨-, -, -, hnamed, -, -, -, hat⟩ := (Spec.applies_iff hf).mp happ
  obtain ⟨hg, hn⟩ := and_e (Cond.before_iff.mp (show (Jvm.Cond.and given_1 narrow_1).before args s = true from hpre))
  obtain ⟨q0, r0⟩ := and_e hg
  obtain ⟨q1, r1⟩ := and_e r0
  obtain ⟨q2, r2⟩ := and_e r1
  obtain ⟨q3, r3⟩ := and_e r2
  obtain ⟨w0, w1, w2, w3, rfl⟩ : ∃ w0 w1 w2 w3 : Value, args = #[w0, w1, w2, w3] := by
    have hs : args.size = 4 := by simpa [Cond.value, given_1] using q0
    obtain ⟨L⟩ := args
    match L, hs with
    | [w0, w1, w2, w3], _ => exact ⟨w0, w1, w2, w3, rfl⟩
  have hw := fun d (hd : d ∈ tables_1) => atoms_spec (ws := Jvm.Cond.code x code maxLocals ret :: tables_1) hat d (List.mem_cons_of_mem _ hd)
  have hfit : Fit s := fun {y c} hc i hi => by
    obtain ⟨ha, rfl⟩ := Array.getElem?_eq_some_iff.mp hc
    have q := List.all_eq_true.mp ((Array.all_eq_true_iff_forall_mem.mp hF) _ (Array.getElem_mem ha)) i (List.mem_range.mpr hi)
    simpa [Array.getElem?_eq_getElem hi] using q
  obtain ⟨i0, ei0⟩ := is_v q1
  obtain rfl : w0 = (.int i0) := Option.some.inj ei0
  obtain ⟨i1, ei1⟩ := is_v q2
  obtain rfl : w1 = (.int i1) := Option.some.inj ei1
  obtain ⟨i2, ei2⟩ := is_v q3
  obtain rfl : w2 = (.int i2) := Option.some.inj ei2
  obtain ⟨i3, ei3⟩ := is_v r3
  obtain rfl : w3 = (.int i3) := Option.some.inj ei3
  obtain ⟨n, o, h1, h2, h3, _, L, rfl, ⟨rfl, N⟩, hq⟩ := rm0 l s _ hw tables_1 i0 i1 i2 i3  s.heap s.heap.size (Nat.le_refl _)  p e ha hc hk s m _ below hf ((Spec.applies_iff_loose hf).mp happ).1 ⟨rfl, State.Warmed39.refl s, rfl⟩ trivial
  refine ⟨n, _, h1, h2, h3, hpost _ _ _ _ _ _ ⟨Cond.after_iff.mpr rfl, Cond.after_iff.mpr (eq_i res_at (Term.int_eval (1)) rfl), trivial⟩ ⟨hq.1, hq.2.1, (hq.2.2.sift fun y hy => Or.inr (N y hy)).mono (by decide) (by decide)⟩⟩
theorem main_1_1 : Claimed_1_1 := comes_1 fun _ _ _ _ _ _ h hF => ⟨h.1, hF⟩
theorem main_1_2 : Claimed_1_2 := comes_1 fun _ _ _ _ _ _ h hF => ⟨h.2.1, hF⟩
end Jvm.Pilot.@@N@@
namespace Jvm.Pilot.@@N@@
open Jvm Jvm.ClassFile Sem Op Lib Jvm.Free Jvm.Stand Jvm.Pilot.@@N@@.Jvm.D
/-! MADE BY PROGRAM (witnessworld.py) out of the Statement's table words and the real class files: 9 classes; the members and pool entries that the words name. The judged class is class 1, her method 2. -/
namespace start1
open Jvm.ClassFile
def u (s : String) : CpInfo := .utf8 (stringToUtf16 s)
/-- a pool by its gaps: so many unusable entries, then the entry; so many at the end -/
def gap : Nat → List CpInfo → List CpInfo
  | 0, r => r
  | n + 1, r => .unusable :: gap n r
def poolList (es : List (Nat × CpInfo)) (last : Nat) : List CpInfo := es.foldr (fun e r => gap e.1 (e.2 :: r)) (gap last [])
def pool (es : List (Nat × CpInfo)) (last : Nat) : Array CpInfo := ⟨poolList es last⟩
def fileOf (pool : Array CpInfo) (this : Nat) (attrs : Array Attribute := #[]) (ms : Array MethodInfo := #[]) (fl : Nat := 33) (sup : Nat := 0) (ifs : Array Nat := #[]) (fds : Array FieldInfo := #[]) : ClassFile where
  minorVersion := 0
  majorVersion := 65
  constantPool := pool
  accessFlags := fl
  thisClass := this
  superClass := sup
  interfaces := ifs
  fields := fds
  methods := ms
  attributes := attrs
def plain (name : String) (sup : Option ClassId) : Class where
  name := name
  kind := .ordinary
  loader := none
  accessFlags := 33
  super := sup
  interfaces := #[]
  cf := none
  fields := #[]
  methods := #[]
  instanceTypes := #[]
  staticTypes := #[]
  resolved := #[]
  callSites := []
  init := .initialized
  statics := none
  mirror := none

def pool0 : Array CpInfo := pool [(5, u "<init>"), (0, u "()V"), (1, .class_ 10), (1, u "java/lang/Object")] 113

def k0m0 : Method := { name := "<init>", desc := "()V", sig := { parameters := [], returnType := none }, accessFlags := 1, code := none }
/-- java/lang/Object -/
def k0 : Class := { plain "java/lang/Object" none with
  accessFlags := 33
  interfaces := #[]
  cf := some (fileOf pool0 8 #[] #[{ accessFlags := 1, nameIndex := 5, descriptorIndex := 6, attributes := #[] }] 33 0 #[] #[])
  fields := #[]
  methods := #[k0m0]
  instanceTypes := #[]
  staticTypes := #[]
  resolved := Array.replicate 124 none
  statics := none }

def pool1 : Array CpInfo := pool [(2, .class_ 4), (1, u "java/lang/Object"), (0, u "<init>"), (0, u "()V"), (0, .long 2891462833508853932), (1, .integer 2147483647), (0, .methodref 11 12), (0, .class_ 13), (0, .nameAndType 14 15), (0, u "com/example/lim1/lim1/ProjectivePlanePrimeOrderPinLaw"), (0, u "isPrimeBelow64"), (0, u "(I)Z"), (0, .methodref 17 18), (0, .class_ 19), (0, .nameAndType 20 21), (0, u "com/example/lim1/lim1/ProjectivePlane"), (0, u "primeOrder"), (0, u "(I)I"), (3, u "law"), (0, u "(IIII)Z")] 2

def k1m0 : Method := { name := "<init>", desc := "()V", sig := { parameters := [], returnType := none }, accessFlags := 2, code := none }
def k1c1 : Code := { maxStack := 4, maxLocals := 1, code := method_2_code, exceptionTable := #[], attributes := #[] }
def k1m1 : Method := { name := "isPrimeBelow64", desc := "(I)Z", sig := { parameters := [.int], returnType := some .boolean }, accessFlags := 10, code := some k1c1 }
def k1c2 : Code := { maxStack := 4, maxLocals := 9, code := code, exceptionTable := #[], attributes := #[] }
def k1m2 : Method := { name := "law", desc := "(IIII)Z", sig := { parameters := [.int, .int, .int, .int], returnType := some .boolean }, accessFlags := 9, code := some k1c2 }
/-- com/example/lim1/lim1/ProjectivePlanePrimeOrderPinLaw -/
def k1 : Class := { plain "com/example/lim1/lim1/ProjectivePlanePrimeOrderPinLaw" (some 0) with
  accessFlags := 49
  interfaces := #[]
  cf := some (fileOf pool1 11 #[] #[{ accessFlags := 2, nameIndex := 5, descriptorIndex := 6, attributes := #[] }, { accessFlags := 10, nameIndex := 14, descriptorIndex := 15, attributes := #[] }, { accessFlags := 9, nameIndex := 25, descriptorIndex := 26, attributes := #[] }] 49 2 #[] #[])
  fields := #[]
  methods := #[k1m0, k1m1, k1m2]
  instanceTypes := #[]
  staticTypes := #[]
  resolved := Array.replicate 29 none
  statics := none }

def pool2 : Array CpInfo := pool [(2, .class_ 4), (1, u "java/lang/Object"), (0, u "<init>"), (0, u "()V"), (0, .long 2), (1, .methodref 10 11), (0, .class_ 12), (0, .nameAndType 13 14), (0, u "com/example/lim1/lim1/ProjectivePlane"), (0, u "isPrime"), (0, u "(I)Z"), (34, u "primeOrder"), (0, u "(I)I")] 25

def k2m0 : Method := { name := "<init>", desc := "()V", sig := { parameters := [], returnType := none }, accessFlags := 2, code := none }
def k2c1 : Code := { maxStack := 4, maxLocals := 3, code := prog_21_method_2_code, exceptionTable := #[], attributes := #[] }
def k2m1 : Method := { name := "primeOrder", desc := "(I)I", sig := { parameters := [.int], returnType := some .int }, accessFlags := 8, code := some k2c1 }
def k2c2 : Code := { maxStack := 3, maxLocals := 2, code := prog_21_method_5_code, exceptionTable := #[], attributes := #[] }
def k2m2 : Method := { name := "isPrime", desc := "(I)Z", sig := { parameters := [.int], returnType := some .boolean }, accessFlags := 10, code := some k2c2 }
/-- com/example/lim1/lim1/ProjectivePlane -/
def k2 : Class := { plain "com/example/lim1/lim1/ProjectivePlane" (some 0) with
  accessFlags := 32
  interfaces := #[]
  cf := some (fileOf pool2 10 #[] #[{ accessFlags := 2, nameIndex := 5, descriptorIndex := 6, attributes := #[] }, { accessFlags := 8, nameIndex := 49, descriptorIndex := 50, attributes := #[] }, { accessFlags := 10, nameIndex := 13, descriptorIndex := 14, attributes := #[] }] 32 2 #[] #[])
  fields := #[]
  methods := #[k2m0, k2m1, k2m2]
  instanceTypes := #[]
  staticTypes := #[]
  resolved := Array.replicate 76 none
  statics := none }

def pool3 : Array CpInfo := pool [(1, u "java/lang/Cloneable"), (0, .class_ 1), (0, u "java/lang/Object"), (0, .class_ 3)] 3

/-- java/lang/Cloneable -/
def k3 : Class := { plain "java/lang/Cloneable" (some 0) with
  accessFlags := 1537
  interfaces := #[]
  cf := some (fileOf pool3 2 #[] #[] 1537 4 #[] #[])
  fields := #[]
  methods := #[]
  instanceTypes := #[]
  staticTypes := #[]
  resolved := Array.replicate 8 none
  statics := none }

def pool4 : Array CpInfo := pool [(1, u "java/io/Serializable"), (0, .class_ 1), (0, u "java/lang/Object"), (0, .class_ 3)] 3

/-- java/io/Serializable -/
def k4 : Class := { plain "java/io/Serializable" (some 0) with
  accessFlags := 1537
  interfaces := #[]
  cf := some (fileOf pool4 2 #[] #[] 1537 4 #[] #[])
  fields := #[]
  methods := #[]
  instanceTypes := #[]
  staticTypes := #[]
  resolved := Array.replicate 8 none
  statics := none }

/-- the primitive byte -/
def k5 : Class := { plain "byte" none with kind := .primitive 'B', accessFlags := 0x411 }
/-- [B -/
def k6 : Class := { plain "[B" (some 0) with kind := .array 5 .byte, interfaces := #[3, 4], accessFlags := 1041 }

/-- the primitive int -/
def k7 : Class := { plain "int" none with kind := .primitive 'I', accessFlags := 0x411 }
/-- [I -/
def k8 : Class := { plain "[I" (some 0) with kind := .array 7 .int, interfaces := #[3, 4], accessFlags := 1041 }

def heap : Heap := #[]
def classes : Array Class := #[k0, k1, k2, k3, k4, k5, k6, k7, k8]
def interned : List (Array UInt16 × Addr) := []
def slotsUsed : Nat := 0
def theMethod : MethodId := ⟨1, 2⟩
def args0 : Array Value := #[.int 5, .int 7, .int (-3), .int 4]
def aboutOver (below : List Frame) : State where
  vm := { classes := classes, interned := interned.toArray }
  heap := heap
  slotsUsed := slotsUsed
  threads := #[{ frames := .invoking theMethod args0 :: below }]
def below0 : List Frame := [.native { method := ⟨0, 0⟩, args := #[] }]
def about1 : State := aboutOver below0
def p0 : Program := .bare "" "" ""
def e0 : Env := launch0.env 0 0 0
theorem w_frames : about1.frames = Frame.invoking theMethod args0 :: below0 := rfl
set_option maxRecDepth 65536 in
theorem w_args : argsFit about1.vm theMethod args0 = true := by decide +kernel
set_option maxRecDepth 65536 in
theorem w_heap : heapFits about1 = true := by decide +kernel
set_option maxRecDepth 65536 in
theorem w_runnable : about1.curStatus? = some .runnable := by decide +kernel
set_option maxRecDepth 65536 in
theorem w_alone : about1.alone = true := by decide +kernel
set_option maxRecDepth 65536 in
theorem w_named : about1.methodNamed? x = some theMethod := by decide +kernel
set_option maxRecDepth 65536 in
theorem w_hears : about1.hears theMethod below0 = true := by decide +kernel
set_option maxRecDepth 65536 in
theorem w_ripe : about1.ripe theMethod args0 below0 = true := by decide +kernel
theorem w_running : about1.status = .running := rfl
set_option maxRecDepth 65536 in
theorem w_room : about1.hasRoom e0.platform room_1 = true :=
  launch0.hasRoom_least _ room_1 (by decide +kernel) (by decide +kernel) (by decide +kernel) (by decide +kernel) (by decide +kernel) (by decide +kernel)
theorem allAtoms_all (ts : List Jvm.Cond) (a : Array Jvm.Value) (st : Jvm.State) : (allAtoms ts).before a st = ts.all (fun c => c.before a st) := by
  induction ts with
  | nil => rfl
  | cons c t ih =>
    show (Jvm.Cond.and c (allAtoms t)).before a st = _
    rw [Jvm.Cond.before_and, ih, List.all_cons]
def words1 : List Jvm.Cond := Jvm.Cond.code x code maxLocals ret :: tables_1
/-- a 'code' word, met by the world's own term for the bytes: nothing is compared byte by byte -/
theorem code_word {y : MethodName} {bytes : ByteArray} {mx : Nat} {rt : Option FieldType} {a : Array Value} {s : State} {m : MethodId} {meth : Method} {c : Code} (h1 : s.methodNamed? y = some m) (h2 : s.vm.method? m = some meth) (h3 : meth.code = some c) (h4 : c.code = bytes)
    (h5 : (c.maxLocals == mx && c.exceptionTable.isEmpty && decide (c.maxStack ≤ mostOperands) && decide (meth.sig.returnType = rt) && !meth.locks && decide (parseMethodDescriptor y.desc = some meth.sig)) = true) : (Jvm.Cond.code y bytes mx rt).before a s = true := by
  simp only [Bool.and_eq_true, beq_iff_eq, Bool.not_eq_true', decide_eq_true_eq] at h5
  obtain ⟨⟨⟨⟨⟨g1, g2⟩, g3⟩, g4⟩, g5⟩, g6⟩ := h5
  simp [Cond.before, Cond.holds, Cond.value, h1, h2, h3, h4, g1, g2, g3, g4, g5, g6]
def isCode : Jvm.Cond → Bool
  | .code _ _ _ _ => true
  | _ => false
theorem all_split {L : List Jvm.Cond} {P : Jvm.Cond → Bool} (h1 : L.all (fun c => isCode c || P c) = true) (h2 : ∀ c ∈ L.filter isCode, P c = true) : L.all P = true := by
  refine List.all_eq_true.mpr fun c hc => ?_
  have h := List.all_eq_true.mp h1 c hc
  rcases Bool.eq_false_or_eq_true (isCode c) with hi | hi
  · exact h2 c (List.mem_filter.mpr ⟨hc, hi⟩)
  · simpa [hi] using h
set_option maxRecDepth 65536 in
theorem w_c0 : (Jvm.Cond.code x code maxLocals ret).before args0 about1 = true := code_word (m := ⟨1, 2⟩) (meth := k1m2) (c := k1c2) (by decide +kernel) rfl rfl rfl (by decide +kernel)
set_option maxRecDepth 65536 in
theorem w_c1 : (Jvm.Cond.code ({ cls := "com/example/lim1/lim1/ProjectivePlane", name := "primeOrder", desc := "(I)I" } : Jvm.MethodName) prog_21_method_2_code (3 : Nat) (Option.some Jvm.ClassFile.FieldType.int)).before args0 about1 = true := code_word (m := ⟨2, 1⟩) (meth := k2m1) (c := k2c1) (by decide +kernel) rfl rfl rfl (by decide +kernel)
set_option maxRecDepth 65536 in
theorem w_c2 : (Jvm.Cond.code ({ cls := "com/example/lim1/lim1/ProjectivePlanePrimeOrderPinLaw", name := "isPrimeBelow64", desc := "(I)Z" } : Jvm.MethodName) method_2_code (1 : Nat) (Option.some Jvm.ClassFile.FieldType.boolean)).before args0 about1 = true := code_word (m := ⟨1, 1⟩) (meth := k1m1) (c := k1c1) (by decide +kernel) rfl rfl rfl (by decide +kernel)
set_option maxRecDepth 65536 in
theorem w_c3 : (Jvm.Cond.code ({ cls := "com/example/lim1/lim1/ProjectivePlane", name := "isPrime", desc := "(I)Z" } : Jvm.MethodName) prog_21_method_5_code (2 : Nat) (Option.some Jvm.ClassFile.FieldType.boolean)).before args0 about1 = true := code_word (m := ⟨2, 2⟩) (meth := k2m2) (c := k2c2) (by decide +kernel) rfl rfl rfl (by decide +kernel)
def codes1 : List Jvm.Cond := [Jvm.Cond.code x code maxLocals ret, Jvm.Cond.code ({ cls := "com/example/lim1/lim1/ProjectivePlane", name := "primeOrder", desc := "(I)I" } : Jvm.MethodName) prog_21_method_2_code (3 : Nat) (Option.some Jvm.ClassFile.FieldType.int), Jvm.Cond.code ({ cls := "com/example/lim1/lim1/ProjectivePlanePrimeOrderPinLaw", name := "isPrimeBelow64", desc := "(I)Z" } : Jvm.MethodName) method_2_code (1 : Nat) (Option.some Jvm.ClassFile.FieldType.boolean), Jvm.Cond.code ({ cls := "com/example/lim1/lim1/ProjectivePlane", name := "isPrime", desc := "(I)Z" } : Jvm.MethodName) prog_21_method_5_code (2 : Nat) (Option.some Jvm.ClassFile.FieldType.boolean)]
set_option maxRecDepth 65536 in
theorem codes_eq : words1.filter isCode = codes1 := rfl
theorem w_codes : ∀ c ∈ words1.filter isCode, c.before args0 about1 = true := by
  rw [codes_eq]
  intro c hc
  simp only [codes1, List.mem_cons, List.not_mem_nil, or_false] at hc
  rcases hc with rfl | rfl | rfl | rfl
  · exact w_c0
  · exact w_c1
  · exact w_c2
  · exact w_c3
set_option maxRecDepth 65536 in
theorem w_t1 : words1.all (fun c => isCode c || c.before args0 about1) = true := by decide +kernel
theorem w_tables : (allAtoms (Jvm.Cond.code x code maxLocals ret :: tables_1)).before args0 about1 = true := by
  rw [allAtoms_all]
  show words1.all (fun c => c.before args0 about1) = true
  refine all_split ?_ w_codes
  rw [w_t1]
set_option maxRecDepth 65536 in
theorem w_case : (Jvm.Cond.and given_1 narrow_1).before args0 about1 = true := by decide +kernel
theorem w_applies : (headSpec (Jvm.Cond.code x code maxLocals ret :: tables_1) room_1).applies x e0.platform about1 = true :=
  (Spec.applies_iff w_frames).mpr ⟨w_running, w_runnable, w_alone, w_named, w_hears, w_ripe, w_room, w_tables⟩
theorem atStart : AtStart classFile x code maxLocals ret World_1 tables_1 room_1 Calls_1 rest_1 Pre_1 launch0 p0 e0 about1 theMethod args0 below0 :=
  ⟨lists_1, trivial, launch0.admits_env _ _ _, launch0.least_env, fairChoices_fair.cas, fairChoices_fair.clock, w_frames, w_args, w_heap, w_applies, trivial, trivial, w_case⟩
end start1
theorem witness_1 : WitnessClaimed_1 := ⟨start1.p0, start1.e0, start1.about1, start1.theMethod, start1.args0, start1.below0, start1.atStart⟩
end Jvm.Pilot.@@N@@
